import JvmDerived
import JvmDerived.Pilot.@@N@@Statement
import JvmDerived.Pilot.@@N@@Code
set_option linter.unusedVariables false
set_option linter.unusedSimpArgs false
/- laws to paste: Road.backV, Road.eqW, Road.chN, Road.codOf (cut by pick.py; bodies as the Statement names them) -/
namespace Jvm.Pilot.@@N@@
namespace StrChars
open Jvm Sem ClassFile Op Lib Jvm.Stand Jvm.Free.XT Jvm.Free.ALB Jvm.Free.JM Jvm.Free
open Jvm.Lib.Cold (StaticIs)
/-- a char array whose places are chars -/
def Ch (a : Addr) (A : Cell) (U : State) : Prop := Arr .char a A U ∧ Typed .char A
theorem Ch.mv {a : Addr} {A : Cell} {U U' : State} (h : Ch a A U) (hal : U.vm.Alike U'.vm) (hh : U'.heap = U.heap) : Ch a A U' := ⟨h.1.mv hal hh, h.2⟩
theorem Ch.keep {a : Addr} {A : Cell} {U U' : State} (h : Ch a A U) (hal : U.vm.Alike U'.vm) (hk : U'.heap[a]? = some A) : Ch a A U' := ⟨h.1.keep hal hk, h.2⟩
/-- what place i of a char[]'s cell holds -/
def cv (A : Cell) (i : Nat) : Int32 := match A.slots[i]? with | some (.int x) => x | _ => 0
theorem Ch.get {a : Addr} {A : Cell} {U : State} (h : Ch a A U) {i : Nat} (hi : i < A.slots.size) : A.slots[i]? = some (.int (cv A i)) := by
  have e := Array.getElem?_eq_getElem hi
  have f := h.2 i _ e
  unfold cv; rw [e]
  generalize A.slots[i] = v at f
  cases v <;> simp [fits] at f ⊢
/-- the byte that i2b leaves of a char -/
def lo8 (x : Int32) : Int32 := x.toInt8.toInt32
theorem fits_lo8 (y : Int32) : fits .byte (.int (lo8 y)) = true := by
  have h1 := y.toInt8.le_toInt
  have h2 := y.toInt8.toInt_lt
  simp only [lo8, fits, Bool.and_eq_true, decide_eq_true_eq, Int32.le_iff_toInt_le, Int8.toInt_toInt32, show (-128 : Int32).toInt = -128 from by decide, show (127 : Int32).toInt = 127 from by decide]
  omega
/-- A' is A but that each place j of lo .. hi - 1 holds f j -/
def Laid (A A' : Cell) (lo hi : Nat) (f : Nat → Value) : Prop := A'.cls = A.cls ∧ A'.vm = A.vm ∧ A'.slots.size = A.slots.size ∧ ∀ i, A'.slots[i]? = if lo ≤ i ∧ i < hi then some (f i) else A.slots[i]?
theorem Laid.zero (A : Cell) (lo : Nat) (f : Nat → Value) : Laid A A lo (lo + 0) f := ⟨rfl, rfl, rfl, fun i => by rw [if_neg (by omega)]⟩
theorem Laid.step {A Ak : Cell} {lo k : Nat} {f : Nat → Value} {v : Value} (h : Laid A Ak lo k f) (hlo : lo ≤ k) (hk : k < Ak.slots.size) (hv : v = f k) : Laid A (Ak.setSlot k v) lo (k + 1) f := by
  refine ⟨h.1, h.2.1, by simpa [Cell.setSlot] using h.2.2.1, fun i => ?_⟩
  by_cases e : k = i
  · subst e; rw [Cell.slots_setSlot_self v hk, if_pos (by omega), hv]
  · rw [Cell.slots_setSlot_ne v e, h.2.2.2 i]
    by_cases q : lo ≤ i ∧ i < k
    · rw [if_pos q, if_pos (by omega)]
    · rw [if_neg q, if_neg (by omega)]
def U16 : String := "java/lang/StringUTF16"
namespace Cmp5
def yN : MethodName := ⟨"java/lang/StringUTF16", "compress", "([CI[BII)I"⟩
abbrev yB : ByteArray := jdk_52_method_21_code
theorem d0 : decode yB 0 = .ok (.iconst 0, 1) := by decide +kernel
theorem d1 : decode yB 1 = .ok (.istore 5, 2) := by decide +kernel
theorem d3 : decode yB 3 = .ok (.iload 5, 2) := by decide +kernel
theorem d5 : decode yB 5 = .ok (.iload 4, 2) := by decide +kernel
theorem d7 : decode yB 7 = .ok (.if_icmp (.ge) 37, 3) := by decide +kernel
theorem d10 : decode yB 10 = .ok (.aload_n 0, 1) := by decide +kernel
theorem d11 : decode yB 11 = .ok (.iload_n 1, 1) := by decide +kernel
theorem d12 : decode yB 12 = .ok (.caload, 1) := by decide +kernel
theorem d13 : decode yB 13 = .ok (.istore 6, 2) := by decide +kernel
theorem d15 : decode yB 15 = .ok (.iload 6, 2) := by decide +kernel
theorem d17 : decode yB 17 = .ok (.sipush 255, 3) := by decide +kernel
theorem d20 : decode yB 20 = .ok (.if_icmp (.le) 6, 3) := by decide +kernel
theorem d26 : decode yB 26 = .ok (.aload_n 2, 1) := by decide +kernel
theorem d27 : decode yB 27 = .ok (.iload_n 3, 1) := by decide +kernel
theorem d28 : decode yB 28 = .ok (.iload 6, 2) := by decide +kernel
theorem d30 : decode yB 30 = .ok (.i2b, 1) := by decide +kernel
theorem d31 : decode yB 31 = .ok (.bastore, 1) := by decide +kernel
theorem d32 : decode yB 32 = .ok (.iinc 1 1, 3) := by decide +kernel
theorem d35 : decode yB 35 = .ok (.iinc 3 1, 3) := by decide +kernel
theorem d38 : decode yB 38 = .ok (.iinc 5 1, 3) := by decide +kernel
theorem d41 : decode yB 41 = .ok (.goto (-38), 3) := by decide +kernel
theorem d44 : decode yB 44 = .ok (.iload 4, 2) := by decide +kernel
theorem d46 : decode yB 46 = .ok (.ireturn, 1) := by decide +kernel
def site : List Cond := []
def tab : Cond := tabOf yN yB 7 (some .int) site
def P (b : Addr) (A : Cell) (d : Addr) (B : Cell) (o q len : Nat) (args : Array Value) (s : State) : Prop := args = #[.ref b, .int (Int32.ofNat o), .ref d, .int (Int32.ofNat q), .int (Int32.ofNat len)] ∧ Ch b A s ∧ Arr .byte d B s ∧ b ≠ d ∧ o + len ≤ A.slots.size ∧ q + len ≤ B.slots.size ∧ ∀ i, i < len → ¬ 255 < cv A (o + i)
def E (b : Addr) (A : Cell) (d : Addr) (B : Cell) (o q len : Nat) (r : Option Value) (s u : State) : Prop := r = some (.int (Int32.ofNat len)) ∧ ∃ B', Put d B' s u ∧ Laid B B' q (q + len) (fun j => Value.int (lo8 (cv A (o + (j - q)))))
/-- no char of the range above 255: len; the places written hold each char's low byte -/
theorem law (l : Launch) (b : Addr) (A : Cell) (d : Addr) (B : Cell) (o q len : Nat) : Law l yN 5 5 0 0 yB 7 (some .int) site (P b A d B o q len) (E b A d B o q len) (copyLocs d q len) 0 0 := by
  refine Law.of_walk (plainFor_of_name (by decide +kernel)) (by decide +kernel) (by decide +kernel) (by decide) (fun _ _ h => by rw [h.1]; rfl) (fun _ U U' hal hh h => ⟨h.1, h.2.1.mv hal hh, h.2.2.1.mv hal hh, h.2.2.2⟩) (fun r U U' V V' h1 hal h2 h => ⟨h.1, h.2.elim fun B' q => ⟨B', q.1.mv h1 h2, q.2⟩⟩) ?_
  intro p e s m args below meth c s₁ X0 hexec hbytes hml hret hlk hnm hown hh0 W hP
  obtain ⟨rfl, hA, hB, hne, l1, l2, hp⟩ := hP
  have c1 : Steps p.tables e below (s₁.setTop (entryFrame m #[.ref b, .int (Int32.ofNat o), .ref d, .int (Int32.ofNat q), .int (Int32.ofNat len)] 7)) (s₁.setTop (mkF m 0 #[.val (.ref b), .val (.int (Int32.ofNat o)), .val (.ref d), .val (.int (Int32.ofNat q)), .val (.int (Int32.ofNat len)), .unset, .unset] [])) := entry rfl
  have hA0 := hA.1.mv X0.warmed.alike hh0
  have hB0 := hB.mv X0.warmed.alike hh0
  have a31 := hA.1.2.2.2
  have c2 : Steps p.tables e below (s₁.setTop (entryFrame m #[.ref b, .int (Int32.ofNat o), .ref d, .int (Int32.ofNat q), .int (Int32.ofNat len)] 7)) (s₁.setTop (mkF m 3 #[.val (.ref b), .val (.int (Int32.ofNat o)), .val (.ref d), .val (.int (Int32.ofNat q)), .val (.int (Int32.ofNat len)), .val (.int 0), .unset] [])) := c1.trans (by
    refine iconstV X0.here hexec rfl 0 (hb hbytes d0) (by decide) ?_
    refine XS.istore X0.here hexec rfl (hb hbytes d1) rfl rfl ?_
    exact Steps.refl _)
  have loop : ∀ (r i : Nat), i + r = len → ∀ (z : Slot), (z = .unset ∨ ∃ w, z = .val w ∧ w.category = 1) → ∀ (Tl : State) (Bk : Cell), Stand p l e { frames := 0, locals := 0, cells := 0, slots := 0 } s m #[.ref b, .int (Int32.ofNat o), .ref d, .int (Int32.ofNat q), .int (Int32.ofNat len)] below meth c Tl ([] ++ copyLocs d q i) 0 0 → Put d Bk s₁ Tl → Laid B Bk q (q + i) (fun j => Value.int (lo8 (cv A (o + (j - q))))) →
      Steps p.tables e below (s₁.setTop (entryFrame m #[.ref b, .int (Int32.ofNat o), .ref d, .int (Int32.ofNat q), .int (Int32.ofNat len)] 7)) (Tl.setTop (mkF m 3 #[.val (.ref b), .val (.int (Int32.ofNat (o + i))), .val (.ref d), .val (.int (Int32.ofNat (q + i))), .val (.int (Int32.ofNat len)), .val (.int (Int32.ofNat i)), z] [])) → ∃ (T' : State) (B' : Cell) (z' : Slot), Stand p l e { frames := 0, locals := 0, cells := 0, slots := 0 } s m #[.ref b, .int (Int32.ofNat o), .ref d, .int (Int32.ofNat q), .int (Int32.ofNat len)] below meth c T' ([] ++ copyLocs d q len) 0 0 ∧ Put d B' s₁ T' ∧ Laid B B' q (q + len) (fun j => Value.int (lo8 (cv A (o + (j - q))))) ∧
      Steps p.tables e below (s₁.setTop (entryFrame m #[.ref b, .int (Int32.ofNat o), .ref d, .int (Int32.ofNat q), .int (Int32.ofNat len)] 7)) (T'.setTop (mkF m 3 #[.val (.ref b), .val (.int (Int32.ofNat (o + len))), .val (.ref d), .val (.int (Int32.ofNat (q + len))), .val (.int (Int32.ofNat len)), .val (.int (Int32.ofNat len)), z'] [])) := by
    intro r
    induction r with
    | zero =>
      intro i hi z hz Tl Bk Xl pl fl cl
      have hil : i = len := by omega
      rw [hil] at Xl fl cl
      exact ⟨Tl, Bk, z, Xl, pl, fl, cl⟩
    | succ r ih =>
      intro i hi z hz Tl Bk Xl pl fl cl
      have all := X0.warmed.alike.symm.trans Xl.warmed.alike
      have hAl := hA0.keep all (pl.other hne hA0.1)
      have hBk := hB0.like all pl.1 fl.1 fl.2.1 fl.2.2.1
      have hlt : q + i < Bk.slots.size := by rw [fl.2.2.1]; omega
      have c3 : Steps p.tables e below (s₁.setTop (entryFrame m #[.ref b, .int (Int32.ofNat o), .ref d, .int (Int32.ofNat q), .int (Int32.ofNat len)] 7)) (Tl.setTop (mkF m 12 #[.val (.ref b), .val (.int (Int32.ofNat (o + i))), .val (.ref d), .val (.int (Int32.ofNat (q + i))), .val (.int (Int32.ofNat len)), .val (.int (Int32.ofNat i)), z] [.int (Int32.ofNat (o + i)), .ref b])) := cl.trans (by
        refine XS.iload Xl.here hexec rfl (hb hbytes d3) rfl ?_
        refine XS.iload Xl.here hexec rfl (hb hbytes d5) rfl ?_
        refine XS.icmpNo Xl.here hexec rfl (hb hbytes d7) rfl (ii_ge_f (lt32 (by omega) (by omega))) ?_
        refine XS.aloadN Xl.here hexec rfl (hb hbytes d10) rfl rfl ?_
        refine XS.iloadN Xl.here hexec rfl (hb hbytes d11) rfl ?_
        exact Steps.refl _)
      have c4 : Steps p.tables e below (s₁.setTop (entryFrame m #[.ref b, .int (Int32.ofNat o), .ref d, .int (Int32.ofNat q), .int (Int32.ofNat len)] 7)) (Tl.setTop (mkF m 13 #[.val (.ref b), .val (.int (Int32.ofNat (o + i))), .val (.ref d), .val (.int (Int32.ofNat (q + i))), .val (.int (Int32.ofNat len)), .val (.int (Int32.ofNat i)), z] [.int (cv A (o + i))])) := c3.trans (by
        refine Xl.aget hexec hAl rfl (hA.get (i := o + i) (by omega)) rfl rfl (hb hbytes d12) ?_
        exact Steps.refl _)
      have c5 : Steps p.tables e below (s₁.setTop (entryFrame m #[.ref b, .int (Int32.ofNat o), .ref d, .int (Int32.ofNat q), .int (Int32.ofNat len)] 7)) (Tl.setTop (mkF m 15 #[.val (.ref b), .val (.int (Int32.ofNat (o + i))), .val (.ref d), .val (.int (Int32.ofNat (q + i))), .val (.int (Int32.ofNat len)), .val (.int (Int32.ofNat i)), .val (.int (cv A (o + i)))] [])) := c4.trans (by
        refine XS.istoreS Xl.here hexec rfl (hb hbytes d13) rfl rfl hz ?_
        exact Steps.refl _)
      have c6 : Steps p.tables e below (s₁.setTop (entryFrame m #[.ref b, .int (Int32.ofNat o), .ref d, .int (Int32.ofNat q), .int (Int32.ofNat len)] 7)) (Tl.setTop (mkF m 31 #[.val (.ref b), .val (.int (Int32.ofNat (o + i))), .val (.ref d), .val (.int (Int32.ofNat (q + i))), .val (.int (Int32.ofNat len)), .val (.int (Int32.ofNat i)), .val (.int (cv A (o + i)))] [.int (lo8 (cv A (o + i))), .int (Int32.ofNat (q + i)), .ref d])) := c5.trans (by
        refine XS.iload Xl.here hexec rfl (hb hbytes d15) rfl ?_
        refine sipushV Xl.here hexec rfl 255 (hb hbytes d17) (by decide) ?_
        refine XS.icmpYes Xl.here hexec rfl (pc0 := 20) rfl (hb hbytes d20) rfl (ii_le_t (hp i (by omega))) (by decide) rfl ?_
        refine XS.aloadN Xl.here hexec rfl (hb hbytes d26) rfl rfl ?_
        refine XS.iloadN Xl.here hexec rfl (hb hbytes d27) rfl ?_
        refine XS.iload Xl.here hexec rfl (hb hbytes d28) rfl ?_
        refine i2b Xl.here hexec rfl (hb hbytes d30) rfl ?_
        exact Steps.refl _)
      obtain ⟨T7, X7, p7, st7⟩ := Xl.aput hexec hBk rfl hlt rfl (fits_lo8 (cv A (o + i))) (g := (mkF m 31 #[.val (.ref b), .val (.int (Int32.ofNat (o + i))), .val (.ref d), .val (.int (Int32.ofNat (q + i))), .val (.int (Int32.ofNat len)), .val (.int (Int32.ofNat i)), .val (.int (cv A (o + i)))] [.int (lo8 (cv A (o + i))), .int (Int32.ofNat (q + i)), .ref d])) rfl (rest := []) rfl (hb hbytes d31)
      have c8 : Steps p.tables e below (s₁.setTop (entryFrame m #[.ref b, .int (Int32.ofNat o), .ref d, .int (Int32.ofNat q), .int (Int32.ofNat len)] 7)) (T7.setTop (mkF m 32 #[.val (.ref b), .val (.int (Int32.ofNat (o + i))), .val (.ref d), .val (.int (Int32.ofNat (q + i))), .val (.int (Int32.ofNat len)), .val (.int (Int32.ofNat i)), .val (.int (cv A (o + i)))] [])) := c6.trans (st7 _ (Steps.refl _))
      have c9 : Steps p.tables e below (s₁.setTop (entryFrame m #[.ref b, .int (Int32.ofNat o), .ref d, .int (Int32.ofNat q), .int (Int32.ofNat len)] 7)) (T7.setTop (mkF m 3 #[.val (.ref b), .val (.int (Int32.ofNat (o + i) + 1)), .val (.ref d), .val (.int (Int32.ofNat (q + i) + 1)), .val (.int (Int32.ofNat len)), .val (.int (Int32.ofNat i + 1)), .val (.int (cv A (o + i)))] [])) := c8.trans (by
        refine iincV X7.here hexec rfl 1 (hb hbytes d32) (by decide) rfl rfl ?_
        refine iincV X7.here hexec rfl 1 (hb hbytes d35) (by decide) rfl rfl ?_
        refine iincV X7.here hexec rfl 1 (hb hbytes d38) (by decide) rfl rfl ?_
        refine XS.goto X7.here hexec rfl (pc0 := 41) rfl (hb hbytes d41) (by decide) rfl ?_
        exact Steps.refl _)
      have c10 : Steps p.tables e below (s₁.setTop (entryFrame m #[.ref b, .int (Int32.ofNat o), .ref d, .int (Int32.ofNat q), .int (Int32.ofNat len)] 7)) (T7.setTop (mkF m 3 #[.val (.ref b), .val (.int (Int32.ofNat (o + (i + 1)))), .val (.ref d), .val (.int (Int32.ofNat (q + (i + 1)))), .val (.int (Int32.ofNat len)), .val (.int (Int32.ofNat (i + 1))), .val (.int (cv A (o + i)))] [])) := by
        have := c9
        rw [succ32, succ32, succ32] at this
        exact this
      exact ih (i + 1) (by omega) _ (Or.inr ⟨_, rfl, rfl⟩) T7 _ (by rw [copyLocs_step, ← List.append_assoc]; exact X7) (pl.trans p7) (fl.step (by omega) hlt (by simp)) c10
  obtain ⟨T9, B9, z9, X9, p9, f9, g9⟩ := loop len 0 (by omega) .unset (Or.inl rfl) s₁ B (by simpa [copyLocs] using X0) ⟨hB0.1, fun _ _ => rfl, rfl⟩ (Laid.zero _ _ _) c2
  have c11 : Steps p.tables e below (s₁.setTop (entryFrame m #[.ref b, .int (Int32.ofNat o), .ref d, .int (Int32.ofNat q), .int (Int32.ofNat len)] 7)) (T9.setTop (mkF m 46 #[.val (.ref b), .val (.int (Int32.ofNat (o + len))), .val (.ref d), .val (.int (Int32.ofNat (q + len))), .val (.int (Int32.ofNat len)), .val (.int (Int32.ofNat len)), z9] [.int (Int32.ofNat len)])) := g9.trans (by
    refine XS.iload X9.here hexec rfl (hb hbytes d3) rfl ?_
    refine XS.iload X9.here hexec rfl (hb hbytes d5) rfl ?_
    refine XS.icmpYes X9.here hexec rfl (pc0 := 7) rfl (hb hbytes d7) rfl (ii_ge_t (nlt32 (by omega) (Nat.le_refl _))) (by decide) rfl ?_
    refine XS.iload X9.here hexec rfl (hb hbytes d44) rfl ?_
    exact Steps.refl _)
  exact ⟨T9, some (.int (Int32.ofNat len)), _, _, _, X9, by simp, rfl, rfl, (fun h => by cases h), ⟨rfl, B9, p9.from hh0, f9⟩, fun fs hl => c11.trans (X9.ireturnOut hexec hret rfl (Or.inl rfl) (hb hbytes d46) hl)⟩
end Cmp5
namespace Cmp3
def yN : MethodName := ⟨"java/lang/StringUTF16", "compress", "([CII)[B"⟩
abbrev yB : ByteArray := jdk_52_method_16_code
theorem d0 : decode yB 0 = .ok (.iload_n 2, 1) := by decide +kernel
theorem d1 : decode yB 1 = .ok (.newarray .byte, 2) := by decide +kernel
theorem d3 : decode yB 3 = .ok (.astore_n 3, 1) := by decide +kernel
theorem d4 : decode yB 4 = .ok (.aload_n 0, 1) := by decide +kernel
theorem d5 : decode yB 5 = .ok (.iload_n 1, 1) := by decide +kernel
theorem d6 : decode yB 6 = .ok (.aload_n 3, 1) := by decide +kernel
theorem d7 : decode yB 7 = .ok (.iconst 0, 1) := by decide +kernel
theorem d8 : decode yB 8 = .ok (.iload_n 2, 1) := by decide +kernel
theorem d9 : decode yB 9 = .ok (.invokestatic 115, 3) := by decide +kernel
theorem d12 : decode yB 12 = .ok (.istore 4, 2) := by decide +kernel
theorem d14 : decode yB 14 = .ok (.iload 4, 2) := by decide +kernel
theorem d16 : decode yB 16 = .ok (.iload_n 2, 1) := by decide +kernel
theorem d17 : decode yB 17 = .ok (.if_icmp (.eq) 40, 3) := by decide +kernel
theorem d57 : decode yB 57 = .ok (.aload_n 3, 1) := by decide +kernel
theorem d58 : decode yB 58 = .ok (.areturn, 1) := by decide +kernel
def site : List Cond := [.arrayClass .byte, Cmp5.tab] ++ staticW U16 115 Cmp5.yN
def tab : Cond := tabOf yN yB 6 (some (.array .byte)) site
def P (b : Addr) (A : Cell) (o len : Nat) (args : Array Value) (s : State) : Prop := args = #[.ref b, .int (Int32.ofNat o), .int (Int32.ofNat len)] ∧ Ch b A s ∧ o + len ≤ A.slots.size ∧ len ≤ 536870912 ∧ ∀ i, i < len → ¬ 255 < cv A (o + i)
def E (b : Addr) (A : Cell) (o len : Nat) (r : Option Value) (s u : State) : Prop := NewArr .byte "[B" len (fun j => .int (lo8 (cv A (o + j)))) r s u ∧ u.heap.size = s.heap.size + 1
/-- no char of the range above 255: a new byte[] of their low bytes -/
theorem law (l : Launch) (b : Addr) (A : Cell) (o len : Nat) : Law l yN 3 3 1 18 yB 6 (some (.array .byte)) site (P b A o len) (E b A o len) [] 1 len := by
  refine Law.of_walk (plainFor_of_name (by decide +kernel)) (by decide +kernel) (by decide +kernel) (by decide) (fun _ _ h => by rw [h.1]; rfl) (fun _ U U' hal hh h => ⟨h.1, h.2.1.mv hal hh, h.2.2⟩) (fun r U U' V V' h1 hal h2 h => ⟨NewArr.mv r U U' V V' h1 hal h2 h.1, by rw [h1, h2]; exact h.2⟩) ?_
  intro p e s m args below meth c s₁ X0 hexec hbytes hml hret hlk hnm hown hh0 W hP
  obtain ⟨rfl, hA, l1, l2, hp⟩ := hP
  have a31 := hA.1.2.2.2
  have c1 : Steps p.tables e below (s₁.setTop (entryFrame m #[.ref b, .int (Int32.ofNat o), .int (Int32.ofNat len)] 6)) (s₁.setTop (mkF m 0 #[.val (.ref b), .val (.int (Int32.ofNat o)), .val (.int (Int32.ofNat len)), .unset, .unset, .unset] [])) := entry rfl
  have c2 : Steps p.tables e below (s₁.setTop (entryFrame m #[.ref b, .int (Int32.ofNat o), .int (Int32.ofNat len)] 6)) (s₁.setTop (mkF m 1 #[.val (.ref b), .val (.int (Int32.ofNat o)), .val (.int (Int32.ofNat len)), .unset, .unset, .unset] [.int (Int32.ofNat len)])) := c1.trans (by
    refine XS.iloadN X0.here hexec rfl (hb hbytes d0) rfl ?_
    exact Steps.refl _)
  obtain ⟨T3, B3, X3, ba3, bs3, bv3, bh3, bf3, st3⟩ := X0.anew hexec (atype := .byte) (wk W (.arrayClass .byte)) rfl (by show len * 1 ≤ _; omega) (by omega) (g := (mkF m 1 #[.val (.ref b), .val (.int (Int32.ofNat o)), .val (.int (Int32.ofNat len)), .unset, .unset, .unset] [.int (Int32.ofNat len)])) rfl (hb hbytes d1) (rest := []) rfl (Nat.le_refl _) (by show 0 + len ≤ len; omega)
  rw [hh0] at ba3 st3
  have kp3 : XT.Kept s T3 := (XT.Kept.of_eq hh0).push bh3
  have hA3 := hA.keep X3.warmed.alike (kp3 _ _ hA.1.1)
  have hne : b ≠ s.heap.size := hA.1.ne
  have c4 : Steps p.tables e below (s₁.setTop (entryFrame m #[.ref b, .int (Int32.ofNat o), .int (Int32.ofNat len)] 6)) (T3.setTop (mkF m 3 #[.val (.ref b), .val (.int (Int32.ofNat o)), .val (.int (Int32.ofNat len)), .unset, .unset, .unset] [.ref s.heap.size])) := c2.trans (st3 _ (Steps.refl _))
  have c5 : Steps p.tables e below (s₁.setTop (entryFrame m #[.ref b, .int (Int32.ofNat o), .int (Int32.ofNat len)] 6)) (T3.setTop (mkF m 9 #[.val (.ref b), .val (.int (Int32.ofNat o)), .val (.int (Int32.ofNat len)), .val (.ref s.heap.size), .unset, .unset] [.int (Int32.ofNat len), .int 0, .ref s.heap.size, .int (Int32.ofNat o), .ref b])) := c4.trans (by
    refine XS.astoreN X3.here hexec rfl (hb hbytes d3) rfl rfl rfl ?_
    refine XS.aloadN X3.here hexec rfl (hb hbytes d4) rfl rfl ?_
    refine XS.iloadN X3.here hexec rfl (hb hbytes d5) rfl ?_
    refine XS.aloadN X3.here hexec rfl (hb hbytes d6) rfl rfl ?_
    refine iconstV X3.here hexec rfl 0 (hb hbytes d7) (by decide) ?_
    refine XS.iloadN X3.here hexec rfl (hb hbytes d8) rfl ?_
    exact Steps.refl _)
  obtain ⟨v6, T6, X6, E6, g6⟩ := X3.callS hexec (Cmp5.law l b A s.heap.size B3 o 0 len) hown (wks W (staticW U16 115 Cmp5.yN)) (wk W Cmp5.tab) (W := 0) (Nat.le_of_ble_eq_true rfl) (Nat.le_of_ble_eq_true rfl) (Nat.le_refl _) (by show 0 + len + 0 ≤ len; omega) (g := (mkF m 9 #[.val (.ref b), .val (.int (Int32.ofNat o)), .val (.int (Int32.ofNat len)), .val (.ref s.heap.size), .unset, .unset] [.int (Int32.ofNat len), .int (Int32.ofNat 0), .ref s.heap.size, .int (Int32.ofNat o), .ref b])) rfl (by rw [hml]; rfl) c5 (argsL := [.ref b, .int (Int32.ofNat o), .ref s.heap.size, .int (Int32.ofNat 0), .int (Int32.ofNat len)]) (rest := []) rfl rfl (by show 2 * 0 + 0 ≤ _; decide) (hb hbytes d9) (⟨rfl, hA3, ba3, hne, l1, by rw [bs3]; simp, hp⟩)
  obtain ⟨rfl, B6, p6, f6⟩ := E6
  have c7 : Steps p.tables e below (s₁.setTop (entryFrame m #[.ref b, .int (Int32.ofNat o), .int (Int32.ofNat len)] 6)) (T6.setTop (mkF m 12 #[.val (.ref b), .val (.int (Int32.ofNat o)), .val (.int (Int32.ofNat len)), .val (.ref s.heap.size), .unset, .unset] [.int (Int32.ofNat len)])) := g6
  have c8 : Steps p.tables e below (s₁.setTop (entryFrame m #[.ref b, .int (Int32.ofNat o), .int (Int32.ofNat len)] 6)) (T6.setTop (mkF m 58 #[.val (.ref b), .val (.int (Int32.ofNat o)), .val (.int (Int32.ofNat len)), .val (.ref s.heap.size), .val (.int (Int32.ofNat len)), .unset] [.ref s.heap.size])) := c7.trans (by
    refine XS.istore X6.here hexec rfl (hb hbytes d12) rfl rfl ?_
    refine XS.iload X6.here hexec rfl (hb hbytes d14) rfl ?_
    refine XS.iloadN X6.here hexec rfl (hb hbytes d16) rfl ?_
    refine XS.icmpYes X6.here hexec rfl (pc0 := 17) rfl (hb hbytes d17) rfl (ii_eq_t rfl) (by decide) rfl ?_
    refine XS.aloadN X6.here hexec rfl (hb hbytes d57) rfl rfl ?_
    exact Steps.refl _)
  have X8 := X6.wide (L' := []) (cells' := 1) (slots' := len) (fun x hx hlt => by
    simp only [List.nil_append, copyLocs, List.mem_map, List.mem_range] at hx
    obtain ⟨i, -, rfl⟩ := hx
    exact absurd hlt (Nat.lt_irrefl _)) (Nat.le_refl _) (by omega)
  exact ⟨T6, some (.ref s.heap.size), _, _, _, X8, rfl, rfl, rfl, (fun h => by cases h), ⟨⟨rfl, B6, ba3.like (X3.warmed.alike.symm.trans X6.warmed.alike) p6.1 f6.1 f6.2.1 f6.2.2.1, f6.2.1.trans bv3, by rw [X6.warmed.alike.findClass, f6.1]; exact bf3, by rw [f6.2.2.1, bs3]; simp, fun j hj => by rw [f6.2.2.2 j, if_pos (by omega)]; rfl, kp3.put p6 (Nat.le_refl _)⟩, by rw [p6.2.2, bh3, hh0]; simp⟩, fun fs hl => c8.trans (X8.areturnOut hexec rfl hret rfl (hb hbytes d58) hl)⟩
end Cmp3
namespace CodL
def yN : MethodName := ⟨"java/lang/StringUTF16", "coderFromArrayLen", "([BI)B"⟩
abbrev yB : ByteArray := jdk_52_method_15_code
theorem d0 : decode yB 0 = .ok (.iload_n 1, 1) := by decide +kernel
theorem d1 : decode yB 1 = .ok (.aload_n 0, 1) := by decide +kernel
theorem d2 : decode yB 2 = .ok (.arraylength, 1) := by decide +kernel
theorem d3 : decode yB 3 = .ok (.isub, 1) := by decide +kernel
theorem d4 : decode yB 4 = .ok (.bipush 31, 2) := by decide +kernel
theorem d6 : decode yB 6 = .ok (.iushr, 1) := by decide +kernel
theorem d7 : decode yB 7 = .ok (.i2b, 1) := by decide +kernel
theorem d8 : decode yB 8 = .ok (.ireturn, 1) := by decide +kernel
def site : List Cond := []
def tab : Cond := tabOf yN yB 2 (some .byte) site
def P (d : Addr) (B : Cell) (args : Array Value) (s : State) : Prop := args = #[.ref d, .int (Int32.ofNat B.slots.size)] ∧ Arr .byte d B s
def E (r : Option Value) (s u : State) : Prop := XT.PureE (some (.int 0)) r s u
/-- an array as long as the number of chars: LATIN1 -/
theorem law (l : Launch) (d : Addr) (B : Cell) : Law l yN 2 2 0 0 yB 2 (some .byte) site (P d B) E [] 0 0 := by
  refine Law.of_walk (plainFor_of_name (by decide +kernel)) (by decide +kernel) (by decide +kernel) (by decide) (fun _ _ h => by rw [h.1]; rfl) (fun _ U U' hal hh h => ⟨h.1, h.2.mv hal hh⟩) (fun r U U' V V' h1 hal h2 h => XT.PureE.mv r U U' V V' h1 hal h2 h) ?_
  intro p e s m args below meth c s₁ X0 hexec hbytes hml hret hlk hnm hown hh0 W hP
  obtain ⟨rfl, hB⟩ := hP
  have hB0 := hB.mv X0.warmed.alike hh0
  have c1 : Steps p.tables e below (s₁.setTop (entryFrame m #[.ref d, .int (Int32.ofNat B.slots.size)] 2)) (s₁.setTop (mkF m 0 #[.val (.ref d), .val (.int (Int32.ofNat B.slots.size))] [])) := entry rfl
  have c2 : Steps p.tables e below (s₁.setTop (entryFrame m #[.ref d, .int (Int32.ofNat B.slots.size)] 2)) (s₁.setTop (mkF m 2 #[.val (.ref d), .val (.int (Int32.ofNat B.slots.size))] [.ref d, .int (Int32.ofNat B.slots.size)])) := c1.trans (by
    refine XS.iloadN X0.here hexec rfl (hb hbytes d0) rfl ?_
    refine XS.aloadN X0.here hexec rfl (hb hbytes d1) rfl rfl ?_
    exact Steps.refl _)
  have c3 : Steps p.tables e below (s₁.setTop (entryFrame m #[.ref d, .int (Int32.ofNat B.slots.size)] 2)) (s₁.setTop (mkF m 8 #[.val (.ref d), .val (.int (Int32.ofNat B.slots.size))] [.int (lo8 (ushr (Int32.ofNat B.slots.size - Int32.ofNat B.slots.size) 31))])) := c2.trans (by
    refine X0.alen hexec hB0 rfl rfl (hb hbytes d2) ?_
    refine XS.isub X0.here hexec rfl (hb hbytes d3) rfl ?_
    refine bipushV X0.here hexec rfl 31 (hb hbytes d4) (by decide) ?_
    refine iushr X0.here hexec rfl (hb hbytes d6) rfl ?_
    refine i2b X0.here hexec rfl (hb hbytes d7) rfl ?_
    exact Steps.refl _)
  have e0 : lo8 (ushr (Int32.ofNat B.slots.size - Int32.ofNat B.slots.size) 31) = 0 := by rw [Int32.sub_self]; decide
  rw [e0] at c3
  exact ⟨s₁, some (.int 0), _, _, _, X0, rfl, rfl, rfl, (fun h => by cases h), ⟨rfl, hh0⟩, fun fs hl => c3.trans (X0.ireturnOut hexec hret rfl (Or.inr (Or.inr (Or.inl rfl))) (hb hbytes d8) hl)⟩
end CodL
/-- the String at a is Latin-1 over a new byte[] (the heap's one new cell): the low bytes of the len chars of A from o on; every cell but a is kept -/
def Got (a : Addr) (D : Cell) (fV fC : Field) (A : Cell) (o len : Nat) (r : Option Value) (s u : State) : Prop := r = none ∧ ∃ D' V : Cell, Blank "java/lang/String" a D' u ∧ Same D D' [fV.slot, fC.slot] ∧ D'.slots[fV.slot]? = some (.ref s.heap.size) ∧ D'.slots[fC.slot]? = some (.int 0) ∧ Arr .byte s.heap.size V u ∧ V.vm = .none ∧ u.vm.findClass "[B" = some V.cls ∧ V.slots.size = len ∧ (∀ j, j < len → V.slots[j]? = some (.int (lo8 (cv A (o + j))))) ∧ (∀ (y : Addr) (c : Cell), y ≠ a → s.heap[y]? = some c → u.heap[y]? = some c) ∧ u.heap.size = s.heap.size + 1
theorem Got.mv {a : Addr} {D A : Cell} {fV fC : Field} {o len : Nat} : ∀ r (U U' V V' : State), U'.heap = U.heap → V.vm.Alike V'.vm → V'.heap = V.heap → Got a D fV fC A o len r U V → Got a D fV fC A o len r U' V' :=
  fun r U U' V V' h1 hal h2 ⟨e0, D', X, a1, a2, a3, a4, a5, a6, a7, a8, a9, a10, a11⟩ => ⟨e0, D', X, a1.mv hal h2, a2, by rw [h1]; exact a3, a4, by rw [h1]; exact a5.mv hal h2, a6, by rw [hal.findClass]; exact a7, a8, a9, by rw [h1, h2]; exact a10, by rw [h1, h2]; exact a11⟩
namespace New4
def yN : MethodName := ⟨"java/lang/String", "<init>", "([CIILjava/lang/Void;)V"⟩
abbrev yB : ByteArray := jdk_42_method_149_code
theorem d0 : decode yB 0 = .ok (.aload_n 0, 1) := by decide +kernel
theorem d1 : decode yB 1 = .ok (.invokespecial 1, 3) := by decide +kernel
theorem d4 : decode yB 4 = .ok (.iload_n 3, 1) := by decide +kernel
theorem d5 : decode yB 5 = .ok (.ifCond (.ne) 22, 3) := by decide +kernel
theorem d27 : decode yB 27 = .ok (.getstatic 38, 3) := by decide +kernel
theorem d30 : decode yB 30 = .ok (.ifCond (.eq) 28, 3) := by decide +kernel
theorem d33 : decode yB 33 = .ok (.aload_n 1, 1) := by decide +kernel
theorem d34 : decode yB 34 = .ok (.iload_n 2, 1) := by decide +kernel
theorem d35 : decode yB 35 = .ok (.iload_n 3, 1) := by decide +kernel
theorem d36 : decode yB 36 = .ok (.invokestatic 177, 3) := by decide +kernel
theorem d39 : decode yB 39 = .ok (.astore 5, 2) := by decide +kernel
theorem d41 : decode yB 41 = .ok (.aload_n 0, 1) := by decide +kernel
theorem d42 : decode yB 42 = .ok (.aload 5, 2) := by decide +kernel
theorem d44 : decode yB 44 = .ok (.iload_n 3, 1) := by decide +kernel
theorem d45 : decode yB 45 = .ok (.invokestatic 47, 3) := by decide +kernel
theorem d48 : decode yB 48 = .ok (.putfield 15, 3) := by decide +kernel
theorem d51 : decode yB 51 = .ok (.aload_n 0, 1) := by decide +kernel
theorem d52 : decode yB 52 = .ok (.aload 5, 2) := by decide +kernel
theorem d54 : decode yB 54 = .ok (.putfield 9, 3) := by decide +kernel
theorem d57 : decode yB 57 = .ok (.return_, 1) := by decide +kernel
def site : List Cond := [.fieldLink "java/lang/String" 38 "java/lang/String" "COMPACT_STRINGS" "Z", Cmp3.tab, CodL.tab, .laysFinal "java/lang/String" "java/lang/String" "value" "[B", .fieldLink "java/lang/String" 9 "java/lang/String" "value" "[B", .laysFinal "java/lang/String" "java/lang/String" "coder" "B", .fieldLink "java/lang/String" 15 "java/lang/String" "coder" "B"] ++ objW "java/lang/String" 1 ++ staticW "java/lang/String" 177 Cmp3.yN ++ staticW "java/lang/String" 47 CodL.yN
def tab : Cond := tabOf yN yB 6 none site
def P (a : Addr) (D : Cell) (fV fC : Field) (b : Addr) (A : Cell) (z : Int32) (o len : Nat) (args : Array Value) (s : State) : Prop := args = #[.ref a, .ref b, .int (Int32.ofNat o), .int (Int32.ofNat len), .null] ∧ Blank "java/lang/String" a D s ∧ Found "java/lang/String" "value" "[B" fV s ∧ Found "java/lang/String" "coder" "B" fC s ∧ Ch b A s ∧ StaticIs s "java/lang/String" "COMPACT_STRINGS" "Z" (.int z) ∧ ¬ z = 0 ∧ 0 < len ∧ o + len ≤ A.slots.size ∧ len ≤ 536870912 ∧ ∀ i, i < len → ¬ 255 < cv A (o + i)
def E (a : Addr) (D : Cell) (fV fC : Field) (A : Cell) (o len : Nat) (r : Option Value) (s u : State) : Prop := Got a D fV fC A o len r s u
/-- len > 0, no char of the range above 255: a Latin-1 String of their low bytes -/
theorem law (l : Launch) (a : Addr) (D : Cell) (fV fC : Field) (b : Addr) (A : Cell) (z : Int32) (o len : Nat) : Law l yN 5 4 2 35 yB 6 none site (P a D fV fC b A z o len) (E a D fV fC A o len) [⟨a, fC.slot⟩, ⟨a, fV.slot⟩] 1 len := by
  refine Law.of_walk (plainFor_of_name (by decide +kernel)) (by decide +kernel) (by decide +kernel) (by decide) (fun _ _ h => by rw [h.1]; rfl) (fun _ U U' hal hh h => ⟨h.1, h.2.1.mv hal hh, h.2.2.1.al hal, h.2.2.2.1.al hal, h.2.2.2.2.1.mv hal hh, h.2.2.2.2.2.1.there hal hh, h.2.2.2.2.2.2⟩) (fun r U U' V V' h1 hal h2 h => Got.mv r U U' V V' h1 hal h2 h) ?_
  intro p e s m args below meth c s₁ X0 hexec hbytes hml hret hlk hnm hown hh0 W hP
  obtain ⟨rfl, hB, f1, f2, hA, s1, hz, l0, l1, l2, hp⟩ := hP
  have a31 := hA.1.2.2.2
  have c1 : Steps p.tables e below (s₁.setTop (entryFrame m #[.ref a, .ref b, .int (Int32.ofNat o), .int (Int32.ofNat len), .null] 6)) (s₁.setTop (mkF m 0 #[.val (.ref a), .val (.ref b), .val (.int (Int32.ofNat o)), .val (.int (Int32.ofNat len)), .val .null, .unset] [])) := entry rfl
  have c2 : Steps p.tables e below (s₁.setTop (entryFrame m #[.ref a, .ref b, .int (Int32.ofNat o), .int (Int32.ofNat len), .null] 6)) (s₁.setTop (mkF m 1 #[.val (.ref a), .val (.ref b), .val (.int (Int32.ofNat o)), .val (.int (Int32.ofNat len)), .val .null, .unset] [.ref a])) := c1.trans (by
    refine XS.aloadN X0.here hexec rfl (hb hbytes d0) rfl rfl ?_
    exact Steps.refl _)
  obtain ⟨T3, X3, q3, st3⟩ := X0.oinit hexec hown (wks W (objW "java/lang/String" 1)) (g := (mkF m 1 #[.val (.ref a), .val (.ref b), .val (.int (Int32.ofNat o)), .val (.int (Int32.ofNat len)), .val .null, .unset] [.ref a])) rfl (by rw [hml]; rfl) (rest := []) rfl (hb hbytes d1) (W := 0) (by show 2 * 0 + 0 ≤ _; decide) (Nat.le_of_ble_eq_true rfl) (Nat.le_of_ble_eq_true rfl)
  have hh3 := q3.trans hh0
  have c4 : Steps p.tables e below (s₁.setTop (entryFrame m #[.ref a, .ref b, .int (Int32.ofNat o), .int (Int32.ofNat len), .null] 6)) (T3.setTop (mkF m 27 #[.val (.ref a), .val (.ref b), .val (.int (Int32.ofNat o)), .val (.int (Int32.ofNat len)), .val .null, .unset] [])) := (c2.trans (st3 _ (Steps.refl _))).trans (by
    refine XS.iloadN X3.here hexec rfl (hb hbytes d4) rfl ?_
    refine XS.ifYes X3.here hexec rfl (pc0 := 5) rfl (hb hbytes d5) rfl (i0_ne_t (nz32 (by omega) l0)) (by decide) rfl ?_
    exact Steps.refl _)
  obtain ⟨T5, X5, q5, st5⟩ := X3.sget hexec hown (wk W (.fieldLink "java/lang/String" 38 "java/lang/String" "COMPACT_STRINGS" "Z")) s1 (fun _ _ h => by rw [hh3]; exact h) (g := (mkF m 27 #[.val (.ref a), .val (.ref b), .val (.int (Int32.ofNat o)), .val (.int (Int32.ofNat len)), .val .null, .unset] [])) rfl (hb hbytes d27)
  have hh5 := q5.trans hh3
  have c6 : Steps p.tables e below (s₁.setTop (entryFrame m #[.ref a, .ref b, .int (Int32.ofNat o), .int (Int32.ofNat len), .null] 6)) (T5.setTop (mkF m 30 #[.val (.ref a), .val (.ref b), .val (.int (Int32.ofNat o)), .val (.int (Int32.ofNat len)), .val .null, .unset] [.int z])) := c4.trans (st5 _ (Steps.refl _))
  have c7 : Steps p.tables e below (s₁.setTop (entryFrame m #[.ref a, .ref b, .int (Int32.ofNat o), .int (Int32.ofNat len), .null] 6)) (T5.setTop (mkF m 36 #[.val (.ref a), .val (.ref b), .val (.int (Int32.ofNat o)), .val (.int (Int32.ofNat len)), .val .null, .unset] [.int (Int32.ofNat len), .int (Int32.ofNat o), .ref b])) := c6.trans (by
    refine XS.ifNo X5.here hexec rfl (hb hbytes d30) rfl (i0_eq_f hz) ?_
    refine XS.aloadN X5.here hexec rfl (hb hbytes d33) rfl rfl ?_
    refine XS.iloadN X5.here hexec rfl (hb hbytes d34) rfl ?_
    refine XS.iloadN X5.here hexec rfl (hb hbytes d35) rfl ?_
    exact Steps.refl _)
  obtain ⟨v8, T8, X8, E8, g8⟩ := X5.callS hexec (Cmp3.law l b A o len) hown (wks W (staticW "java/lang/String" 177 Cmp3.yN)) (wk W Cmp3.tab) (W := 0) (Nat.le_of_ble_eq_true rfl) (Nat.le_of_ble_eq_true rfl) (Nat.le_refl _) (by show 0 + len ≤ len; omega) (g := (mkF m 36 #[.val (.ref a), .val (.ref b), .val (.int (Int32.ofNat o)), .val (.int (Int32.ofNat len)), .val .null, .unset] [.int (Int32.ofNat len), .int (Int32.ofNat o), .ref b])) rfl (by rw [hml]; rfl) c7 (argsL := [.ref b, .int (Int32.ofNat o), .int (Int32.ofNat len)]) (rest := []) rfl rfl (by show 2 * 0 + 0 ≤ _; decide) (hb hbytes d36) (⟨rfl, hA.mv X5.warmed.alike hh5, l1, l2, hp⟩)
  obtain ⟨e8, z8⟩ := E8
  obtain ⟨rfl, N, n1, n2, n3, n4, n5, n6⟩ := NewArr.mv _ T5 s _ _ hh5.symm (Vm.Alike.refl _) rfl e8
  rw [hh5] at z8
  have hB1 := hB.keep X8.warmed.alike (n6 _ _ hB.1)
  have hne : s.heap.size ≠ a := (Nat.ne_of_lt (Array.getElem?_eq_some_iff.mp hB.1).1).symm
  have c9 : Steps p.tables e below (s₁.setTop (entryFrame m #[.ref a, .ref b, .int (Int32.ofNat o), .int (Int32.ofNat len), .null] 6)) (T8.setTop (mkF m 39 #[.val (.ref a), .val (.ref b), .val (.int (Int32.ofNat o)), .val (.int (Int32.ofNat len)), .val .null, .unset] [.ref s.heap.size])) := g8
  have c10 : Steps p.tables e below (s₁.setTop (entryFrame m #[.ref a, .ref b, .int (Int32.ofNat o), .int (Int32.ofNat len), .null] 6)) (T8.setTop (mkF m 45 #[.val (.ref a), .val (.ref b), .val (.int (Int32.ofNat o)), .val (.int (Int32.ofNat len)), .val .null, .val (.ref s.heap.size)] [.int (Int32.ofNat N.slots.size), .ref s.heap.size, .ref a])) := by
    have hc : Steps p.tables e below (s₁.setTop (entryFrame m #[.ref a, .ref b, .int (Int32.ofNat o), .int (Int32.ofNat len), .null] 6)) (T8.setTop (mkF m 45 #[.val (.ref a), .val (.ref b), .val (.int (Int32.ofNat o)), .val (.int (Int32.ofNat len)), .val .null, .val (.ref s.heap.size)] [.int (Int32.ofNat len), .ref s.heap.size, .ref a])) := c9.trans (by
      refine XS.astore X8.here hexec rfl (hb hbytes d39) rfl rfl rfl ?_
      refine XS.aloadN X8.here hexec rfl (hb hbytes d41) rfl rfl ?_
      refine XS.aload X8.here hexec rfl (hb hbytes d42) rfl rfl ?_
      refine XS.iloadN X8.here hexec rfl (hb hbytes d44) rfl ?_
      exact Steps.refl _)
    rw [n4]; exact hc
  obtain ⟨v11, T11, X11, E11, g11⟩ := X8.callS hexec (CodL.law l s.heap.size N) hown (wks W (staticW "java/lang/String" 47 CodL.yN)) (wk W CodL.tab) (W := 1) (Nat.le_of_ble_eq_true rfl) (Nat.le_of_ble_eq_true rfl) (Nat.le_refl _) (by show 0 + len + 0 ≤ len; omega) (g := (mkF m 45 #[.val (.ref a), .val (.ref b), .val (.int (Int32.ofNat o)), .val (.int (Int32.ofNat len)), .val .null, .val (.ref s.heap.size)] [.int (Int32.ofNat N.slots.size), .ref s.heap.size, .ref a])) rfl (by rw [hml]; rfl) c10 (argsL := [.ref s.heap.size, .int (Int32.ofNat N.slots.size)]) (rest := [.ref a]) rfl rfl (by show 2 * 0 + (1 + 0) ≤ _; decide) (hb hbytes d45) (⟨rfl, n1⟩)
  obtain ⟨rfl, q11⟩ := E11
  have hB11 := hB1.mv (X8.warmed.alike.symm.trans X11.warmed.alike) q11
  have c12 : Steps p.tables e below (s₁.setTop (entryFrame m #[.ref a, .ref b, .int (Int32.ofNat o), .int (Int32.ofNat len), .null] 6)) (T11.setTop (mkF m 48 #[.val (.ref a), .val (.ref b), .val (.int (Int32.ofNat o)), .val (.int (Int32.ofNat len)), .val .null, .val (.ref s.heap.size)] [.int 0, .ref a])) := g11
  obtain ⟨T13, X13, p13, bl13, sl13, st13⟩ := X11.finit hexec hown (wk W (.fieldLink "java/lang/String" 15 "java/lang/String" "coder" "B")) (Or.inr ⟨_, (wk W (.laysFinal "java/lang/String" "java/lang/String" "coder" "B"))⟩) (Or.inl ⟨rfl, hnm⟩) f2 (Or.inl rfl) hB11 (t := .byte) (by decide +kernel) rfl (g := (mkF m 48 #[.val (.ref a), .val (.ref b), .val (.int (Int32.ofNat o)), .val (.int (Int32.ofNat len)), .val .null, .val (.ref s.heap.size)] [.int 0, .ref a])) rfl (rest := []) rfl (hb hbytes d48)
  have c14 : Steps p.tables e below (s₁.setTop (entryFrame m #[.ref a, .ref b, .int (Int32.ofNat o), .int (Int32.ofNat len), .null] 6)) (T13.setTop (mkF m 54 #[.val (.ref a), .val (.ref b), .val (.int (Int32.ofNat o)), .val (.int (Int32.ofNat len)), .val .null, .val (.ref s.heap.size)] [.ref s.heap.size, .ref a])) := (c12.trans (st13 _ (Steps.refl _))).trans (by
    refine XS.aloadN X13.here hexec rfl (hb hbytes d51) rfl rfl ?_
    refine XS.aload X13.here hexec rfl (hb hbytes d52) rfl rfl ?_
    exact Steps.refl _)
  obtain ⟨T15, X15, p15, bl15, sl15, st15⟩ := X13.finit hexec hown (wk W (.fieldLink "java/lang/String" 9 "java/lang/String" "value" "[B")) (Or.inr ⟨_, (wk W (.laysFinal "java/lang/String" "java/lang/String" "value" "[B"))⟩) (Or.inl ⟨rfl, hnm⟩) f1 (Or.inl rfl) bl13 (t := (.array .byte)) (by decide +kernel) rfl (g := (mkF m 54 #[.val (.ref a), .val (.ref b), .val (.int (Int32.ofNat o)), .val (.int (Int32.ofNat len)), .val .null, .val (.ref s.heap.size)] [.ref s.heap.size, .ref a])) rfl (rest := []) rfl (hb hbytes d54)
  have c16 : Steps p.tables e below (s₁.setTop (entryFrame m #[.ref a, .ref b, .int (Int32.ofNat o), .int (Int32.ofNat len), .null] 6)) (T15.setTop (mkF m 57 #[.val (.ref a), .val (.ref b), .val (.int (Int32.ofNat o)), .val (.int (Int32.ofNat len)), .val .null, .val (.ref s.heap.size)] [])) := c14.trans (st15 _ (Steps.refl _))
  have ap := apart (Or.inr ⟨_, (wk W (.laysFinal "java/lang/String" "java/lang/String" "value" "[B"))⟩) (Or.inr ⟨_, (wk W (.laysFinal "java/lang/String" "java/lang/String" "coder" "B"))⟩) f1 f2 (t₁ := .array .byte) (t₂ := .byte) (by decide +kernel) (by decide +kernel) (by decide)
  have al := X8.warmed.alike.symm.trans X15.warmed.alike
  have n7 : T11.heap[s.heap.size]? = some N := by rw [q11]; exact n1.1
  exact ⟨T15, none, _, _, _, X15, by simp, rfl, by omega, (fun _ => rfl), ⟨rfl, _, N, bl15, ((Same.refl D _).set _ (by simp)).set _ (by simp), sl15, (Cell.slots_setSlot_ne _ ap).trans sl13, n1.keep al (p15.other hne (p13.other hne n7)), n2, by rw [al.findClass]; exact n3, n4, n5, fun y c h1 h2 => p15.other h1 (p13.other h1 (by rw [q11]; exact n6 y c h2)), by rw [p15.2.2, p13.2.2, q11]; exact z8⟩, fun fs hl => c16.trans (X15.returnOut hexec hret (hb hbytes d57) hl)⟩
end New4
namespace New1
def yN : MethodName := ⟨"java/lang/String", "<init>", "([C)V"⟩
abbrev yB : ByteArray := jdk_42_method_3_code
theorem d0 : decode yB 0 = .ok (.aload_n 0, 1) := by decide +kernel
theorem d1 : decode yB 1 = .ok (.aload_n 1, 1) := by decide +kernel
theorem d2 : decode yB 2 = .ok (.iconst 0, 1) := by decide +kernel
theorem d3 : decode yB 3 = .ok (.aload_n 1, 1) := by decide +kernel
theorem d4 : decode yB 4 = .ok (.arraylength, 1) := by decide +kernel
theorem d5 : decode yB 5 = .ok (.aconst_null, 1) := by decide +kernel
theorem d6 : decode yB 6 = .ok (.invokespecial 27, 3) := by decide +kernel
theorem d9 : decode yB 9 = .ok (.return_, 1) := by decide +kernel
def site : List Cond := [New4.tab] ++ initW "java/lang/String" 27 New4.yN
def tab : Cond := tabOf yN yB 2 none site
def P (a : Addr) (D : Cell) (fV fC : Field) (b : Addr) (A : Cell) (z : Int32) (args : Array Value) (s : State) : Prop := args = #[.ref a, .ref b] ∧ Blank "java/lang/String" a D s ∧ Found "java/lang/String" "value" "[B" fV s ∧ Found "java/lang/String" "coder" "B" fC s ∧ Ch b A s ∧ StaticIs s "java/lang/String" "COMPACT_STRINGS" "Z" (.int z) ∧ ¬ z = 0 ∧ 0 < A.slots.size ∧ A.slots.size ≤ 536870912 ∧ ∀ i, i < A.slots.size → ¬ 255 < cv A i
def E (a : Addr) (D : Cell) (fV fC : Field) (A : Cell) (r : Option Value) (s u : State) : Prop := Got a D fV fC A 0 A.slots.size r s u
/-- new String(chars), not empty, no char above 255: a Latin-1 String of their low bytes -/
theorem law (l : Launch) (a : Addr) (D : Cell) (fV fC : Field) (b : Addr) (A : Cell) (z : Int32) : Law l yN 2 1 3 52 yB 2 none site (P a D fV fC b A z) (E a D fV fC A) [⟨a, fC.slot⟩, ⟨a, fV.slot⟩] 1 A.slots.size := by
  refine Law.of_walk (plainFor_of_name (by decide +kernel)) (by decide +kernel) (by decide +kernel) (by decide) (fun _ _ h => by rw [h.1]; rfl) (fun _ U U' hal hh h => ⟨h.1, h.2.1.mv hal hh, h.2.2.1.al hal, h.2.2.2.1.al hal, h.2.2.2.2.1.mv hal hh, h.2.2.2.2.2.1.there hal hh, h.2.2.2.2.2.2⟩) (fun r U U' V V' h1 hal h2 h => Got.mv r U U' V V' h1 hal h2 h) ?_
  intro p e s m args below meth c s₁ X0 hexec hbytes hml hret hlk hnm hown hh0 W hP
  obtain ⟨rfl, hB, f1, f2, hA, s1, hz, l0, l2, hp⟩ := hP
  have c1 : Steps p.tables e below (s₁.setTop (entryFrame m #[.ref a, .ref b] 2)) (s₁.setTop (mkF m 0 #[.val (.ref a), .val (.ref b)] [])) := entry rfl
  have c2 : Steps p.tables e below (s₁.setTop (entryFrame m #[.ref a, .ref b] 2)) (s₁.setTop (mkF m 6 #[.val (.ref a), .val (.ref b)] [.null, .int (Int32.ofNat A.slots.size), .int 0, .ref b, .ref a])) := c1.trans (by
    refine XS.aloadN X0.here hexec rfl (hb hbytes d0) rfl rfl ?_
    refine XS.aloadN X0.here hexec rfl (hb hbytes d1) rfl rfl ?_
    refine iconstV X0.here hexec rfl 0 (hb hbytes d2) (by decide) ?_
    refine XS.aloadN X0.here hexec rfl (hb hbytes d3) rfl rfl ?_
    refine X0.alen hexec (hA.1.mv X0.warmed.alike hh0) rfl rfl (hb hbytes d4) ?_
    refine XS.aconstNull X0.here hexec rfl (hb hbytes d5) ?_
    exact Steps.refl _)
  obtain ⟨v3, T3, X3, E3, g3⟩ := X0.callN hexec (New4.law l a D fV fC b A z 0 A.slots.size) rfl hown (wks W (initW "java/lang/String" 27 New4.yN)) (W New4.tab (by simp only [site, List.mem_cons, List.mem_append, true_or, or_true])) (W := 0) (Nat.le_of_ble_eq_true rfl) (Nat.le_of_ble_eq_true rfl) (Nat.le_refl _) (by show 0 + A.slots.size ≤ A.slots.size; omega) (g := (mkF m 6 #[.val (.ref a), .val (.ref b)] [.null, .int (Int32.ofNat A.slots.size), .int (Int32.ofNat 0), .ref b, .ref a])) rfl (by rw [hml]; rfl) c2 (argsL := [.ref b, .int (Int32.ofNat 0), .int (Int32.ofNat A.slots.size), .null]) (rest := []) rfl rfl (by show 2 * 0 + 0 ≤ _; decide) (hb hbytes d6) (⟨rfl, hB.mv X0.warmed.alike hh0, f1.al X0.warmed.alike, f2.al X0.warmed.alike, hA.mv X0.warmed.alike hh0, s1.there X0.warmed.alike hh0, hz, l0, by omega, l2, fun i hi => by rw [Nat.zero_add]; exact hp i hi⟩)
  have e0 := Got.mv _ s₁ s _ _ hh0.symm (Vm.Alike.refl _) rfl E3
  obtain rfl := e0.1
  have c4 : Steps p.tables e below (s₁.setTop (entryFrame m #[.ref a, .ref b] 2)) (T3.setTop (mkF m 9 #[.val (.ref a), .val (.ref b)] [])) := g3
  exact ⟨T3, none, _, _, _, X3, by simp, rfl, by omega, (fun _ => rfl), e0, fun fs hl => c4.trans (X3.returnOut hexec hret (hb hbytes d9) hl)⟩
theorem pays {l : Launch} {R : Room} {p : Program} {e : Env} {below : List Frame} {s : State} {sargs : Array Value} {len W : Nat} (a : Addr) (D : Cell) (fV fC : Field) (b : Addr) (A : Cell) (z : Int32) (htab : tab.before sargs s = true) (hfr : 4 ≤ R.frames) (hlo : W + 65 ≤ R.locals) :
    Back l R p e below s sargs yN len W (fun A₁ a₁ => A₁.cells + 1 ≤ R.cells ∧ A₁.slots + A.slots.size ≤ R.slots ∧ P a D fV fC b A z a₁ A₁.U) (fun A₁ _ v₁ B₁ => E a D fV fC A v₁ A₁.U B₁.U ∧ B₁.locs = A₁.locs ++ [⟨a, fC.slot⟩, ⟨a, fV.slot⟩] ∧ B₁.cells = A₁.cells + 1 ∧ B₁.slots = A₁.slots + A.slots.size) :=
  (law l a D fV fC b A z).pays htab hfr (by omega)
end New1
/-- the byte, read back as charAt reads it, is the char -/
theorem lo8_mask {x : Int32} (h0 : ¬ x < 0) (h1 : ¬ 255 < x) : lo8 x &&& 255 = x := by
  have t : ∀ k : Fin 256, lo8 (Int32.ofNat k.val) &&& 255 = Int32.ofNat k.val := by decide +kernel
  rw [Int32.lt_iff_toInt_lt] at h0 h1
  have e0 : (0 : Int32).toInt = 0 := rfl
  have e1 : (255 : Int32).toInt = 255 := rfl
  obtain ⟨k, hk⟩ : ∃ k : Nat, x.toInt = k := ⟨x.toInt.toNat, by omega⟩
  have hx : x = Int32.ofNat k := Int32.toInt_inj.mp (by rw [hk, Int32.toInt_ofNat_small (by omega)])
  rw [hx]
  exact t ⟨k, by omega⟩
end StrChars
namespace StrChars.Road
open Jvm Sem ClassFile Op Lib Jvm.Stand Jvm.Free Jvm.Free.XT
open Jvm.Lib.Cold (StaticIs)
abbrev ST : String := "java/lang/String"
/-- every table word that New1's law asks, flat -/
abbrev words : List Jvm.Cond := [.code New1.yN New1.yB 2 none, .initialized ST, .methodLink ST 27 New4.yN, .instanceMethod New4.yN,
  .code New4.yN New4.yB 6 none, .fieldLink ST 38 ST "COMPACT_STRINGS" "Z", .laysFinal ST ST "value" "[B", .fieldLink ST 9 ST "value" "[B", .laysFinal ST ST "coder" "B", .fieldLink ST 15 ST "coder" "B",
  .methodLink ST 1 Lib.objectInit, .instanceMethod Lib.objectInit, .code Lib.objectInit ⟨#[0xb1]⟩ 1 none, .methodLink ST 177 Cmp3.yN, .static Cmp3.yN, .methodLink ST 47 CodL.yN, .static CodL.yN,
  .code Cmp3.yN Cmp3.yB 6 (some (.array .byte)), .initialized U16, .arrayClass .byte, .methodLink U16 115 Cmp5.yN, .static Cmp5.yN, .code Cmp5.yN Cmp5.yB 7 (some .int), .code CodL.yN CodL.yB 2 (some .byte)]
theorem tab_of {a : Array Value} {s : State} (h : ∀ w ∈ words, w.before a s = true) : New1.tab.before a s = true := by
  have h5 : Cmp5.tab.before a s = true := unparts (wk h (.code Cmp5.yN Cmp5.yB 7 (some .int))) (wks h (.initialized Cmp5.yN.cls :: Cmp5.site))
  have hc : CodL.tab.before a s = true := unparts (wk h (.code CodL.yN CodL.yB 2 (some .byte))) (wks h (.initialized CodL.yN.cls :: CodL.site))
  have q5 : ∀ w ∈ Cmp5.tab :: words, w.before a s = true := fun w hw => (List.mem_cons.mp hw).elim (fun e => e ▸ h5) (h w)
  have h3 : Cmp3.tab.before a s = true := unparts (wk q5 (.code Cmp3.yN Cmp3.yB 6 (some (.array .byte)))) (wks q5 (.initialized Cmp3.yN.cls :: Cmp3.site))
  have q3 : ∀ w ∈ Cmp3.tab :: CodL.tab :: words, w.before a s = true := fun w hw => (List.mem_cons.mp hw).elim (fun e => e ▸ h3) fun hw => (List.mem_cons.mp hw).elim (fun e => e ▸ hc) (h w)
  have h4 : New4.tab.before a s = true := unparts (wk q3 (.code New4.yN New4.yB 6 none)) (wks q3 (.initialized New4.yN.cls :: New4.site))
  have q4 : ∀ w ∈ New4.tab :: words, w.before a s = true := fun w hw => (List.mem_cons.mp hw).elim (fun e => e ▸ h4) (h w)
  exact unparts (wk q4 (.code New1.yN New1.yB 2 none)) (wks q4 (.initialized New1.yN.cls :: New1.site))
/-- the words ride from the start Z to the walk's own state -/
theorem moved {Z s : State} {a0 args : Array Value} (hZ : Z.Warmed39 s.vm) (hw : ∀ d ∈ words, d.before a0 Z = true) : ∀ d ∈ words, d.before args s = true := fun d hd => by
  have q := hw d hd
  have t : ∀ d ∈ words, d = .arrayClass .byte ∨ (d.onTables && d.keepsFace) = true := by decide +kernel
  rcases t d hd with rfl | t
  · exact RoadKit.mvA hZ q
  · exact RoadKit.mv hZ q t
/-- WHAT COMES BACK, over the tables of the start Z: h the heap at the call, h' behind it -/
def Q (Z : State) (x : Addr) (A : Cell) (h : Heap) (v : Option Value) (h' : Heap) (L : List Loc) : Prop := v = none ∧ (∀ y ∈ L, y.base = x) ∧ RoadKit.Keep h h' [x] ∧ h'.size = h.size + 1 ∧ RoadKit.Exa Z h' x ST ∧ RoadKit.Fld Z h' x ST "value" "[B" (.ref h.size) ∧ RoadKit.Fld Z h' x ST "coder" "B" (.int 0) ∧
  (∃ V : Cell, RoadKit.Arr Z h' h.size V .byte ∧ V.vm = .none ∧ Z.vm.findClass "[B" = some V.cls ∧ V.slots.size = A.slots.size ∧ ∀ j, j < A.slots.size → V.slots[j]? = some (.int (lo8 (cv A j)))) ∧
  ∀ (O n d : String) (w : Value), RoadKit.Fld Z h x O n d w → RoadKit.slotOf Z O n d ≠ RoadKit.slotOf Z ST "value" "[B" → RoadKit.slotOf Z O n d ≠ RoadKit.slotOf Z ST "coder" "B" → RoadKit.Fld Z h' x O n d w
/-- **new String(chars) AT A CALL, IN THE ROAD'S FORM**: for specialBack behind newO: x the fresh String, b the char[] with the cell A -/
theorem back {p : Program} {l : Launch} {e : Env} {R : Room} {s : State} {args : Array Value} {below : List Frame} {len W : Nat} {Z : State} {a0 : Array Value} {h : Heap} (hZ : Z.Warmed39 s.vm) (hw : ∀ d ∈ words, d.before a0 Z = true) {kI : Nat} (wi : (Jvm.Cond.instantiable ST kI).before a0 Z = true)
    {x b : Addr} {A : Cell} {z : Int32} {v0 c0 : Value} (E : RoadKit.Exa Z h x ST) (V : RoadKit.Fld Z h x ST "value" "[B" v0) (C : RoadKit.Fld Z h x ST "coder" "B" c0) (K : RoadKit.Arr Z h b A .char) (hty : Typed .char A) (S : RoadKit.Sta Z h ST "COMPACT_STRINGS" "Z" (.int z)) (hz : ¬ z = 0)
    (l0 : 0 < A.slots.size) (l2 : A.slots.size ≤ 536870912) (hp : ∀ i, i < A.slots.size → ¬ 255 < cv A i) (hfr : 4 ≤ R.frames) (hlo : W + 65 ≤ R.locals) :
    Back l R p e below s args New1.yN len W (fun P a => a = #[.ref x, .ref b] ∧ P.U.heap = h ∧ P.cells + 1 ≤ R.cells ∧ P.slots + A.slots.size ≤ R.slots)
      (fun P _ v B => ∃ L, Q Z x A h v B.U.heap L ∧ B.locs = P.locs ++ L ∧ B.cells = P.cells + 1 ∧ B.slots = P.slots + A.slots.size) := by
  intro m meth c P g ig mk a X hg hsize hdg hW hn hp'
  obtain ⟨rfl, rfl, r1, r2⟩ := hp'
  have al : Z.vm.Alike P.U.vm := hZ.alike.trans X.warmed.alike
  obtain ⟨D, cfV, kV, iV, fV, hD, gV, stV, knV, obV, asV, slV⟩ := id V
  obtain ⟨D', cfC, kC, iC, fC, hD', gC, stC, -, -, asC, slC⟩ := id C
  cases hD.symm.trans hD'
  obtain ⟨D2, kD, e1, e2, e3, e4, e5⟩ := id E
  cases hD.symm.trans e1
  obtain ⟨c2, k2, i1, i2, i3, -⟩ := Cond.instantiable_spec wi
  cases e2.symm.trans i1
  cases e3.symm.trans i2
  obtain ⟨kU, u1, u2⟩ := al.2.2 _ _ e3
  have hB : Blank ST x D P.U := ⟨hD, ⟨knV, fun q hq => by rw [hq] at obV; cases obV⟩, by rw [al.findClass]; exact e2, kU, u1, by rw [u2]; exact i3, by rw [u2]; exact e5 i3⟩
  have F1 : Found ST "value" "[B" fV P.U := ⟨SBG.found_only al ⟨cfV, kV, iV, gV⟩, stV⟩
  have F2 : Found ST "coder" "B" fC P.U := ⟨SBG.found_only al ⟨cfC, kC, iC, gC⟩, stC⟩
  have hA : Ch b A P.U := ⟨⟨K.1, State.isArrayOf_alike al K.2.1, K.2.2, by omega⟩, hty⟩
  have hS : StaticIs P.U ST "COMPACT_STRINGS" "Z" (.int z) := by
    obtain ⟨cfS, iS, kS, fS, st, cS, t1, t2, t3, t4, t5, t6, t7⟩ := S
    exact StaticIs.there (s := { Z with heap := P.U.heap }) ⟨cfS, iS, kS, fS, st, cS, t1, t2, t3, t4, t5, (fun q => by rw [q] at t6; cases t6), t7⟩ al rfl
  obtain ⟨v, B, X', ⟨⟨hv, E', V', q1, q2, q3, q4, q5, q6, q7, q8, q9, q10, q11⟩, hl, hc, hs⟩, st⟩ := New1.pays x D fV fC b A z (tab_of (moved hZ hw)) hfr hlo m meth c P g ig mk _ X hg hsize hdg hW hn ⟨r1, r2, rfl, hB, F1, F2, hA, hS, hz, l0, l2, hp⟩
  have al' : Z.vm.Alike B.U.vm := hZ.alike.trans X'.warmed.alike
  have hsz : E'.slots.size = D.slots.size := by
    obtain ⟨-, -, -, kB, w1, w2, w3⟩ := q1
    obtain ⟨kB', y1, y2⟩ := al'.2.2 _ _ e3
    rw [q2.2.1] at w1
    cases w1.symm.trans y1
    rw [w3, e5 i3, y2]
  refine ⟨v, B, X', ⟨_, ⟨hv, ?_, ⟨by omega, fun y cy hy hn' => q10 y cy (by simpa using hn') hy, fun y cy hy => ?_⟩, q11, ⟨E', _, q1.1, by rw [q2.2.1]; exact e2, by rw [q2.2.1]; exact e3, by rw [q2.1]; exact obV, fun _ => by rw [hsz]; exact e5 i3⟩,
    ⟨E', cfV, kV, iV, fV, q1.1, gV, stV, by rw [q2.1]; exact knV, by rw [q2.1]; exact obV, by rw [q2.2.1]; exact asV, q3⟩, ⟨E', cfC, kC, iC, fC, q1.1, gC, stC, by rw [q2.1]; exact knV, by rw [q2.1]; exact obV, by rw [q2.2.1]; exact asC, q4⟩,
    ⟨V', ⟨q5.1, State.isArrayOf_alike al'.symm q5.2.1, q5.2.2.1⟩, q6, by rw [← al'.findClass]; exact q7, q8, fun j hj => by have := q9 j hj; rwa [Nat.zero_add] at this⟩, fun O n d w F n1 n2 => ?_⟩, hl, hc, hs⟩, st⟩
  · intro y hy
    simp only [List.mem_cons, List.not_mem_nil, or_false] at hy
    rcases hy with rfl | rfl <;> rfl
  · by_cases q : y = x
    · subst q
      cases hD.symm.trans hy
      exact ⟨E', q1.1, q2.2.1, q2.1, hsz⟩
    · exact ⟨cy, q10 y cy q hy, rfl, rfl, rfl⟩
  · obtain ⟨D3, cf, k, i, f, g1, g2, g3, g4, g5, g6, g7⟩ := F
    cases hD.symm.trans g1
    simp only [RoadKit.slotOf, g2, gV, gC, Option.map_some, Option.getD_some] at n1 n2
    exact ⟨E', cf, k, i, f, q1.1, g2, g3, by rw [q2.1]; exact g4, by rw [q2.1]; exact g5, by rw [q2.2.1]; exact g6, by rw [q2.2.2 f.slot (by simp [n1, n2])]; exact g7⟩
end StrChars.Road
namespace StrChars.Road
open Jvm Sem ClassFile Op Lib Jvm.Stand Jvm.Free Jvm.Free.XT
/-- WHAT COMES BACK, the byte[] as a list of values -/
def QA (Z : State) (x : Addr) (zn : Int32) (cs : List Int32) (h : Heap) (v : Option Value) (h' : Heap) (L : List Loc) : Prop := v = none ∧ (∀ y ∈ L, y.base = x) ∧ RoadKit.Keep h h' [x] ∧ h'.size = h.size + 1 ∧ RoadKit.Exa Z h' x ST ∧ RoadKit.Fld Z h' x ST "value" "[B" (.ref h.size) ∧ RoadKit.Fld Z h' x ST "coder" "B" (.int 0) ∧
  (∃ kb, Z.vm.findClass "[B" = some kb ∧ RoadKit.Arv Z h' h.size kb .byte zn (cs.map fun c => .int (lo8 c)) (.int 0)) ∧
  ∀ (O n d : String) (w : Value), RoadKit.Fld Z h x O n d w → RoadKit.slotOf Z O n d ≠ RoadKit.slotOf Z ST "value" "[B" → RoadKit.slotOf Z O n d ≠ RoadKit.slotOf Z ST "coder" "B" → RoadKit.Fld Z h' x O n d w
/-- **new String(chars) AT A CALL, THE ARRAYS AS LISTS**: the char[] at b holds cs, not empty, no char above 255 -/
theorem backArv {p : Program} {l : Launch} {e : Env} {R : Room} {s : State} {args : Array Value} {below : List Frame} {len W : Nat} {Z : State} {a0 : Array Value} {h : Heap} (hZ : Z.Warmed39 s.vm) (hw : ∀ d ∈ words, d.before a0 Z = true) {kI : Nat} (wi : (Jvm.Cond.instantiable ST kI).before a0 Z = true)
    {x b : Addr} {k : ClassId} {zn z : Int32} {cs : List Int32} {dv v0 c0 : Value} (E : RoadKit.Exa Z h x ST) (V : RoadKit.Fld Z h x ST "value" "[B" v0) (C : RoadKit.Fld Z h x ST "coder" "B" c0) (K : RoadKit.Arv Z h b k .char zn (cs.map Value.int) dv) (S : RoadKit.Sta Z h ST "COMPACT_STRINGS" "Z" (.int z)) (hz : ¬ z = 0)
    (hlen : zn.toNatClampNeg = cs.length) (h0 : 0 < cs.length) (hbig : cs.length ≤ 536870912) (hall : ∀ c ∈ cs, ¬ 255 < c) (hfr : 4 ≤ R.frames) (hlo : W + 65 ≤ R.locals) :
    Back l R p e below s args New1.yN len W (fun P a => a = #[.ref x, .ref b] ∧ P.U.heap = h ∧ P.cells + 1 ≤ R.cells ∧ P.slots + cs.length ≤ R.slots)
      (fun P _ v B => ∃ L, QA Z x zn cs h v B.U.heap L ∧ B.locs = P.locs ++ L ∧ B.cells = P.cells + 1 ∧ B.slots = P.slots + cs.length) := by
  obtain ⟨A, K1, K2, K3, K4, K5, K6⟩ := K
  have e : A.slots.size = cs.length := K3.trans hlen
  have hat : ∀ (i : Nat) (hi : i < cs.length), A.slots[i]? = some (.int cs[i]) := fun i hi => by rw [K5 i (by omega)]; simp [List.getD_eq_getElem?_getD, hi]
  have hcv : ∀ (i : Nat) (hi : i < cs.length), cv A i = cs[i] := fun i hi => by unfold cv; rw [hat i hi]
  have hty : Typed .char A := fun i v hv => by
    have hi : i < A.slots.size := (Array.getElem?_eq_some_iff.mp hv).1
    have q := K5 i hi
    rw [hv] at q
    rw [Option.some.inj q]
    exact K6 i hi
  refine Back.mono (back hZ hw wi E V C K1 hty S hz (by omega) (by omega) (fun i hi => by rw [hcv i (by omega)]; exact hall _ (List.getElem_mem _)) hfr hlo) (fun P a hp => ⟨hp.1, hp.2.1, hp.2.2.1, by rw [e]; exact hp.2.2.2⟩) (fun P a v B hp hq => ?_)
  obtain ⟨L, ⟨q1, q2, q3, q4, q5, q6, q7, ⟨V', v1, v2, v3, v4, v5⟩, q9⟩, hl, hc, hs⟩ := hq
  refine ⟨L, ⟨q1, q2, q3, q4, q5, q6, q7, ⟨V'.cls, v3, V', v1, rfl, by rw [v4, e, hlen], K4, fun i hi => ?_, fun i hi => ?_⟩, q9⟩, hl, hc, by rw [hs, e]⟩
  · have hi' : i < cs.length := by omega
    rw [v5 i (by omega), hcv i hi']; simp [List.getD_eq_getElem?_getD, hi']
  · have hi' : i < cs.length := by omega
    simp only [List.getD_eq_getElem?_getD, List.getElem?_map, List.getElem?_eq_getElem hi', Option.map_some, Option.getD_some]
    exact fits_lo8 _
end StrChars.Road
namespace StrChars.Road
open Jvm Sem ClassFile Op Lib Jvm.Stand Jvm.Free Jvm.Free.XT
/-- WHAT COMES BACK, in the writer's own shape -/
def QV (Z : State) (x : Addr) (N : Int32) (bs : List Int32) (h : Heap) (n0 : Nat) (v : Option Value) (h' : Heap) (L : List Loc) : Prop := v = none ∧ RoadKit.Fr n0 L ∧ RoadKit.Keep h h' [x] ∧ RoadKit.Exa Z h' x ST ∧ RoadKit.Fld Z h' x ST "coder" "B" (.int 0) ∧
  ∃ (t : Addr) (kb : ClassId), n0 ≤ t ∧ h.size ≤ t ∧ ¬ t = x ∧ RoadKit.Fld Z h' x ST "value" "[B" (.ref t) ∧ RoadKit.Arv Z h' t kb .byte N (bs.map Value.int) (.int 0)
/-- **new String(chars) AT A CALL, FOR THE WRITER**: a char[] of n known ints, each 0 to 255 -/
theorem backV {p : Program} {l : Launch} {e : Env} {R : Room} {s : State} {args : Array Value} {below : List Frame} {len W : Nat} {Z : State} {a0 : Array Value} {h : Heap} (hZ : Z.Warmed39 s.vm) (hw : ∀ d ∈ words, d.before a0 Z = true) {kI : Nat} (wi : (Jvm.Cond.instantiable ST kI).before a0 Z = true)
    {x b : Addr} {kC : ClassId} {cs bs : List Int32} {d v0 c0 : Value} {z N : Int32} {n n0 : Nat} (hx0 : n0 ≤ x) (hh0 : n0 ≤ h.size) (E : RoadKit.Exa Z h x ST) (V : RoadKit.Fld Z h x ST "value" "[B" v0) (C : RoadKit.Fld Z h x ST "coder" "B" c0) (K : RoadKit.Arv Z h b kC .char N (cs.map Value.int) d) (S : RoadKit.Sta Z h ST "COMPACT_STRINGS" "Z" (.int z)) (hz : ¬ z = 0)
    (hn : cs.length = n) (hN : N = Int32.ofNat n) (l0 : 0 < n) (l2 : n ≤ 4000) (hp : ∀ c ∈ cs, ¬ c < 0 ∧ ¬ (255 : Int32) < c) (hb : bs = cs.map (fun c => c.toInt8.toInt32)) (hfr : 4 ≤ R.frames) (hlo : W + 65 ≤ R.locals) :
    Back l R p e below s args (⟨"java/lang/String", "<init>", "([C)V"⟩ : MethodName) len W (fun P a => a = #[.ref x, .ref b] ∧ P.U.heap = h ∧ P.cells + 1 ≤ R.cells ∧ P.slots + n ≤ R.slots)
      (fun P _ v B => ∃ L, QV Z x N bs h n0 v B.U.heap L ∧ B.locs = P.locs ++ L ∧ B.cells = P.cells + 1 ∧ B.slots = P.slots + n) := by
  subst hn hN hb
  refine Back.mono (backArv hZ hw wi E V C K S hz (n32 (by omega)) l0 (by omega) (fun c hc => (hp c hc).2) hfr hlo) (fun P a hp => hp) (fun P a v B hp hq => ?_)
  obtain ⟨L, ⟨q1, q2, q3, q4, q5, q6, q7, ⟨kb, v1, v2⟩, q9⟩, hl, hc, hs⟩ := hq
  exact ⟨L, ⟨q1, fun y hy => by rw [q2 y hy]; exact hx0, q3, q5, q7, h.size, kb, hh0, Nat.le_refl _, Nat.ne_of_gt E.lt, q6, by rw [List.map_map]; exact v2⟩, hl, hc, hs⟩
end StrChars.Road
namespace StrChars
open Jvm Sem ClassFile Op Lib Jvm.Stand Jvm.Free.XT Jvm.Free.ALB Jvm.Free.JM Jvm.Free
open Jvm.Lib.Cold (StaticIs)
def hi8 (x : Int32) : Int32 := lo8 (x >>> ((8 : Int32) &&& 31))
/-- what StringUTF16.getChar makes of two bytes -/
def pairCh (u v : Int32) : Int32 := (((u &&& 255) <<< ((0 : Int32) &&& 31)) ||| ((v &&& 255) <<< ((8 : Int32) &&& 31))).toUInt32.toUInt16.toUInt32.toInt32
theorem lo8_and (x : Int32) : (lo8 x &&& 255).toBitVec.toNat = x.toBitVec.toNat % 256 := by
  have h : (lo8 x).toBitVec = (x.toBitVec.signExtend 8).signExtend 32 := by rw [lo8, Int8.toBitVec_toInt32, Int32.toBitVec_toInt8]
  rw [Int32.toBitVec_and, BitVec.toNat_and, h]
  have e : ((x.toBitVec.signExtend 8).signExtend 32).toNat % 256 = x.toBitVec.toNat % 256 := by
    rw [BitVec.toNat_signExtend]
    have hlt := x.toBitVec.isLt
    simp only [BitVec.toNat_setWidth, BitVec.toNat_signExtend]
    split <;> split <;> omega
  rw [← e]
  exact Nat.and_two_pow_sub_one_eq_mod _ 8
theorem pair_says {c : Int32} (h0 : ¬ c < 0) (h1 : ¬ 65535 < c) : pairCh (lo8 c) (hi8 c) = c := by
  rw [Int32.lt_iff_toInt_lt] at h0 h1
  have e0 : (0 : Int32).toInt = 0 := rfl
  have e1 : (65535 : Int32).toInt = 65535 := rfl
  have hc : c.toInt = c.toBitVec.toNat := by
    have := c.toBitVec.isLt
    have e : c.toInt = c.toBitVec.toInt := rfl
    rw [e] at h0 h1
    rw [e]
    rw [BitVec.toInt_eq_toNat_cond] at h0 h1 ⊢
    split at h0 <;> split <;> omega
  have hn : c.toBitVec.toNat < 65536 := by omega
  have a1 := lo8_and c
  have a2 : (hi8 c &&& 255).toBitVec.toNat = c.toBitVec.toNat / 256 := by
    rw [hi8, lo8_and]
    have e : ((8 : Int32) &&& 31) = 8 := by decide
    rw [e, Int32.toBitVec_shiftRight]
    have e2 : ((8 : Int32).toBitVec.smod 32) = 8#32 := by decide
    rw [e2, BitVec.sshiftRight_eq', BitVec.toNat_sshiftRight_of_msb_false (by rw [BitVec.msb_eq_false_iff_two_mul_lt]; omega)]
    show c.toBitVec.toNat >>> 8 % 256 = _
    rw [Nat.shiftRight_eq_div_pow]
    omega
  unfold pairCh
  apply Int32.toBitVec_inj.mp
  apply BitVec.eq_of_toNat_eq
  have f0 : ((0 : Int32) &&& 31) = 0 := by decide
  have f8 : ((8 : Int32) &&& 31) = 8 := by decide
  rw [f0, f8]
  have g : (((lo8 c &&& 255) <<< (0 : Int32)) ||| ((hi8 c &&& 255) <<< (8 : Int32))).toBitVec.toNat = c.toBitVec.toNat := by
    rw [Int32.toBitVec_or, Int32.toBitVec_shiftLeft, Int32.toBitVec_shiftLeft]
    have s0 : ((0 : Int32).toBitVec.smod 32) = 0#32 := by decide
    have s8 : ((8 : Int32).toBitVec.smod 32) = 8#32 := by decide
    rw [s0, s8, BitVec.toNat_or]
    simp only [BitVec.shiftLeft_eq', BitVec.toNat_shiftLeft, a1, a2]
    show (c.toBitVec.toNat % 256) <<< 0 % 2 ^ 32 ||| (c.toBitVec.toNat / 256) <<< 8 % 2 ^ 32 = _
    rw [Nat.shiftLeft_zero, Nat.mod_eq_of_lt (show c.toBitVec.toNat % 256 < 2 ^ 32 by omega), Nat.mod_eq_of_lt (show (c.toBitVec.toNat / 256) <<< 8 < 2 ^ 32 by rw [Nat.shiftLeft_eq]; omega), Nat.or_comm, ← Nat.shiftLeft_add_eq_or_of_lt (by omega), Nat.shiftLeft_eq]
    omega
  show BitVec.toNat (((((lo8 c &&& 255) <<< (0 : Int32)) ||| ((hi8 c &&& 255) <<< (8 : Int32))).toBitVec.setWidth 16).setWidth 32) = _
  rw [BitVec.toNat_setWidth, BitVec.toNat_setWidth, g]
  omega
end StrChars
namespace StrChars
open Jvm Sem ClassFile Op Lib Jvm.Stand Jvm.Free.XT Jvm.Free.ALB Jvm.Free.JM Jvm.Free
open Jvm.Lib.Cold (StaticIs)
/-- charAt's cast of a byte read back -/
def chr8 (u : Int32) : Int32 := (u &&& 255).toUInt32.toUInt16.toUInt32.toInt32
theorem chr8_lo8 {c : Int32} (h0 : ¬ c < 0) (h1 : ¬ 255 < c) : chr8 (lo8 c) = c := by
  have t : ∀ k : Fin 256, (Int32.ofNat k.val).toUInt32.toUInt16.toUInt32.toInt32 = Int32.ofNat k.val := by decide +kernel
  unfold chr8
  rw [lo8_mask h0 h1]
  rw [Int32.lt_iff_toInt_lt] at h0 h1
  have e0 : (0 : Int32).toInt = 0 := rfl
  have e1 : (255 : Int32).toInt = 255 := rfl
  obtain ⟨k, hk⟩ : ∃ k : Nat, c.toInt = k := ⟨c.toInt.toNat, by omega⟩
  have hx : c = Int32.ofNat k := Int32.toInt_inj.mp (by rw [hk, Int32.toInt_ofNat_small (by omega)])
  rw [hx]
  exact t ⟨k, by omega⟩
theorem narrow_ch {c : Int32} (h0 : ¬ c < 0) (h1 : ¬ 65535 < c) : narrow .char (.int c) = .int c := by
  have q : narrow .char (.int (pairCh (lo8 c) (hi8 c))) = .int (pairCh (lo8 c) (hi8 c)) := narrow_c _
  rwa [pair_says h0 h1] at q
/-- the array's cell V codes the n chars f 0 .. f (n - 1) by the coder cd, as the JDK does: coder 1 just where some char is above 255 -/
def Cod (cd : Int32) (n : Nat) (f : Nat → Int32) (V : Cell) : Prop := (cd = 0 ∧ V.slots.size = n ∧ ∀ j, j < n → V.slots[j]? = some (.int (lo8 (f j))) ∧ ¬ 255 < f j) ∨ (cd = 1 ∧ V.slots.size = 2 * n ∧ (∀ j, j < n → V.slots[2 * j]? = some (.int (lo8 (f j))) ∧ V.slots[2 * j + 1]? = some (.int (hi8 (f j)))) ∧ ∃ j, j < n ∧ 255 < f j)
theorem Cod.cd {cd : Int32} {n : Nat} {f : Nat → Int32} {V : Cell} (h : Cod cd n f V) : cd = 0 ∨ cd = 1 := h.imp (fun q => q.1) fun q => q.1
/-- **x is a String of the n chars f 0 .. f (n - 1)**, Latin-1 or UTF-16; its array at t has the cell V -/
def Txt (x t : Addr) (V : Cell) (cd : Int32) (n : Nat) (f : Nat → Int32) (U : State) : Prop := Exact "java/lang/String" x U ∧ Has x "java/lang/String" "value" "[B" (.ref t) U ∧ Has x "java/lang/String" "coder" "B" (.int cd) U ∧ XT.Arr .byte t V U ∧ Cod cd n f V ∧ ∀ j, j < n → ¬ f j < 0 ∧ ¬ 65535 < f j
theorem Txt.mv {x t : Addr} {V : Cell} {cd : Int32} {n : Nat} {f : Nat → Int32} {U U' : State} (h : Txt x t V cd n f U) (hal : U.vm.Alike U'.vm) (hh : U'.heap = U.heap) : Txt x t V cd n f U' := ⟨h.1.mv hal hh, h.2.1.mv hal hh, h.2.2.1.mv hal hh, h.2.2.2.1.mv hal hh, h.2.2.2.2⟩
namespace IsL
def yN : MethodName := ⟨"java/lang/String", "isLatin1", "()Z"⟩
abbrev yB : ByteArray := jdk_42_method_154_code
theorem d0 : decode yB 0 = .ok (.getstatic 38, 3) := by decide +kernel
theorem d3 : decode yB 3 = .ok (.ifCond (.eq) 14, 3) := by decide +kernel
theorem d6 : decode yB 6 = .ok (.aload_n 0, 1) := by decide +kernel
theorem d7 : decode yB 7 = .ok (.getfield 15, 3) := by decide +kernel
theorem d10 : decode yB 10 = .ok (.ifCond (.ne) 7, 3) := by decide +kernel
theorem d13 : decode yB 13 = .ok (.iconst 1, 1) := by decide +kernel
theorem d14 : decode yB 14 = .ok (.goto 4, 3) := by decide +kernel
theorem d17 : decode yB 17 = .ok (.iconst 0, 1) := by decide +kernel
theorem d18 : decode yB 18 = .ok (.ireturn, 1) := by decide +kernel
def site : List Cond := [.fieldLink "java/lang/String" 38 "java/lang/String" "COMPACT_STRINGS" "Z", .fieldLink "java/lang/String" 15 "java/lang/String" "coder" "B"]
def tab : Cond := tabOf yN yB 1 (some .boolean) site
def P (x : Addr) (cd z : Int32) (args : Array Value) (s : State) : Prop := args = #[.ref x] ∧ Has x "java/lang/String" "coder" "B" (.int cd) s ∧ (cd = 0 ∨ cd = 1) ∧ StaticIs s "java/lang/String" "COMPACT_STRINGS" "Z" (.int z) ∧ ¬ z = 0
def E (cd : Int32) (r : Option Value) (s u : State) : Prop := XT.PureE (some (.int (1 - cd))) r s u
theorem law (l : Launch) (x : Addr) (cd z : Int32) : Law l yN 1 0 0 0 yB 1 (some .boolean) site (P x cd z) (E cd) [] 0 0 := by
  refine Law.of_walk (plainFor_of_name (by decide +kernel)) (by decide +kernel) (by decide +kernel) (by decide) (fun _ _ h => by rw [h.1]; rfl) (fun _ U U' hal hh h => ⟨h.1, h.2.1.mv hal hh, h.2.2.1, h.2.2.2.1.there hal hh, h.2.2.2.2⟩) (fun r U U' V V' h1 hal h2 h => XT.PureE.mv r U U' V V' h1 hal h2 h) ?_
  intro p e s m args below meth c s₁ X0 hexec hbytes hml hret hlk hnm hown hh0 W hP
  obtain ⟨rfl, hx, hc, s1, hz⟩ := hP
  have c1 : Steps p.tables e below (s₁.setTop (entryFrame m #[.ref x] 1)) (s₁.setTop (mkF m 0 #[.val (.ref x)] [])) := entry rfl
  obtain ⟨T2, X2, q2, st2⟩ := X0.sget hexec hown (wk W (.fieldLink "java/lang/String" 38 "java/lang/String" "COMPACT_STRINGS" "Z")) s1 (fun _ _ h => by rw [hh0]; exact h) (g := (mkF m 0 #[.val (.ref x)] [])) rfl (hb hbytes d0)
  have hh2 := q2.trans hh0
  have c3 : Steps p.tables e below (s₁.setTop (entryFrame m #[.ref x] 1)) (T2.setTop (mkF m 7 #[.val (.ref x)] [.ref x])) := (c1.trans (st2 _ (Steps.refl _))).trans (by
    refine XS.ifNo X2.here hexec rfl (hb hbytes d3) rfl (i0_eq_f hz) ?_
    refine XS.aloadN X2.here hexec rfl (hb hbytes d6) rfl rfl ?_
    exact Steps.refl _)
  obtain ⟨T4, X4, q4, st4⟩ := X2.hget hexec hown (wk W (.fieldLink "java/lang/String" 15 "java/lang/String" "coder" "B")) (hx.mv X2.warmed.alike hh2) (g := (mkF m 7 #[.val (.ref x)] [.ref x])) rfl (rest := []) rfl (hb hbytes d7)
  have c5 : Steps p.tables e below (s₁.setTop (entryFrame m #[.ref x] 1)) (T4.setTop (mkF m 10 #[.val (.ref x)] [.int cd])) := c3.trans (st4 _ (Steps.refl _))
  have c6 : Steps p.tables e below (s₁.setTop (entryFrame m #[.ref x] 1)) (T4.setTop (mkF m 18 #[.val (.ref x)] [.int (1 - cd)])) := by
    rcases hc with rfl | rfl
    · exact c5.trans (by
        refine XS.ifNo X4.here hexec rfl (hb hbytes d10) rfl (i0_ne_f rfl) ?_
        refine iconstV X4.here hexec rfl 1 (hb hbytes d13) (by decide) ?_
        refine XS.goto X4.here hexec rfl (pc0 := 14) rfl (hb hbytes d14) (by decide) rfl ?_
        exact Steps.refl _)
    · exact c5.trans (by
        refine XS.ifYes X4.here hexec rfl (pc0 := 10) rfl (hb hbytes d10) rfl (i0_ne_t (by decide)) (by decide) rfl ?_
        refine iconstV X4.here hexec rfl 0 (hb hbytes d17) (by decide) ?_
        exact Steps.refl _)
  exact ⟨T4, some (.int (1 - cd)), _, _, _, X4, rfl, rfl, rfl, (fun h => by cases h), ⟨rfl, q4.trans hh2⟩, fun fs hl => c6.trans (X4.ireturnOut hexec hret (by rcases hc with rfl | rfl <;> rfl) (Or.inr (Or.inl rfl)) (hb hbytes d18) hl)⟩
end IsL
namespace LChA
def yN : MethodName := ⟨"java/lang/StringLatin1", "charAt", "([BI)C"⟩
abbrev yB : ByteArray := jdk_43_method_2_code
theorem d0 : decode yB 0 = .ok (.iload_n 1, 1) := by decide +kernel
theorem d1 : decode yB 1 = .ok (.aload_n 0, 1) := by decide +kernel
theorem d2 : decode yB 2 = .ok (.arraylength, 1) := by decide +kernel
theorem d3 : decode yB 3 = .ok (.invokestatic 9, 3) := by decide +kernel
theorem d6 : decode yB 6 = .ok (.aload_n 0, 1) := by decide +kernel
theorem d7 : decode yB 7 = .ok (.iload_n 1, 1) := by decide +kernel
theorem d8 : decode yB 8 = .ok (.baload, 1) := by decide +kernel
theorem d9 : decode yB 9 = .ok (.sipush 255, 3) := by decide +kernel
theorem d12 : decode yB 12 = .ok (.iand, 1) := by decide +kernel
theorem d13 : decode yB 13 = .ok (.i2c, 1) := by decide +kernel
theorem d14 : decode yB 14 = .ok (.ireturn, 1) := by decide +kernel
def site : List Cond := [JO.Str_checkIndex.tab] ++ staticW "java/lang/StringLatin1" 9 JO.Str_checkIndex.yN
def tab : Cond := tabOf yN yB 2 (some .char) site
def P (t : Addr) (V : Cell) (i : Nat) (u : Int32) (fm : Value) (args : Array Value) (s : State) : Prop := args = #[.ref t, .int (Int32.ofNat i)] ∧ XT.Arr .byte t V s ∧ V.slots[i]? = some (.int u) ∧ (StaticIs s "jdk/internal/util/Preconditions" "SIOOBE_FORMATTER" "Ljava/util/function/BiFunction;" fm ∧ fm.isRef = true)
def E (u : Int32) (r : Option Value) (s w : State) : Prop := XT.PureE (some (.int (chr8 u))) r s w
theorem law (l : Launch) (t : Addr) (V : Cell) (i : Nat) (u : Int32) (fm : Value) : Law l yN 2 2 2 27 yB 2 (some .char) site (P t V i u fm) (E u) [] 0 0 := by
  refine Law.of_walk (plainFor_of_name (by decide +kernel)) (by decide +kernel) (by decide +kernel) (by decide) (fun _ _ h => by rw [h.1]; rfl) (fun _ U U' hal hh h => ⟨h.1, h.2.1.mv hal hh, h.2.2.1, h.2.2.2.1.there hal hh, h.2.2.2.2⟩) (fun r U U' V V' h1 hal h2 h => XT.PureE.mv r U U' V V' h1 hal h2 h) ?_
  intro p e s m args below meth c s₁ X0 hexec hbytes hml hret hlk hnm hown hh0 W hP
  obtain ⟨rfl, hV, hu, s1, rf⟩ := hP
  have v31 := hV.2.2.2
  have hi : i < V.slots.size := (Array.getElem?_eq_some_iff.mp hu).1
  have c1 : Steps p.tables e below (s₁.setTop (entryFrame m #[.ref t, .int (Int32.ofNat i)] 2)) (s₁.setTop (mkF m 0 #[.val (.ref t), .val (.int (Int32.ofNat i))] [])) := entry rfl
  have c2 : Steps p.tables e below (s₁.setTop (entryFrame m #[.ref t, .int (Int32.ofNat i)] 2)) (s₁.setTop (mkF m 3 #[.val (.ref t), .val (.int (Int32.ofNat i))] [.int (Int32.ofNat V.slots.size), .int (Int32.ofNat i)])) := c1.trans (by
    refine XS.iloadN X0.here hexec rfl (hb hbytes d0) rfl ?_
    refine XS.aloadN X0.here hexec rfl (hb hbytes d1) rfl rfl ?_
    refine X0.alen hexec (hV.mv X0.warmed.alike hh0) rfl rfl (hb hbytes d2) ?_
    exact Steps.refl _)
  obtain ⟨v3, T3, X3, E3, g3⟩ := X0.callS hexec (JO.Str_checkIndex.law l (Int32.ofNat i) (Int32.ofNat V.slots.size) fm) hown (wks W (staticW "java/lang/StringLatin1" 9 JO.Str_checkIndex.yN)) (wk W JO.Str_checkIndex.tab) (W := 0) (Nat.le_of_ble_eq_true rfl) (Nat.le_of_ble_eq_true rfl) (Nat.le_refl _) (Nat.le_refl _) (g := (mkF m 3 #[.val (.ref t), .val (.int (Int32.ofNat i))] [.int (Int32.ofNat V.slots.size), .int (Int32.ofNat i)])) rfl (by rw [hml]; rfl) c2 (argsL := [.int (Int32.ofNat i), .int (Int32.ofNat V.slots.size)]) (rest := []) rfl rfl (by show 2 * 0 + 0 ≤ _; decide) (hb hbytes d3) (⟨rfl, rf, s1.there X0.warmed.alike hh0, Int32.ofNat_not_neg (by omega), lt32 v31 hi⟩)
  obtain ⟨rfl, q3⟩ := E3
  have hh3 := q3.trans hh0
  have c4 : Steps p.tables e below (s₁.setTop (entryFrame m #[.ref t, .int (Int32.ofNat i)] 2)) (T3.setTop (mkF m 14 #[.val (.ref t), .val (.int (Int32.ofNat i))] [.int (chr8 u)])) := Steps.trans g3 (by
    refine XS.aloadN X3.here hexec rfl (hb hbytes d6) rfl rfl ?_
    refine XS.iloadN X3.here hexec rfl (hb hbytes d7) rfl ?_
    refine X3.aget hexec (hV.mv X3.warmed.alike hh3) rfl hu rfl rfl (hb hbytes d8) ?_
    refine sipushV X3.here hexec rfl 255 (hb hbytes d9) (by decide) ?_
    refine XS.iand X3.here hexec rfl (hb hbytes d12) rfl ?_
    refine i2c X3.here hexec rfl (hb hbytes d13) rfl ?_
    exact Steps.refl _)
  exact ⟨T3, some (.int (chr8 u)), _, _, _, X3, rfl, rfl, rfl, (fun h => by cases h), ⟨rfl, hh3⟩, fun fs hl => c4.trans (X3.ireturnOut hexec hret (narrow_c _) (Or.inr (Or.inr (Or.inr (Or.inl rfl)))) (hb hbytes d14) hl)⟩
end LChA
end StrChars
namespace StrChars.Road
open Jvm Sem ClassFile Op Lib Jvm.Stand Jvm.Free Jvm.Free.XT
open Jvm.Lib.Cold (StaticIs)
theorem consq {a : Array Value} {s : State} {c : Jvm.Cond} {L : List Jvm.Cond} (h0 : c.before a s = true) (h : ∀ w ∈ L, w.before a s = true) : ∀ w ∈ c :: L, w.before a s = true := fun w hw => (List.mem_cons.mp hw).elim (fun e => e ▸ h0) (h w)
/-- the bytes of the chars cs, low before high -/
def wideBytes : List Int32 → List Value
  | [] => []
  | c :: cs => .int (lo8 c) :: .int (hi8 c) :: wideBytes cs
theorem wide_lo (d : Value) : ∀ (cs : List Int32) (j : Nat), j < cs.length → (wideBytes cs).getD (2 * j) d = .int (lo8 (cs.getD j 0))
  | [], j, h => absurd h (Nat.not_lt_zero j)
  | c :: cs, 0, _ => rfl
  | c :: cs, j + 1, h => by
    have q := wide_lo d cs j (by simpa using h)
    rw [show 2 * (j + 1) = 2 * j + 1 + 1 from by omega]
    simpa [wideBytes] using q
theorem wide_hi (d : Value) : ∀ (cs : List Int32) (j : Nat), j < cs.length → (wideBytes cs).getD (2 * j + 1) d = .int (hi8 (cs.getD j 0))
  | [], j, h => absurd h (Nat.not_lt_zero j)
  | c :: cs, 0, _ => rfl
  | c :: cs, j + 1, h => by
    have q := wide_hi d cs j (by simpa using h)
    rw [show 2 * (j + 1) + 1 = 2 * j + 1 + 1 + 1 from by omega]
    simpa [wideBytes] using q
theorem low_at (d : Value) (cs : List Int32) (j : Nat) (h : j < cs.length) : (cs.map fun c => Value.int (lo8 c)).getD j d = .int (lo8 (cs.getD j 0)) := by
  simp [List.getD_eq_getElem?_getD, h]
/-- an array of N2 bytes vs codes the chars cs by the coder cd -/
def CodA (cs : List Int32) (cd N2 : Int32) (vs : List Value) : Prop := (cd = 0 ∧ N2 = Int32.ofNat cs.length ∧ vs = (cs.map fun c => Value.int (lo8 c)) ∧ ∀ c ∈ cs, ¬ 255 < c) ∨ (cd = 1 ∧ N2 = Int32.ofNat (2 * cs.length) ∧ vs = wideBytes cs ∧ ∃ c ∈ cs, 255 < c)
theorem CodA.cod {cs : List Int32} {cd N2 : Int32} {vs : List Value} {V : Cell} (h : CodA cs cd N2 vs) (hn : 2 * cs.length < 2 ^ 31) (hs : V.slots.size = N2.toNatClampNeg) (hv : RoadKit.Has V vs (.int 0)) : Cod cd cs.length (fun j => cs.getD j 0) V := by
  rcases h with ⟨rfl, rfl, rfl, h⟩ | ⟨rfl, rfl, rfl, c, hc, hw⟩
  · rw [n32 (by omega)] at hs
    exact Or.inl ⟨rfl, hs, fun j hj => ⟨by rw [hv j (by omega), low_at _ _ _ hj], by
      have e : cs.getD j 0 = cs[j] := by simp [List.getD_eq_getElem?_getD, hj]
      show ¬ 255 < cs.getD j 0
      rw [e]; exact h _ (List.getElem_mem _)⟩⟩
  · rw [n32 (by omega)] at hs
    obtain ⟨j, hj, rfl⟩ := List.getElem_of_mem hc
    exact Or.inr ⟨rfl, hs, fun j hj => ⟨by rw [hv _ (by omega), wide_lo _ _ _ hj], by rw [hv _ (by omega), wide_hi _ _ _ hj]⟩, j, hj, by
      have e : cs.getD j 0 = cs[j] := by simp [List.getD_eq_getElem?_getD, hj]
      show 255 < cs.getD j 0
      rw [e]; exact hw⟩
/-- an object of exactly java/lang/String, its two fields found: as the laws ask it -/
theorem strObj {Z U : State} {a0 : Array Value} {kI : Nat} (wi : (Jvm.Cond.instantiable ST kI).before a0 Z = true) (al : Z.vm.Alike U.vm) {x : Addr} {v0 c0 : Value} (E : RoadKit.Exa Z U.heap x ST) (V : RoadKit.Fld Z U.heap x ST "value" "[B" v0) (C : RoadKit.Fld Z U.heap x ST "coder" "B" c0) :
    ∃ (D : Cell) (fV fC : Field), Blank ST x D U ∧ Found ST "value" "[B" fV U ∧ Found ST "coder" "B" fC U ∧ D.slots[fV.slot]? = some v0 ∧ D.slots[fC.slot]? = some c0 ∧ RoadKit.slotOf Z ST "value" "[B" = fV.slot ∧ RoadKit.slotOf Z ST "coder" "B" = fC.slot := by
  obtain ⟨D, cfV, kV, iV, fV, hD, gV, stV, knV, obV, asV, slV⟩ := V
  obtain ⟨D', cfC, kC, iC, fC, hD', gC, stC, -, -, asC, slC⟩ := C
  cases hD.symm.trans hD'
  obtain ⟨D2, kD, e1, e2, e3, e4, e5⟩ := E
  cases hD.symm.trans e1
  obtain ⟨c2, k2, i1, i2, i3, -⟩ := Cond.instantiable_spec wi
  cases e2.symm.trans i1
  cases e3.symm.trans i2
  obtain ⟨kU, u1, u2⟩ := al.2.2 _ _ e3
  exact ⟨D, fV, fC, ⟨hD, ⟨knV, fun q hq => by rw [hq] at obV; cases obV⟩, by rw [al.findClass]; exact e2, kU, u1, by rw [u2]; exact i3, by rw [u2]; exact e5 i3⟩, ⟨SBG.found_only al ⟨cfV, kV, iV, gV⟩, stV⟩, ⟨SBG.found_only al ⟨cfC, kC, iC, gC⟩, stC⟩, slV, slC, by simp [RoadKit.slotOf, gV], by simp [RoadKit.slotOf, gC]⟩
theorem sta_is {Z U : State} (al : Z.vm.Alike U.vm) {C n d : String} {v : Value} (S : RoadKit.Sta Z U.heap C n d v) : StaticIs U C n d v := by
  obtain ⟨cfS, iS, kS, fS, st, cS, t1, t2, t3, t4, t5, t6, t7⟩ := S
  exact StaticIs.there (s := { Z with heap := U.heap }) ⟨cfS, iS, kS, fS, st, cS, t1, t2, t3, t4, t5, (fun q => by rw [q] at t6; cases t6), t7⟩ al rfl
end StrChars.Road
namespace StrChars
open Jvm Sem ClassFile Op Lib Jvm.Stand Jvm.Free.XT Jvm.Free.ALB Jvm.Free.JM Jvm.Free
open Jvm.Lib.Cold (StaticIs)
/-- what place i of a byte[]'s cell holds -/
def yv (A : Cell) (i : Nat) : Int32 := match A.slots[i]? with | some (.int x) => x | _ => 0
theorem yv_get {a : Addr} {A : Cell} {U : State} (h : XT.Arr .byte a A U) (ht : Typed .byte A) {i : Nat} (hi : i < A.slots.size) : A.slots[i]? = some (.int (yv A i)) := by
  have e := Array.getElem?_eq_getElem hi
  have f := ht i _ e
  unfold yv; rw [e]
  generalize A.slots[i] = v at f
  cases v <;> simp [fits] at f ⊢
/-- the two arrays are equal, place for place -/
def EqC (A B : Cell) : Prop := A.slots.size = B.slots.size ∧ ∀ i, i < A.slots.size → yv A i = yv B i
/-- a boolean that says whether p -/
def Says01 (q : Prop) (r : Option Value) (s u : State) : Prop := ∃ v : Int32, r = some (.int v) ∧ u.heap = s.heap ∧ ((v = 1 ∧ q) ∨ (v = 0 ∧ ¬ q))
theorem Says01.mv {q : Prop} : ∀ r (U U' V V' : State), U'.heap = U.heap → V.vm.Alike V'.vm → V'.heap = V.heap → Says01 q r U V → Says01 q r U' V' :=
  fun r U U' V V' h1 _ h2 ⟨v, a, b, c⟩ => ⟨v, a, by rw [h1, h2]; exact b, c⟩
namespace LEq
def yN : MethodName := ⟨"java/lang/StringLatin1", "equals", "([B[B)Z"⟩
abbrev yB : ByteArray := jdk_43_method_13_code
theorem d0 : decode yB 0 = .ok (.aload_n 0, 1) := by decide +kernel
theorem d1 : decode yB 1 = .ok (.arraylength, 1) := by decide +kernel
theorem d2 : decode yB 2 = .ok (.aload_n 1, 1) := by decide +kernel
theorem d3 : decode yB 3 = .ok (.arraylength, 1) := by decide +kernel
theorem d4 : decode yB 4 = .ok (.if_icmp (.ne) 30, 3) := by decide +kernel
theorem d7 : decode yB 7 = .ok (.iconst 0, 1) := by decide +kernel
theorem d8 : decode yB 8 = .ok (.istore_n 2, 1) := by decide +kernel
theorem d9 : decode yB 9 = .ok (.iload_n 2, 1) := by decide +kernel
theorem d10 : decode yB 10 = .ok (.aload_n 0, 1) := by decide +kernel
theorem d11 : decode yB 11 = .ok (.arraylength, 1) := by decide +kernel
theorem d12 : decode yB 12 = .ok (.if_icmp (.ge) 20, 3) := by decide +kernel
theorem d15 : decode yB 15 = .ok (.aload_n 0, 1) := by decide +kernel
theorem d16 : decode yB 16 = .ok (.iload_n 2, 1) := by decide +kernel
theorem d17 : decode yB 17 = .ok (.baload, 1) := by decide +kernel
theorem d18 : decode yB 18 = .ok (.aload_n 1, 1) := by decide +kernel
theorem d19 : decode yB 19 = .ok (.iload_n 2, 1) := by decide +kernel
theorem d20 : decode yB 20 = .ok (.baload, 1) := by decide +kernel
theorem d21 : decode yB 21 = .ok (.if_icmp (.eq) 5, 3) := by decide +kernel
theorem d24 : decode yB 24 = .ok (.iconst 0, 1) := by decide +kernel
theorem d25 : decode yB 25 = .ok (.ireturn, 1) := by decide +kernel
theorem d26 : decode yB 26 = .ok (.iinc 2 1, 3) := by decide +kernel
theorem d29 : decode yB 29 = .ok (.goto (-20), 3) := by decide +kernel
theorem d32 : decode yB 32 = .ok (.iconst 1, 1) := by decide +kernel
theorem d33 : decode yB 33 = .ok (.ireturn, 1) := by decide +kernel
theorem d34 : decode yB 34 = .ok (.iconst 0, 1) := by decide +kernel
theorem d35 : decode yB 35 = .ok (.ireturn, 1) := by decide +kernel
def site : List Cond := []
def tab : Cond := tabOf yN yB 3 (some .boolean) site
def P (a : Addr) (A : Cell) (b : Addr) (B : Cell) (args : Array Value) (s : State) : Prop := args = #[.ref a, .ref b] ∧ XT.Arr .byte a A s ∧ Typed .byte A ∧ XT.Arr .byte b B s ∧ Typed .byte B
/-- whether two byte[] are equal, place for place -/
theorem law (l : Launch) (a : Addr) (A : Cell) (b : Addr) (B : Cell) : Law l yN 2 2 0 0 yB 3 (some .boolean) site (P a A b B) (Says01 (EqC A B)) [] 0 0 := by
  refine Law.of_walk (plainFor_of_name (by decide +kernel)) (by decide +kernel) (by decide +kernel) (by decide) (fun _ _ h => by rw [h.1]; rfl) (fun _ U U' hal hh h => ⟨h.1, h.2.1.mv hal hh, h.2.2.1, h.2.2.2.1.mv hal hh, h.2.2.2.2⟩) (fun r U U' V V' h1 hal h2 h => Says01.mv r U U' V V' h1 hal h2 h) ?_
  intro p e s m args below meth c s₁ X0 hexec hbytes hml hret hlk hnm hown hh0 W hP
  obtain ⟨rfl, hA, tA, hB, tB⟩ := hP
  have a31 := hA.2.2.2
  have b31 := hB.2.2.2
  have hA0 := hA.mv X0.warmed.alike hh0
  have hB0 := hB.mv X0.warmed.alike hh0
  have c1 : Steps p.tables e below (s₁.setTop (entryFrame m #[.ref a, .ref b] 3)) (s₁.setTop (mkF m 0 #[.val (.ref a), .val (.ref b), .unset] [])) := entry rfl
  have c2 : Steps p.tables e below (s₁.setTop (entryFrame m #[.ref a, .ref b] 3)) (s₁.setTop (mkF m 4 #[.val (.ref a), .val (.ref b), .unset] [.int (Int32.ofNat B.slots.size), .int (Int32.ofNat A.slots.size)])) := c1.trans (by
    refine XS.aloadN X0.here hexec rfl (hb hbytes d0) rfl rfl ?_
    refine X0.alen hexec hA0 rfl rfl (hb hbytes d1) ?_
    refine XS.aloadN X0.here hexec rfl (hb hbytes d2) rfl rfl ?_
    refine X0.alen hexec hB0 rfl rfl (hb hbytes d3) ?_
    exact Steps.refl _)
  by_cases hs : A.slots.size = B.slots.size
  · have c3 : Steps p.tables e below (s₁.setTop (entryFrame m #[.ref a, .ref b] 3)) (s₁.setTop (mkF m 9 #[.val (.ref a), .val (.ref b), .val (.int 0)] [])) := c2.trans (by
      refine XS.icmpNo X0.here hexec rfl (hb hbytes d4) rfl (ii_ne_f (by rw [hs])) ?_
      refine iconstV X0.here hexec rfl 0 (hb hbytes d7) (by decide) ?_
      refine XS.istoreN X0.here hexec rfl (hb hbytes d8) rfl rfl ?_
      exact Steps.refl _)
    have loop : ∀ (r i : Nat), i + r = A.slots.size → (∀ j, j < i → yv A j = yv B j) → Steps p.tables e below (s₁.setTop (entryFrame m #[.ref a, .ref b] 3)) (s₁.setTop (mkF m 9 #[.val (.ref a), .val (.ref b), .val (.int (Int32.ofNat i))] [])) → ∃ (pc : Nat) (Ls : Array Slot) (v : Int32), (pc = 25 ∨ pc = 33) ∧ ((v = 1 ∧ EqC A B) ∨ (v = 0 ∧ ¬ EqC A B)) ∧ Steps p.tables e below (s₁.setTop (entryFrame m #[.ref a, .ref b] 3)) (s₁.setTop (mkF m pc Ls [.int v])) := by
      intro r
      induction r with
      | zero =>
        intro i hi he cl
        exact ⟨33, _, 1, Or.inr rfl, Or.inl ⟨rfl, hs, fun j hj => he j (by omega)⟩, cl.trans (by
          refine XS.iloadN X0.here hexec rfl (hb hbytes d9) rfl ?_
          refine XS.aloadN X0.here hexec rfl (hb hbytes d10) rfl rfl ?_
          refine X0.alen hexec hA0 rfl rfl (hb hbytes d11) ?_
          refine XS.icmpYes X0.here hexec rfl (pc0 := 12) rfl (hb hbytes d12) rfl (ii_ge_t (nlt32 (by omega) (by omega))) (by decide) rfl ?_
          refine iconstV X0.here hexec rfl 1 (hb hbytes d32) (by decide) ?_
          exact Steps.refl _)⟩
      | succ r ih =>
        intro i hi he cl
        have c4 : Steps p.tables e below (s₁.setTop (entryFrame m #[.ref a, .ref b] 3)) (s₁.setTop (mkF m 21 #[.val (.ref a), .val (.ref b), .val (.int (Int32.ofNat i))] [.int (yv B i), .int (yv A i)])) := cl.trans (by
          refine XS.iloadN X0.here hexec rfl (hb hbytes d9) rfl ?_
          refine XS.aloadN X0.here hexec rfl (hb hbytes d10) rfl rfl ?_
          refine X0.alen hexec hA0 rfl rfl (hb hbytes d11) ?_
          refine XS.icmpNo X0.here hexec rfl (hb hbytes d12) rfl (ii_ge_f (lt32 (by omega) (by omega))) ?_
          refine XS.aloadN X0.here hexec rfl (hb hbytes d15) rfl rfl ?_
          refine XS.iloadN X0.here hexec rfl (hb hbytes d16) rfl ?_
          refine X0.aget hexec hA0 rfl (yv_get hA tA (i := i) (by omega)) rfl rfl (hb hbytes d17) ?_
          refine XS.aloadN X0.here hexec rfl (hb hbytes d18) rfl rfl ?_
          refine XS.iloadN X0.here hexec rfl (hb hbytes d19) rfl ?_
          refine X0.aget hexec hB0 rfl (yv_get hB tB (i := i) (by omega)) rfl rfl (hb hbytes d20) ?_
          exact Steps.refl _)
        by_cases hv : yv A i = yv B i
        · have c5 : Steps p.tables e below (s₁.setTop (entryFrame m #[.ref a, .ref b] 3)) (s₁.setTop (mkF m 9 #[.val (.ref a), .val (.ref b), .val (.int (Int32.ofNat i + 1))] [])) := c4.trans (by
            refine XS.icmpYes X0.here hexec rfl (pc0 := 21) rfl (hb hbytes d21) rfl (ii_eq_t hv) (by decide) rfl ?_
            refine iincV X0.here hexec rfl 1 (hb hbytes d26) (by decide) rfl rfl ?_
            refine XS.goto X0.here hexec rfl (pc0 := 29) rfl (hb hbytes d29) (by decide) rfl ?_
            exact Steps.refl _)
          rw [succ32] at c5
          exact ih (i + 1) (by omega) (fun j hj => by
            by_cases e : j = i
            · rw [e]; exact hv
            · exact he j (by omega)) c5
        · exact ⟨25, _, 0, Or.inl rfl, Or.inr ⟨rfl, fun q => hv (q.2 i (by omega))⟩, c4.trans (by
            refine XS.icmpNo X0.here hexec rfl (hb hbytes d21) rfl (ii_eq_f hv) ?_
            refine iconstV X0.here hexec rfl 0 (hb hbytes d24) (by decide) ?_
            exact Steps.refl _)⟩
    obtain ⟨pc, Ls, v, hpc, hv, cz⟩ := loop A.slots.size 0 (by omega) (fun j hj => absurd hj (Nat.not_lt_zero j)) c3
    have nv : narrow .boolean (.int v) = .int v := by rcases hv with ⟨rfl, -⟩ | ⟨rfl, -⟩ <;> rfl
    rcases hpc with rfl | rfl
    · exact ⟨s₁, some (.int v), _, _, _, X0, rfl, rfl, rfl, (fun h => by cases h), ⟨v, rfl, hh0, hv⟩, fun fs hl => cz.trans (X0.ireturnOut hexec hret nv (Or.inr (Or.inl rfl)) (hb hbytes d25) hl)⟩
    · exact ⟨s₁, some (.int v), _, _, _, X0, rfl, rfl, rfl, (fun h => by cases h), ⟨v, rfl, hh0, hv⟩, fun fs hl => cz.trans (X0.ireturnOut hexec hret nv (Or.inr (Or.inl rfl)) (hb hbytes d33) hl)⟩
  · have c3 : Steps p.tables e below (s₁.setTop (entryFrame m #[.ref a, .ref b] 3)) (s₁.setTop (mkF m 35 #[.val (.ref a), .val (.ref b), .unset] [.int 0])) := c2.trans (by
      refine XS.icmpYes X0.here hexec rfl (pc0 := 4) rfl (hb hbytes d4) rfl (ii_ne_t (ne32 a31 b31 hs)) (by decide) rfl ?_
      refine iconstV X0.here hexec rfl 0 (hb hbytes d34) (by decide) ?_
      exact Steps.refl _)
    exact ⟨s₁, some (.int 0), _, _, _, X0, rfl, rfl, rfl, (fun h => by cases h), ⟨0, rfl, hh0, Or.inr ⟨rfl, fun q => hs q.1⟩⟩, fun fs hl => c3.trans (X0.ireturnOut hexec hret rfl (Or.inr (Or.inl rfl)) (hb hbytes d35) hl)⟩
end LEq
theorem Cod.ty {cd : Int32} {n : Nat} {f : Nat → Int32} {V : Cell} (h : Cod cd n f V) : Typed .byte V := fun i v hv => by
  have hi : i < V.slots.size := (Array.getElem?_eq_some_iff.mp hv).1
  rcases h with ⟨-, k1, k2⟩ | ⟨-, k1, k2, -⟩
  · rw [(k2 i (by omega)).1] at hv; cases hv; exact fits_lo8 _
  · rcases Nat.mod_two_eq_zero_or_one i with e | e
    · obtain ⟨j, rfl⟩ : ∃ j, i = 2 * j := ⟨i / 2, by omega⟩
      rw [(k2 j (by omega)).1] at hv; cases hv; exact fits_lo8 _
    · obtain ⟨j, rfl⟩ : ∃ j, i = 2 * j + 1 := ⟨i / 2, by omega⟩
      rw [(k2 j (by omega)).2] at hv; cases hv; exact fits_lo8 _
/-- the same text -/
def SameT (n : Nat) (f : Nat → Int32) (k : Nat) (g : Nat → Int32) : Prop := n = k ∧ ∀ j, j < n → f j = g j
theorem lo8_inj {x y : Int32} (h0 : ¬ x < 0) (h1 : ¬ 255 < x) (k0 : ¬ y < 0) (k1 : ¬ 255 < y) (h : lo8 x = lo8 y) : x = y := by
  rw [← lo8_mask h0 h1, ← lo8_mask k0 k1, h]
/-- arrays coded by one coder are equal just where the texts are -/
theorem Cod.eqv {cd : Int32} {n k : Nat} {f g : Nat → Int32} {V V' : Cell} (h : Cod cd n f V) (h' : Cod cd k g V') (hf : ∀ j, j < n → ¬ f j < 0 ∧ ¬ 65535 < f j) (hg : ∀ j, j < k → ¬ g j < 0 ∧ ¬ 65535 < g j) : EqC V V' ↔ SameT n f k g := by
  have yvv : ∀ {W : Cell} {i : Nat} {x : Int32}, W.slots[i]? = some (.int x) → yv W i = x := fun q => by unfold yv; rw [q]
  rcases h with ⟨rfl, k1, k2⟩ | ⟨rfl, k1, k2, -⟩
  · rcases h' with ⟨-, m1, m2⟩ | ⟨e, -⟩
    · constructor
      · rintro ⟨e1, e2⟩
        refine ⟨by omega, fun j hj => ?_⟩
        have q := e2 j (by omega)
        rw [yvv (k2 j hj).1, yvv (m2 j (by omega)).1] at q
        exact lo8_inj (hf j hj).1 (k2 j hj).2 (hg j (by omega)).1 (m2 j (by omega)).2 q
      · rintro ⟨rfl, e2⟩
        refine ⟨by omega, fun j hj => ?_⟩
        rw [yvv (k2 j (by omega)).1, yvv (m2 j (by omega)).1, e2 j (by omega)]
    · exact absurd e (by decide)
  · rcases h' with ⟨e, -⟩ | ⟨-, m1, m2, -⟩
    · exact absurd e (by decide)
    · constructor
      · rintro ⟨e1, e2⟩
        refine ⟨by omega, fun j hj => ?_⟩
        have q1 := e2 (2 * j) (by omega)
        have q2 := e2 (2 * j + 1) (by omega)
        rw [yvv (k2 j hj).1, yvv (m2 j (by omega)).1] at q1
        rw [yvv (k2 j hj).2, yvv (m2 j (by omega)).2] at q2
        rw [← pair_says (hf j hj).1 (hf j hj).2, ← pair_says (hg j (by omega)).1 (hg j (by omega)).2, q1, q2]
      · rintro ⟨rfl, e2⟩
        refine ⟨by omega, fun i hi => ?_⟩
        rcases Nat.mod_two_eq_zero_or_one i with e | e
        · obtain ⟨j, rfl⟩ : ∃ j, i = 2 * j := ⟨i / 2, by omega⟩
          rw [yvv (k2 j (by omega)).1, yvv (m2 j (by omega)).1, e2 j (by omega)]
        · obtain ⟨j, rfl⟩ : ∃ j, i = 2 * j + 1 := ⟨i / 2, by omega⟩
          rw [yvv (k2 j (by omega)).2, yvv (m2 j (by omega)).2, e2 j (by omega)]
/-- two codings differ: so do the texts -/
theorem Cod.dif {cd cd' : Int32} {n k : Nat} {f g : Nat → Int32} {V V' : Cell} (h : Cod cd n f V) (h' : Cod cd' k g V') (hne : ¬ cd = cd') : ¬ SameT n f k g := by
  rintro ⟨rfl, e⟩
  rcases h with ⟨rfl, -, k2⟩ | ⟨rfl, -, -, j, hj, hw⟩
  · rcases h' with ⟨rfl, -⟩ | ⟨-, -, -, j, hj, hw⟩
    · exact hne rfl
    · exact (k2 j hj).2 (by rw [e j hj]; exact hw)
  · rcases h' with ⟨-, -, m2⟩ | ⟨rfl, -⟩
    · exact (m2 j hj).2 (by rw [← e j hj]; exact hw)
    · exact hne rfl
/-- an object of exactly C is an instance of C -/
theorem cinst {p : Program} {l : Launch} {e : Env} {R : Room} {s : State} {m : MethodId} {args : Array Value} {below : List Frame} {meth : Method} {c : Code} {T : State} {locs : List Loc} {cells slots : Nat} (X : Stand p l e R s m args below meth c T locs cells slots) (hexec : p.tables.exec = Jvm.exec) {own C : String} {index : Nat} (hown : s.vm.findClass own = some m.cls) (hlink : (Cond.classLink own index C).before args s = true) {a : Addr} (hE : Exact C a T)
    {g : JFrame} (hg : g.method = m) {rest : List Value} (hstack : g.stack = .ref a :: rest) (hdg : decode c.code g.pc = .ok (.instanceof index, 3)) :
    ∃ T', Stand p l e R s m args below meth c T' locs cells slots ∧ T'.heap = T.heap ∧ ∀ target, Steps p.tables e below (T'.setTop { g with pc := g.pc + 3, stack := .int 1 :: rest }) target → Steps p.tables e below (T.setTop g) target := by
  obtain ⟨cB, h1, D, h2, h3, h4⟩ := hE
  have h1' : s.vm.findClass C = some cB := by rw [← X.warmed.alike.findClass]; exact h1
  obtain ⟨vm', X', st⟩ := X.instanceofYes hexec hown hlink h2 h4 h1' (by rw [h3]; exact Jvm.Free.SB.assignable_self _ _) hg hstack hdg
  exact ⟨_, X', rfl, st⟩
theorem cself {p : Program} {l : Launch} {e : Env} {R : Room} {s : State} {m : MethodId} {args : Array Value} {below : List Frame} {meth : Method} {c : Code} {T : State} {locs : List Loc} {cells slots : Nat} (X : Stand p l e R s m args below meth c T locs cells slots) (hexec : p.tables.exec = Jvm.exec) {own C : String} {index : Nat} (hown : s.vm.findClass own = some m.cls) (hlink : (Cond.classLink own index C).before args s = true) {a : Addr} (hE : Exact C a T)
    {g : JFrame} (hg : g.method = m) {rest : List Value} (hstack : g.stack = .ref a :: rest) (hdg : decode c.code g.pc = .ok (.checkcast index, 3)) :
    ∃ T', Stand p l e R s m args below meth c T' locs cells slots ∧ T'.heap = T.heap ∧ ∀ target, Steps p.tables e below (T'.setTop { g with pc := g.pc + 3, stack := .ref a :: rest }) target → Steps p.tables e below (T.setTop g) target := by
  obtain ⟨cB, h1, D, h2, h3, h4⟩ := hE
  have h1' : s.vm.findClass C = some cB := by rw [← X.warmed.alike.findClass]; exact h1
  obtain ⟨vm', X', st⟩ := X.checkcastYes hexec hown hlink h2 h4 h1' (by rw [h3]; exact Jvm.Free.SB.assignable_self _ _) hg hstack hdg
  exact ⟨_, X', rfl, fun t h => st t (by rw [← hstack] at h; exact h)⟩
namespace SEq
def yN : MethodName := ⟨"java/lang/String", "equals", "(Ljava/lang/Object;)Z"⟩
abbrev yB : ByteArray := jdk_42_method_66_code
theorem d0 : decode yB 0 = .ok (.aload_n 0, 1) := by decide +kernel
theorem d1 : decode yB 1 = .ok (.aload_n 1, 1) := by decide +kernel
theorem d2 : decode yB 2 = .ok (.if_acmp (.ne) 5, 3) := by decide +kernel
theorem d5 : decode yB 5 = .ok (.iconst 1, 1) := by decide +kernel
theorem d6 : decode yB 6 = .ok (.ireturn, 1) := by decide +kernel
theorem d7 : decode yB 7 = .ok (.aload_n 1, 1) := by decide +kernel
theorem d8 : decode yB 8 = .ok (.instanceof 10, 3) := by decide +kernel
theorem d11 : decode yB 11 = .ok (.ifCond (.eq) 43, 3) := by decide +kernel
theorem d14 : decode yB 14 = .ok (.aload_n 1, 1) := by decide +kernel
theorem d15 : decode yB 15 = .ok (.checkcast 10, 3) := by decide +kernel
theorem d18 : decode yB 18 = .ok (.astore_n 2, 1) := by decide +kernel
theorem d19 : decode yB 19 = .ok (.getstatic 38, 3) := by decide +kernel
theorem d22 : decode yB 22 = .ok (.ifCond (.eq) 14, 3) := by decide +kernel
theorem d25 : decode yB 25 = .ok (.aload_n 0, 1) := by decide +kernel
theorem d26 : decode yB 26 = .ok (.getfield 15, 3) := by decide +kernel
theorem d29 : decode yB 29 = .ok (.aload_n 2, 1) := by decide +kernel
theorem d30 : decode yB 30 = .ok (.getfield 15, 3) := by decide +kernel
theorem d33 : decode yB 33 = .ok (.if_icmp (.ne) 21, 3) := by decide +kernel
theorem d36 : decode yB 36 = .ok (.aload_n 0, 1) := by decide +kernel
theorem d37 : decode yB 37 = .ok (.getfield 9, 3) := by decide +kernel
theorem d40 : decode yB 40 = .ok (.aload_n 2, 1) := by decide +kernel
theorem d41 : decode yB 41 = .ok (.getfield 9, 3) := by decide +kernel
theorem d44 : decode yB 44 = .ok (.invokestatic 541, 3) := by decide +kernel
theorem d47 : decode yB 47 = .ok (.ifCond (.eq) 7, 3) := by decide +kernel
theorem d50 : decode yB 50 = .ok (.iconst 1, 1) := by decide +kernel
theorem d51 : decode yB 51 = .ok (.goto 4, 3) := by decide +kernel
theorem d54 : decode yB 54 = .ok (.iconst 0, 1) := by decide +kernel
theorem d55 : decode yB 55 = .ok (.ireturn, 1) := by decide +kernel
def site : List Cond := [.classLink "java/lang/String" 10 "java/lang/String", .fieldLink "java/lang/String" 38 "java/lang/String" "COMPACT_STRINGS" "Z", .fieldLink "java/lang/String" 15 "java/lang/String" "coder" "B", .fieldLink "java/lang/String" 9 "java/lang/String" "value" "[B", LEq.tab] ++ staticW "java/lang/String" 541 LEq.yN
def tab : Cond := tabOf yN yB 3 (some .boolean) site
def P (x t : Addr) (V : Cell) (cd : Int32) (n : Nat) (f : Nat → Int32) (y t' : Addr) (V' : Cell) (cd' : Int32) (k : Nat) (g : Nat → Int32) (z : Int32) (args : Array Value) (s : State) : Prop := args = #[.ref x, .ref y] ∧ Txt x t V cd n f s ∧ Txt y t' V' cd' k g s ∧ StaticIs s "java/lang/String" "COMPACT_STRINGS" "Z" (.int z) ∧ ¬ z = 0
/-- equals(Object) of two Strings: whether the texts are the same -/
theorem law (l : Launch) (x t : Addr) (V : Cell) (cd : Int32) (n : Nat) (f : Nat → Int32) (y t' : Addr) (V' : Cell) (cd' : Int32) (k : Nat) (g : Nat → Int32) (z : Int32) : Law l yN 2 1 1 14 yB 3 (some .boolean) site (P x t V cd n f y t' V' cd' k g z) (Says01 (SameT n f k g)) [] 0 0 := by
  refine Law.of_walk (plainFor_of_name (by decide +kernel)) (by decide +kernel) (by decide +kernel) (by decide) (fun _ _ h => by rw [h.1]; rfl) (fun _ U U' hal hh h => ⟨h.1, h.2.1.mv hal hh, h.2.2.1.mv hal hh, h.2.2.2.1.there hal hh, h.2.2.2.2⟩) (fun r U U' V V' h1 hal h2 h => Says01.mv r U U' V V' h1 hal h2 h) ?_
  intro p e s m args below meth c s₁ X0 hexec hbytes hml hret hlk hnm hown hh0 W hP
  obtain ⟨rfl, hx, hy, s1, hz⟩ := hP
  have c1 : Steps p.tables e below (s₁.setTop (entryFrame m #[.ref x, .ref y] 3)) (s₁.setTop (mkF m 2 #[.val (.ref x), .val (.ref y), .unset] [.ref y, .ref x])) := Steps.trans (entry rfl) (by
    show Steps p.tables e below (s₁.setTop (mkF m 0 #[.val (.ref x), .val (.ref y), .unset] [])) _
    refine XS.aloadN X0.here hexec rfl (hb hbytes d0) rfl rfl ?_
    refine XS.aloadN X0.here hexec rfl (hb hbytes d1) rfl rfl ?_
    exact Steps.refl _)
  by_cases hxy : x = y
  · have c2 : Steps p.tables e below (s₁.setTop (entryFrame m #[.ref x, .ref y] 3)) (s₁.setTop (mkF m 6 #[.val (.ref x), .val (.ref y), .unset] [.int 1])) := c1.trans (by
      refine acmpNo X0.here hexec rfl (hb hbytes d2) rfl rfl rfl (by simp [acmp, hxy]) ?_
      refine iconstV X0.here hexec rfl 1 (hb hbytes d5) (by decide) ?_
      exact Steps.refl _)
    subst hxy
    have ec : cd = cd' := by
      obtain ⟨D, fd, a1, a2, a3⟩ := hx.2.2.1
      obtain ⟨D', fd', b1, b2, b3⟩ := hy.2.2.1
      cases a1.symm.trans b1
      obtain ⟨q1, q2, q3, q4⟩ := a2.1
      obtain ⟨r1, r2, r3, r4⟩ := b2.1
      cases q4.symm.trans r4
      cases a3.symm.trans b3; rfl
    have et : t = t' := by
      obtain ⟨D, fd, a1, a2, a3⟩ := hx.2.1
      obtain ⟨D', fd', b1, b2, b3⟩ := hy.2.1
      cases a1.symm.trans b1
      obtain ⟨q1, q2, q3, q4⟩ := a2.1
      obtain ⟨r1, r2, r3, r4⟩ := b2.1
      cases q4.symm.trans r4
      cases a3.symm.trans b3; rfl
    subst ec et
    have ev : V = V' := by cases hx.2.2.2.1.1.symm.trans hy.2.2.2.1.1; rfl
    subst ev
    have hs : SameT n f k g := (Cod.eqv hx.2.2.2.2.1 hy.2.2.2.2.1 hx.2.2.2.2.2 hy.2.2.2.2.2).mp ⟨rfl, fun _ _ => rfl⟩
    exact ⟨s₁, some (.int 1), _, _, _, X0, rfl, rfl, rfl, (fun h => by cases h), ⟨1, rfl, hh0, Or.inl ⟨rfl, hs⟩⟩, fun fs hl => c2.trans (X0.ireturnOut hexec hret rfl (Or.inr (Or.inl rfl)) (hb hbytes d6) hl)⟩
  · have c2 : Steps p.tables e below (s₁.setTop (entryFrame m #[.ref x, .ref y] 3)) (s₁.setTop (mkF m 8 #[.val (.ref x), .val (.ref y), .unset] [.ref y])) := c1.trans (by
      refine acmpYes X0.here hexec rfl (pc0 := 2) rfl (hb hbytes d2) rfl rfl rfl (by simp [acmp, hxy]) (by decide) rfl ?_
      refine XS.aloadN X0.here hexec rfl (hb hbytes d7) rfl rfl ?_
      exact Steps.refl _)
    obtain ⟨T3, X3, q3, st3⟩ := cinst X0 hexec hown (wk W (.classLink "java/lang/String" 10 "java/lang/String")) (hy.mv X0.warmed.alike hh0).1 (g := (mkF m 8 #[.val (.ref x), .val (.ref y), .unset] [.ref y])) rfl (rest := []) rfl (hb hbytes d8)
    have hh3 := q3.trans hh0
    have c4 : Steps p.tables e below (s₁.setTop (entryFrame m #[.ref x, .ref y] 3)) (T3.setTop (mkF m 15 #[.val (.ref x), .val (.ref y), .unset] [.ref y])) := (c2.trans (st3 _ (Steps.refl _))).trans (by
      refine XS.ifNo X3.here hexec rfl (hb hbytes d11) rfl (i0_eq_f (by decide)) ?_
      refine XS.aloadN X3.here hexec rfl (hb hbytes d14) rfl rfl ?_
      exact Steps.refl _)
    obtain ⟨T5, X5, q5, st5⟩ := cself X3 hexec hown (wk W (.classLink "java/lang/String" 10 "java/lang/String")) (hy.mv X3.warmed.alike hh3).1 (g := (mkF m 15 #[.val (.ref x), .val (.ref y), .unset] [.ref y])) rfl (rest := []) rfl (hb hbytes d15)
    have hh5 := q5.trans hh3
    have c6 : Steps p.tables e below (s₁.setTop (entryFrame m #[.ref x, .ref y] 3)) (T5.setTop (mkF m 19 #[.val (.ref x), .val (.ref y), .val (.ref y)] [])) := (c4.trans (st5 _ (Steps.refl _))).trans (by
      refine XS.astoreN X5.here hexec rfl (hb hbytes d18) rfl rfl rfl ?_
      exact Steps.refl _)
    obtain ⟨T7, X7, q7, st7⟩ := X5.sget hexec hown (wk W (.fieldLink "java/lang/String" 38 "java/lang/String" "COMPACT_STRINGS" "Z")) s1 (fun _ _ h => by rw [hh5]; exact h) (g := (mkF m 19 #[.val (.ref x), .val (.ref y), .val (.ref y)] [])) rfl (hb hbytes d19)
    have hh7 := q7.trans hh5
    have c8 : Steps p.tables e below (s₁.setTop (entryFrame m #[.ref x, .ref y] 3)) (T7.setTop (mkF m 26 #[.val (.ref x), .val (.ref y), .val (.ref y)] [.ref x])) := (c6.trans (st7 _ (Steps.refl _))).trans (by
      refine XS.ifNo X7.here hexec rfl (hb hbytes d22) rfl (i0_eq_f hz) ?_
      refine XS.aloadN X7.here hexec rfl (hb hbytes d25) rfl rfl ?_
      exact Steps.refl _)
    obtain ⟨T9, X9, q9, st9⟩ := X7.hget hexec hown (wk W (.fieldLink "java/lang/String" 15 "java/lang/String" "coder" "B")) (hx.mv X7.warmed.alike hh7).2.2.1 (g := (mkF m 26 #[.val (.ref x), .val (.ref y), .val (.ref y)] [.ref x])) rfl (rest := []) rfl (hb hbytes d26)
    have hh9 := q9.trans hh7
    have c10 : Steps p.tables e below (s₁.setTop (entryFrame m #[.ref x, .ref y] 3)) (T9.setTop (mkF m 30 #[.val (.ref x), .val (.ref y), .val (.ref y)] [.ref y, .int cd])) := (c8.trans (st9 _ (Steps.refl _))).trans (by
      refine XS.aloadN X9.here hexec rfl (hb hbytes d29) rfl rfl ?_
      exact Steps.refl _)
    obtain ⟨T11, X11, q11, st11⟩ := X9.hget hexec hown (wk W (.fieldLink "java/lang/String" 15 "java/lang/String" "coder" "B")) (hy.mv X9.warmed.alike hh9).2.2.1 (g := (mkF m 30 #[.val (.ref x), .val (.ref y), .val (.ref y)] [.ref y, .int cd])) rfl (rest := [.int cd]) rfl (hb hbytes d30)
    have hh11 := q11.trans hh9
    have c12 : Steps p.tables e below (s₁.setTop (entryFrame m #[.ref x, .ref y] 3)) (T11.setTop (mkF m 33 #[.val (.ref x), .val (.ref y), .val (.ref y)] [.int cd', .int cd])) := c10.trans (st11 _ (Steps.refl _))
    by_cases hcd : cd = cd'
    · subst hcd
      have c13 : Steps p.tables e below (s₁.setTop (entryFrame m #[.ref x, .ref y] 3)) (T11.setTop (mkF m 37 #[.val (.ref x), .val (.ref y), .val (.ref y)] [.ref x])) := c12.trans (by
        refine XS.icmpNo X11.here hexec rfl (hb hbytes d33) rfl (ii_ne_f rfl) ?_
        refine XS.aloadN X11.here hexec rfl (hb hbytes d36) rfl rfl ?_
        exact Steps.refl _)
      obtain ⟨T14, X14, q14, st14⟩ := X11.hget hexec hown (wk W (.fieldLink "java/lang/String" 9 "java/lang/String" "value" "[B")) (hx.mv X11.warmed.alike hh11).2.1 (g := (mkF m 37 #[.val (.ref x), .val (.ref y), .val (.ref y)] [.ref x])) rfl (rest := []) rfl (hb hbytes d37)
      have hh14 := q14.trans hh11
      have c15 : Steps p.tables e below (s₁.setTop (entryFrame m #[.ref x, .ref y] 3)) (T14.setTop (mkF m 41 #[.val (.ref x), .val (.ref y), .val (.ref y)] [.ref y, .ref t])) := (c13.trans (st14 _ (Steps.refl _))).trans (by
        refine XS.aloadN X14.here hexec rfl (hb hbytes d40) rfl rfl ?_
        exact Steps.refl _)
      obtain ⟨T16, X16, q16, st16⟩ := X14.hget hexec hown (wk W (.fieldLink "java/lang/String" 9 "java/lang/String" "value" "[B")) (hy.mv X14.warmed.alike hh14).2.1 (g := (mkF m 41 #[.val (.ref x), .val (.ref y), .val (.ref y)] [.ref y, .ref t])) rfl (rest := [.ref t]) rfl (hb hbytes d41)
      have hh16 := q16.trans hh14
      have c17 : Steps p.tables e below (s₁.setTop (entryFrame m #[.ref x, .ref y] 3)) (T16.setTop (mkF m 44 #[.val (.ref x), .val (.ref y), .val (.ref y)] [.ref t', .ref t])) := c15.trans (st16 _ (Steps.refl _))
      obtain ⟨v18, T18, X18, E18, g18⟩ := X16.callS hexec (LEq.law l t V t' V') hown (wks W (staticW "java/lang/String" 541 LEq.yN)) (wk W LEq.tab) (W := 0) (Nat.le_of_ble_eq_true rfl) (Nat.le_of_ble_eq_true rfl) (Nat.le_refl _) (Nat.le_refl _) (g := (mkF m 44 #[.val (.ref x), .val (.ref y), .val (.ref y)] [.ref t', .ref t])) rfl (by rw [hml]; rfl) c17 (argsL := [.ref t, .ref t']) (rest := []) rfl rfl (by show 2 * 0 + 0 ≤ _; decide) (hb hbytes d44) (⟨rfl, hx.2.2.2.1.mv X16.warmed.alike hh16, hx.2.2.2.2.1.ty, hy.2.2.2.1.mv X16.warmed.alike hh16, hy.2.2.2.2.1.ty⟩)
      obtain ⟨v, rfl, q18, hv⟩ := E18
      have iff := Cod.eqv hx.2.2.2.2.1 hy.2.2.2.2.1 hx.2.2.2.2.2 hy.2.2.2.2.2
      rcases hv with ⟨rfl, he⟩ | ⟨rfl, he⟩
      · have c19 : Steps p.tables e below (s₁.setTop (entryFrame m #[.ref x, .ref y] 3)) (T18.setTop (mkF m 55 #[.val (.ref x), .val (.ref y), .val (.ref y)] [.int 1])) := Steps.trans g18 (by
          refine XS.ifNo X18.here hexec rfl (hb hbytes d47) rfl (i0_eq_f (by decide)) ?_
          refine iconstV X18.here hexec rfl 1 (hb hbytes d50) (by decide) ?_
          refine XS.goto X18.here hexec rfl (pc0 := 51) rfl (hb hbytes d51) (by decide) rfl ?_
          exact Steps.refl _)
        exact ⟨T18, some (.int 1), _, _, _, X18, rfl, rfl, rfl, (fun h => by cases h), ⟨1, rfl, q18.trans hh16, Or.inl ⟨rfl, iff.mp he⟩⟩, fun fs hl => c19.trans (X18.ireturnOut hexec hret rfl (Or.inr (Or.inl rfl)) (hb hbytes d55) hl)⟩
      · have c19 : Steps p.tables e below (s₁.setTop (entryFrame m #[.ref x, .ref y] 3)) (T18.setTop (mkF m 55 #[.val (.ref x), .val (.ref y), .val (.ref y)] [.int 0])) := Steps.trans g18 (by
          refine XS.ifYes X18.here hexec rfl (pc0 := 47) rfl (hb hbytes d47) rfl (i0_eq_t rfl) (by decide) rfl ?_
          refine iconstV X18.here hexec rfl 0 (hb hbytes d54) (by decide) ?_
          exact Steps.refl _)
        exact ⟨T18, some (.int 0), _, _, _, X18, rfl, rfl, rfl, (fun h => by cases h), ⟨0, rfl, q18.trans hh16, Or.inr ⟨rfl, fun q => he (iff.mpr q)⟩⟩, fun fs hl => c19.trans (X18.ireturnOut hexec hret rfl (Or.inr (Or.inl rfl)) (hb hbytes d55) hl)⟩
    · have c13 : Steps p.tables e below (s₁.setTop (entryFrame m #[.ref x, .ref y] 3)) (T11.setTop (mkF m 55 #[.val (.ref x), .val (.ref y), .val (.ref y)] [.int 0])) := c12.trans (by
        refine XS.icmpYes X11.here hexec rfl (pc0 := 33) rfl (hb hbytes d33) rfl (ii_ne_t hcd) (by decide) rfl ?_
        refine iconstV X11.here hexec rfl 0 (hb hbytes d54) (by decide) ?_
        exact Steps.refl _)
      exact ⟨T11, some (.int 0), _, _, _, X11, rfl, rfl, rfl, (fun h => by cases h), ⟨0, rfl, hh11, Or.inr ⟨rfl, Cod.dif hx.2.2.2.2.1 hy.2.2.2.2.1 hcd⟩⟩, fun fs hl => c13.trans (X11.ireturnOut hexec hret rfl (Or.inr (Or.inl rfl)) (hb hbytes d55) hl)⟩
theorem pays {l : Launch} {R : Room} {p : Program} {e : Env} {below : List Frame} {s : State} {sargs : Array Value} {len W : Nat} (x t : Addr) (V : Cell) (cd : Int32) (n : Nat) (f : Nat → Int32) (y t' : Addr) (V' : Cell) (cd' : Int32) (k : Nat) (g : Nat → Int32) (z : Int32) (htab : tab.before sargs s = true) (hfr : 2 ≤ R.frames) (hlo : W + 28 ≤ R.locals) :
    Back l R p e below s sargs yN len W (fun A₁ a₁ => A₁.cells + 0 ≤ R.cells ∧ A₁.slots + 0 ≤ R.slots ∧ P x t V cd n f y t' V' cd' k g z a₁ A₁.U) (fun A₁ _ v₁ B₁ => Says01 (SameT n f k g) v₁ A₁.U B₁.U ∧ B₁.locs = A₁.locs ++ [] ∧ B₁.cells = A₁.cells + 0 ∧ B₁.slots = A₁.slots + 0) :=
  (law l x t V cd n f y t' V' cd' k g z).pays htab hfr (by omega)
end SEq
end StrChars
namespace StrChars.Road
open Jvm Sem ClassFile Op Lib Jvm.Stand Jvm.Free Jvm.Free.XT
open Jvm.Lib.Cold (StaticIs)
/-- the words of String.equals(Object) -/
abbrev wordsEq : List Jvm.Cond := [.code SEq.yN SEq.yB 3 (some .boolean), .initialized ST, .classLink ST 10 ST, .fieldLink ST 38 ST "COMPACT_STRINGS" "Z", .fieldLink ST 15 ST "coder" "B", .fieldLink ST 9 ST "value" "[B", .methodLink ST 541 LEq.yN, .static LEq.yN, .code LEq.yN LEq.yB 3 (some .boolean), .initialized "java/lang/StringLatin1"]
theorem tabEq_of {a : Array Value} {s : State} (h : ∀ w ∈ wordsEq, w.before a s = true) : SEq.tab.before a s = true := by
  have hl : LEq.tab.before a s = true := unparts (wk h (.code LEq.yN LEq.yB 3 (some .boolean))) (wks h (.initialized LEq.yN.cls :: LEq.site))
  have q := consq hl h
  exact unparts (wk q (.code SEq.yN SEq.yB 3 (some .boolean))) (wks q (.initialized SEq.yN.cls :: SEq.site))
theorem movedEq {Z s : State} {a0 args : Array Value} (hZ : Z.Warmed39 s.vm) (hw : ∀ d ∈ wordsEq, d.before a0 Z = true) : ∀ d ∈ wordsEq, d.before args s = true := fun d hd => by
  have t : ∀ d ∈ wordsEq, (d.onTables && d.keepsFace) = true := by decide +kernel
  exact RoadKit.mv hZ (hw d hd) (t d hd)
/-- the road's facts of a String, as the laws ask it -/
theorem txt_of {Z U : State} {a0 : Array Value} {kI : Nat} (wi : (Jvm.Cond.instantiable ST kI).before a0 Z = true) (al : Z.vm.Alike U.vm) {x t : Addr} {kb : ClassId} {cs : List Int32} {cd N2 : Int32} {vs : List Value} (E : RoadKit.Exa Z U.heap x ST) (V : RoadKit.Fld Z U.heap x ST "value" "[B" (.ref t)) (C : RoadKit.Fld Z U.heap x ST "coder" "B" (.int cd)) (K : RoadKit.Arv Z U.heap t kb .byte N2 vs (.int 0)) (hc : CodA cs cd N2 vs) (hb : ∀ c ∈ cs, ¬ c < 0 ∧ ¬ (65535 : Int32) < c) (l2 : cs.length ≤ 4000) :
    ∃ A, Txt x t A cd cs.length (fun j => cs.getD j 0) U := by
  obtain ⟨A, K1, K2, K3, K4, K5, K6⟩ := K
  have hcod := hc.cod (by omega) K3 K5
  obtain ⟨D, fV, fC, hB, F1, F2, g1, g2, -, -⟩ := strObj wi al E V C
  exact ⟨A, ⟨_, hB.2.2.1, D, hB.1, rfl, by cases q : D.vm <;> first | rfl | exact absurd q (hB.2.1.2 _)⟩, Has.of hB F1 g1, Has.of hB F2 g2, ⟨K1.1, State.isArrayOf_alike al K1.2.1, K1.2.2, by rcases hcod with ⟨-, q, -⟩ | ⟨-, q, -⟩ <;> omega⟩, hcod, fun j hj => by
    have e : cs.getD j 0 = cs[j] := by simp [List.getD_eq_getElem?_getD, hj]
    show ¬ cs.getD j 0 < 0 ∧ ¬ 65535 < cs.getD j 0
    rw [e]; exact hb _ (List.getElem_mem _)⟩
theorem same_list (cs ds : List Int32) : SameT cs.length (fun j => cs.getD j 0) ds.length (fun j => ds.getD j 0) ↔ cs = ds := by
  constructor
  · rintro ⟨e, q⟩
    refine List.ext_getElem e fun j h1 h2 => ?_
    have := q j h1
    simpa [List.getD_eq_getElem?_getD, h1, h2] using this
  · rintro rfl
    exact ⟨rfl, fun _ _ => rfl⟩
/-- **equals(Object) OF TWO SUCH STRINGS**: 1 just where the chars are the same -/
theorem eqW {p : Program} {l : Launch} {e : Env} {R : Room} {s : State} {args : Array Value} {below : List Frame} {len W : Nat} {Z : State} {a0 : Array Value} {h : Heap} (hZ : Z.Warmed39 s.vm) (hw : ∀ d ∈ wordsEq, d.before a0 Z = true) {kI : Nat} (wi : (Jvm.Cond.instantiable ST kI).before a0 Z = true)
    {x t : Addr} {kb : ClassId} {cs : List Int32} {cd N2 : Int32} {vs : List Value} (E : RoadKit.Exa Z h x ST) (V : RoadKit.Fld Z h x ST "value" "[B" (.ref t)) (C : RoadKit.Fld Z h x ST "coder" "B" (.int cd)) (K : RoadKit.Arv Z h t kb .byte N2 vs (.int 0)) (hc : CodA cs cd N2 vs) (hb : ∀ c ∈ cs, ¬ c < 0 ∧ ¬ (65535 : Int32) < c) (l2 : cs.length ≤ 4000)
    {y t' : Addr} {kb' : ClassId} {ds : List Int32} {cd' N2' : Int32} {vs' : List Value} (E' : RoadKit.Exa Z h y ST) (V' : RoadKit.Fld Z h y ST "value" "[B" (.ref t')) (C' : RoadKit.Fld Z h y ST "coder" "B" (.int cd')) (K' : RoadKit.Arv Z h t' kb' .byte N2' vs' (.int 0)) (hc' : CodA ds cd' N2' vs') (hb' : ∀ c ∈ ds, ¬ c < 0 ∧ ¬ (65535 : Int32) < c) (l2' : ds.length ≤ 4000)
    {z : Int32} (S : RoadKit.Sta Z h ST "COMPACT_STRINGS" "Z" (.int z)) (hz : ¬ z = 0) (hfr : 2 ≤ R.frames) (hlo : W + 28 ≤ R.locals) :
    Back l R p e below s args (⟨"java/lang/String", "equals", "(Ljava/lang/Object;)Z"⟩ : MethodName) len W (fun P a => a = #[.ref x, .ref y] ∧ P.U.heap = h ∧ P.cells + 0 ≤ R.cells ∧ P.slots + 0 ≤ R.slots)
      (fun P _ v B => ∃ L, (((v = some (.int 1) ∧ cs = ds) ∨ (v = some (.int 0) ∧ ¬ cs = ds)) ∧ L = [] ∧ B.U.heap = h) ∧ B.locs = P.locs ++ L ∧ B.cells = P.cells + 0 ∧ B.slots = P.slots + 0) := by
  intro m meth c P g ig mk a X hg hsize hdg hW hn hp'
  obtain ⟨rfl, rfl, r1, r2⟩ := hp'
  have al : Z.vm.Alike P.U.vm := hZ.alike.trans X.warmed.alike
  obtain ⟨A, hx⟩ := txt_of wi al E V C K hc hb l2
  obtain ⟨A', hy⟩ := txt_of wi al E' V' C' K' hc' hb' l2'
  obtain ⟨v, B, X', ⟨⟨w, hv, hh, hq⟩, hl, hk, hs⟩, st⟩ := SEq.pays x t A cd cs.length (fun j => cs.getD j 0) y t' A' cd' ds.length (fun j => ds.getD j 0) z (tabEq_of (movedEq hZ hw)) hfr hlo m meth c P g ig mk _ X hg hsize hdg hW hn ⟨r1, r2, rfl, hx, hy, sta_is al S, hz⟩
  refine ⟨v, B, X', ⟨[], ⟨?_, rfl, hh⟩, hl, hk, hs⟩, st⟩
  rcases hq with ⟨rfl, q⟩ | ⟨rfl, q⟩
  · exact Or.inl ⟨hv, (same_list cs ds).mp q⟩
  · exact Or.inr ⟨hv, fun e => q ((same_list cs ds).mpr e)⟩
end StrChars.Road
namespace StrChars
open Jvm Sem ClassFile Op Lib Jvm.Stand Jvm.Free.XT Jvm.Free.ALB Jvm.Free.JM Jvm.Free
open Jvm.Lib.Cold (StaticIs)
namespace ChN
def yN : MethodName := ⟨"java/lang/String", "charAt", "(I)C"⟩
abbrev yB : ByteArray := jdk_42_method_56_code
theorem d0 : decode yB 0 = .ok (.aload_n 0, 1) := by decide +kernel
theorem d1 : decode yB 1 = .ok (.invokevirtual 492, 3) := by decide +kernel
theorem d4 : decode yB 4 = .ok (.ifCond (.eq) 12, 3) := by decide +kernel
theorem d7 : decode yB 7 = .ok (.aload_n 0, 1) := by decide +kernel
theorem d8 : decode yB 8 = .ok (.getfield 9, 3) := by decide +kernel
theorem d11 : decode yB 11 = .ok (.iload_n 1, 1) := by decide +kernel
theorem d12 : decode yB 12 = .ok (.invokestatic 495, 3) := by decide +kernel
theorem d15 : decode yB 15 = .ok (.ireturn, 1) := by decide +kernel
def site : List Cond := [.fieldLink "java/lang/String" 9 "java/lang/String" "value" "[B", IsL.tab, LChA.tab] ++ virtW "java/lang/String" 492 "java/lang/String" IsL.yN IsL.yN ++ staticW "java/lang/String" 495 LChA.yN
def tab : Cond := tabOf yN yB 2 (some .char) site
def P (x t : Addr) (V : Cell) (n : Nat) (f : Nat → Int32) (z : Int32) (fm : Value) (i : Nat) (args : Array Value) (s : State) : Prop := args = #[.ref x, .int (Int32.ofNat i)] ∧ Txt x t V 0 n f s ∧ i < n ∧ StaticIs s "java/lang/String" "COMPACT_STRINGS" "Z" (.int z) ∧ ¬ z = 0 ∧ StaticIs s "jdk/internal/util/Preconditions" "SIOOBE_FORMATTER" "Ljava/util/function/BiFunction;" fm ∧ fm.isRef = true
def E (f : Nat → Int32) (i : Nat) (r : Option Value) (s u : State) : Prop := XT.PureE (some (.int (f i))) r s u
/-- charAt(i) of a Latin-1 String of n chars, i < n: f i -/
theorem law (l : Launch) (x t : Addr) (V : Cell) (n : Nat) (f : Nat → Int32) (z : Int32) (fm : Value) (i : Nat) : Law l yN 2 1 3 40 yB 2 (some .char) site (P x t V n f z fm i) (E f i) [] 0 0 := by
  refine Law.of_walk (plainFor_of_name (by decide +kernel)) (by decide +kernel) (by decide +kernel) (by decide) (fun _ _ h => by rw [h.1]; rfl) (fun _ U U' hal hh h => ⟨h.1, h.2.1.mv hal hh, h.2.2.1, h.2.2.2.1.there hal hh, h.2.2.2.2.1, h.2.2.2.2.2.1.there hal hh, h.2.2.2.2.2.2⟩) (fun r U U' V V' h1 hal h2 h => XT.PureE.mv r U U' V V' h1 hal h2 h) ?_
  intro p e s m args below meth c s₁ X0 hexec hbytes hml hret hlk hnm hown hh0 W hP
  obtain ⟨rfl, hx, hi, s1, hz, s3, rf⟩ := hP
  have v31 := hx.2.2.2.1.2.2.2
  have hr := hx.2.2.2.2.2 i hi
  have hx0 := hx.mv X0.warmed.alike hh0
  have c1 : Steps p.tables e below (s₁.setTop (entryFrame m #[.ref x, .int (Int32.ofNat i)] 2)) (s₁.setTop (mkF m 1 #[.val (.ref x), .val (.int (Int32.ofNat i))] [.ref x])) := Steps.trans (entry rfl) (by
    show Steps p.tables e below (s₁.setTop (mkF m 0 #[.val (.ref x), .val (.int (Int32.ofNat i))] [])) _
    refine XS.aloadN X0.here hexec rfl (hb hbytes d0) rfl rfl ?_
    exact Steps.refl _)
  obtain ⟨v2, T2, X2, E2, g2⟩ := X0.callV hexec (IsL.law l x 0 z) hown (wks W (virtW "java/lang/String" 492 "java/lang/String" IsL.yN IsL.yN)) rfl (by decide) (wk W IsL.tab) (W := 0) (Nat.le_of_ble_eq_true rfl) (Nat.le_of_ble_eq_true rfl) (Nat.le_refl _) (Nat.le_refl _) (hx0.1.fc X0.warmed.alike) hx0.1.is (g := (mkF m 1 #[.val (.ref x), .val (.int (Int32.ofNat i))] [.ref x])) rfl (by rw [hml]; rfl) c1 (argsL := []) (rest := []) rfl rfl (by show 2 * 0 + 0 ≤ _; decide) (hb hbytes d1) (⟨rfl, hx0.2.2.1, hx.2.2.2.2.1.cd, s1.there X0.warmed.alike hh0, hz⟩)
  obtain ⟨rfl, q2⟩ := E2
  have hh2 := q2.trans hh0
  have hx2 := hx.mv X2.warmed.alike hh2
  obtain ⟨-, k1, k2⟩ | ⟨k0, -⟩ := hx.2.2.2.2.1
  · have c3 : Steps p.tables e below (s₁.setTop (entryFrame m #[.ref x, .int (Int32.ofNat i)] 2)) (T2.setTop (mkF m 8 #[.val (.ref x), .val (.int (Int32.ofNat i))] [.ref x])) := Steps.trans g2 (by
      refine XS.ifNo X2.here hexec rfl (hb hbytes d4) rfl (i0_eq_f (by decide)) ?_
      refine XS.aloadN X2.here hexec rfl (hb hbytes d7) rfl rfl ?_
      exact Steps.refl _)
    obtain ⟨T4, X4, q4, st4⟩ := X2.hget hexec hown (wk W (.fieldLink "java/lang/String" 9 "java/lang/String" "value" "[B")) hx2.2.1 (g := (mkF m 8 #[.val (.ref x), .val (.int (Int32.ofNat i))] [.ref x])) rfl (rest := []) rfl (hb hbytes d8)
    have hh4 := q4.trans hh2
    have c5 : Steps p.tables e below (s₁.setTop (entryFrame m #[.ref x, .int (Int32.ofNat i)] 2)) (T4.setTop (mkF m 12 #[.val (.ref x), .val (.int (Int32.ofNat i))] [.int (Int32.ofNat i), .ref t])) := (c3.trans (st4 _ (Steps.refl _))).trans (by
      refine XS.iloadN X4.here hexec rfl (hb hbytes d11) rfl ?_
      exact Steps.refl _)
    obtain ⟨v6, T6, X6, E6, g6⟩ := X4.callS hexec (LChA.law l t V i (lo8 (f i)) fm) hown (wks W (staticW "java/lang/String" 495 LChA.yN)) (wk W LChA.tab) (W := 0) (Nat.le_of_ble_eq_true rfl) (Nat.le_of_ble_eq_true rfl) (Nat.le_refl _) (Nat.le_refl _) (g := (mkF m 12 #[.val (.ref x), .val (.int (Int32.ofNat i))] [.int (Int32.ofNat i), .ref t])) rfl (by rw [hml]; rfl) c5 (argsL := [.ref t, .int (Int32.ofNat i)]) (rest := []) rfl rfl (by show 2 * 0 + 0 ≤ _; decide) (hb hbytes d12) (⟨rfl, hx.2.2.2.1.mv X4.warmed.alike hh4, (k2 i hi).1, s3.there X4.warmed.alike hh4, rf⟩)
    obtain ⟨rfl, q6⟩ := E6
    rw [chr8_lo8 hr.1 (k2 i hi).2] at g6
    exact ⟨T6, some (.int (f i)), _, _, _, X6, rfl, rfl, rfl, (fun h => by cases h), ⟨rfl, q6.trans hh4⟩, fun fs hl => Steps.trans g6 (X6.ireturnOut hexec hret (narrow_ch hr.1 hr.2) (Or.inr (Or.inr (Or.inr (Or.inl rfl)))) (hb hbytes d15) hl)⟩
  · exact absurd k0 (by decide)
theorem pays {l : Launch} {R : Room} {p : Program} {e : Env} {below : List Frame} {s : State} {sargs : Array Value} {len W : Nat} (x t : Addr) (V : Cell) (n : Nat) (f : Nat → Int32) (z : Int32) (fm : Value) (i : Nat) (htab : tab.before sargs s = true) (hfr : 4 ≤ R.frames) (hlo : W + 53 ≤ R.locals) :
    Back l R p e below s sargs yN len W (fun A₁ a₁ => A₁.cells + 0 ≤ R.cells ∧ A₁.slots + 0 ≤ R.slots ∧ P x t V n f z fm i a₁ A₁.U) (fun A₁ _ v₁ B₁ => E f i v₁ A₁.U B₁.U ∧ B₁.locs = A₁.locs ++ [] ∧ B₁.cells = A₁.cells + 0 ∧ B₁.slots = A₁.slots + 0) :=
  (law l x t V n f z fm i).pays htab hfr (by omega)
end ChN
end StrChars
namespace StrChars.Road
open Jvm Sem ClassFile Op Lib Jvm.Stand Jvm.Free Jvm.Free.XT
open Jvm.Lib.Cold (StaticIs)
/-- the words of String.charAt(int), the Latin-1 road alone -/
abbrev wordsChN : List Jvm.Cond := [.code ChN.yN ChN.yB 2 (some .char), .initialized ST, .fieldLink ST 9 ST "value" "[B", .fieldLink ST 38 ST "COMPACT_STRINGS" "Z", .fieldLink ST 15 ST "coder" "B", .code IsL.yN IsL.yB 1 (some .boolean), .methodLink ST 492 IsL.yN, .declares IsL.yN, .selects ST IsL.yN IsL.yN, .instanceMethod IsL.yN,
  .methodLink ST 495 LChA.yN, .static LChA.yN, .code LChA.yN LChA.yB 2 (some .char), .initialized "java/lang/StringLatin1", .methodLink "java/lang/StringLatin1" 9 JO.Str_checkIndex.yN, .static JO.Str_checkIndex.yN, .code JO.Str_checkIndex.yN JO.Str_checkIndex.yB 2 none,
  .fieldLink ST 1053 "jdk/internal/util/Preconditions" "SIOOBE_FORMATTER" "Ljava/util/function/BiFunction;", .methodLink ST 1059 JC.PreCheck.yN, .static JC.PreCheck.yN, .code JC.PreCheck.yN JC.PreCheck.yB 3 (some .int), .initialized "jdk/internal/util/Preconditions"]
theorem tabChN_of {a : Array Value} {s : State} (h : ∀ w ∈ wordsChN, w.before a s = true) : ChN.tab.before a s = true := by
  have hp : JC.PreCheck.tab.before a s = true := unparts (wk h (.code JC.PreCheck.yN JC.PreCheck.yB 3 (some .int))) (wks h (.initialized JC.PreCheck.yN.cls :: JC.PreCheck.site))
  have qk := consq hp h
  have hk : JO.Str_checkIndex.tab.before a s = true := unparts (wk qk (.code JO.Str_checkIndex.yN JO.Str_checkIndex.yB 2 none)) (wks qk (.initialized JO.Str_checkIndex.yN.cls :: JO.Str_checkIndex.site))
  have ql := consq hk h
  have hl : LChA.tab.before a s = true := unparts (wk ql (.code LChA.yN LChA.yB 2 (some .char))) (wks ql (.initialized LChA.yN.cls :: LChA.site))
  have hi : IsL.tab.before a s = true := unparts (wk h (.code IsL.yN IsL.yB 1 (some .boolean))) (wks h (.initialized IsL.yN.cls :: IsL.site))
  have q := consq hi (consq hl h)
  exact unparts (wk q (.code ChN.yN ChN.yB 2 (some .char))) (wks q (.initialized ChN.yN.cls :: ChN.site))
theorem movedChN {Z s : State} {a0 args : Array Value} (hZ : Z.Warmed39 s.vm) (hw : ∀ d ∈ wordsChN, d.before a0 Z = true) : ∀ d ∈ wordsChN, d.before args s = true := fun d hd => by
  have t : ∀ d ∈ wordsChN, (d.onTables && d.keepsFace) = true := by decide +kernel
  exact RoadKit.mv hZ (hw d hd) (t d hd)
/-- **charAt(i) OF A LATIN-1 STRING**, i < n: the char -/
theorem chN {p : Program} {l : Launch} {e : Env} {R : Room} {s : State} {args : Array Value} {below : List Frame} {len W : Nat} {Z : State} {a0 : Array Value} {h : Heap} (hZ : Z.Warmed39 s.vm) (hw : ∀ d ∈ wordsChN, d.before a0 Z = true) {kI : Nat} (wi : (Jvm.Cond.instantiable ST kI).before a0 Z = true)
    {x t : Addr} {kb : ClassId} {cs : List Int32} {N2 z : Int32} {vs : List Value} {fm : Value} {i : Nat} {j : Int32} (E : RoadKit.Exa Z h x ST) (V : RoadKit.Fld Z h x ST "value" "[B" (.ref t)) (C : RoadKit.Fld Z h x ST "coder" "B" (.int 0)) (K : RoadKit.Arv Z h t kb .byte N2 vs (.int 0)) (hc : CodA cs 0 N2 vs) (hb : ∀ c ∈ cs, ¬ c < 0 ∧ ¬ (65535 : Int32) < c)
    (S : RoadKit.Sta Z h ST "COMPACT_STRINGS" "Z" (.int z)) (hz : ¬ z = 0) (F : RoadKit.Sta Z h "jdk/internal/util/Preconditions" "SIOOBE_FORMATTER" "Ljava/util/function/BiFunction;" fm) (rf : fm.isRef = true) (l2 : cs.length ≤ 4000) (hi : i < cs.length) (hj : j = Int32.ofNat i) (hfr : 4 ≤ R.frames) (hlo : W + 53 ≤ R.locals) :
    Back l R p e below s args (⟨"java/lang/String", "charAt", "(I)C"⟩ : MethodName) len W (fun P a => a = #[.ref x, .int j] ∧ P.U.heap = h ∧ P.cells + 0 ≤ R.cells ∧ P.slots + 0 ≤ R.slots)
      (fun P _ v B => ∃ L, (v = some (.int (cs.getD i 0)) ∧ L = [] ∧ B.U.heap = h) ∧ B.locs = P.locs ++ L ∧ B.cells = P.cells + 0 ∧ B.slots = P.slots + 0) := by
  subst hj
  intro m meth c P g ig mk a X hg hsize hdg hW hn hp'
  obtain ⟨rfl, rfl, r1, r2⟩ := hp'
  have al : Z.vm.Alike P.U.vm := hZ.alike.trans X.warmed.alike
  obtain ⟨A, hx⟩ := txt_of wi al E V C K hc hb l2
  obtain ⟨v, B, X', ⟨⟨hv, hh⟩, hl, hk, hs⟩, st⟩ := ChN.pays x t A cs.length (fun j => cs.getD j 0) z fm i (tabChN_of (movedChN hZ hw)) hfr hlo m meth c P g ig mk _ X hg hsize hdg hW hn ⟨r1, r2, rfl, hx, hi, sta_is al S, hz, sta_is al F, rf⟩
  exact ⟨v, B, X', ⟨[], ⟨hv, rfl, hh⟩, hl, hk, hs⟩, st⟩
/-- what backV says of its String, as the contracts of this text ask it: cs's low bytes, coder 0 -/
theorem codOf {cs : List Int32} {n : Nat} (hn : cs.length = n) (hb : ∀ c ∈ cs, ¬ 255 < c) : CodA cs 0 (Int32.ofNat n) ((cs.map lo8).map Value.int) := Or.inl ⟨rfl, by rw [hn], by simp [List.map_map, Function.comp_def], hb⟩
end StrChars.Road
end Jvm.Pilot.@@N@@
namespace Jvm.Pilot.@@N@@
open Jvm Jvm.ClassFile Sem Op Lib Jvm.Free Jvm.Stand Jvm.LawKit Jvm.RoadKit Bundle Jvm.Pilot.@@N@@.Jvm.D
/-! 0. own tools: the goal that a walk carries; an array's store and load by what is known of it -/
def Go (tb : Tables) (e : Env) (below : List Frame) (P : State → Prop) (s : State) : Prop := ∃ s₂, Steps tb e below s s₂ ∧ P s₂
section OwnTools
variable {tb : Tables} {e : Env} {below : List Frame} {P : State → Prop} {A B : State}
theorem Go.st (h : ∀ t, Steps tb e below A t → Steps tb e below B t) (g : Go tb e below P A) : Go tb e below P B := by
  obtain ⟨s₂, h1, h2⟩ := g
  exact ⟨s₂, h _ h1, h2⟩
theorem Go.tr (h : Steps tb e below B A) (g : Go tb e below P A) : Go tb e below P B := by
  obtain ⟨s₂, h1, h2⟩ := g
  exact ⟨s₂, h.trans h1, h2⟩
theorem Go.start {Q : Outcome → State → Prop} (h : ∀ P : State → Prop, (∀ s₂ o, s₂.status = .running → Ended s₂ below o → Q o s₂ → P s₂) → Go tb e below P A) : ∃ s₂ o, Steps tb e below A s₂ ∧ s₂.status = .running ∧ Ended s₂ below o ∧ Q o s₂ := by
  obtain ⟨s₂, h1, o, h2, h3, h4⟩ := h (fun s₂ => ∃ o, s₂.status = .running ∧ Ended s₂ below o ∧ Q o s₂) (fun s₂ o a b c => ⟨o, a, b, c⟩)
  exact ⟨s₂, o, h1, h2, h3, h4⟩
abbrev lR (a : Addr) : Slot := .val (.ref a)
abbrev lI (x : Int32) : Slot := .val (.int x)
abbrev lJ (x : Int64) : Slot := .val (.long x)
abbrev lD (x : UInt64) : Slot := .val (.double x)
abbrev lN : Slot := .val .null
abbrev lU : Slot := .unset
abbrev lS : Slot := .second
theorem ow {a0 : Array Value} {Z : State} (hw : ∀ d ∈ tables_1, d.before a0 Z = true) (i : Nat) {d : Jvm.Cond} (h : tables_1[i]? = some d) : d.before a0 Z = true := hw d (List.mem_of_getElem? h)
theorem own_oldsz {Z : State} {n0 : Nat} {h : Heap} (X : Old Z n0 h) : n0 ≤ h.size := by have := X.1; have := X.2.1; omega
theorem own_cat {v : Value} (h : v.isRef = true) : v.category = 1 := by cases v <;> first | rfl | simp [Value.isRef] at h
theorem own_refcase {v : Value} (h : v.isRef = true) : v = .null ∨ ∃ a, v = .ref a := by cases v <;> first | (left; rfl) | (right; exact ⟨_, rfl⟩) | (simp [Value.isRef] at h)
theorem own_nar_ref {v : Value} {t : FieldType} (h : v.isRef = true) : narrow t v = v := by cases v <;> first | (simp [Value.isRef] at h; done) | (cases t <;> rfl)
theorem own_fits_ref {v : Value} {t : FieldType} (h : v.isRef = true) (ht : t.isReference = true := by rfl) : fits t v = true := by cases v <;> first | (simp [Value.isRef] at h; done) | (cases t <;> first | rfl | (simp [FieldType.isReference] at ht))
theorem own_eq_ref {args : Array Value} {first s : State} {o : Option Outcome} {idx : List Nat} {a b : Term} {w : Addr} (hb : b.eval args first o idx s = some (.ref w)) (h : (Cond.eq a b).value args first o s idx = some true) : a.eval args first o idx s = some (.ref w) := by
  cases ha : a.eval args first o idx s with
  | none => simp [Cond.value, ha] at h
  | some x => cases x <;> simp [Cond.value, ha, hb] at h ⊢; exact h
theorem own_len_start {args : Array Value} {s : State} {t : Term} {n : Int32} {a : Addr} {cl : Cell} (h : (Term.length t).eval args s none [] s = some (.int n)) (ht : t.eval args s none [] s = some (.ref a)) (hc : s.heap[a]? = some cl) : cl.slots.size < 2 ^ 31 ∧ cl.slots.size.toInt32 = n := by
  simp only [Term.eval, ht, Option.bind_eq_bind, Option.bind_some] at h
  cases hq : s.arrayAt? a with
  | none => simp [hq] at h
  | some c2 =>
    have e := (State.arrayAt?_spec hq).1
    cases hc.symm.trans e
    simp only [hq, Option.bind_some] at h
    split at h
    · rename_i hlt; exact ⟨hlt, by simpa using h⟩
    · cases h
theorem own_since (s : State) : s.Since s.vm 0 := (State.WarmedH.refl s).since 0
theorem own_and255 (x : Int32) : ¬ (x &&& 255) < 0 ∧ ¬ (255 : Int32) < (x &&& 255) := by
  have h := c_and x 255 (by decide)
  have e0 : (0 : Int32).toInt = 0 := rfl
  have e1 : (255 : Int32).toInt = 255 := rfl
  rw [Int32.lt_iff_toInt_lt, Int32.lt_iff_toInt_lt]
  omega
theorem own_nar_i2c (x : Int32) : nar .char (x.toUInt32.toUInt16.toUInt32.toInt32) = x.toUInt32.toUInt16.toUInt32.toInt32 := by
  show (x.toUInt32.toUInt16.toUInt32.toInt32).toUInt32.toUInt16.toUInt32.toInt32 = _
  rw [UInt32.toUInt32_toInt32, UInt16.toUInt16_toUInt32]
theorem own_nar_i2b (x : Int32) : nar .byte (x.toInt8.toInt32) = x.toInt8.toInt32 := by
  show (x.toInt8.toInt32).toInt8.toInt32 = _
  simp
theorem own_narZ {x : Int32} (h : x = 0 ∨ x = 1) : nar .boolean x = x := by rcases h with rfl | rfl <;> rfl
theorem own_up (cs : List Int32) (h : ∀ c ∈ cs, ¬ c < 0 ∧ ¬ (255 : Int32) < c) : ∀ c ∈ cs, ¬ c < 0 ∧ ¬ (65535 : Int32) < c := fun c hc => ⟨(h c hc).1, fun q => (h c hc).2 (by rw [Int32.lt_iff_toInt_lt] at q ⊢; have e1 : (65535 : Int32).toInt = 65535 := rfl; have e2 : (255 : Int32).toInt = 255 := rfl; omega)⟩
theorem own_narC {x : Int32} (h : ¬ x < 0 ∧ ¬ (255 : Int32) < x) : nar .char x = x := by
  have e0 : (0 : Int32).toInt = 0 := rfl
  have e1 : (255 : Int32).toInt = 255 := rfl
  have a := h.1
  have b := h.2
  rw [Int32.lt_iff_toInt_lt, e0] at a
  rw [Int32.lt_iff_toInt_lt, e1] at b
  have c := c_i2c x
  exact Int32.toInt_inj.mp (show x.toUInt32.toUInt16.toUInt32.toInt32.toInt = x.toInt by omega)
theorem own_int {r : Int32} {k : Int} (h : r.toInt = k) {q : Int32} (hq : q.toInt = k) : r = q := Int32.toInt_inj.mp (by rw [h, hq])
end OwnTools
section OwnArrays
variable {p : Program} {l : Launch} {e : Env} {R : Room} {s : State} {m : MethodId} {args : Array Value} {below : List Frame} {meth : Method} {c : Code} {T : State} {locs : List Loc} {cells slots : Nat} {Z : State} {h : Heap} {a : Addr} {k : ClassId} {z : Int32} {vs : List Value} {dv : Value}
theorem own_stC (X : Stand p l e R s m args below meth c T locs cells slots) (hx : p.tables.exec = Jvm.exec) (hZ : Z.Warmed39 s.vm) (eT : T.heap = h) (V : Arv Z h a k .char z vs dv) {j x : Int32} {i : Nat} (hj : ¬ j < 0 ∧ j < z) (hji : j.toNatClampNeg = i) (hi : i < vs.length) {g : JFrame} (hg : g.method = m) {rest : List Value} (hs : g.stack = .int x :: .int j :: .ref a :: rest) (hd : decode c.code g.pc = .ok (.castore, 1)) :
    ∃ T' h', Stand p l e R s m args below meth c T' (locs ++ [⟨a, j.toNatClampNeg⟩]) cells slots ∧ T'.heap = h' ∧ Wr h h' a j.toNatClampNeg (.int (nar .char x)) ∧ Arv Z h' a k .char z (vs.set i (.int (nar .char x))) dv ∧ ∀ target, Steps p.tables e below (T'.setTop { g with pc := g.pc + 1, stack := rest }) target → Steps p.tables e below (T.setTop g) target := by
  obtain ⟨cl, A, q1, S, q3, H, G⟩ := V
  obtain ⟨T', h', X', e', W, st⟩ := stC X hx hZ eT A (inb_of S hj) hg hs hd
  exact ⟨T', h', X', e', W, Arv.set A q1 S q3 H G (fits_nar_char x) W i hji hi, st⟩
theorem own_stI (X : Stand p l e R s m args below meth c T locs cells slots) (hx : p.tables.exec = Jvm.exec) (hZ : Z.Warmed39 s.vm) (eT : T.heap = h) (V : Arv Z h a k .int z vs dv) {j x : Int32} {i : Nat} (hj : ¬ j < 0 ∧ j < z) (hji : j.toNatClampNeg = i) (hi : i < vs.length) {g : JFrame} (hg : g.method = m) {rest : List Value} (hs : g.stack = .int x :: .int j :: .ref a :: rest) (hd : decode c.code g.pc = .ok (.iastore, 1)) :
    ∃ T' h', Stand p l e R s m args below meth c T' (locs ++ [⟨a, j.toNatClampNeg⟩]) cells slots ∧ T'.heap = h' ∧ Wr h h' a j.toNatClampNeg (.int x) ∧ Arv Z h' a k .int z (vs.set i (.int x)) dv ∧ ∀ target, Steps p.tables e below (T'.setTop { g with pc := g.pc + 1, stack := rest }) target → Steps p.tables e below (T.setTop g) target := by
  obtain ⟨cl, A, q1, S, q3, H, G⟩ := V
  obtain ⟨T', h', X', e', W, st⟩ := stI X hx hZ eT A (inb_of S hj) hg hs hd
  exact ⟨T', h', X', e', W, Arv.set A q1 S q3 H G rfl W i hji hi, st⟩
theorem own_stZ (X : Stand p l e R s m args below meth c T locs cells slots) (hx : p.tables.exec = Jvm.exec) (hZ : Z.Warmed39 s.vm) (eT : T.heap = h) (V : Arv Z h a k .boolean z vs dv) {j x : Int32} {i : Nat} (hj : ¬ j < 0 ∧ j < z) (hji : j.toNatClampNeg = i) (hi : i < vs.length) {g : JFrame} (hg : g.method = m) {rest : List Value} (hs : g.stack = .int x :: .int j :: .ref a :: rest) (hd : decode c.code g.pc = .ok (.bastore, 1)) :
    ∃ T' h', Stand p l e R s m args below meth c T' (locs ++ [⟨a, j.toNatClampNeg⟩]) cells slots ∧ T'.heap = h' ∧ Wr h h' a j.toNatClampNeg (.int (nar .boolean x)) ∧ Arv Z h' a k .boolean z (vs.set i (.int (nar .boolean x))) dv ∧ ∀ target, Steps p.tables e below (T'.setTop { g with pc := g.pc + 1, stack := rest }) target → Steps p.tables e below (T.setTop g) target := by
  obtain ⟨cl, A, q1, S, q3, H, G⟩ := V
  obtain ⟨T', h', X', e', W, st⟩ := stZ X hx hZ eT A (inb_of S hj) hg hs hd
  exact ⟨T', h', X', e', W, Arv.set A q1 S q3 H G (fits_nar_bool x) W i hji hi, st⟩
theorem own_stB (X : Stand p l e R s m args below meth c T locs cells slots) (hx : p.tables.exec = Jvm.exec) (hZ : Z.Warmed39 s.vm) (eT : T.heap = h) (V : Arv Z h a k .byte z vs dv) {j x : Int32} {i : Nat} (hj : ¬ j < 0 ∧ j < z) (hji : j.toNatClampNeg = i) (hi : i < vs.length) {g : JFrame} (hg : g.method = m) {rest : List Value} (hs : g.stack = .int x :: .int j :: .ref a :: rest) (hd : decode c.code g.pc = .ok (.bastore, 1)) :
    ∃ T' h', Stand p l e R s m args below meth c T' (locs ++ [⟨a, j.toNatClampNeg⟩]) cells slots ∧ T'.heap = h' ∧ Wr h h' a j.toNatClampNeg (.int (nar .byte x)) ∧ Arv Z h' a k .byte z (vs.set i (.int (nar .byte x))) dv ∧ ∀ target, Steps p.tables e below (T'.setTop { g with pc := g.pc + 1, stack := rest }) target → Steps p.tables e below (T.setTop g) target := by
  obtain ⟨cl, A, q1, S, q3, H, G⟩ := V
  obtain ⟨T', h', X', e', W, st⟩ := stB X hx hZ eT A (inb_of S hj) hg hs hd
  exact ⟨T', h', X', e', W, Arv.set A q1 S q3 H G (fits_nar_byte x) W i hji hi, st⟩
theorem own_stD (X : Stand p l e R s m args below meth c T locs cells slots) (hx : p.tables.exec = Jvm.exec) (hZ : Z.Warmed39 s.vm) (eT : T.heap = h) (V : Arv Z h a k .double z vs dv) {j : Int32} {x : UInt64} {i : Nat} (hj : ¬ j < 0 ∧ j < z) (hji : j.toNatClampNeg = i) (hi : i < vs.length) {g : JFrame} (hg : g.method = m) {rest : List Value} (hs : g.stack = .double x :: .int j :: .ref a :: rest) (hd : decode c.code g.pc = .ok (.dastore, 1)) :
    ∃ T' h', Stand p l e R s m args below meth c T' (locs ++ [⟨a, j.toNatClampNeg⟩]) cells slots ∧ T'.heap = h' ∧ Wr h h' a j.toNatClampNeg (.double x) ∧ Arv Z h' a k .double z (vs.set i (.double x)) dv ∧ ∀ target, Steps p.tables e below (T'.setTop { g with pc := g.pc + 1, stack := rest }) target → Steps p.tables e below (T.setTop g) target := by
  obtain ⟨cl, A, q1, S, q3, H, G⟩ := V
  obtain ⟨T', h', X', e', W, st⟩ := stD X hx hZ eT A (inb_of S hj) hg hs hd
  exact ⟨T', h', X', e', W, Arv.set A q1 S q3 H G rfl W i hji hi, st⟩
theorem own_at {ty : FieldType} (V : Arv Z h a k ty z vs dv) {j : Int32} {i : Nat} {v : Value} (hj : ¬ j < 0 ∧ j < z) (hji : j.toNatClampNeg = i) (hv : vs.getD i dv = v) : ∃ cl : Cell, Arr Z h a cl ty ∧ ¬ (j < 0 ∨ cl.slots.size ≤ j.toNatClampNeg) ∧ cl.slots[j.toNatClampNeg]? = some v := by
  obtain ⟨cl, A, q1, S, q3, H, G⟩ := V
  exact ⟨cl, A, inb_of S hj, Has.at H (inb_of S hj) (by rw [hji]; exact hv)⟩
theorem own_ldI (X : Stand p l e R s m args below meth c T locs cells slots) (hx : p.tables.exec = Jvm.exec) (hZ : Z.Warmed39 s.vm) (eT : T.heap = h) (V : Arv Z h a k .int z vs dv) {j : Int32} {i : Nat} {v : Value} (hj : ¬ j < 0 ∧ j < z) (hji : j.toNatClampNeg = i) (hv : vs.getD i dv = v) {g : JFrame} (hg : g.method = m) {rest : List Value} (hs : g.stack = .int j :: .ref a :: rest) (hd : decode c.code g.pc = .ok (.iaload, 1)) (target : State) :
    Steps p.tables e below (T.setTop { g with pc := g.pc + 1, stack := v :: rest }) target → Steps p.tables e below (T.setTop g) target := by
  obtain ⟨cl, A, hin, hat⟩ := own_at V hj hji hv
  exact X.iaload hx (by rw [eT]; exact A.1) (State.isArrayOf_alike hZ.alike A.2.1) A.2.2 hin hat hg hs hd target
theorem own_ldC (X : Stand p l e R s m args below meth c T locs cells slots) (hx : p.tables.exec = Jvm.exec) (hZ : Z.Warmed39 s.vm) (eT : T.heap = h) (V : Arv Z h a k .char z vs dv) {j : Int32} {i : Nat} {v : Value} (hj : ¬ j < 0 ∧ j < z) (hji : j.toNatClampNeg = i) (hv : vs.getD i dv = v) {g : JFrame} (hg : g.method = m) {rest : List Value} (hs : g.stack = .int j :: .ref a :: rest) (hd : decode c.code g.pc = .ok (.caload, 1)) (target : State) :
    Steps p.tables e below (T.setTop { g with pc := g.pc + 1, stack := v :: rest }) target → Steps p.tables e below (T.setTop g) target := by
  obtain ⟨cl, A, hin, hat⟩ := own_at V hj hji hv
  exact X.caload hx (by rw [eT]; exact A.1) (State.isArrayOf_alike hZ.alike A.2.1) A.2.2 hin hat hg hs hd target
theorem own_ldZ (X : Stand p l e R s m args below meth c T locs cells slots) (hx : p.tables.exec = Jvm.exec) (hZ : Z.Warmed39 s.vm) (eT : T.heap = h) (V : Arv Z h a k .boolean z vs dv) {j : Int32} {i : Nat} {v : Value} (hj : ¬ j < 0 ∧ j < z) (hji : j.toNatClampNeg = i) (hv : vs.getD i dv = v) {g : JFrame} (hg : g.method = m) {rest : List Value} (hs : g.stack = .int j :: .ref a :: rest) (hd : decode c.code g.pc = .ok (.baload, 1)) (target : State) :
    Steps p.tables e below (T.setTop { g with pc := g.pc + 1, stack := v :: rest }) target → Steps p.tables e below (T.setTop g) target := by
  obtain ⟨cl, A, hin, hat⟩ := own_at V hj hji hv
  exact X.baloadBooleans hx (by rw [eT]; exact A.1) (State.isArrayOf_alike hZ.alike A.2.1) A.2.2 hin hat hg hs hd target
theorem own_ldB (X : Stand p l e R s m args below meth c T locs cells slots) (hx : p.tables.exec = Jvm.exec) (hZ : Z.Warmed39 s.vm) (eT : T.heap = h) (V : Arv Z h a k .byte z vs dv) {j : Int32} {i : Nat} {v : Value} (hj : ¬ j < 0 ∧ j < z) (hji : j.toNatClampNeg = i) (hv : vs.getD i dv = v) {g : JFrame} (hg : g.method = m) {rest : List Value} (hs : g.stack = .int j :: .ref a :: rest) (hd : decode c.code g.pc = .ok (.baload, 1)) (target : State) :
    Steps p.tables e below (T.setTop { g with pc := g.pc + 1, stack := v :: rest }) target → Steps p.tables e below (T.setTop g) target := by
  obtain ⟨cl, A, hin, hat⟩ := own_at V hj hji hv
  exact X.baloadBytes hx (by rw [eT]; exact A.1) (State.isArrayOf_alike hZ.alike A.2.1) A.2.2 hin hat hg hs hd target
theorem own_ldD (X : Stand p l e R s m args below meth c T locs cells slots) (hx : p.tables.exec = Jvm.exec) (hZ : Z.Warmed39 s.vm) (eT : T.heap = h) (V : Arv Z h a k .double z vs dv) {j : Int32} {i : Nat} {v : Value} (hj : ¬ j < 0 ∧ j < z) (hji : j.toNatClampNeg = i) (hv : vs.getD i dv = v) {g : JFrame} (hg : g.method = m) {rest : List Value} (hs : g.stack = .int j :: .ref a :: rest) (hd : decode c.code g.pc = .ok (.daload, 1)) (target : State) :
    Steps p.tables e below (T.setTop { g with pc := g.pc + 1, stack := v :: rest }) target → Steps p.tables e below (T.setTop g) target := by
  obtain ⟨cl, A, hin, hat⟩ := own_at V hj hji hv
  exact X.daload hx (by rw [eT]; exact A.1) (State.isArrayOf_alike hZ.alike A.2.1) A.2.2 hin hat hg hs hd target
theorem own_ldR {C : String} (X : Stand p l e R s m args below meth c T locs cells slots) (hx : p.tables.exec = Jvm.exec) (hZ : Z.Warmed39 s.vm) (eT : T.heap = h) (V : Arv Z h a k (.object C) z vs dv) {j : Int32} {i : Nat} {v : Value} (hj : ¬ j < 0 ∧ j < z) (hji : j.toNatClampNeg = i) (hv : vs.getD i dv = v) {g : JFrame} (hg : g.method = m) {rest : List Value} (hs : g.stack = .int j :: .ref a :: rest) (hd : decode c.code g.pc = .ok (.aaload, 1)) (target : State) :
    Steps p.tables e below (T.setTop { g with pc := g.pc + 1, stack := v :: rest }) target → Steps p.tables e below (T.setTop g) target := by
  obtain ⟨cl, A, hin, hat⟩ := own_at V hj hji hv
  exact X.aaload hx (by rw [eT]; exact A.1) (State.isArrayOf_alike hZ.alike A.2.1) rfl A.2.2 hin hat hg hs hd target
theorem own_len {ty : FieldType} (X : Stand p l e R s m args below meth c T locs cells slots) (hx : p.tables.exec = Jvm.exec) (hZ : Z.Warmed39 s.vm) (eT : T.heap = h) (V : Arv Z h a k ty z vs dv) {g : JFrame} (hg : g.method = m) {rest : List Value} (hs : g.stack = .ref a :: rest) (hd : decode c.code g.pc = .ok (.arraylength, 1)) (target : State) :
    Steps p.tables e below (T.setTop { g with pc := g.pc + 1, stack := .int z :: rest }) target → Steps p.tables e below (T.setTop g) target := by
  obtain ⟨cl, A, q1, S, q3, H, G⟩ := V
  have q := X.arraylength hx (by rw [eT]; exact A.1) (State.isArrayOf_alike hZ.alike A.2.1) hg hs hd target
  rw [len_of S q3] at q
  exact q
theorem own_getD_int (xs : List Int32) (i : Nat) : (xs.map Value.int).getD i (.int 0) = .int (xs.getD i 0) := by
  simp only [List.getD_eq_getElem?_getD, List.getElem?_map]
  cases xs[i]? <;> rfl
theorem own_arv_set {ty : FieldType} {xs : List Int32} {i : Nat} {v : Int32} (V : Arv Z h a k ty z ((xs.map Value.int).set i (.int v)) dv) : Arv Z h a k ty z ((xs.set i v).map Value.int) dv := by rw [List.map_set]; exact V
end OwnArrays

theorem own_strAtoms : ∀ a ∈ Bundle.stringAtoms, a ∈ tables_1 := by decide +kernel
theorem own_wNew : ∀ d ∈ StrChars.Road.words, d ∈ tables_1 := by decide +kernel
theorem own_wEq : ∀ d ∈ StrChars.Road.wordsEq, d ∈ tables_1 := by decide +kernel
theorem own_wCh : ∀ d ∈ StrChars.Road.wordsChN, d ∈ tables_1 := by decide +kernel
theorem own_safe_null {Z : State} {EL : List (String × Nat)} {vm : Vm} {h : Heap} {x : Addr} (hal : Z.vm.Alike vm) (E : Exa Z h x "java/lang/String") (V : Fld Z h x "java/lang/String" "value" "[B" .null) : Safe Z EL vm h x := fun B => by
  obtain ⟨p, hp, u, a, hb, q, hqa, F, hy⟩ := B
  obtain ⟨cS, ⟨⟨s1, s2, s3, ⟨cv, kv, iv, s4, s4'⟩, s5, s6, s7, s8, s9, s10, srest⟩, hfS, hcS⟩, k1, hB, hbyt⟩ := F
  rcases hy with rfl | rfl
  · obtain ⟨cell, cf, k, i, f, h1, h2, h3, h4, h5, h6, h7⟩ := V
    have e1 : h[q.sa]? = some q.sC := s1
    cases h1.symm.trans e1
    obtain ⟨kv', z4⟩ := ff_back (U := Wst Z vm h) hal s4
    have z5 := h2.symm.trans z4
    simp only [Option.some.injEq, Prod.mk.injEq] at z5
    rw [z5.2.2.2, s8] at h7
    cases h7
  · obtain ⟨cell, k, h1, h2, h3, h4, h5⟩ := E
    have e1 : h[q.sd]? = some q.SA := s10
    cases h1.symm.trans e1
    have hB' : vm.findClass "[B" = some q.SA.cls := hB
    rw [hal.findClass] at hB'
    obtain ⟨ka, a1, a2⟩ := Vm.findClass_spec h2
    obtain ⟨kb, b1, b2⟩ := Vm.findClass_spec hB'
    cases a1.symm.trans b1
    exact absurd (a2.symm.trans b2) (by decide)
theorem own_arvN {Z : State} {h : Heap} {t : Addr} {k : ClassId} {cs : List Int32} {n : Nat} {vs : List Value} {dv : Value} (hn : cs.length = n) (A : Arv Z h t k .byte (Int32.ofNat n) vs dv) : Arv Z h t k .byte (Int32.ofNat cs.length) vs dv := by rw [hn]; exact A
theorem own_set_small {xs : List Int32} {i : Nat} {v : Int32} (h : ∀ c ∈ xs, ¬ c < 0 ∧ ¬ (255 : Int32) < c) (hv : ¬ v < 0 ∧ ¬ (255 : Int32) < v) : ∀ c ∈ xs.set i v, ¬ c < 0 ∧ ¬ (255 : Int32) < c := fun c hc => by
  rcases List.mem_or_eq_of_mem_set hc with q | q
  · exact h c q
  · rw [q]; exact hv
theorem own_set_eq {xs : List Int32} {i : Nat} {v : Int32} (hi : i < xs.length) : xs.set i v = xs ↔ v = xs.getD i 0 := by
  constructor
  · intro q
    have e := congrArg (fun l : List Int32 => l.getD i 0) q
    simp only [List.getD_eq_getElem?_getD, List.getElem?_set_self hi] at e
    simpa [List.getD_eq_getElem?_getD] using e
  · intro q
    apply List.ext_getElem?
    intro j
    rw [List.getElem?_set]
    split
    · rename_i e; subst e; rw [q, List.getD_eq_getElem?_getD, List.getElem?_eq_getElem hi]; simp [hi]
    · rfl
theorem own_natback {j : Int32} (h : ¬ j < 0) : j = Int32.ofNat j.toNatClampNeg := (back32 h).1.symm
theorem own_EW (Z : State) (a0 : Array Value) (hw : ∀ d ∈ tables_1, d.before a0 Z = true) : EW Z a0 consts_1 := (EW.cons (ow hw 0 rfl) (by decide) EW.nil)
theorem own_ef_rm_canEnc (m : MethodId) (x0 : Int32) : entryFrame m #[(.int x0)] 1 = mkF m 0 #[.val (.int x0)] [] := by first | (simp [entryFrame, mkF, argsToLocals, Value.category]; done) | rfl
theorem own_pn0 : plainName "java/lang/StringLatin1" = true := by first | (simp [plainName, overriddenIn]; done) | decide +kernel
theorem own_d_jdk_43_method_3_code_0 : decode jdk_43_method_3_code 0 = .ok (.iload_n 0, 1) := by decide +kernel
theorem own_d_jdk_43_method_3_code_1 : decode jdk_43_method_3_code 1 = .ok (.sipush 255, 3) := by decide +kernel
theorem own_d_jdk_43_method_3_code_4 : decode jdk_43_method_3_code 4 = .ok (.if_icmp .gt 7, 3) := by decide +kernel
theorem own_d_jdk_43_method_3_code_7 : decode jdk_43_method_3_code 7 = .ok (.iconst 1, 1) := by decide +kernel
theorem own_d_jdk_43_method_3_code_8 : decode jdk_43_method_3_code 8 = .ok (.goto 4, 3) := by decide +kernel
theorem own_d_jdk_43_method_3_code_12 : decode jdk_43_method_3_code 12 = .ok (.ireturn, 1) := by decide +kernel
def Q_rm_canEnc (Z : State) (w_US : Addr) (w_V : Addr) (k_V : ClassId) (w_ID : Addr) (w_IB : Addr) (k_IB : ClassId) (w_OE : Addr) (g_CS : Int32) (g_SF : Value) (p0 : Int32) (h0 : Heap) (n0 : Nat) (v : Option Value) (h : Heap) (L : List Loc) : Prop := v = some (.int (1 : Int32)) ∧ Fr n0 L ∧ h = h0
set_option maxRecDepth 65536 in
set_option maxHeartbeats 40000000 in
theorem rm_canEnc (l : Launch) (Z : State) (a0 : Array Value) (hw : ∀ d ∈ tables_1, d.before a0 Z = true) (ws : List Jvm.Cond) (w_US : Addr) (X_US : Exa Z Z.heap w_US "com/example/tidewall/tidewall/ledger/BusinessCalendar$1") (w_V : Addr) (k_V : ClassId) (S_V : Sta Z Z.heap "com/example/tidewall/tidewall/ledger/BusinessCalendar" "$VALUES" "[Lcom/example/tidewall/tidewall/ledger/BusinessCalendar;" (.ref w_V)) (X_V : Exa Z Z.heap w_V "[Lcom/example/tidewall/tidewall/ledger/BusinessCalendar;") (V_V : Arv Z Z.heap w_V k_V (.object "com/example/tidewall/tidewall/ledger/BusinessCalendar") (1 : Int32) [(.ref w_US)] .null) (S_UF : Sta Z Z.heap "com/example/tidewall/tidewall/ledger/BusinessCalendar" "US_FEDERAL_RESERVE" "Lcom/example/tidewall/tidewall/ledger/BusinessCalendar;" (.ref w_US)) (w_ID : Addr) (F_ID : Fld Z Z.heap w_US "com/example/tidewall/tidewall/ledger/BusinessCalendar" "id" "Ljava/lang/String;" (.ref w_ID)) (X_ID : Exa Z Z.heap w_ID "java/lang/String") (I_ID_coder : Fld Z Z.heap w_ID "java/lang/String" "coder" "B" (.int (0 : Int32))) (w_IB : Addr) (k_IB : ClassId) (F_IB : Fld Z Z.heap w_ID "java/lang/String" "value" "[B" (.ref w_IB)) (V_IB : Arv Z Z.heap w_IB k_IB .byte (18 : Int32) [(.int (117 : Int32)), (.int (115 : Int32)), (.int (45 : Int32)), (.int (102 : Int32)), (.int (101 : Int32)), (.int (100 : Int32)), (.int (101 : Int32)), (.int (114 : Int32)), (.int (97 : Int32)), (.int (108 : Int32)), (.int (45 : Int32)), (.int (114 : Int32)), (.int (101 : Int32)), (.int (115 : Int32)), (.int (101 : Int32)), (.int (114 : Int32)), (.int (118 : Int32)), (.int (101 : Int32))] (.int (0 : Int32))) (w_OE : Addr) (S_OE : Sta Z Z.heap "java/util/Optional" "EMPTY" "Ljava/util/Optional;" (.ref w_OE)) (X_OE : Exa Z Z.heap w_OE "java/util/Optional") (I_OE_value : Fld Z Z.heap w_OE "java/util/Optional" "value" "Ljava/lang/Object;" .null) (g_CS : Int32) (S_CS : Sta Z Z.heap "java/lang/String" "COMPACT_STRINGS" "Z" (.int g_CS)) (nz_CS : ¬ (g_CS = (0 : Int32))) (g_SF : Value) (S_SF : Sta Z Z.heap "jdk/internal/util/Preconditions" "SIOOBE_FORMATTER" "Ljava/util/function/BiFunction;" g_SF) (r_SF : g_SF.isRef = true) (p0 : Int32) (h0 : Heap) (n0 : Nat) (X00 : Old Z n0 h0) (hsm : ¬ p0 < 0 ∧ ¬ (255 : Int32) < p0) :
    MetFree l (⟨"java/lang/StringLatin1", "canEncode", "(C)Z"⟩ : MethodName) (head1 (Jvm.Cond.code (⟨"java/lang/StringLatin1", "canEncode", "(C)Z"⟩ : MethodName) jdk_43_method_3_code 1 (some .boolean) :: ws) ({ frames := 0, cells := 0, slots := 0, locals := 0 } : Room)) (fun a U => a = #[(.int p0)] ∧ Z.Warmed39 U.vm ∧ U.heap = h0) (fun _ _ _ _ _ => True) (fun _ U o U' => ∃ v L, o = .returned v ∧ Q_rm_canEnc Z w_US w_V k_V w_ID w_IB k_IB w_OE g_CS g_SF p0 h0 n0 v U'.heap L ∧ FrameEnd U o U' L ({ frames := 0, cells := 0, slots := 0, locals := 0 } : Room).cells ({ frames := 0, cells := 0, slots := 0, locals := 0 } : Room).slots) := by
  refine MetFree.of_bodySF (plainFor_of_name own_pn0) hisR ?_
  intro p e s m args below meth c s₁ Bd hml0 hP hK
  obtain ⟨rfl, hZ, hh⟩ := hP
  have hx := Bd.exec
  have hby := Bd.bytes
  have hml : c.maxLocals = 1 := hml0
  have hown : s.vm.findClass "java/lang/StringLatin1" = some m.cls := findClass_of_methodNamed Bd.named
  have hnm := (name_of_methodNamed Bd.named Bd.method).1
  have X0 : Stand p l e ({ frames := 0, cells := 0, slots := 0, locals := 0 } : Room) s m #[(.int p0)] below meth c s₁ [] 0 0 := Stand.of_body Bd
  have e0 : s₁.heap = h0 := by rw [← hh, Bd.state]; rfl
  have N0 := Fr.nil n0
  refine Go.start fun P hPend => ?_
  refine Go.st (fun _ k => castTop (own_ef_rm_canEnc m p0) k) ?_
  show Go p.tables e below P (s₁.setTop (mkF m 0 #[.val (.int p0)] []))
  refine Go.st (fun _ => XS.iloadN X0.here hx rfl (hb hby own_d_jdk_43_method_3_code_0) rfl) ?_
  show Go p.tables e below P (s₁.setTop (mkF m 1 #[.val (.int p0)] [(.int p0)]))
  refine Go.st (fun _ => XS.sipush X0.here hx rfl (hb hby own_d_jdk_43_method_3_code_1)) ?_
  show Go p.tables e below P (s₁.setTop (mkF m 4 #[.val (.int p0)] [(.int (255 : Int32)), (.int p0)]))
  have hb1 : ¬ ((255 : Int32) < p0) := hsm.2
  refine Go.st (fun _ => XS.icmpNo X0.here hx rfl (hb hby own_d_jdk_43_method_3_code_4) rfl (flt hb1).2.2.1) ?_
  show Go p.tables e below P (s₁.setTop (mkF m 7 #[.val (.int p0)] []))
  refine Go.st (fun _ => XS.iconst X0.here hx rfl (hb hby own_d_jdk_43_method_3_code_7)) ?_
  show Go p.tables e below P (s₁.setTop (mkF m 8 #[.val (.int p0)] [(.int (1 : Int32))]))
  refine Go.st (fun _ => XS.goto X0.here hx rfl (pc0 := 8) (pc' := 12) rfl (hb hby own_d_jdk_43_method_3_code_8) (by decide) (by decide)) ?_
  show Go p.tables e below P (s₁.setTop (mkF m 12 #[.val (.int p0)] [(.int (1 : Int32))]))
  obtain ⟨fs, hr, hrun, hended, hW, hsame⟩ := X0.leave (v := some (.int (1 : Int32))) (fun h => by rw [Bd.returns] at h; cases h)
  refine ⟨_, ?_, hPend _ _ hrun hended ⟨_, _, rfl, ?_, ⟨_, rfl⟩, hW, hsame.mono (by decide) (by decide)⟩⟩
  · exact retN X0 hx (t := .boolean) Bd.returns (by simp) (hb hby own_d_jdk_43_method_3_code_12) hr
  · show Q_rm_canEnc Z _ _ _ _ _ _ _ _ _ _ h0 n0 _ s₁.heap _
    rw [e0]
    exact ⟨rfl, N0, rfl⟩
theorem own_ef_rm_toB (m : MethodId) (x0 : Int32) : entryFrame m #[(.int x0)] 1 = mkF m 0 #[.val (.int x0)] [] := by first | (simp [entryFrame, mkF, argsToLocals, Value.category]; done) | rfl
theorem own_d_jdk_43_method_46_code_0 : decode jdk_43_method_46_code 0 = .ok (.iconst 1, 1) := by decide +kernel
theorem own_d_jdk_43_method_46_code_1 : decode jdk_43_method_46_code 1 = .ok (.newarray .byte, 2) := by decide +kernel
theorem own_d_jdk_43_method_46_code_3 : decode jdk_43_method_46_code 3 = .ok (.dup, 1) := by decide +kernel
theorem own_d_jdk_43_method_46_code_4 : decode jdk_43_method_46_code 4 = .ok (.iconst 0, 1) := by decide +kernel
theorem own_d_jdk_43_method_46_code_5 : decode jdk_43_method_46_code 5 = .ok (.iload_n 0, 1) := by decide +kernel
theorem own_d_jdk_43_method_46_code_6 : decode jdk_43_method_46_code 6 = .ok (.i2b, 1) := by decide +kernel
theorem own_d_jdk_43_method_46_code_7 : decode jdk_43_method_46_code 7 = .ok (.bastore, 1) := by decide +kernel
theorem own_d_jdk_43_method_46_code_8 : decode jdk_43_method_46_code 8 = .ok (.areturn, 1) := by decide +kernel
def Q_rm_toB (Z : State) (w_US : Addr) (w_V : Addr) (k_V : ClassId) (w_ID : Addr) (w_IB : Addr) (k_IB : ClassId) (w_OE : Addr) (g_CS : Int32) (g_SF : Value) (p0 : Int32) (h0 : Heap) (n0 : Nat) (v : Option Value) (h : Heap) (L : List Loc) : Prop := ∃ (ob : Addr) (kb : ClassId), v = some (.ref ob) ∧ Fr n0 L ∧ Keep h0 h [] ∧ h0.size ≤ ob ∧ Arv Z h ob kb .byte (1 : Int32) [(.int p0.toInt8.toInt32)] (.int (0 : Int32))
set_option maxRecDepth 65536 in
set_option maxHeartbeats 40000000 in
theorem rm_toB (l : Launch) (Z : State) (a0 : Array Value) (hw : ∀ d ∈ tables_1, d.before a0 Z = true) (ws : List Jvm.Cond) (w_US : Addr) (X_US : Exa Z Z.heap w_US "com/example/tidewall/tidewall/ledger/BusinessCalendar$1") (w_V : Addr) (k_V : ClassId) (S_V : Sta Z Z.heap "com/example/tidewall/tidewall/ledger/BusinessCalendar" "$VALUES" "[Lcom/example/tidewall/tidewall/ledger/BusinessCalendar;" (.ref w_V)) (X_V : Exa Z Z.heap w_V "[Lcom/example/tidewall/tidewall/ledger/BusinessCalendar;") (V_V : Arv Z Z.heap w_V k_V (.object "com/example/tidewall/tidewall/ledger/BusinessCalendar") (1 : Int32) [(.ref w_US)] .null) (S_UF : Sta Z Z.heap "com/example/tidewall/tidewall/ledger/BusinessCalendar" "US_FEDERAL_RESERVE" "Lcom/example/tidewall/tidewall/ledger/BusinessCalendar;" (.ref w_US)) (w_ID : Addr) (F_ID : Fld Z Z.heap w_US "com/example/tidewall/tidewall/ledger/BusinessCalendar" "id" "Ljava/lang/String;" (.ref w_ID)) (X_ID : Exa Z Z.heap w_ID "java/lang/String") (I_ID_coder : Fld Z Z.heap w_ID "java/lang/String" "coder" "B" (.int (0 : Int32))) (w_IB : Addr) (k_IB : ClassId) (F_IB : Fld Z Z.heap w_ID "java/lang/String" "value" "[B" (.ref w_IB)) (V_IB : Arv Z Z.heap w_IB k_IB .byte (18 : Int32) [(.int (117 : Int32)), (.int (115 : Int32)), (.int (45 : Int32)), (.int (102 : Int32)), (.int (101 : Int32)), (.int (100 : Int32)), (.int (101 : Int32)), (.int (114 : Int32)), (.int (97 : Int32)), (.int (108 : Int32)), (.int (45 : Int32)), (.int (114 : Int32)), (.int (101 : Int32)), (.int (115 : Int32)), (.int (101 : Int32)), (.int (114 : Int32)), (.int (118 : Int32)), (.int (101 : Int32))] (.int (0 : Int32))) (w_OE : Addr) (S_OE : Sta Z Z.heap "java/util/Optional" "EMPTY" "Ljava/util/Optional;" (.ref w_OE)) (X_OE : Exa Z Z.heap w_OE "java/util/Optional") (I_OE_value : Fld Z Z.heap w_OE "java/util/Optional" "value" "Ljava/lang/Object;" .null) (g_CS : Int32) (S_CS : Sta Z Z.heap "java/lang/String" "COMPACT_STRINGS" "Z" (.int g_CS)) (nz_CS : ¬ (g_CS = (0 : Int32))) (g_SF : Value) (S_SF : Sta Z Z.heap "jdk/internal/util/Preconditions" "SIOOBE_FORMATTER" "Ljava/util/function/BiFunction;" g_SF) (r_SF : g_SF.isRef = true) (p0 : Int32) (h0 : Heap) (n0 : Nat) (X00 : Old Z n0 h0)  :
    MetFree l (⟨"java/lang/StringLatin1", "toBytes", "(C)[B"⟩ : MethodName) (head1 (Jvm.Cond.code (⟨"java/lang/StringLatin1", "toBytes", "(C)[B"⟩ : MethodName) jdk_43_method_46_code 1 (some (.array .byte)) :: ws) ({ frames := 0, cells := 1, slots := 1, locals := 0 } : Room)) (fun a U => a = #[(.int p0)] ∧ Z.Warmed39 U.vm ∧ U.heap = h0) (fun _ _ _ _ _ => True) (fun _ U o U' => ∃ v L, o = .returned v ∧ Q_rm_toB Z w_US w_V k_V w_ID w_IB k_IB w_OE g_CS g_SF p0 h0 n0 v U'.heap L ∧ FrameEnd U o U' L ({ frames := 0, cells := 1, slots := 1, locals := 0 } : Room).cells ({ frames := 0, cells := 1, slots := 1, locals := 0 } : Room).slots) := by
  refine MetFree.of_bodySF (plainFor_of_name own_pn0) hisR ?_
  intro p e s m args below meth c s₁ Bd hml0 hP hK
  obtain ⟨rfl, hZ, hh⟩ := hP
  have hx := Bd.exec
  have hby := Bd.bytes
  have hml : c.maxLocals = 1 := hml0
  have hown : s.vm.findClass "java/lang/StringLatin1" = some m.cls := findClass_of_methodNamed Bd.named
  have hnm := (name_of_methodNamed Bd.named Bd.method).1
  have X0 : Stand p l e ({ frames := 0, cells := 1, slots := 1, locals := 0 } : Room) s m #[(.int p0)] below meth c s₁ [] 0 0 := Stand.of_body Bd
  have e0 : s₁.heap = h0 := by rw [← hh, Bd.state]; rfl
  have N0 := Fr.nil n0
  refine Go.start fun P hPend => ?_
  refine Go.st (fun _ k => castTop (own_ef_rm_toB m p0) k) ?_
  show Go p.tables e below P (s₁.setTop (mkF m 0 #[.val (.int p0)] []))
  refine Go.st (fun _ => XS.iconst X0.here hx rfl (hb hby own_d_jdk_43_method_46_code_0)) ?_
  show Go p.tables e below P (s₁.setTop (mkF m 1 #[.val (.int p0)] [(.int (1 : Int32))]))
  obtain ⟨T1, h1, k1, X1, e1, E1, A1, st1⟩ := newP X0 hx hZ (ow hw 3 rfl) e0 (g := (mkF m 1 #[.val (.int p0)] [(.int (1 : Int32))])) rfl (hb hby own_d_jdk_43_method_46_code_1) rfl (by decide) (cap := 1) (by decide) (by decide) (by decide) (by decide)
  obtain ⟨b1, g1⟩ : ∃ z, z = h0.size := ⟨_, rfl⟩
  rw [← g1] at A1 st1
  refine Go.st st1 ?_
  have g_b1 : n0 ≤ b1 := Nat.le_trans (own_oldsz X00) (Nat.le_of_eq g1.symm)
  have sz_b1 : h0.size ≤ b1 := Nat.le_trans (Keep.refl h0 []).1 (Nat.le_of_eq g1.symm)
  have K1 : Keep h0 h1 [] := (Keep.refl h0 []).ext E1
  have O1 := X00.ext E1
  have V1 : Arv Z h1 b1 k1 .byte (1 : Int32) [(.int (0 : Int32))] (.int (0 : Int32)) := (Arv.new A1 (by decide)).pad (pad_rep [] (.int (0 : Int32)) 1)
  show Go p.tables e below P (T1.setTop (mkF m 3 #[.val (.int p0)] [(.ref b1)]))
  refine Go.st (fun _ => XS.dup X1.here hx rfl (hb hby own_d_jdk_43_method_46_code_3) rfl rfl) ?_
  show Go p.tables e below P (T1.setTop (mkF m 4 #[.val (.int p0)] [(.ref b1), (.ref b1)]))
  refine Go.st (fun _ => XS.iconst X1.here hx rfl (hb hby own_d_jdk_43_method_46_code_4)) ?_
  show Go p.tables e below P (T1.setTop (mkF m 5 #[.val (.int p0)] [(.int (0 : Int32)), (.ref b1), (.ref b1)]))
  refine Go.st (fun _ => XS.iloadN X1.here hx rfl (hb hby own_d_jdk_43_method_46_code_5) rfl) ?_
  show Go p.tables e below P (T1.setTop (mkF m 6 #[.val (.int p0)] [(.int p0), (.int (0 : Int32)), (.ref b1), (.ref b1)]))
  refine Go.st (fun _ => XS.i2b X1.here hx rfl (hb hby own_d_jdk_43_method_46_code_6) rfl) ?_
  show Go p.tables e below P (T1.setTop (mkF m 7 #[.val (.int p0)] [(.int (p0.toInt8.toInt32)), (.int (0 : Int32)), (.ref b1), (.ref b1)]))
  obtain ⟨T2, h2, X2, e2, W2, V2, st2⟩ := own_stB X1 hx hZ e1 V1 (j := (0 : Int32)) (i := 0) (by decide) (by decide) (Nat.le_of_ble_eq_true rfl) (g := (mkF m 7 #[.val (.int p0)] [(.int (p0.toInt8.toInt32)), (.int (0 : Int32)), (.ref b1), (.ref b1)])) rfl rfl (hb hby own_d_jdk_43_method_46_code_7)
  refine Go.st st2 ?_
  rw [show nar .byte (p0.toInt8.toInt32) = (p0.toInt8.toInt32) from own_nar_i2b _] at V2
  have K2 : Keep h0 h2 [] := K1.wr W2 (Or.inr sz_b1)
  have O2 := O1.wr W2 g_b1
  have N2 := Fr.snoc X2 N0 g_b1
  have V2' : Arv Z h2 b1 k1 .byte (1 : Int32) [(.int (p0.toInt8.toInt32))] (.int (0 : Int32)) := V2
  show Go p.tables e below P (T2.setTop (mkF m 8 #[.val (.int p0)] [(.ref b1)]))
  obtain ⟨fs, hr, hrun, hended, hW, hsame⟩ := X2.leave (v := some (.ref b1)) (fun h => by rw [Bd.returns] at h; cases h)
  refine ⟨_, ?_, hPend _ _ hrun hended ⟨_, _, rfl, ?_, ⟨_, rfl⟩, hW, hsame.mono (by decide) (by decide)⟩⟩
  · exact retOut X2 hx (t := (.array .byte)) Bd.returns rfl (Or.inr (Or.inr (Or.inr (Or.inr ⟨rfl, rfl, rfl⟩)))) (hb hby own_d_jdk_43_method_46_code_8) hr
  · show Q_rm_toB Z _ _ _ _ _ _ _ _ _ _ h0 n0 _ T2.heap _
    rw [e2]
    exact ⟨b1, k1, rfl, N2, K2, sz_b1, V2'⟩
theorem own_ef_rm_sBB (m : MethodId) (x0 : Addr) (x1 : Addr) (x2 : Int32) : entryFrame m #[(.ref x0), (.ref x1), (.int x2)] 3 = mkF m 0 #[.val (.ref x0), .val (.ref x1), .val (.int x2)] [] := by first | (simp [entryFrame, mkF, argsToLocals, Value.category]; done) | rfl
theorem own_pn1 : plainName "java/lang/String" = true := by first | (simp [plainName, overriddenIn]; done) | decide +kernel
theorem own_d_jdk_42_method_151_code_0 : decode jdk_42_method_151_code 0 = .ok (.aload_n 0, 1) := by decide +kernel
theorem own_d_jdk_42_method_151_code_1 : decode jdk_42_method_151_code 1 = .ok (.invokespecial 1, 3) := by decide +kernel
theorem own_d_jdk_42_method_151_code_4 : decode jdk_42_method_151_code 4 = .ok (.aload_n 0, 1) := by decide +kernel
theorem own_d_jdk_42_method_151_code_5 : decode jdk_42_method_151_code 5 = .ok (.aload_n 1, 1) := by decide +kernel
theorem own_d_jdk_42_method_151_code_6 : decode jdk_42_method_151_code 6 = .ok (.putfield 9, 3) := by decide +kernel
theorem own_d_jdk_42_method_151_code_9 : decode jdk_42_method_151_code 9 = .ok (.aload_n 0, 1) := by decide +kernel
theorem own_d_jdk_42_method_151_code_10 : decode jdk_42_method_151_code 10 = .ok (.iload_n 2, 1) := by decide +kernel
theorem own_d_jdk_42_method_151_code_11 : decode jdk_42_method_151_code 11 = .ok (.putfield 15, 3) := by decide +kernel
theorem own_d_jdk_42_method_151_code_14 : decode jdk_42_method_151_code 14 = .ok (.return_, 1) := by decide +kernel
def Q_rm_sBB (Z : State) (w_US : Addr) (w_V : Addr) (k_V : ClassId) (w_ID : Addr) (w_IB : Addr) (k_IB : ClassId) (w_OE : Addr) (g_CS : Int32) (g_SF : Value) (p0 : Addr) (p1 : Addr) (p2 : Int32) (h0 : Heap) (n0 : Nat) (v : Option Value) (h : Heap) (L : List Loc) : Prop := v = none ∧ Fr n0 L ∧ Keep h0 h [p0] ∧ Exa Z h p0 "java/lang/String" ∧ Fld Z h p0 "java/lang/String" "value" "[B" (.ref p1) ∧ Fld Z h p0 "java/lang/String" "coder" "B" (.int p2)
set_option maxRecDepth 65536 in
set_option maxHeartbeats 40000000 in
theorem rm_sBB (l : Launch) (Z : State) (a0 : Array Value) (hw : ∀ d ∈ tables_1, d.before a0 Z = true) (ws : List Jvm.Cond) (w_US : Addr) (X_US : Exa Z Z.heap w_US "com/example/tidewall/tidewall/ledger/BusinessCalendar$1") (w_V : Addr) (k_V : ClassId) (S_V : Sta Z Z.heap "com/example/tidewall/tidewall/ledger/BusinessCalendar" "$VALUES" "[Lcom/example/tidewall/tidewall/ledger/BusinessCalendar;" (.ref w_V)) (X_V : Exa Z Z.heap w_V "[Lcom/example/tidewall/tidewall/ledger/BusinessCalendar;") (V_V : Arv Z Z.heap w_V k_V (.object "com/example/tidewall/tidewall/ledger/BusinessCalendar") (1 : Int32) [(.ref w_US)] .null) (S_UF : Sta Z Z.heap "com/example/tidewall/tidewall/ledger/BusinessCalendar" "US_FEDERAL_RESERVE" "Lcom/example/tidewall/tidewall/ledger/BusinessCalendar;" (.ref w_US)) (w_ID : Addr) (F_ID : Fld Z Z.heap w_US "com/example/tidewall/tidewall/ledger/BusinessCalendar" "id" "Ljava/lang/String;" (.ref w_ID)) (X_ID : Exa Z Z.heap w_ID "java/lang/String") (I_ID_coder : Fld Z Z.heap w_ID "java/lang/String" "coder" "B" (.int (0 : Int32))) (w_IB : Addr) (k_IB : ClassId) (F_IB : Fld Z Z.heap w_ID "java/lang/String" "value" "[B" (.ref w_IB)) (V_IB : Arv Z Z.heap w_IB k_IB .byte (18 : Int32) [(.int (117 : Int32)), (.int (115 : Int32)), (.int (45 : Int32)), (.int (102 : Int32)), (.int (101 : Int32)), (.int (100 : Int32)), (.int (101 : Int32)), (.int (114 : Int32)), (.int (97 : Int32)), (.int (108 : Int32)), (.int (45 : Int32)), (.int (114 : Int32)), (.int (101 : Int32)), (.int (115 : Int32)), (.int (101 : Int32)), (.int (114 : Int32)), (.int (118 : Int32)), (.int (101 : Int32))] (.int (0 : Int32))) (w_OE : Addr) (S_OE : Sta Z Z.heap "java/util/Optional" "EMPTY" "Ljava/util/Optional;" (.ref w_OE)) (X_OE : Exa Z Z.heap w_OE "java/util/Optional") (I_OE_value : Fld Z Z.heap w_OE "java/util/Optional" "value" "Ljava/lang/Object;" .null) (g_CS : Int32) (S_CS : Sta Z Z.heap "java/lang/String" "COMPACT_STRINGS" "Z" (.int g_CS)) (nz_CS : ¬ (g_CS = (0 : Int32))) (g_SF : Value) (S_SF : Sta Z Z.heap "jdk/internal/util/Preconditions" "SIOOBE_FORMATTER" "Ljava/util/function/BiFunction;" g_SF) (r_SF : g_SF.isRef = true) (p0 : Addr) (p1 : Addr) (p2 : Int32) (h0 : Heap) (n0 : Nat) (X00 : Old Z n0 h0) (hp0 : Exa Z h0 p0 "java/lang/String") (hp1 : Fld Z h0 p0 "java/lang/String" "value" "[B" .null) (hp2 : Fld Z h0 p0 "java/lang/String" "coder" "B" (.int (0 : Int32))) (hp3 : n0 ≤ p0) (hn2 : narrow .byte (.int p2) = .int p2) (hf2 : fits .byte (.int p2) = true) :
    MetFree l (⟨"java/lang/String", "<init>", "([BB)V"⟩ : MethodName) (head1 (Jvm.Cond.code (⟨"java/lang/String", "<init>", "([BB)V"⟩ : MethodName) jdk_42_method_151_code 3 none :: ws) ({ frames := 1, cells := 0, slots := 0, locals := 12 } : Room)) (fun a U => a = #[(.ref p0), (.ref p1), (.int p2)] ∧ Z.Warmed39 U.vm ∧ U.heap = h0) (fun _ _ _ _ _ => True) (fun _ U o U' => ∃ v L, o = .returned v ∧ Q_rm_sBB Z w_US w_V k_V w_ID w_IB k_IB w_OE g_CS g_SF p0 p1 p2 h0 n0 v U'.heap L ∧ FrameEnd U o U' L ({ frames := 1, cells := 0, slots := 0, locals := 12 } : Room).cells ({ frames := 1, cells := 0, slots := 0, locals := 12 } : Room).slots) := by
  refine MetFree.of_bodySF (plainFor_of_name own_pn1) hisR ?_
  intro p e s m args below meth c s₁ Bd hml0 hP hK
  obtain ⟨rfl, hZ, hh⟩ := hP
  have hx := Bd.exec
  have hby := Bd.bytes
  have hml : c.maxLocals = 3 := hml0
  have hown : s.vm.findClass "java/lang/String" = some m.cls := findClass_of_methodNamed Bd.named
  have hnm := (name_of_methodNamed Bd.named Bd.method).1
  have X0 : Stand p l e ({ frames := 1, cells := 0, slots := 0, locals := 12 } : Room) s m #[(.ref p0), (.ref p1), (.int p2)] below meth c s₁ [] 0 0 := Stand.of_body Bd
  have e0 : s₁.heap = h0 := by rw [← hh, Bd.state]; rfl
  have N0 := Fr.nil n0
  refine Go.start fun P hPend => ?_
  refine Go.st (fun _ k => castTop (own_ef_rm_sBB m p0 p1 p2) k) ?_
  show Go p.tables e below P (s₁.setTop (mkF m 0 #[.val (.ref p0), .val (.ref p1), .val (.int p2)] []))
  refine Go.st (fun _ => XS.aloadN X0.here hx rfl (hb hby own_d_jdk_42_method_151_code_0) rfl rfl) ?_
  show Go p.tables e below P (s₁.setTop (mkF m 1 #[.val (.ref p0), .val (.ref p1), .val (.int p2)] [(.ref p0)]))
  obtain ⟨T1, X1, e1, st1⟩ := initO X0 hx hZ hown (ow hw 18 rfl) (ow hw 19 rfl) (ow hw 20 rfl) e0 (g := (mkF m 1 #[.val (.ref p0), .val (.ref p1), .val (.int p2)] [(.ref p0)])) rfl (by rw [hml]; rfl) rfl (hb hby own_d_jdk_42_method_151_code_1) (by decide) (W := 0) (by show 2 * 0 + _ ≤ _; exact Nat.le_of_eq rfl) (by decide)
  refine Go.st st1 ?_
  show Go p.tables e below P (T1.setTop (mkF m 4 #[.val (.ref p0), .val (.ref p1), .val (.int p2)] []))
  refine Go.st (fun _ => XS.aloadN X1.here hx rfl (hb hby own_d_jdk_42_method_151_code_4) rfl rfl) ?_
  show Go p.tables e below P (T1.setTop (mkF m 5 #[.val (.ref p0), .val (.ref p1), .val (.int p2)] [(.ref p0)]))
  refine Go.st (fun _ => XS.aloadN X1.here hx rfl (hb hby own_d_jdk_42_method_151_code_5) rfl rfl) ?_
  show Go p.tables e below P (T1.setTop (mkF m 6 #[.val (.ref p0), .val (.ref p1), .val (.int p2)] [(.ref p1), (.ref p0)]))
  obtain ⟨T2, h2, X2, e2, W2, st2⟩ := putF X1 hx hZ hown (host := "") (Or.inl (ow hw 33 rfl)) Via.refl e1 hp1 hp0 (Or.inr ⟨(ow hw 4 rfl), rfl, hnm⟩) (ow hw 2 rfl) (ty := (.array .byte)) (by decide) rfl rfl (g := (mkF m 6 #[.val (.ref p0), .val (.ref p1), .val (.int p2)] [(.ref p1), (.ref p0)])) rfl rfl (hb hby own_d_jdk_42_method_151_code_6)
  refine Go.st st2 ?_
  have K2 : Keep h0 h2 [p0] := (Keep.refl h0 [p0]).wr W2 (Or.inl (List.mem_of_getElem? (i := 0) rfl))
  have O2 := X00.wr W2 hp3
  have N2 := Fr.snoc X2 N0 hp3
  have F2 := hp1.same W2
  show Go p.tables e below P (T2.setTop (mkF m 9 #[.val (.ref p0), .val (.ref p1), .val (.int p2)] []))
  refine Go.st (fun _ => XS.aloadN X2.here hx rfl (hb hby own_d_jdk_42_method_151_code_9) rfl rfl) ?_
  show Go p.tables e below P (T2.setTop (mkF m 10 #[.val (.ref p0), .val (.ref p1), .val (.int p2)] [(.ref p0)]))
  refine Go.st (fun _ => XS.iloadN X2.here hx rfl (hb hby own_d_jdk_42_method_151_code_10) rfl) ?_
  show Go p.tables e below P (T2.setTop (mkF m 11 #[.val (.ref p0), .val (.ref p1), .val (.int p2)] [(.int p2), (.ref p0)]))
  have c3 := (hp2.other W2 (Or.inr (slot_ne (Or.inr (ow hw 5 rfl)) (Or.inr (ow hw 4 rfl)) (by decide) (t := .byte) (t' := (.array .byte)) (by decide) (by decide))))
  have c4 := (hp0.wr W2)
  obtain ⟨T5, h5, X5, e5, W5, st5⟩ := putF X2 hx hZ hown (host := "") (Or.inl (ow hw 32 rfl)) Via.refl e2 c3 c4 (Or.inr ⟨(ow hw 5 rfl), rfl, hnm⟩) (ow hw 2 rfl) (ty := .byte) (by decide) hn2 hf2 (g := (mkF m 11 #[.val (.ref p0), .val (.ref p1), .val (.int p2)] [(.int p2), (.ref p0)])) rfl rfl (hb hby own_d_jdk_42_method_151_code_11)
  refine Go.st st5 ?_
  have K5 : Keep h0 h5 [p0] := K2.wr W5 (Or.inl (List.mem_of_getElem? (i := 0) rfl))
  have O5 := O2.wr W5 hp3
  have N5 := Fr.snoc X5 N2 hp3
  have F5 := c3.same W5
  show Go p.tables e below P (T5.setTop (mkF m 14 #[.val (.ref p0), .val (.ref p1), .val (.int p2)] []))
  obtain ⟨fs, hr, hrun, hended, hW, hsame⟩ := X5.leave (v := none) (fun _ => rfl)
  refine ⟨_, ?_, hPend _ _ hrun hended ⟨_, _, rfl, ?_, ⟨_, rfl⟩, hW, hsame.mono (by decide) (by decide)⟩⟩
  · exact X5.returnOut hx Bd.returns (hb hby own_d_jdk_42_method_151_code_14) hr
  · show Q_rm_sBB Z _ _ _ _ _ _ _ _ _ _ _ _ h0 n0 _ T5.heap _
    rw [e5]
    have c6 := (c4.wr W5)
    have c7 := (F2.other W5 (Or.inr (slot_ne (Or.inr (ow hw 4 rfl)) (Or.inr (ow hw 5 rfl)) (by decide) (t := (.array .byte)) (t' := .byte) (by decide) (by decide))))
    exact ⟨rfl, N5, K5, c6, c7, F5⟩
theorem own_ef_rm_valOf (m : MethodId) (x0 : Int32) : entryFrame m #[(.int x0)] 1 = mkF m 0 #[.val (.int x0)] [] := by first | (simp [entryFrame, mkF, argsToLocals, Value.category]; done) | rfl
theorem own_d_jdk_42_method_139_code_0 : decode jdk_42_method_139_code 0 = .ok (.getstatic 38, 3) := by decide +kernel
theorem own_d_jdk_42_method_139_code_3 : decode jdk_42_method_139_code 3 = .ok (.ifCond .eq 23, 3) := by decide +kernel
theorem own_d_jdk_42_method_139_code_6 : decode jdk_42_method_139_code 6 = .ok (.iload_n 0, 1) := by decide +kernel
theorem own_d_jdk_42_method_139_code_7 : decode jdk_42_method_139_code 7 = .ok (.invokestatic 1015, 3) := by decide +kernel
theorem own_pd0 : parseMethodDescriptor "(C)Z" = some ⟨[.char], some .boolean⟩ := by decide +kernel
theorem own_d_jdk_42_method_139_code_10 : decode jdk_42_method_139_code 10 = .ok (.ifCond .eq 16, 3) := by decide +kernel
theorem own_d_jdk_42_method_139_code_13 : decode jdk_42_method_139_code 13 = .ok (.new 10, 3) := by decide +kernel
theorem own_d_jdk_42_method_139_code_16 : decode jdk_42_method_139_code 16 = .ok (.dup, 1) := by decide +kernel
theorem own_d_jdk_42_method_139_code_17 : decode jdk_42_method_139_code 17 = .ok (.iload_n 0, 1) := by decide +kernel
theorem own_d_jdk_42_method_139_code_18 : decode jdk_42_method_139_code 18 = .ok (.invokestatic 1018, 3) := by decide +kernel
theorem own_pd1 : parseMethodDescriptor "(C)[B" = some ⟨[.char], some (.array .byte)⟩ := by decide +kernel
theorem own_d_jdk_42_method_139_code_21 : decode jdk_42_method_139_code 21 = .ok (.iconst 0, 1) := by decide +kernel
theorem own_d_jdk_42_method_139_code_22 : decode jdk_42_method_139_code 22 = .ok (.invokespecial 209, 3) := by decide +kernel
theorem own_pd2 : parseMethodDescriptor "([BB)V" = some ⟨[(.array .byte), .byte], none⟩ := by decide +kernel
theorem own_d_jdk_42_method_139_code_25 : decode jdk_42_method_139_code 25 = .ok (.areturn, 1) := by decide +kernel
def Q_rm_valOf (Z : State) (w_US : Addr) (w_V : Addr) (k_V : ClassId) (w_ID : Addr) (w_IB : Addr) (k_IB : ClassId) (w_OE : Addr) (g_CS : Int32) (g_SF : Value) (p0 : Int32) (h0 : Heap) (n0 : Nat) (v : Option Value) (h : Heap) (L : List Loc) : Prop := ∃ (ob : Addr) (vb : Addr) (kb : ClassId), v = some (.ref ob) ∧ Fr n0 L ∧ Keep h0 h [] ∧ h0.size ≤ ob ∧ h0.size ≤ vb ∧ Exa Z h ob "java/lang/String" ∧ Fld Z h ob "java/lang/String" "coder" "B" (.int (0 : Int32)) ∧ Fld Z h ob "java/lang/String" "value" "[B" (.ref vb) ∧ Arv Z h vb kb .byte (1 : Int32) [(.int p0.toInt8.toInt32)] (.int (0 : Int32))
set_option maxRecDepth 65536 in
set_option maxHeartbeats 40000000 in
theorem rm_valOf (l : Launch) (Z : State) (a0 : Array Value) (hw : ∀ d ∈ tables_1, d.before a0 Z = true) (ws : List Jvm.Cond) (w_US : Addr) (X_US : Exa Z Z.heap w_US "com/example/tidewall/tidewall/ledger/BusinessCalendar$1") (w_V : Addr) (k_V : ClassId) (S_V : Sta Z Z.heap "com/example/tidewall/tidewall/ledger/BusinessCalendar" "$VALUES" "[Lcom/example/tidewall/tidewall/ledger/BusinessCalendar;" (.ref w_V)) (X_V : Exa Z Z.heap w_V "[Lcom/example/tidewall/tidewall/ledger/BusinessCalendar;") (V_V : Arv Z Z.heap w_V k_V (.object "com/example/tidewall/tidewall/ledger/BusinessCalendar") (1 : Int32) [(.ref w_US)] .null) (S_UF : Sta Z Z.heap "com/example/tidewall/tidewall/ledger/BusinessCalendar" "US_FEDERAL_RESERVE" "Lcom/example/tidewall/tidewall/ledger/BusinessCalendar;" (.ref w_US)) (w_ID : Addr) (F_ID : Fld Z Z.heap w_US "com/example/tidewall/tidewall/ledger/BusinessCalendar" "id" "Ljava/lang/String;" (.ref w_ID)) (X_ID : Exa Z Z.heap w_ID "java/lang/String") (I_ID_coder : Fld Z Z.heap w_ID "java/lang/String" "coder" "B" (.int (0 : Int32))) (w_IB : Addr) (k_IB : ClassId) (F_IB : Fld Z Z.heap w_ID "java/lang/String" "value" "[B" (.ref w_IB)) (V_IB : Arv Z Z.heap w_IB k_IB .byte (18 : Int32) [(.int (117 : Int32)), (.int (115 : Int32)), (.int (45 : Int32)), (.int (102 : Int32)), (.int (101 : Int32)), (.int (100 : Int32)), (.int (101 : Int32)), (.int (114 : Int32)), (.int (97 : Int32)), (.int (108 : Int32)), (.int (45 : Int32)), (.int (114 : Int32)), (.int (101 : Int32)), (.int (115 : Int32)), (.int (101 : Int32)), (.int (114 : Int32)), (.int (118 : Int32)), (.int (101 : Int32))] (.int (0 : Int32))) (w_OE : Addr) (S_OE : Sta Z Z.heap "java/util/Optional" "EMPTY" "Ljava/util/Optional;" (.ref w_OE)) (X_OE : Exa Z Z.heap w_OE "java/util/Optional") (I_OE_value : Fld Z Z.heap w_OE "java/util/Optional" "value" "Ljava/lang/Object;" .null) (g_CS : Int32) (S_CS : Sta Z Z.heap "java/lang/String" "COMPACT_STRINGS" "Z" (.int g_CS)) (nz_CS : ¬ (g_CS = (0 : Int32))) (g_SF : Value) (S_SF : Sta Z Z.heap "jdk/internal/util/Preconditions" "SIOOBE_FORMATTER" "Ljava/util/function/BiFunction;" g_SF) (r_SF : g_SF.isRef = true) (p0 : Int32) (h0 : Heap) (n0 : Nat) (X00 : Old Z n0 h0) (hsm : ¬ p0 < 0 ∧ ¬ (255 : Int32) < p0) :
    MetFree l (⟨"java/lang/String", "valueOf", "(C)Ljava/lang/String;"⟩ : MethodName) (head1 (Jvm.Cond.code (⟨"java/lang/String", "valueOf", "(C)Ljava/lang/String;"⟩ : MethodName) jdk_42_method_139_code 1 (some (.object "java/lang/String")) :: ws) ({ frames := 2, cells := 2, slots := 5, locals := 27 } : Room)) (fun a U => a = #[(.int p0)] ∧ Z.Warmed39 U.vm ∧ U.heap = h0) (fun _ _ _ _ _ => True) (fun _ U o U' => ∃ v L, o = .returned v ∧ Q_rm_valOf Z w_US w_V k_V w_ID w_IB k_IB w_OE g_CS g_SF p0 h0 n0 v U'.heap L ∧ FrameEnd U o U' L ({ frames := 2, cells := 2, slots := 5, locals := 27 } : Room).cells ({ frames := 2, cells := 2, slots := 5, locals := 27 } : Room).slots) := by
  refine MetFree.of_bodySF (plainFor_of_name own_pn1) hisR ?_
  intro p e s m args below meth c s₁ Bd hml0 hP hK
  obtain ⟨rfl, hZ, hh⟩ := hP
  have hx := Bd.exec
  have hby := Bd.bytes
  have hml : c.maxLocals = 1 := hml0
  have hown : s.vm.findClass "java/lang/String" = some m.cls := findClass_of_methodNamed Bd.named
  have hnm := (name_of_methodNamed Bd.named Bd.method).1
  have X0 : Stand p l e ({ frames := 2, cells := 2, slots := 5, locals := 27 } : Room) s m #[(.int p0)] below meth c s₁ [] 0 0 := Stand.of_body Bd
  have e0 : s₁.heap = h0 := by rw [← hh, Bd.state]; rfl
  have N0 := Fr.nil n0
  refine Go.start fun P hPend => ?_
  refine Go.st (fun _ k => castTop (own_ef_rm_valOf m p0) k) ?_
  show Go p.tables e below P (s₁.setTop (mkF m 0 #[.val (.int p0)] []))
  obtain ⟨T1, X1, e1, st1⟩ := getS2 X0 hx hZ hown (host := "") (Or.inl (ow hw 21 rfl)) Via.refl e0 (S_CS.ext X00.2) (g := (mkF m 0 #[.val (.int p0)] [])) rfl (hb hby own_d_jdk_42_method_139_code_0)
  refine Go.st st1 ?_
  show Go p.tables e below P (T1.setTop (mkF m 3 #[.val (.int p0)] [(.int g_CS)]))
  have hb2 : ¬ (g_CS = (0 : Int32)) := nz_CS
  refine Go.st (fun _ => XS.ifNo X1.here hx rfl (hb hby own_d_jdk_42_method_139_code_3) rfl ((if0 _ _).trans (feq hb2).1)) ?_
  show Go p.tables e below P (T1.setTop (mkF m 6 #[.val (.int p0)] []))
  refine Go.st (fun _ => XS.iloadN X1.here hx rfl (hb hby own_d_jdk_42_method_139_code_6) rfl) ?_
  show Go p.tables e below P (T1.setTop (mkF m 7 #[.val (.int p0)] [(.int p0)]))
  obtain ⟨_, _, ⟨T3, L3, k3, n3⟩, -, X3, ⟨Lc3, hQ3, l3, y3, z3⟩, st3⟩ := Jvm.LawKit.callS X1 hx (y := (⟨"java/lang/StringLatin1", "canEncode", "(C)Z"⟩ : MethodName)) hown (mvT hZ (ow hw 130 rfl)) (mvT hZ (ow hw 131 rfl)) (mvT hZ (ow hw 63 rfl)) (mvT hZ (ow hw 132 rfl)) (by decide) (backOf (W := 0) (rm_canEnc l Z a0 hw [] w_US X_US w_V k_V S_V X_V V_V S_UF w_ID F_ID X_ID I_ID_coder w_IB k_IB F_IB V_IB w_OE S_OE X_OE I_OE_value g_CS S_CS nz_CS g_SF S_SF r_SF p0 h0 n0 X00 hsm) hZ (ow hw 132 rfl) (ow hw 63 rfl) (by decide) (by decide)) (g := (mkF m 7 #[.val (.int p0)] [(.int p0)])) rfl (by rw [hml]; rfl) (argsL := [(.int p0)]) (rest := []) (lenOf own_pd0 rfl) rfl (by show 2 * 0 + _ ≤ _; exact Nat.le_of_eq rfl) (hb hby own_d_jdk_42_method_139_code_7) (fun _ _ => ⟨rfl, e1, (by decide : 0 + 0 ≤ _), (by decide : 0 + 0 ≤ _)⟩)
  dsimp only [Pt.U, Pt.locs, Pt.cells, Pt.slots] at X3 l3 y3 z3 st3 hQ3
  subst y3 z3
  refine Go.st st3 ?_
  obtain ⟨rfl, N3q, e3⟩ := hQ3
  have N3 : Fr n0 L3 := by rw [l3]; exact Fr.app N0 N3q
  show Go p.tables e below P (T3.setTop (mkF m 10 #[.val (.int p0)] [(.int (1 : Int32))]))
  refine Go.st (fun _ => XS.ifNo X3.here hx rfl (hb hby own_d_jdk_42_method_139_code_10) rfl ((if0 _ _).trans (feq (by decide)).1)) ?_
  show Go p.tables e below P (T3.setTop (mkF m 13 #[.val (.int p0)] []))
  obtain ⟨T4, h4, X4, e4, E4, A4, D4, -, st4⟩ := newO X3 hx hZ hown (ow hw 60 rfl) (ow hw 2 rfl) (ow hw 1 rfl) e3 (g := (mkF m 13 #[.val (.int p0)] [])) rfl (hb hby own_d_jdk_42_method_139_code_13) (by decide) (by decide)
  obtain ⟨b4, g4⟩ : ∃ z, z = h0.size := ⟨_, rfl⟩
  rw [← g4] at A4 D4 st4
  refine Go.st st4 ?_
  have g_b4 : n0 ≤ b4 := Nat.le_trans (own_oldsz X00) (Nat.le_of_eq g4.symm)
  have sz_b4 : h0.size ≤ b4 := Nat.le_trans (Keep.refl h0 []).1 (Nat.le_of_eq g4.symm)
  have K4 : Keep h0 h4 [] := (Keep.refl h0 []).ext E4
  have O4 := X00.ext E4
  have F5 : Fld Z h4 b4 "java/lang/String" "value" "[B" .null := D4 (Or.inr (ow hw 4 rfl)) (ty := (.array .byte)) (by decide)
  have F6 : Fld Z h4 b4 "java/lang/String" "coder" "B" (.int (0 : Int32)) := D4 (Or.inr (ow hw 5 rfl)) (ty := .byte) (by decide)
  show Go p.tables e below P (T4.setTop (mkF m 16 #[.val (.int p0)] [(.ref b4)]))
  refine Go.st (fun _ => XS.dup X4.here hx rfl (hb hby own_d_jdk_42_method_139_code_16) rfl rfl) ?_
  show Go p.tables e below P (T4.setTop (mkF m 17 #[.val (.int p0)] [(.ref b4), (.ref b4)]))
  refine Go.st (fun _ => XS.iloadN X4.here hx rfl (hb hby own_d_jdk_42_method_139_code_17) rfl) ?_
  show Go p.tables e below P (T4.setTop (mkF m 18 #[.val (.int p0)] [(.int p0), (.ref b4), (.ref b4)]))
  obtain ⟨_, _, ⟨T7, L7, k7, n7⟩, -, X7, ⟨Lc7, hQ7, l7, y7, z7⟩, st7⟩ := Jvm.LawKit.callS X4 hx (y := (⟨"java/lang/StringLatin1", "toBytes", "(C)[B"⟩ : MethodName)) hown (mvT hZ (ow hw 133 rfl)) (mvT hZ (ow hw 134 rfl)) (mvT hZ (ow hw 63 rfl)) (mvT hZ (ow hw 135 rfl)) (by decide) (backOf (W := 2) (rm_toB l Z a0 hw [] w_US X_US w_V k_V S_V X_V V_V S_UF w_ID F_ID X_ID I_ID_coder w_IB k_IB F_IB V_IB w_OE S_OE X_OE I_OE_value g_CS S_CS nz_CS g_SF S_SF r_SF p0 h4 n0 O4 ) hZ (ow hw 135 rfl) (ow hw 63 rfl) (by decide) (by decide)) (g := (mkF m 18 #[.val (.int p0)] [(.int p0), (.ref b4), (.ref b4)])) rfl (by rw [hml]; rfl) (argsL := [(.int p0)]) (rest := [(.ref b4), (.ref b4)]) (lenOf own_pd1 rfl) rfl (by show 2 * 0 + _ ≤ _; exact Nat.le_of_eq rfl) (hb hby own_d_jdk_42_method_139_code_18) (fun _ _ => ⟨rfl, e4, (by decide : 1 + 1 ≤ _), (by decide : 4 + 1 ≤ _)⟩)
  dsimp only [Pt.U, Pt.locs, Pt.cells, Pt.slots] at X7 l7 y7 z7 st7 hQ7
  subst y7 z7
  refine Go.st st7 ?_
  obtain ⟨ob_8, kb_9, rfl, N7q, K7q, q7_0, q7_1⟩ := hQ7
  have N7 : Fr n0 L7 := by rw [l7]; exact Fr.app N3 N7q
  have O7 := O4.keep K7q all0
  have K7 : Keep h0 T7.heap [] := K4.trans K7q all0
  have sz_ob_8 : h0.size ≤ ob_8 := Nat.le_trans K4.1 q7_0
  have g_ob_8 : n0 ≤ ob_8 := Nat.le_trans (own_oldsz X00) sz_ob_8
  show Go p.tables e below P (T7.setTop (mkF m 21 #[.val (.int p0)] [(.ref ob_8), (.ref b4), (.ref b4)]))
  refine Go.st (fun _ => XS.iconst X7.here hx rfl (hb hby own_d_jdk_42_method_139_code_21)) ?_
  show Go p.tables e below P (T7.setTop (mkF m 22 #[.val (.int p0)] [(.int (0 : Int32)), (.ref ob_8), (.ref b4), (.ref b4)]))
  have c11 := (A4.keep K7q)
  have c12 := (F5.keep K7q nin0)
  have c13 := (F6.keep K7q nin0)
  obtain ⟨_, _, ⟨T10, L10, k10, n10⟩, -, X10, ⟨Lc10, hQ10, l10, y10, z10⟩, st10⟩ := X7.specialBack hx (y := (⟨"java/lang/String", "<init>", "([BB)V"⟩ : MethodName)) rfl hown (mvT hZ (ow hw 136 rfl)) (mvT hZ (ow hw 137 rfl)) (mvT hZ (ow hw 138 rfl)) (by decide) (backOf (W := 1) (rm_sBB l Z a0 hw [] w_US X_US w_V k_V S_V X_V V_V S_UF w_ID F_ID X_ID I_ID_coder w_IB k_IB F_IB V_IB w_OE S_OE X_OE I_OE_value g_CS S_CS nz_CS g_SF S_SF r_SF b4 ob_8 (0 : Int32) T7.heap n0 O7 c11 c12 c13 g_b4 rfl rfl) hZ (ow hw 138 rfl) (ow hw 1 rfl) (by decide) (by decide)) (g := (mkF m 22 #[.val (.int p0)] [(.int (0 : Int32)), (.ref ob_8), (.ref b4), (.ref b4)])) rfl (by rw [hml]; rfl) (Steps.refl _) (a := b4) (argsL := [(.ref ob_8), (.int (0 : Int32))]) (rest := [(.ref b4)]) (lenOf own_pd2 rfl) rfl (by show 2 * 0 + _ ≤ _; exact Nat.le_of_eq rfl) (hb hby own_d_jdk_42_method_139_code_22) (fun _ _ => ⟨rfl, rfl, (by decide : 2 + 0 ≤ _), (by decide : 5 + 0 ≤ _)⟩)
  dsimp only [Pt.U, Pt.locs, Pt.cells, Pt.slots] at X10 l10 y10 z10 st10 hQ10
  subst y10 z10
  refine Go.tr st10 ?_
  obtain ⟨rfl, N10q, K10q, q10_0, q10_1, q10_2⟩ := hQ10
  have N10 : Fr n0 L10 := by rw [l10]; exact Fr.app N7 N10q
  have O10 := O7.keep K10q (allS g_b4 all0)
  have K10 : Keep h0 T10.heap [] := K7.trans K10q (allS (Or.inr sz_b4) all0)
  show Go p.tables e below P (T10.setTop (mkF m 25 #[.val (.int p0)] [(.ref b4)]))
  obtain ⟨fs, hr, hrun, hended, hW, hsame⟩ := X10.leave (v := some (.ref b4)) (fun h => by rw [Bd.returns] at h; cases h)
  refine ⟨_, ?_, hPend _ _ hrun hended ⟨_, _, rfl, ?_, ⟨_, rfl⟩, hW, hsame.mono (by decide) (by decide)⟩⟩
  · exact retOut X10 hx (t := (.object "java/lang/String")) Bd.returns rfl (Or.inr (Or.inr (Or.inr (Or.inr ⟨rfl, rfl, rfl⟩)))) (hb hby own_d_jdk_42_method_139_code_25) hr
  · show Q_rm_valOf Z _ _ _ _ _ _ _ _ _ _ h0 n0 _ T10.heap _
    have c14 := (q7_1.keep K10q (ninS (Ne.symm (Nat.ne_of_lt (Nat.lt_of_lt_of_le A4.lt q7_0))) nin0))
    exact ⟨b4, ob_8, kb_9, rfl, N10, K10, sz_b4, sz_ob_8, q10_0, q10_2, q10_1, c14⟩
theorem own_ef_rm_rn1 (m : MethodId) (x0 : Addr) : entryFrame m #[(.ref x0)] 1 = mkF m 0 #[.val (.ref x0)] [] := by first | (simp [entryFrame, mkF, argsToLocals, Value.category]; done) | rfl
theorem own_pn2 : plainName "java/util/Objects" = true := by first | (simp [plainName, overriddenIn]; done) | decide +kernel
theorem own_d_jdk_31_method_10_code_0 : decode jdk_31_method_10_code 0 = .ok (.aload_n 0, 1) := by decide +kernel
theorem own_d_jdk_31_method_10_code_1 : decode jdk_31_method_10_code 1 = .ok (.ifnonnull 11, 3) := by decide +kernel
theorem own_d_jdk_31_method_10_code_12 : decode jdk_31_method_10_code 12 = .ok (.aload_n 0, 1) := by decide +kernel
theorem own_d_jdk_31_method_10_code_13 : decode jdk_31_method_10_code 13 = .ok (.areturn, 1) := by decide +kernel
def Q_rm_rn1 (Z : State) (w_US : Addr) (w_V : Addr) (k_V : ClassId) (w_ID : Addr) (w_IB : Addr) (k_IB : ClassId) (w_OE : Addr) (g_CS : Int32) (g_SF : Value) (p0 : Addr) (h0 : Heap) (n0 : Nat) (v : Option Value) (h : Heap) (L : List Loc) : Prop := v = some (.ref p0) ∧ Fr n0 L ∧ h = h0
set_option maxRecDepth 65536 in
set_option maxHeartbeats 40000000 in
theorem rm_rn1 (l : Launch) (Z : State) (a0 : Array Value) (hw : ∀ d ∈ tables_1, d.before a0 Z = true) (ws : List Jvm.Cond) (w_US : Addr) (X_US : Exa Z Z.heap w_US "com/example/tidewall/tidewall/ledger/BusinessCalendar$1") (w_V : Addr) (k_V : ClassId) (S_V : Sta Z Z.heap "com/example/tidewall/tidewall/ledger/BusinessCalendar" "$VALUES" "[Lcom/example/tidewall/tidewall/ledger/BusinessCalendar;" (.ref w_V)) (X_V : Exa Z Z.heap w_V "[Lcom/example/tidewall/tidewall/ledger/BusinessCalendar;") (V_V : Arv Z Z.heap w_V k_V (.object "com/example/tidewall/tidewall/ledger/BusinessCalendar") (1 : Int32) [(.ref w_US)] .null) (S_UF : Sta Z Z.heap "com/example/tidewall/tidewall/ledger/BusinessCalendar" "US_FEDERAL_RESERVE" "Lcom/example/tidewall/tidewall/ledger/BusinessCalendar;" (.ref w_US)) (w_ID : Addr) (F_ID : Fld Z Z.heap w_US "com/example/tidewall/tidewall/ledger/BusinessCalendar" "id" "Ljava/lang/String;" (.ref w_ID)) (X_ID : Exa Z Z.heap w_ID "java/lang/String") (I_ID_coder : Fld Z Z.heap w_ID "java/lang/String" "coder" "B" (.int (0 : Int32))) (w_IB : Addr) (k_IB : ClassId) (F_IB : Fld Z Z.heap w_ID "java/lang/String" "value" "[B" (.ref w_IB)) (V_IB : Arv Z Z.heap w_IB k_IB .byte (18 : Int32) [(.int (117 : Int32)), (.int (115 : Int32)), (.int (45 : Int32)), (.int (102 : Int32)), (.int (101 : Int32)), (.int (100 : Int32)), (.int (101 : Int32)), (.int (114 : Int32)), (.int (97 : Int32)), (.int (108 : Int32)), (.int (45 : Int32)), (.int (114 : Int32)), (.int (101 : Int32)), (.int (115 : Int32)), (.int (101 : Int32)), (.int (114 : Int32)), (.int (118 : Int32)), (.int (101 : Int32))] (.int (0 : Int32))) (w_OE : Addr) (S_OE : Sta Z Z.heap "java/util/Optional" "EMPTY" "Ljava/util/Optional;" (.ref w_OE)) (X_OE : Exa Z Z.heap w_OE "java/util/Optional") (I_OE_value : Fld Z Z.heap w_OE "java/util/Optional" "value" "Ljava/lang/Object;" .null) (g_CS : Int32) (S_CS : Sta Z Z.heap "java/lang/String" "COMPACT_STRINGS" "Z" (.int g_CS)) (nz_CS : ¬ (g_CS = (0 : Int32))) (g_SF : Value) (S_SF : Sta Z Z.heap "jdk/internal/util/Preconditions" "SIOOBE_FORMATTER" "Ljava/util/function/BiFunction;" g_SF) (r_SF : g_SF.isRef = true) (p0 : Addr) (h0 : Heap) (n0 : Nat) (X00 : Old Z n0 h0)  :
    MetFree l (⟨"java/util/Objects", "requireNonNull", "(Ljava/lang/Object;)Ljava/lang/Object;"⟩ : MethodName) (head1 (Jvm.Cond.code (⟨"java/util/Objects", "requireNonNull", "(Ljava/lang/Object;)Ljava/lang/Object;"⟩ : MethodName) jdk_31_method_10_code 1 (some (.object "java/lang/Object")) :: ws) ({ frames := 0, cells := 0, slots := 0, locals := 0 } : Room)) (fun a U => a = #[(.ref p0)] ∧ Z.Warmed39 U.vm ∧ U.heap = h0) (fun _ _ _ _ _ => True) (fun _ U o U' => ∃ v L, o = .returned v ∧ Q_rm_rn1 Z w_US w_V k_V w_ID w_IB k_IB w_OE g_CS g_SF p0 h0 n0 v U'.heap L ∧ FrameEnd U o U' L ({ frames := 0, cells := 0, slots := 0, locals := 0 } : Room).cells ({ frames := 0, cells := 0, slots := 0, locals := 0 } : Room).slots) := by
  refine MetFree.of_bodySF (plainFor_of_name own_pn2) hisR ?_
  intro p e s m args below meth c s₁ Bd hml0 hP hK
  obtain ⟨rfl, hZ, hh⟩ := hP
  have hx := Bd.exec
  have hby := Bd.bytes
  have hml : c.maxLocals = 1 := hml0
  have hown : s.vm.findClass "java/util/Objects" = some m.cls := findClass_of_methodNamed Bd.named
  have hnm := (name_of_methodNamed Bd.named Bd.method).1
  have X0 : Stand p l e ({ frames := 0, cells := 0, slots := 0, locals := 0 } : Room) s m #[(.ref p0)] below meth c s₁ [] 0 0 := Stand.of_body Bd
  have e0 : s₁.heap = h0 := by rw [← hh, Bd.state]; rfl
  have N0 := Fr.nil n0
  refine Go.start fun P hPend => ?_
  refine Go.st (fun _ k => castTop (own_ef_rm_rn1 m p0) k) ?_
  show Go p.tables e below P (s₁.setTop (mkF m 0 #[.val (.ref p0)] []))
  refine Go.st (fun _ => XS.aloadN X0.here hx rfl (hb hby own_d_jdk_31_method_10_code_0) rfl rfl) ?_
  show Go p.tables e below P (s₁.setTop (mkF m 1 #[.val (.ref p0)] [(.ref p0)]))
  refine Go.st (fun _ => XS.ifnonnullYes X0.here hx rfl (pc0 := 1) (pc' := 12) rfl (hb hby own_d_jdk_31_method_10_code_1) rfl (by decide) (by decide)) ?_
  show Go p.tables e below P (s₁.setTop (mkF m 12 #[.val (.ref p0)] []))
  refine Go.st (fun _ => XS.aloadN X0.here hx rfl (hb hby own_d_jdk_31_method_10_code_12) rfl rfl) ?_
  show Go p.tables e below P (s₁.setTop (mkF m 13 #[.val (.ref p0)] [(.ref p0)]))
  obtain ⟨fs, hr, hrun, hended, hW, hsame⟩ := X0.leave (v := some (.ref p0)) (fun h => by rw [Bd.returns] at h; cases h)
  refine ⟨_, ?_, hPend _ _ hrun hended ⟨_, _, rfl, ?_, ⟨_, rfl⟩, hW, hsame.mono (by decide) (by decide)⟩⟩
  · exact retOut X0 hx (t := (.object "java/lang/Object")) Bd.returns rfl (Or.inr (Or.inr (Or.inr (Or.inr ⟨rfl, rfl, rfl⟩)))) (hb hby own_d_jdk_31_method_10_code_13) hr
  · show Q_rm_rn1 Z _ _ _ _ _ _ _ _ _ _ h0 n0 _ s₁.heap _
    rw [e0]
    exact ⟨rfl, N0, rfl⟩
theorem own_ef_rm_oin (m : MethodId) (x0 : Addr) (x1 : Addr) : entryFrame m #[(.ref x0), (.ref x1)] 2 = mkF m 0 #[.val (.ref x0), .val (.ref x1)] [] := by first | (simp [entryFrame, mkF, argsToLocals, Value.category]; done) | rfl
theorem own_pn3 : plainName "java/util/Optional" = true := by first | (simp [plainName, overriddenIn]; done) | decide +kernel
theorem own_d_jdk_32_method_2_code_0 : decode jdk_32_method_2_code 0 = .ok (.aload_n 0, 1) := by decide +kernel
theorem own_d_jdk_32_method_2_code_1 : decode jdk_32_method_2_code 1 = .ok (.invokespecial 7, 3) := by decide +kernel
theorem own_d_jdk_32_method_2_code_4 : decode jdk_32_method_2_code 4 = .ok (.aload_n 0, 1) := by decide +kernel
theorem own_d_jdk_32_method_2_code_5 : decode jdk_32_method_2_code 5 = .ok (.aload_n 1, 1) := by decide +kernel
theorem own_d_jdk_32_method_2_code_6 : decode jdk_32_method_2_code 6 = .ok (.putfield 13, 3) := by decide +kernel
theorem own_d_jdk_32_method_2_code_9 : decode jdk_32_method_2_code 9 = .ok (.return_, 1) := by decide +kernel
def Q_rm_oin (Z : State) (w_US : Addr) (w_V : Addr) (k_V : ClassId) (w_ID : Addr) (w_IB : Addr) (k_IB : ClassId) (w_OE : Addr) (g_CS : Int32) (g_SF : Value) (p0 : Addr) (p1 : Addr) (h0 : Heap) (n0 : Nat) (v : Option Value) (h : Heap) (L : List Loc) : Prop := v = none ∧ Fr n0 L ∧ Keep h0 h [p0] ∧ Exa Z h p0 "java/util/Optional" ∧ Fld Z h p0 "java/util/Optional" "value" "Ljava/lang/Object;" (.ref p1)
set_option maxRecDepth 65536 in
set_option maxHeartbeats 40000000 in
theorem rm_oin (l : Launch) (Z : State) (a0 : Array Value) (hw : ∀ d ∈ tables_1, d.before a0 Z = true) (ws : List Jvm.Cond) (w_US : Addr) (X_US : Exa Z Z.heap w_US "com/example/tidewall/tidewall/ledger/BusinessCalendar$1") (w_V : Addr) (k_V : ClassId) (S_V : Sta Z Z.heap "com/example/tidewall/tidewall/ledger/BusinessCalendar" "$VALUES" "[Lcom/example/tidewall/tidewall/ledger/BusinessCalendar;" (.ref w_V)) (X_V : Exa Z Z.heap w_V "[Lcom/example/tidewall/tidewall/ledger/BusinessCalendar;") (V_V : Arv Z Z.heap w_V k_V (.object "com/example/tidewall/tidewall/ledger/BusinessCalendar") (1 : Int32) [(.ref w_US)] .null) (S_UF : Sta Z Z.heap "com/example/tidewall/tidewall/ledger/BusinessCalendar" "US_FEDERAL_RESERVE" "Lcom/example/tidewall/tidewall/ledger/BusinessCalendar;" (.ref w_US)) (w_ID : Addr) (F_ID : Fld Z Z.heap w_US "com/example/tidewall/tidewall/ledger/BusinessCalendar" "id" "Ljava/lang/String;" (.ref w_ID)) (X_ID : Exa Z Z.heap w_ID "java/lang/String") (I_ID_coder : Fld Z Z.heap w_ID "java/lang/String" "coder" "B" (.int (0 : Int32))) (w_IB : Addr) (k_IB : ClassId) (F_IB : Fld Z Z.heap w_ID "java/lang/String" "value" "[B" (.ref w_IB)) (V_IB : Arv Z Z.heap w_IB k_IB .byte (18 : Int32) [(.int (117 : Int32)), (.int (115 : Int32)), (.int (45 : Int32)), (.int (102 : Int32)), (.int (101 : Int32)), (.int (100 : Int32)), (.int (101 : Int32)), (.int (114 : Int32)), (.int (97 : Int32)), (.int (108 : Int32)), (.int (45 : Int32)), (.int (114 : Int32)), (.int (101 : Int32)), (.int (115 : Int32)), (.int (101 : Int32)), (.int (114 : Int32)), (.int (118 : Int32)), (.int (101 : Int32))] (.int (0 : Int32))) (w_OE : Addr) (S_OE : Sta Z Z.heap "java/util/Optional" "EMPTY" "Ljava/util/Optional;" (.ref w_OE)) (X_OE : Exa Z Z.heap w_OE "java/util/Optional") (I_OE_value : Fld Z Z.heap w_OE "java/util/Optional" "value" "Ljava/lang/Object;" .null) (g_CS : Int32) (S_CS : Sta Z Z.heap "java/lang/String" "COMPACT_STRINGS" "Z" (.int g_CS)) (nz_CS : ¬ (g_CS = (0 : Int32))) (g_SF : Value) (S_SF : Sta Z Z.heap "jdk/internal/util/Preconditions" "SIOOBE_FORMATTER" "Ljava/util/function/BiFunction;" g_SF) (r_SF : g_SF.isRef = true) (p0 : Addr) (p1 : Addr) (h0 : Heap) (n0 : Nat) (X00 : Old Z n0 h0) (hp0 : Exa Z h0 p0 "java/util/Optional") (hp1 : Fld Z h0 p0 "java/util/Optional" "value" "Ljava/lang/Object;" .null) (hp2 : n0 ≤ p0) :
    MetFree l (⟨"java/util/Optional", "<init>", "(Ljava/lang/Object;)V"⟩ : MethodName) (head1 (Jvm.Cond.code (⟨"java/util/Optional", "<init>", "(Ljava/lang/Object;)V"⟩ : MethodName) jdk_32_method_2_code 2 none :: ws) ({ frames := 1, cells := 0, slots := 0, locals := 12 } : Room)) (fun a U => a = #[(.ref p0), (.ref p1)] ∧ Z.Warmed39 U.vm ∧ U.heap = h0) (fun _ _ _ _ _ => True) (fun _ U o U' => ∃ v L, o = .returned v ∧ Q_rm_oin Z w_US w_V k_V w_ID w_IB k_IB w_OE g_CS g_SF p0 p1 h0 n0 v U'.heap L ∧ FrameEnd U o U' L ({ frames := 1, cells := 0, slots := 0, locals := 12 } : Room).cells ({ frames := 1, cells := 0, slots := 0, locals := 12 } : Room).slots) := by
  refine MetFree.of_bodySF (plainFor_of_name own_pn3) hisR ?_
  intro p e s m args below meth c s₁ Bd hml0 hP hK
  obtain ⟨rfl, hZ, hh⟩ := hP
  have hx := Bd.exec
  have hby := Bd.bytes
  have hml : c.maxLocals = 2 := hml0
  have hown : s.vm.findClass "java/util/Optional" = some m.cls := findClass_of_methodNamed Bd.named
  have hnm := (name_of_methodNamed Bd.named Bd.method).1
  have X0 : Stand p l e ({ frames := 1, cells := 0, slots := 0, locals := 12 } : Room) s m #[(.ref p0), (.ref p1)] below meth c s₁ [] 0 0 := Stand.of_body Bd
  have e0 : s₁.heap = h0 := by rw [← hh, Bd.state]; rfl
  have N0 := Fr.nil n0
  refine Go.start fun P hPend => ?_
  refine Go.st (fun _ k => castTop (own_ef_rm_oin m p0 p1) k) ?_
  show Go p.tables e below P (s₁.setTop (mkF m 0 #[.val (.ref p0), .val (.ref p1)] []))
  refine Go.st (fun _ => XS.aloadN X0.here hx rfl (hb hby own_d_jdk_32_method_2_code_0) rfl rfl) ?_
  show Go p.tables e below P (s₁.setTop (mkF m 1 #[.val (.ref p0), .val (.ref p1)] [(.ref p0)]))
  obtain ⟨T1, X1, e1, st1⟩ := initO X0 hx hZ hown (ow hw 79 rfl) (ow hw 19 rfl) (ow hw 20 rfl) e0 (g := (mkF m 1 #[.val (.ref p0), .val (.ref p1)] [(.ref p0)])) rfl (by rw [hml]; rfl) rfl (hb hby own_d_jdk_32_method_2_code_1) (by decide) (W := 0) (by show 2 * 0 + _ ≤ _; exact Nat.le_of_eq rfl) (by decide)
  refine Go.st st1 ?_
  show Go p.tables e below P (T1.setTop (mkF m 4 #[.val (.ref p0), .val (.ref p1)] []))
  refine Go.st (fun _ => XS.aloadN X1.here hx rfl (hb hby own_d_jdk_32_method_2_code_4) rfl rfl) ?_
  show Go p.tables e below P (T1.setTop (mkF m 5 #[.val (.ref p0), .val (.ref p1)] [(.ref p0)]))
  refine Go.st (fun _ => XS.aloadN X1.here hx rfl (hb hby own_d_jdk_32_method_2_code_5) rfl rfl) ?_
  show Go p.tables e below P (T1.setTop (mkF m 6 #[.val (.ref p0), .val (.ref p1)] [(.ref p1), (.ref p0)]))
  obtain ⟨T2, h2, X2, e2, W2, st2⟩ := putF X1 hx hZ hown (host := "") (Or.inl (ow hw 80 rfl)) Via.refl e1 hp1 hp0 (Or.inr ⟨(ow hw 81 rfl), rfl, hnm⟩) (ow hw 70 rfl) (ty := (.object "java/lang/Object")) (by decide) rfl rfl (g := (mkF m 6 #[.val (.ref p0), .val (.ref p1)] [(.ref p1), (.ref p0)])) rfl rfl (hb hby own_d_jdk_32_method_2_code_6)
  refine Go.st st2 ?_
  have K2 : Keep h0 h2 [p0] := (Keep.refl h0 [p0]).wr W2 (Or.inl (List.mem_of_getElem? (i := 0) rfl))
  have O2 := X00.wr W2 hp2
  have N2 := Fr.snoc X2 N0 hp2
  have F2 := hp1.same W2
  show Go p.tables e below P (T2.setTop (mkF m 9 #[.val (.ref p0), .val (.ref p1)] []))
  obtain ⟨fs, hr, hrun, hended, hW, hsame⟩ := X2.leave (v := none) (fun _ => rfl)
  refine ⟨_, ?_, hPend _ _ hrun hended ⟨_, _, rfl, ?_, ⟨_, rfl⟩, hW, hsame.mono (by decide) (by decide)⟩⟩
  · exact X2.returnOut hx Bd.returns (hb hby own_d_jdk_32_method_2_code_9) hr
  · show Q_rm_oin Z _ _ _ _ _ _ _ _ _ _ _ h0 n0 _ T2.heap _
    rw [e2]
    have c3 := (hp0.wr W2)
    exact ⟨rfl, N2, K2, c3, F2⟩
theorem own_ef_rm_oof (m : MethodId) (x0 : Addr) : entryFrame m #[(.ref x0)] 1 = mkF m 0 #[.val (.ref x0)] [] := by first | (simp [entryFrame, mkF, argsToLocals, Value.category]; done) | rfl
theorem own_d_jdk_32_method_3_code_0 : decode jdk_32_method_3_code 0 = .ok (.new 2, 3) := by decide +kernel
theorem own_d_jdk_32_method_3_code_3 : decode jdk_32_method_3_code 3 = .ok (.dup, 1) := by decide +kernel
theorem own_d_jdk_32_method_3_code_4 : decode jdk_32_method_3_code 4 = .ok (.aload_n 0, 1) := by decide +kernel
theorem own_d_jdk_32_method_3_code_5 : decode jdk_32_method_3_code 5 = .ok (.invokestatic 17, 3) := by decide +kernel
theorem own_pd3 : parseMethodDescriptor "(Ljava/lang/Object;)Ljava/lang/Object;" = some ⟨[(.object "java/lang/Object")], some (.object "java/lang/Object")⟩ := by decide +kernel
theorem own_d_jdk_32_method_3_code_8 : decode jdk_32_method_3_code 8 = .ok (.invokespecial 23, 3) := by decide +kernel
theorem own_pd4 : parseMethodDescriptor "(Ljava/lang/Object;)V" = some ⟨[(.object "java/lang/Object")], none⟩ := by decide +kernel
theorem own_d_jdk_32_method_3_code_11 : decode jdk_32_method_3_code 11 = .ok (.areturn, 1) := by decide +kernel
def Q_rm_oof (Z : State) (w_US : Addr) (w_V : Addr) (k_V : ClassId) (w_ID : Addr) (w_IB : Addr) (k_IB : ClassId) (w_OE : Addr) (g_CS : Int32) (g_SF : Value) (p0 : Addr) (h0 : Heap) (n0 : Nat) (v : Option Value) (h : Heap) (L : List Loc) : Prop := ∃ (ob : Addr), v = some (.ref ob) ∧ Fr n0 L ∧ Keep h0 h [] ∧ h0.size ≤ ob ∧ Exa Z h ob "java/util/Optional" ∧ Fld Z h ob "java/util/Optional" "value" "Ljava/lang/Object;" (.ref p0)
set_option maxRecDepth 65536 in
set_option maxHeartbeats 40000000 in
theorem rm_oof (l : Launch) (Z : State) (a0 : Array Value) (hw : ∀ d ∈ tables_1, d.before a0 Z = true) (ws : List Jvm.Cond) (w_US : Addr) (X_US : Exa Z Z.heap w_US "com/example/tidewall/tidewall/ledger/BusinessCalendar$1") (w_V : Addr) (k_V : ClassId) (S_V : Sta Z Z.heap "com/example/tidewall/tidewall/ledger/BusinessCalendar" "$VALUES" "[Lcom/example/tidewall/tidewall/ledger/BusinessCalendar;" (.ref w_V)) (X_V : Exa Z Z.heap w_V "[Lcom/example/tidewall/tidewall/ledger/BusinessCalendar;") (V_V : Arv Z Z.heap w_V k_V (.object "com/example/tidewall/tidewall/ledger/BusinessCalendar") (1 : Int32) [(.ref w_US)] .null) (S_UF : Sta Z Z.heap "com/example/tidewall/tidewall/ledger/BusinessCalendar" "US_FEDERAL_RESERVE" "Lcom/example/tidewall/tidewall/ledger/BusinessCalendar;" (.ref w_US)) (w_ID : Addr) (F_ID : Fld Z Z.heap w_US "com/example/tidewall/tidewall/ledger/BusinessCalendar" "id" "Ljava/lang/String;" (.ref w_ID)) (X_ID : Exa Z Z.heap w_ID "java/lang/String") (I_ID_coder : Fld Z Z.heap w_ID "java/lang/String" "coder" "B" (.int (0 : Int32))) (w_IB : Addr) (k_IB : ClassId) (F_IB : Fld Z Z.heap w_ID "java/lang/String" "value" "[B" (.ref w_IB)) (V_IB : Arv Z Z.heap w_IB k_IB .byte (18 : Int32) [(.int (117 : Int32)), (.int (115 : Int32)), (.int (45 : Int32)), (.int (102 : Int32)), (.int (101 : Int32)), (.int (100 : Int32)), (.int (101 : Int32)), (.int (114 : Int32)), (.int (97 : Int32)), (.int (108 : Int32)), (.int (45 : Int32)), (.int (114 : Int32)), (.int (101 : Int32)), (.int (115 : Int32)), (.int (101 : Int32)), (.int (114 : Int32)), (.int (118 : Int32)), (.int (101 : Int32))] (.int (0 : Int32))) (w_OE : Addr) (S_OE : Sta Z Z.heap "java/util/Optional" "EMPTY" "Ljava/util/Optional;" (.ref w_OE)) (X_OE : Exa Z Z.heap w_OE "java/util/Optional") (I_OE_value : Fld Z Z.heap w_OE "java/util/Optional" "value" "Ljava/lang/Object;" .null) (g_CS : Int32) (S_CS : Sta Z Z.heap "java/lang/String" "COMPACT_STRINGS" "Z" (.int g_CS)) (nz_CS : ¬ (g_CS = (0 : Int32))) (g_SF : Value) (S_SF : Sta Z Z.heap "jdk/internal/util/Preconditions" "SIOOBE_FORMATTER" "Ljava/util/function/BiFunction;" g_SF) (r_SF : g_SF.isRef = true) (p0 : Addr) (h0 : Heap) (n0 : Nat) (X00 : Old Z n0 h0)  :
    MetFree l (⟨"java/util/Optional", "of", "(Ljava/lang/Object;)Ljava/util/Optional;"⟩ : MethodName) (head1 (Jvm.Cond.code (⟨"java/util/Optional", "of", "(Ljava/lang/Object;)Ljava/util/Optional;"⟩ : MethodName) jdk_32_method_3_code 1 (some (.object "java/util/Optional")) :: ws) ({ frames := 2, cells := 1, slots := 1, locals := 26 } : Room)) (fun a U => a = #[(.ref p0)] ∧ Z.Warmed39 U.vm ∧ U.heap = h0) (fun _ _ _ _ _ => True) (fun _ U o U' => ∃ v L, o = .returned v ∧ Q_rm_oof Z w_US w_V k_V w_ID w_IB k_IB w_OE g_CS g_SF p0 h0 n0 v U'.heap L ∧ FrameEnd U o U' L ({ frames := 2, cells := 1, slots := 1, locals := 26 } : Room).cells ({ frames := 2, cells := 1, slots := 1, locals := 26 } : Room).slots) := by
  refine MetFree.of_bodySF (plainFor_of_name own_pn3) hisR ?_
  intro p e s m args below meth c s₁ Bd hml0 hP hK
  obtain ⟨rfl, hZ, hh⟩ := hP
  have hx := Bd.exec
  have hby := Bd.bytes
  have hml : c.maxLocals = 1 := hml0
  have hown : s.vm.findClass "java/util/Optional" = some m.cls := findClass_of_methodNamed Bd.named
  have hnm := (name_of_methodNamed Bd.named Bd.method).1
  have X0 : Stand p l e ({ frames := 2, cells := 1, slots := 1, locals := 26 } : Room) s m #[(.ref p0)] below meth c s₁ [] 0 0 := Stand.of_body Bd
  have e0 : s₁.heap = h0 := by rw [← hh, Bd.state]; rfl
  have N0 := Fr.nil n0
  refine Go.start fun P hPend => ?_
  refine Go.st (fun _ k => castTop (own_ef_rm_oof m p0) k) ?_
  show Go p.tables e below P (s₁.setTop (mkF m 0 #[.val (.ref p0)] []))
  obtain ⟨T1, h1, X1, e1, E1, A1, D1, -, st1⟩ := newO X0 hx hZ hown (ow hw 69 rfl) (ow hw 70 rfl) (ow hw 67 rfl) e0 (g := (mkF m 0 #[.val (.ref p0)] [])) rfl (hb hby own_d_jdk_32_method_3_code_0) (by decide) (by decide)
  obtain ⟨b1, g1⟩ : ∃ z, z = h0.size := ⟨_, rfl⟩
  rw [← g1] at A1 D1 st1
  refine Go.st st1 ?_
  have g_b1 : n0 ≤ b1 := Nat.le_trans (own_oldsz X00) (Nat.le_of_eq g1.symm)
  have sz_b1 : h0.size ≤ b1 := Nat.le_trans (Keep.refl h0 []).1 (Nat.le_of_eq g1.symm)
  have K1 : Keep h0 h1 [] := (Keep.refl h0 []).ext E1
  have O1 := X00.ext E1
  have F2 : Fld Z h1 b1 "java/util/Optional" "value" "Ljava/lang/Object;" .null := D1 (Or.inr (ow hw 81 rfl)) (ty := (.object "java/lang/Object")) (by decide)
  show Go p.tables e below P (T1.setTop (mkF m 3 #[.val (.ref p0)] [(.ref b1)]))
  refine Go.st (fun _ => XS.dup X1.here hx rfl (hb hby own_d_jdk_32_method_3_code_3) rfl rfl) ?_
  show Go p.tables e below P (T1.setTop (mkF m 4 #[.val (.ref p0)] [(.ref b1), (.ref b1)]))
  refine Go.st (fun _ => XS.aloadN X1.here hx rfl (hb hby own_d_jdk_32_method_3_code_4) rfl rfl) ?_
  show Go p.tables e below P (T1.setTop (mkF m 5 #[.val (.ref p0)] [(.ref p0), (.ref b1), (.ref b1)]))
  obtain ⟨_, _, ⟨T3, L3, k3, n3⟩, -, X3, ⟨Lc3, hQ3, l3, y3, z3⟩, st3⟩ := Jvm.LawKit.callS X1 hx (y := (⟨"java/util/Objects", "requireNonNull", "(Ljava/lang/Object;)Ljava/lang/Object;"⟩ : MethodName)) hown (mvT hZ (ow hw 71 rfl)) (mvT hZ (ow hw 72 rfl)) (mvT hZ (ow hw 73 rfl)) (mvT hZ (ow hw 74 rfl)) (by decide) (backOf (W := 2) (rm_rn1 l Z a0 hw [] w_US X_US w_V k_V S_V X_V V_V S_UF w_ID F_ID X_ID I_ID_coder w_IB k_IB F_IB V_IB w_OE S_OE X_OE I_OE_value g_CS S_CS nz_CS g_SF S_SF r_SF p0 h1 n0 O1 ) hZ (ow hw 74 rfl) (ow hw 73 rfl) (by decide) (by decide)) (g := (mkF m 5 #[.val (.ref p0)] [(.ref p0), (.ref b1), (.ref b1)])) rfl (by rw [hml]; rfl) (argsL := [(.ref p0)]) (rest := [(.ref b1), (.ref b1)]) (lenOf own_pd3 rfl) rfl (by show 2 * 0 + _ ≤ _; exact Nat.le_of_eq rfl) (hb hby own_d_jdk_32_method_3_code_5) (fun _ _ => ⟨rfl, e1, (by decide : 1 + 0 ≤ _), (by decide : 1 + 0 ≤ _)⟩)
  dsimp only [Pt.U, Pt.locs, Pt.cells, Pt.slots] at X3 l3 y3 z3 st3 hQ3
  subst y3 z3
  refine Go.st st3 ?_
  obtain ⟨rfl, N3q, e3⟩ := hQ3
  have N3 : Fr n0 L3 := by rw [l3]; exact Fr.app N0 N3q
  show Go p.tables e below P (T3.setTop (mkF m 8 #[.val (.ref p0)] [(.ref p0), (.ref b1), (.ref b1)]))
  obtain ⟨_, _, ⟨T4, L4, k4, n4⟩, -, X4, ⟨Lc4, hQ4, l4, y4, z4⟩, st4⟩ := X3.specialBack hx (y := (⟨"java/util/Optional", "<init>", "(Ljava/lang/Object;)V"⟩ : MethodName)) rfl hown (mvT hZ (ow hw 75 rfl)) (mvT hZ (ow hw 76 rfl)) (mvT hZ (ow hw 78 rfl)) (by decide) (backOf (W := 1) (rm_oin l Z a0 hw [] w_US X_US w_V k_V S_V X_V V_V S_UF w_ID F_ID X_ID I_ID_coder w_IB k_IB F_IB V_IB w_OE S_OE X_OE I_OE_value g_CS S_CS nz_CS g_SF S_SF r_SF b1 p0 h1 n0 O1 A1 F2 g_b1) hZ (ow hw 78 rfl) (ow hw 67 rfl) (by decide) (by decide)) (g := (mkF m 8 #[.val (.ref p0)] [(.ref p0), (.ref b1), (.ref b1)])) rfl (by rw [hml]; rfl) (Steps.refl _) (a := b1) (argsL := [(.ref p0)]) (rest := [(.ref b1)]) (lenOf own_pd4 rfl) rfl (by show 2 * 0 + _ ≤ _; exact Nat.le_of_eq rfl) (hb hby own_d_jdk_32_method_3_code_8) (fun _ _ => ⟨rfl, e3, (by decide : 1 + 0 ≤ _), (by decide : 1 + 0 ≤ _)⟩)
  dsimp only [Pt.U, Pt.locs, Pt.cells, Pt.slots] at X4 l4 y4 z4 st4 hQ4
  subst y4 z4
  refine Go.tr st4 ?_
  obtain ⟨rfl, N4q, K4q, q4_0, q4_1⟩ := hQ4
  have N4 : Fr n0 L4 := by rw [l4]; exact Fr.app N3 N4q
  have O4 := O1.keep K4q (allS g_b1 all0)
  have K4 : Keep h0 T4.heap [] := K1.trans K4q (allS (Or.inr sz_b1) all0)
  show Go p.tables e below P (T4.setTop (mkF m 11 #[.val (.ref p0)] [(.ref b1)]))
  obtain ⟨fs, hr, hrun, hended, hW, hsame⟩ := X4.leave (v := some (.ref b1)) (fun h => by rw [Bd.returns] at h; cases h)
  refine ⟨_, ?_, hPend _ _ hrun hended ⟨_, _, rfl, ?_, ⟨_, rfl⟩, hW, hsame.mono (by decide) (by decide)⟩⟩
  · exact retOut X4 hx (t := (.object "java/util/Optional")) Bd.returns rfl (Or.inr (Or.inr (Or.inr (Or.inr ⟨rfl, rfl, rfl⟩)))) (hb hby own_d_jdk_32_method_3_code_11) hr
  · show Q_rm_oof Z _ _ _ _ _ _ _ _ _ _ h0 n0 _ T4.heap _
    exact ⟨b1, rfl, N4, K4, sz_b1, q4_0, q4_1⟩
theorem own_ef_rm_oem (m : MethodId)  : entryFrame m #[] 1 = mkF m 0 #[.unset] [] := by first | (simp [entryFrame, mkF, argsToLocals, Value.category]; done) | rfl
theorem own_d_jdk_32_method_1_code_0 : decode jdk_32_method_1_code 0 = .ok (.getstatic 1, 3) := by decide +kernel
theorem own_d_jdk_32_method_1_code_3 : decode jdk_32_method_1_code 3 = .ok (.astore_n 0, 1) := by decide +kernel
theorem own_d_jdk_32_method_1_code_4 : decode jdk_32_method_1_code 4 = .ok (.aload_n 0, 1) := by decide +kernel
theorem own_d_jdk_32_method_1_code_5 : decode jdk_32_method_1_code 5 = .ok (.areturn, 1) := by decide +kernel
def Q_rm_oem (Z : State) (w_US : Addr) (w_V : Addr) (k_V : ClassId) (w_ID : Addr) (w_IB : Addr) (k_IB : ClassId) (w_OE : Addr) (g_CS : Int32) (g_SF : Value) (h0 : Heap) (n0 : Nat) (v : Option Value) (h : Heap) (L : List Loc) : Prop := v = some (.ref w_OE) ∧ Fr n0 L ∧ h = h0
set_option maxRecDepth 65536 in
set_option maxHeartbeats 40000000 in
theorem rm_oem (l : Launch) (Z : State) (a0 : Array Value) (hw : ∀ d ∈ tables_1, d.before a0 Z = true) (ws : List Jvm.Cond) (w_US : Addr) (X_US : Exa Z Z.heap w_US "com/example/tidewall/tidewall/ledger/BusinessCalendar$1") (w_V : Addr) (k_V : ClassId) (S_V : Sta Z Z.heap "com/example/tidewall/tidewall/ledger/BusinessCalendar" "$VALUES" "[Lcom/example/tidewall/tidewall/ledger/BusinessCalendar;" (.ref w_V)) (X_V : Exa Z Z.heap w_V "[Lcom/example/tidewall/tidewall/ledger/BusinessCalendar;") (V_V : Arv Z Z.heap w_V k_V (.object "com/example/tidewall/tidewall/ledger/BusinessCalendar") (1 : Int32) [(.ref w_US)] .null) (S_UF : Sta Z Z.heap "com/example/tidewall/tidewall/ledger/BusinessCalendar" "US_FEDERAL_RESERVE" "Lcom/example/tidewall/tidewall/ledger/BusinessCalendar;" (.ref w_US)) (w_ID : Addr) (F_ID : Fld Z Z.heap w_US "com/example/tidewall/tidewall/ledger/BusinessCalendar" "id" "Ljava/lang/String;" (.ref w_ID)) (X_ID : Exa Z Z.heap w_ID "java/lang/String") (I_ID_coder : Fld Z Z.heap w_ID "java/lang/String" "coder" "B" (.int (0 : Int32))) (w_IB : Addr) (k_IB : ClassId) (F_IB : Fld Z Z.heap w_ID "java/lang/String" "value" "[B" (.ref w_IB)) (V_IB : Arv Z Z.heap w_IB k_IB .byte (18 : Int32) [(.int (117 : Int32)), (.int (115 : Int32)), (.int (45 : Int32)), (.int (102 : Int32)), (.int (101 : Int32)), (.int (100 : Int32)), (.int (101 : Int32)), (.int (114 : Int32)), (.int (97 : Int32)), (.int (108 : Int32)), (.int (45 : Int32)), (.int (114 : Int32)), (.int (101 : Int32)), (.int (115 : Int32)), (.int (101 : Int32)), (.int (114 : Int32)), (.int (118 : Int32)), (.int (101 : Int32))] (.int (0 : Int32))) (w_OE : Addr) (S_OE : Sta Z Z.heap "java/util/Optional" "EMPTY" "Ljava/util/Optional;" (.ref w_OE)) (X_OE : Exa Z Z.heap w_OE "java/util/Optional") (I_OE_value : Fld Z Z.heap w_OE "java/util/Optional" "value" "Ljava/lang/Object;" .null) (g_CS : Int32) (S_CS : Sta Z Z.heap "java/lang/String" "COMPACT_STRINGS" "Z" (.int g_CS)) (nz_CS : ¬ (g_CS = (0 : Int32))) (g_SF : Value) (S_SF : Sta Z Z.heap "jdk/internal/util/Preconditions" "SIOOBE_FORMATTER" "Ljava/util/function/BiFunction;" g_SF) (r_SF : g_SF.isRef = true) (h0 : Heap) (n0 : Nat) (X00 : Old Z n0 h0)  :
    MetFree l (⟨"java/util/Optional", "empty", "()Ljava/util/Optional;"⟩ : MethodName) (head1 (Jvm.Cond.code (⟨"java/util/Optional", "empty", "()Ljava/util/Optional;"⟩ : MethodName) jdk_32_method_1_code 1 (some (.object "java/util/Optional")) :: ws) ({ frames := 0, cells := 0, slots := 0, locals := 0 } : Room)) (fun a U => a = #[] ∧ Z.Warmed39 U.vm ∧ U.heap = h0) (fun _ _ _ _ _ => True) (fun _ U o U' => ∃ v L, o = .returned v ∧ Q_rm_oem Z w_US w_V k_V w_ID w_IB k_IB w_OE g_CS g_SF h0 n0 v U'.heap L ∧ FrameEnd U o U' L ({ frames := 0, cells := 0, slots := 0, locals := 0 } : Room).cells ({ frames := 0, cells := 0, slots := 0, locals := 0 } : Room).slots) := by
  refine MetFree.of_bodySF (plainFor_of_name own_pn3) hisR ?_
  intro p e s m args below meth c s₁ Bd hml0 hP hK
  obtain ⟨rfl, hZ, hh⟩ := hP
  have hx := Bd.exec
  have hby := Bd.bytes
  have hml : c.maxLocals = 1 := hml0
  have hown : s.vm.findClass "java/util/Optional" = some m.cls := findClass_of_methodNamed Bd.named
  have hnm := (name_of_methodNamed Bd.named Bd.method).1
  have X0 : Stand p l e ({ frames := 0, cells := 0, slots := 0, locals := 0 } : Room) s m #[] below meth c s₁ [] 0 0 := Stand.of_body Bd
  have e0 : s₁.heap = h0 := by rw [← hh, Bd.state]; rfl
  have N0 := Fr.nil n0
  refine Go.start fun P hPend => ?_
  refine Go.st (fun _ k => castTop (own_ef_rm_oem m ) k) ?_
  show Go p.tables e below P (s₁.setTop (mkF m 0 #[.unset] []))
  obtain ⟨T1, X1, e1, st1⟩ := getS2 X0 hx hZ hown (host := "") (Or.inl (ow hw 126 rfl)) Via.refl e0 (S_OE.ext X00.2) (g := (mkF m 0 #[.unset] [])) rfl (hb hby own_d_jdk_32_method_1_code_0)
  refine Go.st st1 ?_
  show Go p.tables e below P (T1.setTop (mkF m 3 #[.unset] [(.ref w_OE)]))
  refine Go.st (fun _ => XS.astoreN X1.here hx rfl (hb hby own_d_jdk_32_method_1_code_3) rfl rfl (l' := #[.val (.ref w_OE)]) rfl) ?_
  show Go p.tables e below P (T1.setTop (mkF m 4 #[.val (.ref w_OE)] []))
  refine Go.st (fun _ => XS.aloadN X1.here hx rfl (hb hby own_d_jdk_32_method_1_code_4) rfl rfl) ?_
  show Go p.tables e below P (T1.setTop (mkF m 5 #[.val (.ref w_OE)] [(.ref w_OE)]))
  obtain ⟨fs, hr, hrun, hended, hW, hsame⟩ := X1.leave (v := some (.ref w_OE)) (fun h => by rw [Bd.returns] at h; cases h)
  refine ⟨_, ?_, hPend _ _ hrun hended ⟨_, _, rfl, ?_, ⟨_, rfl⟩, hW, hsame.mono (by decide) (by decide)⟩⟩
  · exact retOut X1 hx (t := (.object "java/util/Optional")) Bd.returns rfl (Or.inr (Or.inr (Or.inr (Or.inr ⟨rfl, rfl, rfl⟩)))) (hb hby own_d_jdk_32_method_1_code_5) hr
  · show Q_rm_oem Z _ _ _ _ _ _ _ _ _ h0 n0 _ T1.heap _
    rw [e1]
    exact ⟨rfl, N0, rfl⟩
theorem own_ef_rm_ip1 (m : MethodId) (x0 : Addr) : entryFrame m #[(.ref x0)] 1 = mkF m 0 #[.val (.ref x0)] [] := by first | (simp [entryFrame, mkF, argsToLocals, Value.category]; done) | rfl
theorem own_d_jdk_32_method_6_code_0 : decode jdk_32_method_6_code 0 = .ok (.aload_n 0, 1) := by decide +kernel
theorem own_d_jdk_32_method_6_code_1 : decode jdk_32_method_6_code 1 = .ok (.getfield 13, 3) := by decide +kernel
theorem own_d_jdk_32_method_6_code_4 : decode jdk_32_method_6_code 4 = .ok (.ifnull 7, 3) := by decide +kernel
theorem own_d_jdk_32_method_6_code_7 : decode jdk_32_method_6_code 7 = .ok (.iconst 1, 1) := by decide +kernel
theorem own_d_jdk_32_method_6_code_8 : decode jdk_32_method_6_code 8 = .ok (.goto 4, 3) := by decide +kernel
theorem own_d_jdk_32_method_6_code_12 : decode jdk_32_method_6_code 12 = .ok (.ireturn, 1) := by decide +kernel
def Q_rm_ip1 (Z : State) (w_US : Addr) (w_V : Addr) (k_V : ClassId) (w_ID : Addr) (w_IB : Addr) (k_IB : ClassId) (w_OE : Addr) (g_CS : Int32) (g_SF : Value) (p0 : Addr) (pv : Addr) (h0 : Heap) (n0 : Nat) (v : Option Value) (h : Heap) (L : List Loc) : Prop := v = some (.int (1 : Int32)) ∧ Fr n0 L ∧ h = h0
set_option maxRecDepth 65536 in
set_option maxHeartbeats 40000000 in
theorem rm_ip1 (l : Launch) (Z : State) (a0 : Array Value) (hw : ∀ d ∈ tables_1, d.before a0 Z = true) (ws : List Jvm.Cond) (w_US : Addr) (X_US : Exa Z Z.heap w_US "com/example/tidewall/tidewall/ledger/BusinessCalendar$1") (w_V : Addr) (k_V : ClassId) (S_V : Sta Z Z.heap "com/example/tidewall/tidewall/ledger/BusinessCalendar" "$VALUES" "[Lcom/example/tidewall/tidewall/ledger/BusinessCalendar;" (.ref w_V)) (X_V : Exa Z Z.heap w_V "[Lcom/example/tidewall/tidewall/ledger/BusinessCalendar;") (V_V : Arv Z Z.heap w_V k_V (.object "com/example/tidewall/tidewall/ledger/BusinessCalendar") (1 : Int32) [(.ref w_US)] .null) (S_UF : Sta Z Z.heap "com/example/tidewall/tidewall/ledger/BusinessCalendar" "US_FEDERAL_RESERVE" "Lcom/example/tidewall/tidewall/ledger/BusinessCalendar;" (.ref w_US)) (w_ID : Addr) (F_ID : Fld Z Z.heap w_US "com/example/tidewall/tidewall/ledger/BusinessCalendar" "id" "Ljava/lang/String;" (.ref w_ID)) (X_ID : Exa Z Z.heap w_ID "java/lang/String") (I_ID_coder : Fld Z Z.heap w_ID "java/lang/String" "coder" "B" (.int (0 : Int32))) (w_IB : Addr) (k_IB : ClassId) (F_IB : Fld Z Z.heap w_ID "java/lang/String" "value" "[B" (.ref w_IB)) (V_IB : Arv Z Z.heap w_IB k_IB .byte (18 : Int32) [(.int (117 : Int32)), (.int (115 : Int32)), (.int (45 : Int32)), (.int (102 : Int32)), (.int (101 : Int32)), (.int (100 : Int32)), (.int (101 : Int32)), (.int (114 : Int32)), (.int (97 : Int32)), (.int (108 : Int32)), (.int (45 : Int32)), (.int (114 : Int32)), (.int (101 : Int32)), (.int (115 : Int32)), (.int (101 : Int32)), (.int (114 : Int32)), (.int (118 : Int32)), (.int (101 : Int32))] (.int (0 : Int32))) (w_OE : Addr) (S_OE : Sta Z Z.heap "java/util/Optional" "EMPTY" "Ljava/util/Optional;" (.ref w_OE)) (X_OE : Exa Z Z.heap w_OE "java/util/Optional") (I_OE_value : Fld Z Z.heap w_OE "java/util/Optional" "value" "Ljava/lang/Object;" .null) (g_CS : Int32) (S_CS : Sta Z Z.heap "java/lang/String" "COMPACT_STRINGS" "Z" (.int g_CS)) (nz_CS : ¬ (g_CS = (0 : Int32))) (g_SF : Value) (S_SF : Sta Z Z.heap "jdk/internal/util/Preconditions" "SIOOBE_FORMATTER" "Ljava/util/function/BiFunction;" g_SF) (r_SF : g_SF.isRef = true) (p0 : Addr) (pv : Addr) (h0 : Heap) (n0 : Nat) (X00 : Old Z n0 h0) (hp0 : Fld Z h0 p0 "java/util/Optional" "value" "Ljava/lang/Object;" (.ref pv)) :
    MetFree l (⟨"java/util/Optional", "isPresent", "()Z"⟩ : MethodName) (head1 (Jvm.Cond.code (⟨"java/util/Optional", "isPresent", "()Z"⟩ : MethodName) jdk_32_method_6_code 1 (some .boolean) :: ws) ({ frames := 0, cells := 0, slots := 0, locals := 0 } : Room)) (fun a U => a = #[(.ref p0)] ∧ Z.Warmed39 U.vm ∧ U.heap = h0) (fun _ _ _ _ _ => True) (fun _ U o U' => ∃ v L, o = .returned v ∧ Q_rm_ip1 Z w_US w_V k_V w_ID w_IB k_IB w_OE g_CS g_SF p0 pv h0 n0 v U'.heap L ∧ FrameEnd U o U' L ({ frames := 0, cells := 0, slots := 0, locals := 0 } : Room).cells ({ frames := 0, cells := 0, slots := 0, locals := 0 } : Room).slots) := by
  refine MetFree.of_bodySF (plainFor_of_name own_pn3) hisR ?_
  intro p e s m args below meth c s₁ Bd hml0 hP hK
  obtain ⟨rfl, hZ, hh⟩ := hP
  have hx := Bd.exec
  have hby := Bd.bytes
  have hml : c.maxLocals = 1 := hml0
  have hown : s.vm.findClass "java/util/Optional" = some m.cls := findClass_of_methodNamed Bd.named
  have hnm := (name_of_methodNamed Bd.named Bd.method).1
  have X0 : Stand p l e ({ frames := 0, cells := 0, slots := 0, locals := 0 } : Room) s m #[(.ref p0)] below meth c s₁ [] 0 0 := Stand.of_body Bd
  have e0 : s₁.heap = h0 := by rw [← hh, Bd.state]; rfl
  have N0 := Fr.nil n0
  refine Go.start fun P hPend => ?_
  refine Go.st (fun _ k => castTop (own_ef_rm_ip1 m p0) k) ?_
  show Go p.tables e below P (s₁.setTop (mkF m 0 #[.val (.ref p0)] []))
  refine Go.st (fun _ => XS.aloadN X0.here hx rfl (hb hby own_d_jdk_32_method_6_code_0) rfl rfl) ?_
  show Go p.tables e below P (s₁.setTop (mkF m 1 #[.val (.ref p0)] [(.ref p0)]))
  obtain ⟨T1, X1, e1, st1⟩ := getF X0 hx hZ hown (host := "") (Or.inl (ow hw 80 rfl)) Via.refl e0 hp0 (g := (mkF m 1 #[.val (.ref p0)] [(.ref p0)])) rfl rfl (hb hby own_d_jdk_32_method_6_code_1)
  refine Go.st st1 ?_
  show Go p.tables e below P (T1.setTop (mkF m 4 #[.val (.ref p0)] [(.ref pv)]))
  refine Go.st (fun _ => XS.ifnullNo X1.here hx rfl (hb hby own_d_jdk_32_method_6_code_4) rfl) ?_
  show Go p.tables e below P (T1.setTop (mkF m 7 #[.val (.ref p0)] []))
  refine Go.st (fun _ => XS.iconst X1.here hx rfl (hb hby own_d_jdk_32_method_6_code_7)) ?_
  show Go p.tables e below P (T1.setTop (mkF m 8 #[.val (.ref p0)] [(.int (1 : Int32))]))
  refine Go.st (fun _ => XS.goto X1.here hx rfl (pc0 := 8) (pc' := 12) rfl (hb hby own_d_jdk_32_method_6_code_8) (by decide) (by decide)) ?_
  show Go p.tables e below P (T1.setTop (mkF m 12 #[.val (.ref p0)] [(.int (1 : Int32))]))
  obtain ⟨fs, hr, hrun, hended, hW, hsame⟩ := X1.leave (v := some (.int (1 : Int32))) (fun h => by rw [Bd.returns] at h; cases h)
  refine ⟨_, ?_, hPend _ _ hrun hended ⟨_, _, rfl, ?_, ⟨_, rfl⟩, hW, hsame.mono (by decide) (by decide)⟩⟩
  · exact retN X1 hx (t := .boolean) Bd.returns (by simp) (hb hby own_d_jdk_32_method_6_code_12) hr
  · show Q_rm_ip1 Z _ _ _ _ _ _ _ _ _ _ _ h0 n0 _ T1.heap _
    rw [e1]
    exact ⟨rfl, N0, rfl⟩
theorem own_ef_rm_ip0 (m : MethodId) (x0 : Addr) : entryFrame m #[(.ref x0)] 1 = mkF m 0 #[.val (.ref x0)] [] := by first | (simp [entryFrame, mkF, argsToLocals, Value.category]; done) | rfl
theorem own_d_jdk_32_method_6_code_11 : decode jdk_32_method_6_code 11 = .ok (.iconst 0, 1) := by decide +kernel
def Q_rm_ip0 (Z : State) (w_US : Addr) (w_V : Addr) (k_V : ClassId) (w_ID : Addr) (w_IB : Addr) (k_IB : ClassId) (w_OE : Addr) (g_CS : Int32) (g_SF : Value) (p0 : Addr) (h0 : Heap) (n0 : Nat) (v : Option Value) (h : Heap) (L : List Loc) : Prop := v = some (.int (0 : Int32)) ∧ Fr n0 L ∧ h = h0
set_option maxRecDepth 65536 in
set_option maxHeartbeats 40000000 in
theorem rm_ip0 (l : Launch) (Z : State) (a0 : Array Value) (hw : ∀ d ∈ tables_1, d.before a0 Z = true) (ws : List Jvm.Cond) (w_US : Addr) (X_US : Exa Z Z.heap w_US "com/example/tidewall/tidewall/ledger/BusinessCalendar$1") (w_V : Addr) (k_V : ClassId) (S_V : Sta Z Z.heap "com/example/tidewall/tidewall/ledger/BusinessCalendar" "$VALUES" "[Lcom/example/tidewall/tidewall/ledger/BusinessCalendar;" (.ref w_V)) (X_V : Exa Z Z.heap w_V "[Lcom/example/tidewall/tidewall/ledger/BusinessCalendar;") (V_V : Arv Z Z.heap w_V k_V (.object "com/example/tidewall/tidewall/ledger/BusinessCalendar") (1 : Int32) [(.ref w_US)] .null) (S_UF : Sta Z Z.heap "com/example/tidewall/tidewall/ledger/BusinessCalendar" "US_FEDERAL_RESERVE" "Lcom/example/tidewall/tidewall/ledger/BusinessCalendar;" (.ref w_US)) (w_ID : Addr) (F_ID : Fld Z Z.heap w_US "com/example/tidewall/tidewall/ledger/BusinessCalendar" "id" "Ljava/lang/String;" (.ref w_ID)) (X_ID : Exa Z Z.heap w_ID "java/lang/String") (I_ID_coder : Fld Z Z.heap w_ID "java/lang/String" "coder" "B" (.int (0 : Int32))) (w_IB : Addr) (k_IB : ClassId) (F_IB : Fld Z Z.heap w_ID "java/lang/String" "value" "[B" (.ref w_IB)) (V_IB : Arv Z Z.heap w_IB k_IB .byte (18 : Int32) [(.int (117 : Int32)), (.int (115 : Int32)), (.int (45 : Int32)), (.int (102 : Int32)), (.int (101 : Int32)), (.int (100 : Int32)), (.int (101 : Int32)), (.int (114 : Int32)), (.int (97 : Int32)), (.int (108 : Int32)), (.int (45 : Int32)), (.int (114 : Int32)), (.int (101 : Int32)), (.int (115 : Int32)), (.int (101 : Int32)), (.int (114 : Int32)), (.int (118 : Int32)), (.int (101 : Int32))] (.int (0 : Int32))) (w_OE : Addr) (S_OE : Sta Z Z.heap "java/util/Optional" "EMPTY" "Ljava/util/Optional;" (.ref w_OE)) (X_OE : Exa Z Z.heap w_OE "java/util/Optional") (I_OE_value : Fld Z Z.heap w_OE "java/util/Optional" "value" "Ljava/lang/Object;" .null) (g_CS : Int32) (S_CS : Sta Z Z.heap "java/lang/String" "COMPACT_STRINGS" "Z" (.int g_CS)) (nz_CS : ¬ (g_CS = (0 : Int32))) (g_SF : Value) (S_SF : Sta Z Z.heap "jdk/internal/util/Preconditions" "SIOOBE_FORMATTER" "Ljava/util/function/BiFunction;" g_SF) (r_SF : g_SF.isRef = true) (p0 : Addr) (h0 : Heap) (n0 : Nat) (X00 : Old Z n0 h0) (hp0 : Fld Z h0 p0 "java/util/Optional" "value" "Ljava/lang/Object;" .null) :
    MetFree l (⟨"java/util/Optional", "isPresent", "()Z"⟩ : MethodName) (head1 (Jvm.Cond.code (⟨"java/util/Optional", "isPresent", "()Z"⟩ : MethodName) jdk_32_method_6_code 1 (some .boolean) :: ws) ({ frames := 0, cells := 0, slots := 0, locals := 0 } : Room)) (fun a U => a = #[(.ref p0)] ∧ Z.Warmed39 U.vm ∧ U.heap = h0) (fun _ _ _ _ _ => True) (fun _ U o U' => ∃ v L, o = .returned v ∧ Q_rm_ip0 Z w_US w_V k_V w_ID w_IB k_IB w_OE g_CS g_SF p0 h0 n0 v U'.heap L ∧ FrameEnd U o U' L ({ frames := 0, cells := 0, slots := 0, locals := 0 } : Room).cells ({ frames := 0, cells := 0, slots := 0, locals := 0 } : Room).slots) := by
  refine MetFree.of_bodySF (plainFor_of_name own_pn3) hisR ?_
  intro p e s m args below meth c s₁ Bd hml0 hP hK
  obtain ⟨rfl, hZ, hh⟩ := hP
  have hx := Bd.exec
  have hby := Bd.bytes
  have hml : c.maxLocals = 1 := hml0
  have hown : s.vm.findClass "java/util/Optional" = some m.cls := findClass_of_methodNamed Bd.named
  have hnm := (name_of_methodNamed Bd.named Bd.method).1
  have X0 : Stand p l e ({ frames := 0, cells := 0, slots := 0, locals := 0 } : Room) s m #[(.ref p0)] below meth c s₁ [] 0 0 := Stand.of_body Bd
  have e0 : s₁.heap = h0 := by rw [← hh, Bd.state]; rfl
  have N0 := Fr.nil n0
  refine Go.start fun P hPend => ?_
  refine Go.st (fun _ k => castTop (own_ef_rm_ip0 m p0) k) ?_
  show Go p.tables e below P (s₁.setTop (mkF m 0 #[.val (.ref p0)] []))
  refine Go.st (fun _ => XS.aloadN X0.here hx rfl (hb hby own_d_jdk_32_method_6_code_0) rfl rfl) ?_
  show Go p.tables e below P (s₁.setTop (mkF m 1 #[.val (.ref p0)] [(.ref p0)]))
  obtain ⟨T1, X1, e1, st1⟩ := getF X0 hx hZ hown (host := "") (Or.inl (ow hw 80 rfl)) Via.refl e0 hp0 (g := (mkF m 1 #[.val (.ref p0)] [(.ref p0)])) rfl rfl (hb hby own_d_jdk_32_method_6_code_1)
  refine Go.st st1 ?_
  show Go p.tables e below P (T1.setTop (mkF m 4 #[.val (.ref p0)] [.null]))
  refine Go.st (fun _ => XS.ifnullYes X1.here hx rfl (pc0 := 4) (pc' := 11) rfl (hb hby own_d_jdk_32_method_6_code_4) rfl (by decide) (by decide)) ?_
  show Go p.tables e below P (T1.setTop (mkF m 11 #[.val (.ref p0)] []))
  refine Go.st (fun _ => XS.iconst X1.here hx rfl (hb hby own_d_jdk_32_method_6_code_11)) ?_
  show Go p.tables e below P (T1.setTop (mkF m 12 #[.val (.ref p0)] [(.int (0 : Int32))]))
  obtain ⟨fs, hr, hrun, hended, hW, hsame⟩ := X1.leave (v := some (.int (0 : Int32))) (fun h => by rw [Bd.returns] at h; cases h)
  refine ⟨_, ?_, hPend _ _ hrun hended ⟨_, _, rfl, ?_, ⟨_, rfl⟩, hW, hsame.mono (by decide) (by decide)⟩⟩
  · exact retN X1 hx (t := .boolean) Bd.returns (by simp) (hb hby own_d_jdk_32_method_6_code_12) hr
  · show Q_rm_ip0 Z _ _ _ _ _ _ _ _ _ _ h0 n0 _ T1.heap _
    rw [e1]
    exact ⟨rfl, N0, rfl⟩
theorem own_ef_rm_oget (m : MethodId) (x0 : Addr) : entryFrame m #[(.ref x0)] 1 = mkF m 0 #[.val (.ref x0)] [] := by first | (simp [entryFrame, mkF, argsToLocals, Value.category]; done) | rfl
theorem own_d_jdk_32_method_5_code_0 : decode jdk_32_method_5_code 0 = .ok (.aload_n 0, 1) := by decide +kernel
theorem own_d_jdk_32_method_5_code_1 : decode jdk_32_method_5_code 1 = .ok (.getfield 13, 3) := by decide +kernel
theorem own_d_jdk_32_method_5_code_4 : decode jdk_32_method_5_code 4 = .ok (.ifnonnull 13, 3) := by decide +kernel
theorem own_d_jdk_32_method_5_code_17 : decode jdk_32_method_5_code 17 = .ok (.aload_n 0, 1) := by decide +kernel
theorem own_d_jdk_32_method_5_code_18 : decode jdk_32_method_5_code 18 = .ok (.getfield 13, 3) := by decide +kernel
theorem own_d_jdk_32_method_5_code_21 : decode jdk_32_method_5_code 21 = .ok (.areturn, 1) := by decide +kernel
def Q_rm_oget (Z : State) (w_US : Addr) (w_V : Addr) (k_V : ClassId) (w_ID : Addr) (w_IB : Addr) (k_IB : ClassId) (w_OE : Addr) (g_CS : Int32) (g_SF : Value) (p0 : Addr) (pv : Addr) (h0 : Heap) (n0 : Nat) (v : Option Value) (h : Heap) (L : List Loc) : Prop := v = some (.ref pv) ∧ Fr n0 L ∧ h = h0
set_option maxRecDepth 65536 in
set_option maxHeartbeats 40000000 in
theorem rm_oget (l : Launch) (Z : State) (a0 : Array Value) (hw : ∀ d ∈ tables_1, d.before a0 Z = true) (ws : List Jvm.Cond) (w_US : Addr) (X_US : Exa Z Z.heap w_US "com/example/tidewall/tidewall/ledger/BusinessCalendar$1") (w_V : Addr) (k_V : ClassId) (S_V : Sta Z Z.heap "com/example/tidewall/tidewall/ledger/BusinessCalendar" "$VALUES" "[Lcom/example/tidewall/tidewall/ledger/BusinessCalendar;" (.ref w_V)) (X_V : Exa Z Z.heap w_V "[Lcom/example/tidewall/tidewall/ledger/BusinessCalendar;") (V_V : Arv Z Z.heap w_V k_V (.object "com/example/tidewall/tidewall/ledger/BusinessCalendar") (1 : Int32) [(.ref w_US)] .null) (S_UF : Sta Z Z.heap "com/example/tidewall/tidewall/ledger/BusinessCalendar" "US_FEDERAL_RESERVE" "Lcom/example/tidewall/tidewall/ledger/BusinessCalendar;" (.ref w_US)) (w_ID : Addr) (F_ID : Fld Z Z.heap w_US "com/example/tidewall/tidewall/ledger/BusinessCalendar" "id" "Ljava/lang/String;" (.ref w_ID)) (X_ID : Exa Z Z.heap w_ID "java/lang/String") (I_ID_coder : Fld Z Z.heap w_ID "java/lang/String" "coder" "B" (.int (0 : Int32))) (w_IB : Addr) (k_IB : ClassId) (F_IB : Fld Z Z.heap w_ID "java/lang/String" "value" "[B" (.ref w_IB)) (V_IB : Arv Z Z.heap w_IB k_IB .byte (18 : Int32) [(.int (117 : Int32)), (.int (115 : Int32)), (.int (45 : Int32)), (.int (102 : Int32)), (.int (101 : Int32)), (.int (100 : Int32)), (.int (101 : Int32)), (.int (114 : Int32)), (.int (97 : Int32)), (.int (108 : Int32)), (.int (45 : Int32)), (.int (114 : Int32)), (.int (101 : Int32)), (.int (115 : Int32)), (.int (101 : Int32)), (.int (114 : Int32)), (.int (118 : Int32)), (.int (101 : Int32))] (.int (0 : Int32))) (w_OE : Addr) (S_OE : Sta Z Z.heap "java/util/Optional" "EMPTY" "Ljava/util/Optional;" (.ref w_OE)) (X_OE : Exa Z Z.heap w_OE "java/util/Optional") (I_OE_value : Fld Z Z.heap w_OE "java/util/Optional" "value" "Ljava/lang/Object;" .null) (g_CS : Int32) (S_CS : Sta Z Z.heap "java/lang/String" "COMPACT_STRINGS" "Z" (.int g_CS)) (nz_CS : ¬ (g_CS = (0 : Int32))) (g_SF : Value) (S_SF : Sta Z Z.heap "jdk/internal/util/Preconditions" "SIOOBE_FORMATTER" "Ljava/util/function/BiFunction;" g_SF) (r_SF : g_SF.isRef = true) (p0 : Addr) (pv : Addr) (h0 : Heap) (n0 : Nat) (X00 : Old Z n0 h0) (hp0 : Fld Z h0 p0 "java/util/Optional" "value" "Ljava/lang/Object;" (.ref pv)) :
    MetFree l (⟨"java/util/Optional", "get", "()Ljava/lang/Object;"⟩ : MethodName) (head1 (Jvm.Cond.code (⟨"java/util/Optional", "get", "()Ljava/lang/Object;"⟩ : MethodName) jdk_32_method_5_code 1 (some (.object "java/lang/Object")) :: ws) ({ frames := 0, cells := 0, slots := 0, locals := 0 } : Room)) (fun a U => a = #[(.ref p0)] ∧ Z.Warmed39 U.vm ∧ U.heap = h0) (fun _ _ _ _ _ => True) (fun _ U o U' => ∃ v L, o = .returned v ∧ Q_rm_oget Z w_US w_V k_V w_ID w_IB k_IB w_OE g_CS g_SF p0 pv h0 n0 v U'.heap L ∧ FrameEnd U o U' L ({ frames := 0, cells := 0, slots := 0, locals := 0 } : Room).cells ({ frames := 0, cells := 0, slots := 0, locals := 0 } : Room).slots) := by
  refine MetFree.of_bodySF (plainFor_of_name own_pn3) hisR ?_
  intro p e s m args below meth c s₁ Bd hml0 hP hK
  obtain ⟨rfl, hZ, hh⟩ := hP
  have hx := Bd.exec
  have hby := Bd.bytes
  have hml : c.maxLocals = 1 := hml0
  have hown : s.vm.findClass "java/util/Optional" = some m.cls := findClass_of_methodNamed Bd.named
  have hnm := (name_of_methodNamed Bd.named Bd.method).1
  have X0 : Stand p l e ({ frames := 0, cells := 0, slots := 0, locals := 0 } : Room) s m #[(.ref p0)] below meth c s₁ [] 0 0 := Stand.of_body Bd
  have e0 : s₁.heap = h0 := by rw [← hh, Bd.state]; rfl
  have N0 := Fr.nil n0
  refine Go.start fun P hPend => ?_
  refine Go.st (fun _ k => castTop (own_ef_rm_oget m p0) k) ?_
  show Go p.tables e below P (s₁.setTop (mkF m 0 #[.val (.ref p0)] []))
  refine Go.st (fun _ => XS.aloadN X0.here hx rfl (hb hby own_d_jdk_32_method_5_code_0) rfl rfl) ?_
  show Go p.tables e below P (s₁.setTop (mkF m 1 #[.val (.ref p0)] [(.ref p0)]))
  obtain ⟨T1, X1, e1, st1⟩ := getF X0 hx hZ hown (host := "") (Or.inl (ow hw 80 rfl)) Via.refl e0 hp0 (g := (mkF m 1 #[.val (.ref p0)] [(.ref p0)])) rfl rfl (hb hby own_d_jdk_32_method_5_code_1)
  refine Go.st st1 ?_
  show Go p.tables e below P (T1.setTop (mkF m 4 #[.val (.ref p0)] [(.ref pv)]))
  refine Go.st (fun _ => XS.ifnonnullYes X1.here hx rfl (pc0 := 4) (pc' := 17) rfl (hb hby own_d_jdk_32_method_5_code_4) rfl (by decide) (by decide)) ?_
  show Go p.tables e below P (T1.setTop (mkF m 17 #[.val (.ref p0)] []))
  refine Go.st (fun _ => XS.aloadN X1.here hx rfl (hb hby own_d_jdk_32_method_5_code_17) rfl rfl) ?_
  show Go p.tables e below P (T1.setTop (mkF m 18 #[.val (.ref p0)] [(.ref p0)]))
  obtain ⟨T2, X2, e2, st2⟩ := getF X1 hx hZ hown (host := "") (Or.inl (ow hw 80 rfl)) Via.refl e1 hp0 (g := (mkF m 18 #[.val (.ref p0)] [(.ref p0)])) rfl rfl (hb hby own_d_jdk_32_method_5_code_18)
  refine Go.st st2 ?_
  show Go p.tables e below P (T2.setTop (mkF m 21 #[.val (.ref p0)] [(.ref pv)]))
  obtain ⟨fs, hr, hrun, hended, hW, hsame⟩ := X2.leave (v := some (.ref pv)) (fun h => by rw [Bd.returns] at h; cases h)
  refine ⟨_, ?_, hPend _ _ hrun hended ⟨_, _, rfl, ?_, ⟨_, rfl⟩, hW, hsame.mono (by decide) (by decide)⟩⟩
  · exact retOut X2 hx (t := (.object "java/lang/Object")) Bd.returns rfl (Or.inr (Or.inr (Or.inr (Or.inr ⟨rfl, rfl, rfl⟩)))) (hb hby own_d_jdk_32_method_5_code_21) hr
  · show Q_rm_oget Z _ _ _ _ _ _ _ _ _ _ _ h0 n0 _ T2.heap _
    rw [e2]
    exact ⟨rfl, N0, rfl⟩
theorem own_ef_rm_vals (m : MethodId)  : entryFrame m #[] 0 = mkF m 0 #[] [] := by first | (simp [entryFrame, mkF, argsToLocals, Value.category]; done) | rfl
theorem own_pn4 : plainName "com/example/tidewall/tidewall/ledger/BusinessCalendar" = true := by first | (simp [plainName, overriddenIn]; done) | decide +kernel
theorem own_d_prog_37_method_1_code_0 : decode prog_37_method_1_code 0 = .ok (.getstatic 7, 3) := by decide +kernel
theorem own_d_prog_37_method_1_code_3 : decode prog_37_method_1_code 3 = .ok (.invokevirtual 11, 3) := by decide +kernel
theorem own_d_prog_37_method_1_code_6 : decode prog_37_method_1_code 6 = .ok (.checkcast 12, 3) := by decide +kernel
theorem own_d_prog_37_method_1_code_9 : decode prog_37_method_1_code 9 = .ok (.areturn, 1) := by decide +kernel
def Q_rm_vals (Z : State) (w_US : Addr) (w_V : Addr) (k_V : ClassId) (w_ID : Addr) (w_IB : Addr) (k_IB : ClassId) (w_OE : Addr) (g_CS : Int32) (g_SF : Value) (h0 : Heap) (n0 : Nat) (v : Option Value) (h : Heap) (L : List Loc) : Prop := ∃ (ob : Addr), v = some (.ref ob) ∧ Fr n0 L ∧ Keep h0 h [] ∧ h0.size ≤ ob ∧ Arv Z h ob k_V (.object "com/example/tidewall/tidewall/ledger/BusinessCalendar") (1 : Int32) [(.ref w_US)] .null
set_option maxRecDepth 65536 in
set_option maxHeartbeats 40000000 in
theorem rm_vals (l : Launch) (Z : State) (a0 : Array Value) (hw : ∀ d ∈ tables_1, d.before a0 Z = true) (ws : List Jvm.Cond) (w_US : Addr) (X_US : Exa Z Z.heap w_US "com/example/tidewall/tidewall/ledger/BusinessCalendar$1") (w_V : Addr) (k_V : ClassId) (S_V : Sta Z Z.heap "com/example/tidewall/tidewall/ledger/BusinessCalendar" "$VALUES" "[Lcom/example/tidewall/tidewall/ledger/BusinessCalendar;" (.ref w_V)) (X_V : Exa Z Z.heap w_V "[Lcom/example/tidewall/tidewall/ledger/BusinessCalendar;") (V_V : Arv Z Z.heap w_V k_V (.object "com/example/tidewall/tidewall/ledger/BusinessCalendar") (1 : Int32) [(.ref w_US)] .null) (S_UF : Sta Z Z.heap "com/example/tidewall/tidewall/ledger/BusinessCalendar" "US_FEDERAL_RESERVE" "Lcom/example/tidewall/tidewall/ledger/BusinessCalendar;" (.ref w_US)) (w_ID : Addr) (F_ID : Fld Z Z.heap w_US "com/example/tidewall/tidewall/ledger/BusinessCalendar" "id" "Ljava/lang/String;" (.ref w_ID)) (X_ID : Exa Z Z.heap w_ID "java/lang/String") (I_ID_coder : Fld Z Z.heap w_ID "java/lang/String" "coder" "B" (.int (0 : Int32))) (w_IB : Addr) (k_IB : ClassId) (F_IB : Fld Z Z.heap w_ID "java/lang/String" "value" "[B" (.ref w_IB)) (V_IB : Arv Z Z.heap w_IB k_IB .byte (18 : Int32) [(.int (117 : Int32)), (.int (115 : Int32)), (.int (45 : Int32)), (.int (102 : Int32)), (.int (101 : Int32)), (.int (100 : Int32)), (.int (101 : Int32)), (.int (114 : Int32)), (.int (97 : Int32)), (.int (108 : Int32)), (.int (45 : Int32)), (.int (114 : Int32)), (.int (101 : Int32)), (.int (115 : Int32)), (.int (101 : Int32)), (.int (114 : Int32)), (.int (118 : Int32)), (.int (101 : Int32))] (.int (0 : Int32))) (w_OE : Addr) (S_OE : Sta Z Z.heap "java/util/Optional" "EMPTY" "Ljava/util/Optional;" (.ref w_OE)) (X_OE : Exa Z Z.heap w_OE "java/util/Optional") (I_OE_value : Fld Z Z.heap w_OE "java/util/Optional" "value" "Ljava/lang/Object;" .null) (g_CS : Int32) (S_CS : Sta Z Z.heap "java/lang/String" "COMPACT_STRINGS" "Z" (.int g_CS)) (nz_CS : ¬ (g_CS = (0 : Int32))) (g_SF : Value) (S_SF : Sta Z Z.heap "jdk/internal/util/Preconditions" "SIOOBE_FORMATTER" "Ljava/util/function/BiFunction;" g_SF) (r_SF : g_SF.isRef = true) (h0 : Heap) (n0 : Nat) (X00 : Old Z n0 h0)  :
    MetFree l (⟨"com/example/tidewall/tidewall/ledger/BusinessCalendar", "values", "()[Lcom/example/tidewall/tidewall/ledger/BusinessCalendar;"⟩ : MethodName) (head1 (Jvm.Cond.code (⟨"com/example/tidewall/tidewall/ledger/BusinessCalendar", "values", "()[Lcom/example/tidewall/tidewall/ledger/BusinessCalendar;"⟩ : MethodName) prog_37_method_1_code 0 (some (.array (.object "com/example/tidewall/tidewall/ledger/BusinessCalendar"))) :: ws) ({ frames := 1, cells := 1, slots := 1, locals := 14 } : Room)) (fun a U => a = #[] ∧ Z.Warmed39 U.vm ∧ U.heap = h0) (fun _ _ _ _ _ => True) (fun _ U o U' => ∃ v L, o = .returned v ∧ Q_rm_vals Z w_US w_V k_V w_ID w_IB k_IB w_OE g_CS g_SF h0 n0 v U'.heap L ∧ FrameEnd U o U' L ({ frames := 1, cells := 1, slots := 1, locals := 14 } : Room).cells ({ frames := 1, cells := 1, slots := 1, locals := 14 } : Room).slots) := by
  refine MetFree.of_bodySF (plainFor_of_name own_pn4) hisR ?_
  intro p e s m args below meth c s₁ Bd hml0 hP hK
  obtain ⟨rfl, hZ, hh⟩ := hP
  have hx := Bd.exec
  have hby := Bd.bytes
  have hml : c.maxLocals = 0 := hml0
  have hown : s.vm.findClass "com/example/tidewall/tidewall/ledger/BusinessCalendar" = some m.cls := findClass_of_methodNamed Bd.named
  have hnm := (name_of_methodNamed Bd.named Bd.method).1
  have X0 : Stand p l e ({ frames := 1, cells := 1, slots := 1, locals := 14 } : Room) s m #[] below meth c s₁ [] 0 0 := Stand.of_body Bd
  have e0 : s₁.heap = h0 := by rw [← hh, Bd.state]; rfl
  have N0 := Fr.nil n0
  refine Go.start fun P hPend => ?_
  refine Go.st (fun _ k => castTop (own_ef_rm_vals m ) k) ?_
  show Go p.tables e below P (s₁.setTop (mkF m 0 #[] []))
  obtain ⟨T1, X1, e1, st1⟩ := getS2 X0 hx hZ hown (host := "") (Or.inl (ow hw 41 rfl)) Via.refl e0 (S_V.ext X00.2) (g := (mkF m 0 #[] [])) rfl (hb hby own_d_prog_37_method_1_code_0)
  refine Go.st st1 ?_
  show Go p.tables e below P (T1.setTop (mkF m 3 #[] [(.ref w_V)]))
  obtain ⟨T2, h2, X2, e2, E2, A2, B2, st2⟩ := cloneH X1 hx hZ hown (ow hw 43 rfl) (ow hw 44 rfl) (ow hw 48 rfl) (ow hw 46 rfl) (ow hw 47 rfl) (ow hw 49 rfl) e1 (Arv.arh (V_V.ext X00.2)) (X_V.ext X00.2) (g := (mkF m 3 #[] [(.ref w_V)])) rfl (by rw [hml]; rfl) rfl (hb hby own_d_prog_37_method_1_code_3) (by decide) (W := 0) (cap := 1) (by show 2 * 0 + _ ≤ _; exact Nat.le_of_eq rfl) (by decide) (by decide) (by decide) (by decide)
  obtain ⟨b2, g2⟩ : ∃ z, z = h0.size := ⟨_, rfl⟩
  rw [← g2] at A2 B2 st2
  refine Go.st st2 ?_
  have g_b2 : n0 ≤ b2 := Nat.le_trans (own_oldsz X00) (Nat.le_of_eq g2.symm)
  have sz_b2 : h0.size ≤ b2 := Nat.le_trans (Keep.refl h0 []).1 (Nat.le_of_eq g2.symm)
  have K2 : Keep h0 h2 [] := (Keep.refl h0 []).ext E2
  have O2 := X00.ext E2
  have V2 : Arv Z h2 b2 k_V (.object "com/example/tidewall/tidewall/ledger/BusinessCalendar") (1 : Int32) [(.ref w_US)] .null := A2
  show Go p.tables e below P (T2.setTop (mkF m 6 #[] [(.ref b2)]))
  obtain ⟨T3, X3, e3, st3⟩ := castY X2 hx hZ hown (ow hw 51 rfl) e2 (Ins.self B2) (g := (mkF m 6 #[] [(.ref b2)])) rfl rfl (hb hby own_d_prog_37_method_1_code_6)
  refine Go.st st3 ?_
  show Go p.tables e below P (T3.setTop (mkF m 9 #[] [(.ref b2)]))
  obtain ⟨fs, hr, hrun, hended, hW, hsame⟩ := X3.leave (v := some (.ref b2)) (fun h => by rw [Bd.returns] at h; cases h)
  refine ⟨_, ?_, hPend _ _ hrun hended ⟨_, _, rfl, ?_, ⟨_, rfl⟩, hW, hsame.mono (by decide) (by decide)⟩⟩
  · exact retOut X3 hx (t := (.array (.object "com/example/tidewall/tidewall/ledger/BusinessCalendar"))) Bd.returns rfl (Or.inr (Or.inr (Or.inr (Or.inr ⟨rfl, rfl, rfl⟩)))) (hb hby own_d_prog_37_method_1_code_9) hr
  · show Q_rm_vals Z _ _ _ _ _ _ _ _ _ h0 n0 _ T3.heap _
    rw [e3]
    exact ⟨b2, rfl, N0, K2, sz_b2, V2⟩
theorem own_ef_rm_byt (m : MethodId) (x0 : Addr) : entryFrame m #[(.ref x0)] 5 = mkF m 0 #[.val (.ref x0), .unset, .unset, .unset, .unset] [] := by first | (simp [entryFrame, mkF, argsToLocals, Value.category]; done) | rfl
theorem own_d_prog_37_method_5_code_0 : decode prog_37_method_5_code 0 = .ok (.invokestatic 30, 3) := by decide +kernel
theorem own_pd5 : parseMethodDescriptor "()[Lcom/example/tidewall/tidewall/ledger/BusinessCalendar;" = some ⟨[], some (.array (.object "com/example/tidewall/tidewall/ledger/BusinessCalendar"))⟩ := by decide +kernel
theorem own_d_prog_37_method_5_code_3 : decode prog_37_method_5_code 3 = .ok (.astore_n 1, 1) := by decide +kernel
theorem own_d_prog_37_method_5_code_4 : decode prog_37_method_5_code 4 = .ok (.aload_n 1, 1) := by decide +kernel
theorem own_d_prog_37_method_5_code_5 : decode prog_37_method_5_code 5 = .ok (.arraylength, 1) := by decide +kernel
theorem own_d_prog_37_method_5_code_6 : decode prog_37_method_5_code 6 = .ok (.istore_n 2, 1) := by decide +kernel
theorem own_d_prog_37_method_5_code_7 : decode prog_37_method_5_code 7 = .ok (.iconst 0, 1) := by decide +kernel
theorem own_d_prog_37_method_5_code_8 : decode prog_37_method_5_code 8 = .ok (.istore_n 3, 1) := by decide +kernel
theorem own_d_prog_37_method_5_code_9 : decode prog_37_method_5_code 9 = .ok (.iload_n 3, 1) := by decide +kernel
theorem own_d_prog_37_method_5_code_10 : decode prog_37_method_5_code 10 = .ok (.iload_n 2, 1) := by decide +kernel
theorem own_d_prog_37_method_5_code_11 : decode prog_37_method_5_code 11 = .ok (.if_icmp .ge 32, 3) := by decide +kernel
theorem own_d_prog_37_method_5_code_14 : decode prog_37_method_5_code 14 = .ok (.aload_n 1, 1) := by decide +kernel
theorem own_d_prog_37_method_5_code_15 : decode prog_37_method_5_code 15 = .ok (.iload_n 3, 1) := by decide +kernel
theorem own_d_prog_37_method_5_code_16 : decode prog_37_method_5_code 16 = .ok (.aaload, 1) := by decide +kernel
theorem own_d_prog_37_method_5_code_17 : decode prog_37_method_5_code 17 = .ok (.astore 4, 2) := by decide +kernel
theorem own_d_prog_37_method_5_code_19 : decode prog_37_method_5_code 19 = .ok (.aload 4, 2) := by decide +kernel
theorem own_d_prog_37_method_5_code_21 : decode prog_37_method_5_code 21 = .ok (.getfield 26, 3) := by decide +kernel
theorem own_d_prog_37_method_5_code_24 : decode prog_37_method_5_code 24 = .ok (.aload_n 0, 1) := by decide +kernel
theorem own_d_prog_37_method_5_code_25 : decode prog_37_method_5_code 25 = .ok (.invokevirtual 34, 3) := by decide +kernel
theorem own_pd6 : parseMethodDescriptor "(Ljava/lang/Object;)Z" = some ⟨[(.object "java/lang/Object")], some .boolean⟩ := by decide +kernel
theorem own_d_prog_37_method_5_code_28 : decode prog_37_method_5_code 28 = .ok (.ifCond .eq 9, 3) := by decide +kernel
theorem own_d_prog_37_method_5_code_31 : decode prog_37_method_5_code 31 = .ok (.aload 4, 2) := by decide +kernel
theorem own_d_prog_37_method_5_code_33 : decode prog_37_method_5_code 33 = .ok (.invokestatic 40, 3) := by decide +kernel
theorem own_pd7 : parseMethodDescriptor "(Ljava/lang/Object;)Ljava/util/Optional;" = some ⟨[(.object "java/lang/Object")], some (.object "java/util/Optional")⟩ := by decide +kernel
theorem own_d_prog_37_method_5_code_36 : decode prog_37_method_5_code 36 = .ok (.areturn, 1) := by decide +kernel
def Q_rm_byt (Z : State) (w_US : Addr) (w_V : Addr) (k_V : ClassId) (w_ID : Addr) (w_IB : Addr) (k_IB : ClassId) (w_OE : Addr) (g_CS : Int32) (g_SF : Value) (p0 : Addr) (pcs : List Int32) (pv : Addr) (pk : ClassId) (h0 : Heap) (n0 : Nat) (v : Option Value) (h : Heap) (L : List Loc) : Prop := ∃ (ob : Addr), v = some (.ref ob) ∧ Fr n0 L ∧ Keep h0 h [] ∧ h0.size ≤ ob ∧ Exa Z h ob "java/util/Optional" ∧ Fld Z h ob "java/util/Optional" "value" "Ljava/lang/Object;" (.ref w_US)
set_option maxRecDepth 65536 in
set_option maxHeartbeats 40000000 in
theorem rm_byt (l : Launch) (Z : State) (a0 : Array Value) (hw : ∀ d ∈ tables_1, d.before a0 Z = true) (ws : List Jvm.Cond) (w_US : Addr) (X_US : Exa Z Z.heap w_US "com/example/tidewall/tidewall/ledger/BusinessCalendar$1") (w_V : Addr) (k_V : ClassId) (S_V : Sta Z Z.heap "com/example/tidewall/tidewall/ledger/BusinessCalendar" "$VALUES" "[Lcom/example/tidewall/tidewall/ledger/BusinessCalendar;" (.ref w_V)) (X_V : Exa Z Z.heap w_V "[Lcom/example/tidewall/tidewall/ledger/BusinessCalendar;") (V_V : Arv Z Z.heap w_V k_V (.object "com/example/tidewall/tidewall/ledger/BusinessCalendar") (1 : Int32) [(.ref w_US)] .null) (S_UF : Sta Z Z.heap "com/example/tidewall/tidewall/ledger/BusinessCalendar" "US_FEDERAL_RESERVE" "Lcom/example/tidewall/tidewall/ledger/BusinessCalendar;" (.ref w_US)) (w_ID : Addr) (F_ID : Fld Z Z.heap w_US "com/example/tidewall/tidewall/ledger/BusinessCalendar" "id" "Ljava/lang/String;" (.ref w_ID)) (X_ID : Exa Z Z.heap w_ID "java/lang/String") (I_ID_coder : Fld Z Z.heap w_ID "java/lang/String" "coder" "B" (.int (0 : Int32))) (w_IB : Addr) (k_IB : ClassId) (F_IB : Fld Z Z.heap w_ID "java/lang/String" "value" "[B" (.ref w_IB)) (V_IB : Arv Z Z.heap w_IB k_IB .byte (18 : Int32) [(.int (117 : Int32)), (.int (115 : Int32)), (.int (45 : Int32)), (.int (102 : Int32)), (.int (101 : Int32)), (.int (100 : Int32)), (.int (101 : Int32)), (.int (114 : Int32)), (.int (97 : Int32)), (.int (108 : Int32)), (.int (45 : Int32)), (.int (114 : Int32)), (.int (101 : Int32)), (.int (115 : Int32)), (.int (101 : Int32)), (.int (114 : Int32)), (.int (118 : Int32)), (.int (101 : Int32))] (.int (0 : Int32))) (w_OE : Addr) (S_OE : Sta Z Z.heap "java/util/Optional" "EMPTY" "Ljava/util/Optional;" (.ref w_OE)) (X_OE : Exa Z Z.heap w_OE "java/util/Optional") (I_OE_value : Fld Z Z.heap w_OE "java/util/Optional" "value" "Ljava/lang/Object;" .null) (g_CS : Int32) (S_CS : Sta Z Z.heap "java/lang/String" "COMPACT_STRINGS" "Z" (.int g_CS)) (nz_CS : ¬ (g_CS = (0 : Int32))) (g_SF : Value) (S_SF : Sta Z Z.heap "jdk/internal/util/Preconditions" "SIOOBE_FORMATTER" "Ljava/util/function/BiFunction;" g_SF) (r_SF : g_SF.isRef = true) (p0 : Addr) (pcs : List Int32) (pv : Addr) (pk : ClassId) (h0 : Heap) (n0 : Nat) (X00 : Old Z n0 h0) (hp0 : Exa Z h0 p0 "java/lang/String") (hp1 : Fld Z h0 p0 "java/lang/String" "coder" "B" (.int (0 : Int32))) (hp2 : Fld Z h0 p0 "java/lang/String" "value" "[B" (.ref pv)) (hp3 : Arv Z h0 pv pk .byte (Int32.ofNat pcs.length) ((pcs.map StrChars.lo8).map Value.int) (.int (0 : Int32))) (hpc0 : ∀ c ∈ pcs, ¬ c < 0 ∧ ¬ (255 : Int32) < c) (hle0 : pcs.length ≤ 4000) (hcs : ([(117 : Int32), (115 : Int32), (45 : Int32), (102 : Int32), (101 : Int32), (100 : Int32), (101 : Int32), (114 : Int32), (97 : Int32), (108 : Int32), (45 : Int32), (114 : Int32), (101 : Int32), (115 : Int32), (101 : Int32), (114 : Int32), (118 : Int32), (101 : Int32)] : List Int32) = pcs) :
    MetFree l (⟨"com/example/tidewall/tidewall/ledger/BusinessCalendar", "byId", "(Ljava/lang/String;)Ljava/util/Optional;"⟩ : MethodName) (head1 (Jvm.Cond.code (⟨"com/example/tidewall/tidewall/ledger/BusinessCalendar", "byId", "(Ljava/lang/String;)Ljava/util/Optional;"⟩ : MethodName) prog_37_method_5_code 5 (some (.object "java/util/Optional")) :: ws) ({ frames := 3, cells := 2, slots := 2, locals := 38 } : Room)) (fun a U => a = #[(.ref p0)] ∧ Z.Warmed39 U.vm ∧ U.heap = h0) (fun _ _ _ _ _ => True) (fun _ U o U' => ∃ v L, o = .returned v ∧ Q_rm_byt Z w_US w_V k_V w_ID w_IB k_IB w_OE g_CS g_SF p0 pcs pv pk h0 n0 v U'.heap L ∧ FrameEnd U o U' L ({ frames := 3, cells := 2, slots := 2, locals := 38 } : Room).cells ({ frames := 3, cells := 2, slots := 2, locals := 38 } : Room).slots) := by
  refine MetFree.of_bodySF (plainFor_of_name own_pn4) hisR ?_
  intro p e s m args below meth c s₁ Bd hml0 hP hK
  obtain ⟨rfl, hZ, hh⟩ := hP
  have hx := Bd.exec
  have hby := Bd.bytes
  have hml : c.maxLocals = 5 := hml0
  have hown : s.vm.findClass "com/example/tidewall/tidewall/ledger/BusinessCalendar" = some m.cls := findClass_of_methodNamed Bd.named
  have hnm := (name_of_methodNamed Bd.named Bd.method).1
  have X0 : Stand p l e ({ frames := 3, cells := 2, slots := 2, locals := 38 } : Room) s m #[(.ref p0)] below meth c s₁ [] 0 0 := Stand.of_body Bd
  have e0 : s₁.heap = h0 := by rw [← hh, Bd.state]; rfl
  have N0 := Fr.nil n0
  refine Go.start fun P hPend => ?_
  refine Go.st (fun _ k => castTop (own_ef_rm_byt m p0) k) ?_
  show Go p.tables e below P (s₁.setTop (mkF m 0 #[.val (.ref p0), .unset, .unset, .unset, .unset] []))
  obtain ⟨_, _, ⟨T1, L1, k1, n1⟩, -, X1, ⟨Lc1, hQ1, l1, y1, z1⟩, st1⟩ := Jvm.LawKit.callS X0 hx (y := (⟨"com/example/tidewall/tidewall/ledger/BusinessCalendar", "values", "()[Lcom/example/tidewall/tidewall/ledger/BusinessCalendar;"⟩ : MethodName)) hown (mvT hZ (ow hw 38 rfl)) (mvT hZ (ow hw 39 rfl)) (mvT hZ (ow hw 36 rfl)) (mvT hZ (ow hw 40 rfl)) (by decide) (backOf (W := 0) (rm_vals l Z a0 hw [] w_US X_US w_V k_V S_V X_V V_V S_UF w_ID F_ID X_ID I_ID_coder w_IB k_IB F_IB V_IB w_OE S_OE X_OE I_OE_value g_CS S_CS nz_CS g_SF S_SF r_SF h0 n0 X00 ) hZ (ow hw 40 rfl) (ow hw 36 rfl) (by decide) (by decide)) (g := (mkF m 0 #[.val (.ref p0), .unset, .unset, .unset, .unset] [])) rfl (by rw [hml]; rfl) (argsL := []) (rest := []) (lenOf own_pd5 rfl) rfl (by show 2 * 0 + _ ≤ _; exact Nat.le_of_eq rfl) (hb hby own_d_prog_37_method_5_code_0) (fun _ _ => ⟨rfl, e0, (by decide : 0 + 1 ≤ _), (by decide : 0 + 1 ≤ _)⟩)
  dsimp only [Pt.U, Pt.locs, Pt.cells, Pt.slots] at X1 l1 y1 z1 st1 hQ1
  subst y1 z1
  refine Go.st st1 ?_
  obtain ⟨ob_2, rfl, N1q, K1q, q1_0, q1_1⟩ := hQ1
  have N1 : Fr n0 L1 := by rw [l1]; exact Fr.app N0 N1q
  have O1 := X00.keep K1q all0
  have K1 : Keep h0 T1.heap [] := (Keep.refl h0 []).trans K1q all0
  have sz_ob_2 : h0.size ≤ ob_2 := Nat.le_trans (Keep.refl h0 []).1 q1_0
  have g_ob_2 : n0 ≤ ob_2 := Nat.le_trans (own_oldsz X00) sz_ob_2
  show Go p.tables e below P (T1.setTop (mkF m 3 #[.val (.ref p0), .unset, .unset, .unset, .unset] [(.ref ob_2)]))
  refine Go.st (fun _ => XS.astoreN X1.here hx rfl (hb hby own_d_prog_37_method_5_code_3) rfl rfl (l' := #[.val (.ref p0), .val (.ref ob_2), .unset, .unset, .unset]) rfl) ?_
  show Go p.tables e below P (T1.setTop (mkF m 4 #[.val (.ref p0), .val (.ref ob_2), .unset, .unset, .unset] []))
  refine Go.st (fun _ => XS.aloadN X1.here hx rfl (hb hby own_d_prog_37_method_5_code_4) rfl rfl) ?_
  show Go p.tables e below P (T1.setTop (mkF m 5 #[.val (.ref p0), .val (.ref ob_2), .unset, .unset, .unset] [(.ref ob_2)]))
  refine Go.st (fun _ => own_len X1 hx hZ rfl q1_1 (g := (mkF m 5 #[.val (.ref p0), .val (.ref ob_2), .unset, .unset, .unset] [(.ref ob_2)])) rfl rfl (hb hby own_d_prog_37_method_5_code_5) _) ?_
  show Go p.tables e below P (T1.setTop (mkF m 6 #[.val (.ref p0), .val (.ref ob_2), .unset, .unset, .unset] [(.int (1 : Int32))]))
  refine Go.st (fun _ => XS.istoreN X1.here hx rfl (hb hby own_d_prog_37_method_5_code_6) rfl (l' := #[.val (.ref p0), .val (.ref ob_2), .val (.int (1 : Int32)), .unset, .unset]) rfl) ?_
  show Go p.tables e below P (T1.setTop (mkF m 7 #[.val (.ref p0), .val (.ref ob_2), .val (.int (1 : Int32)), .unset, .unset] []))
  refine Go.st (fun _ => XS.iconst X1.here hx rfl (hb hby own_d_prog_37_method_5_code_7)) ?_
  show Go p.tables e below P (T1.setTop (mkF m 8 #[.val (.ref p0), .val (.ref ob_2), .val (.int (1 : Int32)), .unset, .unset] [(.int (0 : Int32))]))
  refine Go.st (fun _ => XS.istoreN X1.here hx rfl (hb hby own_d_prog_37_method_5_code_8) rfl (l' := #[.val (.ref p0), .val (.ref ob_2), .val (.int (1 : Int32)), .val (.int (0 : Int32)), .unset]) rfl) ?_
  show Go p.tables e below P (T1.setTop (mkF m 9 #[.val (.ref p0), .val (.ref ob_2), .val (.int (1 : Int32)), .val (.int (0 : Int32)), .unset] []))
  refine Go.st (fun _ => XS.iloadN X1.here hx rfl (hb hby own_d_prog_37_method_5_code_9) rfl) ?_
  show Go p.tables e below P (T1.setTop (mkF m 10 #[.val (.ref p0), .val (.ref ob_2), .val (.int (1 : Int32)), .val (.int (0 : Int32)), .unset] [(.int (0 : Int32))]))
  refine Go.st (fun _ => XS.iloadN X1.here hx rfl (hb hby own_d_prog_37_method_5_code_10) rfl) ?_
  show Go p.tables e below P (T1.setTop (mkF m 11 #[.val (.ref p0), .val (.ref ob_2), .val (.int (1 : Int32)), .val (.int (0 : Int32)), .unset] [(.int (1 : Int32)), (.int (0 : Int32))]))
  refine Go.st (fun _ => XS.icmpNo X1.here hx rfl (hb hby own_d_prog_37_method_5_code_11) rfl (tlt (by decide)).2.1) ?_
  show Go p.tables e below P (T1.setTop (mkF m 14 #[.val (.ref p0), .val (.ref ob_2), .val (.int (1 : Int32)), .val (.int (0 : Int32)), .unset] []))
  refine Go.st (fun _ => XS.aloadN X1.here hx rfl (hb hby own_d_prog_37_method_5_code_14) rfl rfl) ?_
  show Go p.tables e below P (T1.setTop (mkF m 15 #[.val (.ref p0), .val (.ref ob_2), .val (.int (1 : Int32)), .val (.int (0 : Int32)), .unset] [(.ref ob_2)]))
  refine Go.st (fun _ => XS.iloadN X1.here hx rfl (hb hby own_d_prog_37_method_5_code_15) rfl) ?_
  show Go p.tables e below P (T1.setTop (mkF m 16 #[.val (.ref p0), .val (.ref ob_2), .val (.int (1 : Int32)), .val (.int (0 : Int32)), .unset] [(.int (0 : Int32)), (.ref ob_2)]))
  refine Go.st (fun _ => own_ldR X1 hx hZ rfl q1_1 (j := (0 : Int32)) (i := 0) (v := (.ref w_US)) (by decide) (by decide) rfl (g := (mkF m 16 #[.val (.ref p0), .val (.ref ob_2), .val (.int (1 : Int32)), .val (.int (0 : Int32)), .unset] [(.int (0 : Int32)), (.ref ob_2)])) rfl rfl (hb hby own_d_prog_37_method_5_code_16) _) ?_
  show Go p.tables e below P (T1.setTop (mkF m 17 #[.val (.ref p0), .val (.ref ob_2), .val (.int (1 : Int32)), .val (.int (0 : Int32)), .unset] [(.ref w_US)]))
  refine Go.st (fun _ => XS.astore X1.here hx rfl (hb hby own_d_prog_37_method_5_code_17) rfl rfl (l' := #[.val (.ref p0), .val (.ref ob_2), .val (.int (1 : Int32)), .val (.int (0 : Int32)), .val (.ref w_US)]) rfl) ?_
  show Go p.tables e below P (T1.setTop (mkF m 19 #[.val (.ref p0), .val (.ref ob_2), .val (.int (1 : Int32)), .val (.int (0 : Int32)), .val (.ref w_US)] []))
  refine Go.st (fun _ => XS.aload X1.here hx rfl (hb hby own_d_prog_37_method_5_code_19) rfl rfl) ?_
  show Go p.tables e below P (T1.setTop (mkF m 21 #[.val (.ref p0), .val (.ref ob_2), .val (.int (1 : Int32)), .val (.int (0 : Int32)), .val (.ref w_US)] [(.ref w_US)]))
  obtain ⟨T4, X4, e4, st4⟩ := getF X1 hx hZ hown (host := "") (Or.inl (ow hw 53 rfl)) Via.refl rfl (F_ID.ext O1.2) (g := (mkF m 21 #[.val (.ref p0), .val (.ref ob_2), .val (.int (1 : Int32)), .val (.int (0 : Int32)), .val (.ref w_US)] [(.ref w_US)])) rfl rfl (hb hby own_d_prog_37_method_5_code_21)
  refine Go.st st4 ?_
  show Go p.tables e below P (T4.setTop (mkF m 24 #[.val (.ref p0), .val (.ref ob_2), .val (.int (1 : Int32)), .val (.int (0 : Int32)), .val (.ref w_US)] [(.ref w_ID)]))
  refine Go.st (fun _ => XS.aloadN X4.here hx rfl (hb hby own_d_prog_37_method_5_code_24) rfl rfl) ?_
  show Go p.tables e below P (T4.setTop (mkF m 25 #[.val (.ref p0), .val (.ref ob_2), .val (.int (1 : Int32)), .val (.int (0 : Int32)), .val (.ref w_US)] [(.ref p0), (.ref w_ID)]))
  have hcd5 : StrChars.Road.CodA ([(117 : Int32), (115 : Int32), (45 : Int32), (102 : Int32), (101 : Int32), (100 : Int32), (101 : Int32), (114 : Int32), (97 : Int32), (108 : Int32), (45 : Int32), (114 : Int32), (101 : Int32), (115 : Int32), (101 : Int32), (114 : Int32), (118 : Int32), (101 : Int32)] : List Int32) 0 (18 : Int32) [(.int (117 : Int32)), (.int (115 : Int32)), (.int (45 : Int32)), (.int (102 : Int32)), (.int (101 : Int32)), (.int (100 : Int32)), (.int (101 : Int32)), (.int (114 : Int32)), (.int (97 : Int32)), (.int (108 : Int32)), (.int (45 : Int32)), (.int (114 : Int32)), (.int (101 : Int32)), (.int (115 : Int32)), (.int (101 : Int32)), (.int (114 : Int32)), (.int (118 : Int32)), (.int (101 : Int32))] := StrChars.Road.codOf (n := 18) rfl (fun c hc => ((show ∀ c ∈ ([(117 : Int32), (115 : Int32), (45 : Int32), (102 : Int32), (101 : Int32), (100 : Int32), (101 : Int32), (114 : Int32), (97 : Int32), (108 : Int32), (45 : Int32), (114 : Int32), (101 : Int32), (115 : Int32), (101 : Int32), (114 : Int32), (118 : Int32), (101 : Int32)] : List Int32), ¬ c < 0 ∧ ¬ (255 : Int32) < c by decide) c hc).2)
  have c6 := (hp0.keep K1q)
  have c7 := (hp2.keep K1q nin0)
  have c8 := (hp1.keep K1q nin0)
  have c9 := (hp3.keep K1q nin0)
  have hcd5b : StrChars.Road.CodA pcs 0 (Int32.ofNat pcs.length) ((pcs.map StrChars.lo8).map Value.int) := StrChars.Road.codOf (n := pcs.length) rfl (fun c hc => (hpc0 c hc).2)
  obtain ⟨cq5, kq5, q5a, q5b, q5c⟩ := isOf hZ e4 (X_ID.ext O1.2)
  obtain ⟨_, _, ⟨T5, L5, k5, n5⟩, -, X5, ⟨Lc5, hQ5, l5, y5, z5⟩, st5⟩ := X4.virtualBack hx (y := (⟨"java/lang/String", "equals", "(Ljava/lang/Object;)Z"⟩ : MethodName)) (z := (⟨"java/lang/String", "equals", "(Ljava/lang/Object;)Z"⟩ : MethodName)) hown (mvT hZ (ow hw 55 rfl)) (mvT hZ (ow hw 56 rfl)) (notFace_of_selects (args := #[]) (mvT hZ (ow hw 58 rfl))) (mvT hZ (ow hw 58 rfl)) (mvT hZ (ow hw 57 rfl)) (by decide) (StrChars.Road.eqW (W := 0) hZ (fun d hd => hw d (own_wEq d hd)) (kI := 4) (ow hw 2 rfl) (X_ID.ext O1.2) (F_IB.ext O1.2) (I_ID_coder.ext O1.2) (V_IB.ext O1.2) hcd5 (own_up _ (show ∀ c ∈ ([(117 : Int32), (115 : Int32), (45 : Int32), (102 : Int32), (101 : Int32), (100 : Int32), (101 : Int32), (114 : Int32), (97 : Int32), (108 : Int32), (45 : Int32), (114 : Int32), (101 : Int32), (115 : Int32), (101 : Int32), (114 : Int32), (118 : Int32), (101 : Int32)] : List Int32), ¬ c < 0 ∧ ¬ (255 : Int32) < c by decide)) (Nat.le_of_ble_eq_true rfl) c6 c7 c8 c9 hcd5b (own_up _ hpc0) hle0 (S_CS.ext O1.2) nz_CS (by decide) (by decide)) q5a q5c (g := (mkF m 25 #[.val (.ref p0), .val (.ref ob_2), .val (.int (1 : Int32)), .val (.int (0 : Int32)), .val (.ref w_US)] [(.ref p0), (.ref w_ID)])) rfl (by rw [hml]; rfl) (Steps.refl _) (argsL := [(.ref p0)]) (rest := []) (lenOf own_pd6 rfl) rfl (by show 2 * 0 + _ ≤ _; exact Nat.le_of_eq rfl) (hb hby own_d_prog_37_method_5_code_25) (fun _ _ => ⟨rfl, e4, (by decide : 1 + 0 ≤ _), (by decide : 1 + 0 ≤ _)⟩)
  dsimp only [Pt.U, Pt.locs, Pt.cells, Pt.slots] at X5 l5 y5 z5 st5 hQ5
  subst y5 z5
  refine Go.tr st5 ?_
  obtain ⟨hor5, rfl, e5⟩ := hQ5
  have N5 : Fr n0 L5 := by rw [l5]; exact Fr.app N1 (Fr.nil n0)
  obtain ⟨rfl, heq5⟩ : _ ∧ ([(117 : Int32), (115 : Int32), (45 : Int32), (102 : Int32), (101 : Int32), (100 : Int32), (101 : Int32), (114 : Int32), (97 : Int32), (108 : Int32), (45 : Int32), (114 : Int32), (101 : Int32), (115 : Int32), (101 : Int32), (114 : Int32), (118 : Int32), (101 : Int32)] : List Int32) = pcs := hor5.elim id (fun q => absurd hcs q.2)
  show Go p.tables e below P (T5.setTop (mkF m 28 #[.val (.ref p0), .val (.ref ob_2), .val (.int (1 : Int32)), .val (.int (0 : Int32)), .val (.ref w_US)] [(.int (1 : Int32))]))
  refine Go.st (fun _ => XS.ifNo X5.here hx rfl (hb hby own_d_prog_37_method_5_code_28) rfl ((if0 _ _).trans (feq (by decide)).1)) ?_
  show Go p.tables e below P (T5.setTop (mkF m 31 #[.val (.ref p0), .val (.ref ob_2), .val (.int (1 : Int32)), .val (.int (0 : Int32)), .val (.ref w_US)] []))
  refine Go.st (fun _ => XS.aload X5.here hx rfl (hb hby own_d_prog_37_method_5_code_31) rfl rfl) ?_
  show Go p.tables e below P (T5.setTop (mkF m 33 #[.val (.ref p0), .val (.ref ob_2), .val (.int (1 : Int32)), .val (.int (0 : Int32)), .val (.ref w_US)] [(.ref w_US)]))
  obtain ⟨_, _, ⟨T10, L10, k10, n10⟩, -, X10, ⟨Lc10, hQ10, l10, y10, z10⟩, st10⟩ := Jvm.LawKit.callS X5 hx (y := (⟨"java/util/Optional", "of", "(Ljava/lang/Object;)Ljava/util/Optional;"⟩ : MethodName)) hown (mvT hZ (ow hw 65 rfl)) (mvT hZ (ow hw 66 rfl)) (mvT hZ (ow hw 67 rfl)) (mvT hZ (ow hw 68 rfl)) (by decide) (backOf (W := 0) (rm_oof l Z a0 hw [] w_US X_US w_V k_V S_V X_V V_V S_UF w_ID F_ID X_ID I_ID_coder w_IB k_IB F_IB V_IB w_OE S_OE X_OE I_OE_value g_CS S_CS nz_CS g_SF S_SF r_SF w_US T1.heap n0 O1 ) hZ (ow hw 68 rfl) (ow hw 67 rfl) (by decide) (by decide)) (g := (mkF m 33 #[.val (.ref p0), .val (.ref ob_2), .val (.int (1 : Int32)), .val (.int (0 : Int32)), .val (.ref w_US)] [(.ref w_US)])) rfl (by rw [hml]; rfl) (argsL := [(.ref w_US)]) (rest := []) (lenOf own_pd7 rfl) rfl (by show 2 * 0 + _ ≤ _; exact Nat.le_of_eq rfl) (hb hby own_d_prog_37_method_5_code_33) (fun _ _ => ⟨rfl, e5, (by decide : 1 + 1 ≤ _), (by decide : 1 + 1 ≤ _)⟩)
  dsimp only [Pt.U, Pt.locs, Pt.cells, Pt.slots] at X10 l10 y10 z10 st10 hQ10
  subst y10 z10
  refine Go.st st10 ?_
  obtain ⟨ob_11, rfl, N10q, K10q, q10_0, q10_1, q10_2⟩ := hQ10
  have N10 : Fr n0 L10 := by rw [l10]; exact Fr.app N5 N10q
  have O10 := O1.keep K10q all0
  have K10 : Keep h0 T10.heap [] := K1.trans K10q all0
  have sz_ob_11 : h0.size ≤ ob_11 := Nat.le_trans K1.1 q10_0
  have g_ob_11 : n0 ≤ ob_11 := Nat.le_trans (own_oldsz X00) sz_ob_11
  show Go p.tables e below P (T10.setTop (mkF m 36 #[.val (.ref p0), .val (.ref ob_2), .val (.int (1 : Int32)), .val (.int (0 : Int32)), .val (.ref w_US)] [(.ref ob_11)]))
  obtain ⟨fs, hr, hrun, hended, hW, hsame⟩ := X10.leave (v := some (.ref ob_11)) (fun h => by rw [Bd.returns] at h; cases h)
  refine ⟨_, ?_, hPend _ _ hrun hended ⟨_, _, rfl, ?_, ⟨_, rfl⟩, hW, hsame.mono (by decide) (by decide)⟩⟩
  · exact retOut X10 hx (t := (.object "java/util/Optional")) Bd.returns rfl (Or.inr (Or.inr (Or.inr (Or.inr ⟨rfl, rfl, rfl⟩)))) (hb hby own_d_prog_37_method_5_code_36) hr
  · show Q_rm_byt Z _ _ _ _ _ _ _ _ _ _ _ _ _ h0 n0 _ T10.heap _
    exact ⟨ob_11, rfl, N10, K10, sz_ob_11, q10_1, q10_2⟩
theorem own_ef_rm_byf (m : MethodId) (x0 : Addr) : entryFrame m #[(.ref x0)] 5 = mkF m 0 #[.val (.ref x0), .unset, .unset, .unset, .unset] [] := by first | (simp [entryFrame, mkF, argsToLocals, Value.category]; done) | rfl
theorem own_d_prog_37_method_5_code_37 : decode prog_37_method_5_code 37 = .ok (.iinc 3 1, 3) := by decide +kernel
theorem own_d_prog_37_method_5_code_40 : decode prog_37_method_5_code 40 = .ok (.goto (-31), 3) := by decide +kernel
theorem own_d_prog_37_method_5_code_43 : decode prog_37_method_5_code 43 = .ok (.invokestatic 46, 3) := by decide +kernel
theorem own_pd8 : parseMethodDescriptor "()Ljava/util/Optional;" = some ⟨[], some (.object "java/util/Optional")⟩ := by decide +kernel
theorem own_d_prog_37_method_5_code_46 : decode prog_37_method_5_code 46 = .ok (.areturn, 1) := by decide +kernel
def Q_rm_byf (Z : State) (w_US : Addr) (w_V : Addr) (k_V : ClassId) (w_ID : Addr) (w_IB : Addr) (k_IB : ClassId) (w_OE : Addr) (g_CS : Int32) (g_SF : Value) (p0 : Addr) (pcs : List Int32) (pv : Addr) (pk : ClassId) (h0 : Heap) (n0 : Nat) (v : Option Value) (h : Heap) (L : List Loc) : Prop := v = some (.ref w_OE) ∧ Fr n0 L ∧ Keep h0 h []
set_option maxRecDepth 65536 in
set_option maxHeartbeats 40000000 in
theorem rm_byf (l : Launch) (Z : State) (a0 : Array Value) (hw : ∀ d ∈ tables_1, d.before a0 Z = true) (ws : List Jvm.Cond) (w_US : Addr) (X_US : Exa Z Z.heap w_US "com/example/tidewall/tidewall/ledger/BusinessCalendar$1") (w_V : Addr) (k_V : ClassId) (S_V : Sta Z Z.heap "com/example/tidewall/tidewall/ledger/BusinessCalendar" "$VALUES" "[Lcom/example/tidewall/tidewall/ledger/BusinessCalendar;" (.ref w_V)) (X_V : Exa Z Z.heap w_V "[Lcom/example/tidewall/tidewall/ledger/BusinessCalendar;") (V_V : Arv Z Z.heap w_V k_V (.object "com/example/tidewall/tidewall/ledger/BusinessCalendar") (1 : Int32) [(.ref w_US)] .null) (S_UF : Sta Z Z.heap "com/example/tidewall/tidewall/ledger/BusinessCalendar" "US_FEDERAL_RESERVE" "Lcom/example/tidewall/tidewall/ledger/BusinessCalendar;" (.ref w_US)) (w_ID : Addr) (F_ID : Fld Z Z.heap w_US "com/example/tidewall/tidewall/ledger/BusinessCalendar" "id" "Ljava/lang/String;" (.ref w_ID)) (X_ID : Exa Z Z.heap w_ID "java/lang/String") (I_ID_coder : Fld Z Z.heap w_ID "java/lang/String" "coder" "B" (.int (0 : Int32))) (w_IB : Addr) (k_IB : ClassId) (F_IB : Fld Z Z.heap w_ID "java/lang/String" "value" "[B" (.ref w_IB)) (V_IB : Arv Z Z.heap w_IB k_IB .byte (18 : Int32) [(.int (117 : Int32)), (.int (115 : Int32)), (.int (45 : Int32)), (.int (102 : Int32)), (.int (101 : Int32)), (.int (100 : Int32)), (.int (101 : Int32)), (.int (114 : Int32)), (.int (97 : Int32)), (.int (108 : Int32)), (.int (45 : Int32)), (.int (114 : Int32)), (.int (101 : Int32)), (.int (115 : Int32)), (.int (101 : Int32)), (.int (114 : Int32)), (.int (118 : Int32)), (.int (101 : Int32))] (.int (0 : Int32))) (w_OE : Addr) (S_OE : Sta Z Z.heap "java/util/Optional" "EMPTY" "Ljava/util/Optional;" (.ref w_OE)) (X_OE : Exa Z Z.heap w_OE "java/util/Optional") (I_OE_value : Fld Z Z.heap w_OE "java/util/Optional" "value" "Ljava/lang/Object;" .null) (g_CS : Int32) (S_CS : Sta Z Z.heap "java/lang/String" "COMPACT_STRINGS" "Z" (.int g_CS)) (nz_CS : ¬ (g_CS = (0 : Int32))) (g_SF : Value) (S_SF : Sta Z Z.heap "jdk/internal/util/Preconditions" "SIOOBE_FORMATTER" "Ljava/util/function/BiFunction;" g_SF) (r_SF : g_SF.isRef = true) (p0 : Addr) (pcs : List Int32) (pv : Addr) (pk : ClassId) (h0 : Heap) (n0 : Nat) (X00 : Old Z n0 h0) (hp0 : Exa Z h0 p0 "java/lang/String") (hp1 : Fld Z h0 p0 "java/lang/String" "coder" "B" (.int (0 : Int32))) (hp2 : Fld Z h0 p0 "java/lang/String" "value" "[B" (.ref pv)) (hp3 : Arv Z h0 pv pk .byte (Int32.ofNat pcs.length) ((pcs.map StrChars.lo8).map Value.int) (.int (0 : Int32))) (hpc0 : ∀ c ∈ pcs, ¬ c < 0 ∧ ¬ (255 : Int32) < c) (hle0 : pcs.length ≤ 4000) (hcs : ¬ (([(117 : Int32), (115 : Int32), (45 : Int32), (102 : Int32), (101 : Int32), (100 : Int32), (101 : Int32), (114 : Int32), (97 : Int32), (108 : Int32), (45 : Int32), (114 : Int32), (101 : Int32), (115 : Int32), (101 : Int32), (114 : Int32), (118 : Int32), (101 : Int32)] : List Int32) = pcs)) :
    MetFree l (⟨"com/example/tidewall/tidewall/ledger/BusinessCalendar", "byId", "(Ljava/lang/String;)Ljava/util/Optional;"⟩ : MethodName) (head1 (Jvm.Cond.code (⟨"com/example/tidewall/tidewall/ledger/BusinessCalendar", "byId", "(Ljava/lang/String;)Ljava/util/Optional;"⟩ : MethodName) prog_37_method_5_code 5 (some (.object "java/util/Optional")) :: ws) ({ frames := 2, cells := 1, slots := 1, locals := 28 } : Room)) (fun a U => a = #[(.ref p0)] ∧ Z.Warmed39 U.vm ∧ U.heap = h0) (fun _ _ _ _ _ => True) (fun _ U o U' => ∃ v L, o = .returned v ∧ Q_rm_byf Z w_US w_V k_V w_ID w_IB k_IB w_OE g_CS g_SF p0 pcs pv pk h0 n0 v U'.heap L ∧ FrameEnd U o U' L ({ frames := 2, cells := 1, slots := 1, locals := 28 } : Room).cells ({ frames := 2, cells := 1, slots := 1, locals := 28 } : Room).slots) := by
  refine MetFree.of_bodySF (plainFor_of_name own_pn4) hisR ?_
  intro p e s m args below meth c s₁ Bd hml0 hP hK
  obtain ⟨rfl, hZ, hh⟩ := hP
  have hx := Bd.exec
  have hby := Bd.bytes
  have hml : c.maxLocals = 5 := hml0
  have hown : s.vm.findClass "com/example/tidewall/tidewall/ledger/BusinessCalendar" = some m.cls := findClass_of_methodNamed Bd.named
  have hnm := (name_of_methodNamed Bd.named Bd.method).1
  have X0 : Stand p l e ({ frames := 2, cells := 1, slots := 1, locals := 28 } : Room) s m #[(.ref p0)] below meth c s₁ [] 0 0 := Stand.of_body Bd
  have e0 : s₁.heap = h0 := by rw [← hh, Bd.state]; rfl
  have N0 := Fr.nil n0
  refine Go.start fun P hPend => ?_
  refine Go.st (fun _ k => castTop (own_ef_rm_byf m p0) k) ?_
  show Go p.tables e below P (s₁.setTop (mkF m 0 #[.val (.ref p0), .unset, .unset, .unset, .unset] []))
  obtain ⟨_, _, ⟨T1, L1, k1, n1⟩, -, X1, ⟨Lc1, hQ1, l1, y1, z1⟩, st1⟩ := Jvm.LawKit.callS X0 hx (y := (⟨"com/example/tidewall/tidewall/ledger/BusinessCalendar", "values", "()[Lcom/example/tidewall/tidewall/ledger/BusinessCalendar;"⟩ : MethodName)) hown (mvT hZ (ow hw 38 rfl)) (mvT hZ (ow hw 39 rfl)) (mvT hZ (ow hw 36 rfl)) (mvT hZ (ow hw 40 rfl)) (by decide) (backOf (W := 0) (rm_vals l Z a0 hw [] w_US X_US w_V k_V S_V X_V V_V S_UF w_ID F_ID X_ID I_ID_coder w_IB k_IB F_IB V_IB w_OE S_OE X_OE I_OE_value g_CS S_CS nz_CS g_SF S_SF r_SF h0 n0 X00 ) hZ (ow hw 40 rfl) (ow hw 36 rfl) (by decide) (by decide)) (g := (mkF m 0 #[.val (.ref p0), .unset, .unset, .unset, .unset] [])) rfl (by rw [hml]; rfl) (argsL := []) (rest := []) (lenOf own_pd5 rfl) rfl (by show 2 * 0 + _ ≤ _; exact Nat.le_of_eq rfl) (hb hby own_d_prog_37_method_5_code_0) (fun _ _ => ⟨rfl, e0, (by decide : 0 + 1 ≤ _), (by decide : 0 + 1 ≤ _)⟩)
  dsimp only [Pt.U, Pt.locs, Pt.cells, Pt.slots] at X1 l1 y1 z1 st1 hQ1
  subst y1 z1
  refine Go.st st1 ?_
  obtain ⟨ob_2, rfl, N1q, K1q, q1_0, q1_1⟩ := hQ1
  have N1 : Fr n0 L1 := by rw [l1]; exact Fr.app N0 N1q
  have O1 := X00.keep K1q all0
  have K1 : Keep h0 T1.heap [] := (Keep.refl h0 []).trans K1q all0
  have sz_ob_2 : h0.size ≤ ob_2 := Nat.le_trans (Keep.refl h0 []).1 q1_0
  have g_ob_2 : n0 ≤ ob_2 := Nat.le_trans (own_oldsz X00) sz_ob_2
  show Go p.tables e below P (T1.setTop (mkF m 3 #[.val (.ref p0), .unset, .unset, .unset, .unset] [(.ref ob_2)]))
  refine Go.st (fun _ => XS.astoreN X1.here hx rfl (hb hby own_d_prog_37_method_5_code_3) rfl rfl (l' := #[.val (.ref p0), .val (.ref ob_2), .unset, .unset, .unset]) rfl) ?_
  show Go p.tables e below P (T1.setTop (mkF m 4 #[.val (.ref p0), .val (.ref ob_2), .unset, .unset, .unset] []))
  refine Go.st (fun _ => XS.aloadN X1.here hx rfl (hb hby own_d_prog_37_method_5_code_4) rfl rfl) ?_
  show Go p.tables e below P (T1.setTop (mkF m 5 #[.val (.ref p0), .val (.ref ob_2), .unset, .unset, .unset] [(.ref ob_2)]))
  refine Go.st (fun _ => own_len X1 hx hZ rfl q1_1 (g := (mkF m 5 #[.val (.ref p0), .val (.ref ob_2), .unset, .unset, .unset] [(.ref ob_2)])) rfl rfl (hb hby own_d_prog_37_method_5_code_5) _) ?_
  show Go p.tables e below P (T1.setTop (mkF m 6 #[.val (.ref p0), .val (.ref ob_2), .unset, .unset, .unset] [(.int (1 : Int32))]))
  refine Go.st (fun _ => XS.istoreN X1.here hx rfl (hb hby own_d_prog_37_method_5_code_6) rfl (l' := #[.val (.ref p0), .val (.ref ob_2), .val (.int (1 : Int32)), .unset, .unset]) rfl) ?_
  show Go p.tables e below P (T1.setTop (mkF m 7 #[.val (.ref p0), .val (.ref ob_2), .val (.int (1 : Int32)), .unset, .unset] []))
  refine Go.st (fun _ => XS.iconst X1.here hx rfl (hb hby own_d_prog_37_method_5_code_7)) ?_
  show Go p.tables e below P (T1.setTop (mkF m 8 #[.val (.ref p0), .val (.ref ob_2), .val (.int (1 : Int32)), .unset, .unset] [(.int (0 : Int32))]))
  refine Go.st (fun _ => XS.istoreN X1.here hx rfl (hb hby own_d_prog_37_method_5_code_8) rfl (l' := #[.val (.ref p0), .val (.ref ob_2), .val (.int (1 : Int32)), .val (.int (0 : Int32)), .unset]) rfl) ?_
  show Go p.tables e below P (T1.setTop (mkF m 9 #[.val (.ref p0), .val (.ref ob_2), .val (.int (1 : Int32)), .val (.int (0 : Int32)), .unset] []))
  refine Go.st (fun _ => XS.iloadN X1.here hx rfl (hb hby own_d_prog_37_method_5_code_9) rfl) ?_
  show Go p.tables e below P (T1.setTop (mkF m 10 #[.val (.ref p0), .val (.ref ob_2), .val (.int (1 : Int32)), .val (.int (0 : Int32)), .unset] [(.int (0 : Int32))]))
  refine Go.st (fun _ => XS.iloadN X1.here hx rfl (hb hby own_d_prog_37_method_5_code_10) rfl) ?_
  show Go p.tables e below P (T1.setTop (mkF m 11 #[.val (.ref p0), .val (.ref ob_2), .val (.int (1 : Int32)), .val (.int (0 : Int32)), .unset] [(.int (1 : Int32)), (.int (0 : Int32))]))
  refine Go.st (fun _ => XS.icmpNo X1.here hx rfl (hb hby own_d_prog_37_method_5_code_11) rfl (tlt (by decide)).2.1) ?_
  show Go p.tables e below P (T1.setTop (mkF m 14 #[.val (.ref p0), .val (.ref ob_2), .val (.int (1 : Int32)), .val (.int (0 : Int32)), .unset] []))
  refine Go.st (fun _ => XS.aloadN X1.here hx rfl (hb hby own_d_prog_37_method_5_code_14) rfl rfl) ?_
  show Go p.tables e below P (T1.setTop (mkF m 15 #[.val (.ref p0), .val (.ref ob_2), .val (.int (1 : Int32)), .val (.int (0 : Int32)), .unset] [(.ref ob_2)]))
  refine Go.st (fun _ => XS.iloadN X1.here hx rfl (hb hby own_d_prog_37_method_5_code_15) rfl) ?_
  show Go p.tables e below P (T1.setTop (mkF m 16 #[.val (.ref p0), .val (.ref ob_2), .val (.int (1 : Int32)), .val (.int (0 : Int32)), .unset] [(.int (0 : Int32)), (.ref ob_2)]))
  refine Go.st (fun _ => own_ldR X1 hx hZ rfl q1_1 (j := (0 : Int32)) (i := 0) (v := (.ref w_US)) (by decide) (by decide) rfl (g := (mkF m 16 #[.val (.ref p0), .val (.ref ob_2), .val (.int (1 : Int32)), .val (.int (0 : Int32)), .unset] [(.int (0 : Int32)), (.ref ob_2)])) rfl rfl (hb hby own_d_prog_37_method_5_code_16) _) ?_
  show Go p.tables e below P (T1.setTop (mkF m 17 #[.val (.ref p0), .val (.ref ob_2), .val (.int (1 : Int32)), .val (.int (0 : Int32)), .unset] [(.ref w_US)]))
  refine Go.st (fun _ => XS.astore X1.here hx rfl (hb hby own_d_prog_37_method_5_code_17) rfl rfl (l' := #[.val (.ref p0), .val (.ref ob_2), .val (.int (1 : Int32)), .val (.int (0 : Int32)), .val (.ref w_US)]) rfl) ?_
  show Go p.tables e below P (T1.setTop (mkF m 19 #[.val (.ref p0), .val (.ref ob_2), .val (.int (1 : Int32)), .val (.int (0 : Int32)), .val (.ref w_US)] []))
  refine Go.st (fun _ => XS.aload X1.here hx rfl (hb hby own_d_prog_37_method_5_code_19) rfl rfl) ?_
  show Go p.tables e below P (T1.setTop (mkF m 21 #[.val (.ref p0), .val (.ref ob_2), .val (.int (1 : Int32)), .val (.int (0 : Int32)), .val (.ref w_US)] [(.ref w_US)]))
  obtain ⟨T4, X4, e4, st4⟩ := getF X1 hx hZ hown (host := "") (Or.inl (ow hw 53 rfl)) Via.refl rfl (F_ID.ext O1.2) (g := (mkF m 21 #[.val (.ref p0), .val (.ref ob_2), .val (.int (1 : Int32)), .val (.int (0 : Int32)), .val (.ref w_US)] [(.ref w_US)])) rfl rfl (hb hby own_d_prog_37_method_5_code_21)
  refine Go.st st4 ?_
  show Go p.tables e below P (T4.setTop (mkF m 24 #[.val (.ref p0), .val (.ref ob_2), .val (.int (1 : Int32)), .val (.int (0 : Int32)), .val (.ref w_US)] [(.ref w_ID)]))
  refine Go.st (fun _ => XS.aloadN X4.here hx rfl (hb hby own_d_prog_37_method_5_code_24) rfl rfl) ?_
  show Go p.tables e below P (T4.setTop (mkF m 25 #[.val (.ref p0), .val (.ref ob_2), .val (.int (1 : Int32)), .val (.int (0 : Int32)), .val (.ref w_US)] [(.ref p0), (.ref w_ID)]))
  have hcd5 : StrChars.Road.CodA ([(117 : Int32), (115 : Int32), (45 : Int32), (102 : Int32), (101 : Int32), (100 : Int32), (101 : Int32), (114 : Int32), (97 : Int32), (108 : Int32), (45 : Int32), (114 : Int32), (101 : Int32), (115 : Int32), (101 : Int32), (114 : Int32), (118 : Int32), (101 : Int32)] : List Int32) 0 (18 : Int32) [(.int (117 : Int32)), (.int (115 : Int32)), (.int (45 : Int32)), (.int (102 : Int32)), (.int (101 : Int32)), (.int (100 : Int32)), (.int (101 : Int32)), (.int (114 : Int32)), (.int (97 : Int32)), (.int (108 : Int32)), (.int (45 : Int32)), (.int (114 : Int32)), (.int (101 : Int32)), (.int (115 : Int32)), (.int (101 : Int32)), (.int (114 : Int32)), (.int (118 : Int32)), (.int (101 : Int32))] := StrChars.Road.codOf (n := 18) rfl (fun c hc => ((show ∀ c ∈ ([(117 : Int32), (115 : Int32), (45 : Int32), (102 : Int32), (101 : Int32), (100 : Int32), (101 : Int32), (114 : Int32), (97 : Int32), (108 : Int32), (45 : Int32), (114 : Int32), (101 : Int32), (115 : Int32), (101 : Int32), (114 : Int32), (118 : Int32), (101 : Int32)] : List Int32), ¬ c < 0 ∧ ¬ (255 : Int32) < c by decide) c hc).2)
  have c6 := (hp0.keep K1q)
  have c7 := (hp2.keep K1q nin0)
  have c8 := (hp1.keep K1q nin0)
  have c9 := (hp3.keep K1q nin0)
  have hcd5b : StrChars.Road.CodA pcs 0 (Int32.ofNat pcs.length) ((pcs.map StrChars.lo8).map Value.int) := StrChars.Road.codOf (n := pcs.length) rfl (fun c hc => (hpc0 c hc).2)
  obtain ⟨cq5, kq5, q5a, q5b, q5c⟩ := isOf hZ e4 (X_ID.ext O1.2)
  obtain ⟨_, _, ⟨T5, L5, k5, n5⟩, -, X5, ⟨Lc5, hQ5, l5, y5, z5⟩, st5⟩ := X4.virtualBack hx (y := (⟨"java/lang/String", "equals", "(Ljava/lang/Object;)Z"⟩ : MethodName)) (z := (⟨"java/lang/String", "equals", "(Ljava/lang/Object;)Z"⟩ : MethodName)) hown (mvT hZ (ow hw 55 rfl)) (mvT hZ (ow hw 56 rfl)) (notFace_of_selects (args := #[]) (mvT hZ (ow hw 58 rfl))) (mvT hZ (ow hw 58 rfl)) (mvT hZ (ow hw 57 rfl)) (by decide) (StrChars.Road.eqW (W := 0) hZ (fun d hd => hw d (own_wEq d hd)) (kI := 4) (ow hw 2 rfl) (X_ID.ext O1.2) (F_IB.ext O1.2) (I_ID_coder.ext O1.2) (V_IB.ext O1.2) hcd5 (own_up _ (show ∀ c ∈ ([(117 : Int32), (115 : Int32), (45 : Int32), (102 : Int32), (101 : Int32), (100 : Int32), (101 : Int32), (114 : Int32), (97 : Int32), (108 : Int32), (45 : Int32), (114 : Int32), (101 : Int32), (115 : Int32), (101 : Int32), (114 : Int32), (118 : Int32), (101 : Int32)] : List Int32), ¬ c < 0 ∧ ¬ (255 : Int32) < c by decide)) (Nat.le_of_ble_eq_true rfl) c6 c7 c8 c9 hcd5b (own_up _ hpc0) hle0 (S_CS.ext O1.2) nz_CS (by decide) (by decide)) q5a q5c (g := (mkF m 25 #[.val (.ref p0), .val (.ref ob_2), .val (.int (1 : Int32)), .val (.int (0 : Int32)), .val (.ref w_US)] [(.ref p0), (.ref w_ID)])) rfl (by rw [hml]; rfl) (Steps.refl _) (argsL := [(.ref p0)]) (rest := []) (lenOf own_pd6 rfl) rfl (by show 2 * 0 + _ ≤ _; exact Nat.le_of_eq rfl) (hb hby own_d_prog_37_method_5_code_25) (fun _ _ => ⟨rfl, e4, (by decide : 1 + 0 ≤ _), (by decide : 1 + 0 ≤ _)⟩)
  dsimp only [Pt.U, Pt.locs, Pt.cells, Pt.slots] at X5 l5 y5 z5 st5 hQ5
  subst y5 z5
  refine Go.tr st5 ?_
  obtain ⟨hor5, rfl, e5⟩ := hQ5
  have N5 : Fr n0 L5 := by rw [l5]; exact Fr.app N1 (Fr.nil n0)
  obtain ⟨rfl, heq5⟩ := hor5.elim (fun q => absurd q.2 hcs) id
  show Go p.tables e below P (T5.setTop (mkF m 28 #[.val (.ref p0), .val (.ref ob_2), .val (.int (1 : Int32)), .val (.int (0 : Int32)), .val (.ref w_US)] [(.int (0 : Int32))]))
  refine Go.st (fun _ => XS.ifYes X5.here hx rfl (pc0 := 28) (pc' := 37) rfl (hb hby own_d_prog_37_method_5_code_28) rfl ((if0 _ _).trans (teq (by decide)).1) (by decide) (by decide)) ?_
  show Go p.tables e below P (T5.setTop (mkF m 37 #[.val (.ref p0), .val (.ref ob_2), .val (.int (1 : Int32)), .val (.int (0 : Int32)), .val (.ref w_US)] []))
  refine Go.st (fun _ => XS.iinc X5.here hx rfl (hb hby own_d_prog_37_method_5_code_37) rfl (l' := #[.val (.ref p0), .val (.ref ob_2), .val (.int (1 : Int32)), .val (.int (1 : Int32)), .val (.ref w_US)]) rfl) ?_
  show Go p.tables e below P (T5.setTop (mkF m 40 #[.val (.ref p0), .val (.ref ob_2), .val (.int (1 : Int32)), .val (.int (1 : Int32)), .val (.ref w_US)] []))
  refine Go.st (fun _ => XS.goto X5.here hx rfl (pc0 := 40) (pc' := 9) rfl (hb hby own_d_prog_37_method_5_code_40) (by decide) (by decide)) ?_
  show Go p.tables e below P (T5.setTop (mkF m 9 #[.val (.ref p0), .val (.ref ob_2), .val (.int (1 : Int32)), .val (.int (1 : Int32)), .val (.ref w_US)] []))
  refine Go.st (fun _ => XS.iloadN X5.here hx rfl (hb hby own_d_prog_37_method_5_code_9) rfl) ?_
  show Go p.tables e below P (T5.setTop (mkF m 10 #[.val (.ref p0), .val (.ref ob_2), .val (.int (1 : Int32)), .val (.int (1 : Int32)), .val (.ref w_US)] [(.int (1 : Int32))]))
  refine Go.st (fun _ => XS.iloadN X5.here hx rfl (hb hby own_d_prog_37_method_5_code_10) rfl) ?_
  show Go p.tables e below P (T5.setTop (mkF m 11 #[.val (.ref p0), .val (.ref ob_2), .val (.int (1 : Int32)), .val (.int (1 : Int32)), .val (.ref w_US)] [(.int (1 : Int32)), (.int (1 : Int32))]))
  refine Go.st (fun _ => XS.icmpYes X5.here hx rfl (pc0 := 11) (pc' := 43) rfl (hb hby own_d_prog_37_method_5_code_11) rfl (flt (by decide)).2.1 (by decide) (by decide)) ?_
  show Go p.tables e below P (T5.setTop (mkF m 43 #[.val (.ref p0), .val (.ref ob_2), .val (.int (1 : Int32)), .val (.int (1 : Int32)), .val (.ref w_US)] []))
  obtain ⟨_, _, ⟨T10, L10, k10, n10⟩, -, X10, ⟨Lc10, hQ10, l10, y10, z10⟩, st10⟩ := Jvm.LawKit.callS X5 hx (y := (⟨"java/util/Optional", "empty", "()Ljava/util/Optional;"⟩ : MethodName)) hown (mvT hZ (ow hw 123 rfl)) (mvT hZ (ow hw 124 rfl)) (mvT hZ (ow hw 67 rfl)) (mvT hZ (ow hw 125 rfl)) (by decide) (backOf (W := 0) (rm_oem l Z a0 hw [] w_US X_US w_V k_V S_V X_V V_V S_UF w_ID F_ID X_ID I_ID_coder w_IB k_IB F_IB V_IB w_OE S_OE X_OE I_OE_value g_CS S_CS nz_CS g_SF S_SF r_SF T1.heap n0 O1 ) hZ (ow hw 125 rfl) (ow hw 67 rfl) (by decide) (by decide)) (g := (mkF m 43 #[.val (.ref p0), .val (.ref ob_2), .val (.int (1 : Int32)), .val (.int (1 : Int32)), .val (.ref w_US)] [])) rfl (by rw [hml]; rfl) (argsL := []) (rest := []) (lenOf own_pd8 rfl) rfl (by show 2 * 0 + _ ≤ _; exact Nat.le_of_eq rfl) (hb hby own_d_prog_37_method_5_code_43) (fun _ _ => ⟨rfl, e5, (by decide : 1 + 0 ≤ _), (by decide : 1 + 0 ≤ _)⟩)
  dsimp only [Pt.U, Pt.locs, Pt.cells, Pt.slots] at X10 l10 y10 z10 st10 hQ10
  subst y10 z10
  refine Go.st st10 ?_
  obtain ⟨rfl, N10q, e10⟩ := hQ10
  have N10 : Fr n0 L10 := by rw [l10]; exact Fr.app N5 N10q
  show Go p.tables e below P (T10.setTop (mkF m 46 #[.val (.ref p0), .val (.ref ob_2), .val (.int (1 : Int32)), .val (.int (1 : Int32)), .val (.ref w_US)] [(.ref w_OE)]))
  obtain ⟨fs, hr, hrun, hended, hW, hsame⟩ := X10.leave (v := some (.ref w_OE)) (fun h => by rw [Bd.returns] at h; cases h)
  refine ⟨_, ?_, hPend _ _ hrun hended ⟨_, _, rfl, ?_, ⟨_, rfl⟩, hW, hsame.mono (by decide) (by decide)⟩⟩
  · exact retOut X10 hx (t := (.object "java/util/Optional")) Bd.returns rfl (Or.inr (Or.inr (Or.inr (Or.inr ⟨rfl, rfl, rfl⟩)))) (hb hby own_d_prog_37_method_5_code_46) hr
  · show Q_rm_byf Z _ _ _ _ _ _ _ _ _ _ _ _ _ h0 n0 _ T10.heap _
    rw [e10]
    exact ⟨rfl, N10, K1⟩
theorem own_ef_rm_gid (m : MethodId) (x0 : Addr) : entryFrame m #[(.ref x0)] 1 = mkF m 0 #[.val (.ref x0)] [] := by first | (simp [entryFrame, mkF, argsToLocals, Value.category]; done) | rfl
theorem own_d_prog_37_method_4_code_0 : decode prog_37_method_4_code 0 = .ok (.aload_n 0, 1) := by decide +kernel
theorem own_d_prog_37_method_4_code_1 : decode prog_37_method_4_code 1 = .ok (.getfield 26, 3) := by decide +kernel
theorem own_d_prog_37_method_4_code_4 : decode prog_37_method_4_code 4 = .ok (.areturn, 1) := by decide +kernel
def Q_rm_gid (Z : State) (w_US : Addr) (w_V : Addr) (k_V : ClassId) (w_ID : Addr) (w_IB : Addr) (k_IB : ClassId) (w_OE : Addr) (g_CS : Int32) (g_SF : Value) (h0 : Heap) (n0 : Nat) (v : Option Value) (h : Heap) (L : List Loc) : Prop := v = some (.ref w_ID) ∧ Fr n0 L ∧ h = h0
set_option maxRecDepth 65536 in
set_option maxHeartbeats 40000000 in
theorem rm_gid (l : Launch) (Z : State) (a0 : Array Value) (hw : ∀ d ∈ tables_1, d.before a0 Z = true) (ws : List Jvm.Cond) (w_US : Addr) (X_US : Exa Z Z.heap w_US "com/example/tidewall/tidewall/ledger/BusinessCalendar$1") (w_V : Addr) (k_V : ClassId) (S_V : Sta Z Z.heap "com/example/tidewall/tidewall/ledger/BusinessCalendar" "$VALUES" "[Lcom/example/tidewall/tidewall/ledger/BusinessCalendar;" (.ref w_V)) (X_V : Exa Z Z.heap w_V "[Lcom/example/tidewall/tidewall/ledger/BusinessCalendar;") (V_V : Arv Z Z.heap w_V k_V (.object "com/example/tidewall/tidewall/ledger/BusinessCalendar") (1 : Int32) [(.ref w_US)] .null) (S_UF : Sta Z Z.heap "com/example/tidewall/tidewall/ledger/BusinessCalendar" "US_FEDERAL_RESERVE" "Lcom/example/tidewall/tidewall/ledger/BusinessCalendar;" (.ref w_US)) (w_ID : Addr) (F_ID : Fld Z Z.heap w_US "com/example/tidewall/tidewall/ledger/BusinessCalendar" "id" "Ljava/lang/String;" (.ref w_ID)) (X_ID : Exa Z Z.heap w_ID "java/lang/String") (I_ID_coder : Fld Z Z.heap w_ID "java/lang/String" "coder" "B" (.int (0 : Int32))) (w_IB : Addr) (k_IB : ClassId) (F_IB : Fld Z Z.heap w_ID "java/lang/String" "value" "[B" (.ref w_IB)) (V_IB : Arv Z Z.heap w_IB k_IB .byte (18 : Int32) [(.int (117 : Int32)), (.int (115 : Int32)), (.int (45 : Int32)), (.int (102 : Int32)), (.int (101 : Int32)), (.int (100 : Int32)), (.int (101 : Int32)), (.int (114 : Int32)), (.int (97 : Int32)), (.int (108 : Int32)), (.int (45 : Int32)), (.int (114 : Int32)), (.int (101 : Int32)), (.int (115 : Int32)), (.int (101 : Int32)), (.int (114 : Int32)), (.int (118 : Int32)), (.int (101 : Int32))] (.int (0 : Int32))) (w_OE : Addr) (S_OE : Sta Z Z.heap "java/util/Optional" "EMPTY" "Ljava/util/Optional;" (.ref w_OE)) (X_OE : Exa Z Z.heap w_OE "java/util/Optional") (I_OE_value : Fld Z Z.heap w_OE "java/util/Optional" "value" "Ljava/lang/Object;" .null) (g_CS : Int32) (S_CS : Sta Z Z.heap "java/lang/String" "COMPACT_STRINGS" "Z" (.int g_CS)) (nz_CS : ¬ (g_CS = (0 : Int32))) (g_SF : Value) (S_SF : Sta Z Z.heap "jdk/internal/util/Preconditions" "SIOOBE_FORMATTER" "Ljava/util/function/BiFunction;" g_SF) (r_SF : g_SF.isRef = true) (h0 : Heap) (n0 : Nat) (X00 : Old Z n0 h0)  :
    MetFree l (⟨"com/example/tidewall/tidewall/ledger/BusinessCalendar", "id", "()Ljava/lang/String;"⟩ : MethodName) (head1 (Jvm.Cond.code (⟨"com/example/tidewall/tidewall/ledger/BusinessCalendar", "id", "()Ljava/lang/String;"⟩ : MethodName) prog_37_method_4_code 1 (some (.object "java/lang/String")) :: ws) ({ frames := 0, cells := 0, slots := 0, locals := 0 } : Room)) (fun a U => a = #[(.ref w_US)] ∧ Z.Warmed39 U.vm ∧ U.heap = h0) (fun _ _ _ _ _ => True) (fun _ U o U' => ∃ v L, o = .returned v ∧ Q_rm_gid Z w_US w_V k_V w_ID w_IB k_IB w_OE g_CS g_SF h0 n0 v U'.heap L ∧ FrameEnd U o U' L ({ frames := 0, cells := 0, slots := 0, locals := 0 } : Room).cells ({ frames := 0, cells := 0, slots := 0, locals := 0 } : Room).slots) := by
  refine MetFree.of_bodySF (plainFor_of_name own_pn4) hisR ?_
  intro p e s m args below meth c s₁ Bd hml0 hP hK
  obtain ⟨rfl, hZ, hh⟩ := hP
  have hx := Bd.exec
  have hby := Bd.bytes
  have hml : c.maxLocals = 1 := hml0
  have hown : s.vm.findClass "com/example/tidewall/tidewall/ledger/BusinessCalendar" = some m.cls := findClass_of_methodNamed Bd.named
  have hnm := (name_of_methodNamed Bd.named Bd.method).1
  have X0 : Stand p l e ({ frames := 0, cells := 0, slots := 0, locals := 0 } : Room) s m #[(.ref w_US)] below meth c s₁ [] 0 0 := Stand.of_body Bd
  have e0 : s₁.heap = h0 := by rw [← hh, Bd.state]; rfl
  have N0 := Fr.nil n0
  refine Go.start fun P hPend => ?_
  refine Go.st (fun _ k => castTop (own_ef_rm_gid m w_US) k) ?_
  show Go p.tables e below P (s₁.setTop (mkF m 0 #[.val (.ref w_US)] []))
  refine Go.st (fun _ => XS.aloadN X0.here hx rfl (hb hby own_d_prog_37_method_4_code_0) rfl rfl) ?_
  show Go p.tables e below P (s₁.setTop (mkF m 1 #[.val (.ref w_US)] [(.ref w_US)]))
  obtain ⟨T1, X1, e1, st1⟩ := getF X0 hx hZ hown (host := "") (Or.inl (ow hw 53 rfl)) Via.refl e0 (F_ID.ext X00.2) (g := (mkF m 1 #[.val (.ref w_US)] [(.ref w_US)])) rfl rfl (hb hby own_d_prog_37_method_4_code_1)
  refine Go.st st1 ?_
  show Go p.tables e below P (T1.setTop (mkF m 4 #[.val (.ref w_US)] [(.ref w_ID)]))
  obtain ⟨fs, hr, hrun, hended, hW, hsame⟩ := X1.leave (v := some (.ref w_ID)) (fun h => by rw [Bd.returns] at h; cases h)
  refine ⟨_, ?_, hPend _ _ hrun hended ⟨_, _, rfl, ?_, ⟨_, rfl⟩, hW, hsame.mono (by decide) (by decide)⟩⟩
  · exact retOut X1 hx (t := (.object "java/lang/String")) Bd.returns rfl (Or.inr (Or.inr (Or.inr (Or.inr ⟨rfl, rfl, rfl⟩)))) (hb hby own_d_prog_37_method_4_code_4) hr
  · show Q_rm_gid Z _ _ _ _ _ _ _ _ _ h0 n0 _ T1.heap _
    rw [e1]
    exact ⟨rfl, N0, rfl⟩
theorem own_rem18 (x : Int32) : (¬ (x &&& 2147483647) % 18 < 0 ∧ (x &&& 2147483647) % 18 < 18) ∧ ((x &&& 2147483647) % 18).toNatClampNeg < 18 := by
  have h : (x &&& 2147483647).toInt = x.toInt % (2 ^ 31 : Nat) := c_mask x 2147483647 31 (by decide) (by decide)
  have g := (c_irem (x &&& 2147483647) 18 18 (by decide)).1 (by omega)
  have e0 : (0 : Int32).toInt = 0 := rfl
  have e1 : (18 : Int32).toInt = 18 := rfl
  refine ⟨⟨?_, ?_⟩, ?_⟩
  · rw [Int32.lt_iff_toInt_lt]; omega
  · rw [Int32.lt_iff_toInt_lt]; omega
  · show ((x &&& 2147483647) % 18).toInt.toNat < 18; omega
theorem own_one {v : Int32} (hv : ¬ v < 0 ∧ ¬ (255 : Int32) < v) : ∀ c ∈ ([v] : List Int32), ¬ c < 0 ∧ ¬ (255 : Int32) < c := fun c hc => by rw [List.mem_singleton.mp hc]; exact hv
theorem own_ef_rm_law (m : MethodId) (x0 : Int32) (x1 : Int32) (x2 : Int32) : entryFrame m #[(.int x0), (.int x1), (.int x2)] maxLocals = mkF m 0 #[.val (.int x0), .val (.int x1), .val (.int x2), .unset, .unset, .unset, .unset, .unset, .unset, .unset, .unset, .unset, .unset] [] := by first | (simp [entryFrame, mkF, argsToLocals, Value.category, maxLocals]; done) | rfl
theorem own_pn5 : plainName "com/example/tidewall/tidewall/ledger/BusinessCalendarByIdPinLaw" = true := by first | (simp [plainName, overriddenIn]; done) | decide +kernel
theorem own_pd9 : parseMethodDescriptor "(Ljava/lang/String;)Ljava/util/Optional;" = some ⟨[(.object "java/lang/String")], some (.object "java/util/Optional")⟩ := by decide +kernel
theorem own_pd10 : parseMethodDescriptor "()Z" = some ⟨[], some .boolean⟩ := by decide +kernel
theorem own_pd11 : parseMethodDescriptor "()Ljava/lang/Object;" = some ⟨[], some (.object "java/lang/Object")⟩ := by decide +kernel
theorem own_pd12 : parseMethodDescriptor "()Ljava/lang/String;" = some ⟨[], some (.object "java/lang/String")⟩ := by decide +kernel
theorem own_pd13 : parseMethodDescriptor "([C)V" = some ⟨[(.array .char)], none⟩ := by decide +kernel
theorem own_pd14 : parseMethodDescriptor "(I)C" = some ⟨[.int], some .char⟩ := by decide +kernel
theorem own_pd15 : parseMethodDescriptor "(C)Ljava/lang/String;" = some ⟨[.char], some (.object "java/lang/String")⟩ := by decide +kernel
def Q_rm_law (Z : State) (w_US : Addr) (w_V : Addr) (k_V : ClassId) (w_ID : Addr) (w_IB : Addr) (k_IB : ClassId) (w_OE : Addr) (g_CS : Int32) (g_SF : Value) (p0 : Int32) (p1 : Int32) (p2 : Int32) (h0 : Heap) (n0 : Nat) (v : Option Value) (h : Heap) (L : List Loc) : Prop := v = some (.int (1 : Int32)) ∧ Fr n0 L ∧ Keep h0 h []
set_option maxRecDepth 65536 in
set_option maxHeartbeats 40000000 in
theorem rm_law (l : Launch) (Z : State) (a0 : Array Value) (hw : ∀ d ∈ tables_1, d.before a0 Z = true) (ws : List Jvm.Cond) (w_US : Addr) (X_US : Exa Z Z.heap w_US "com/example/tidewall/tidewall/ledger/BusinessCalendar$1") (w_V : Addr) (k_V : ClassId) (S_V : Sta Z Z.heap "com/example/tidewall/tidewall/ledger/BusinessCalendar" "$VALUES" "[Lcom/example/tidewall/tidewall/ledger/BusinessCalendar;" (.ref w_V)) (X_V : Exa Z Z.heap w_V "[Lcom/example/tidewall/tidewall/ledger/BusinessCalendar;") (V_V : Arv Z Z.heap w_V k_V (.object "com/example/tidewall/tidewall/ledger/BusinessCalendar") (1 : Int32) [(.ref w_US)] .null) (S_UF : Sta Z Z.heap "com/example/tidewall/tidewall/ledger/BusinessCalendar" "US_FEDERAL_RESERVE" "Lcom/example/tidewall/tidewall/ledger/BusinessCalendar;" (.ref w_US)) (w_ID : Addr) (F_ID : Fld Z Z.heap w_US "com/example/tidewall/tidewall/ledger/BusinessCalendar" "id" "Ljava/lang/String;" (.ref w_ID)) (X_ID : Exa Z Z.heap w_ID "java/lang/String") (I_ID_coder : Fld Z Z.heap w_ID "java/lang/String" "coder" "B" (.int (0 : Int32))) (w_IB : Addr) (k_IB : ClassId) (F_IB : Fld Z Z.heap w_ID "java/lang/String" "value" "[B" (.ref w_IB)) (V_IB : Arv Z Z.heap w_IB k_IB .byte (18 : Int32) [(.int (117 : Int32)), (.int (115 : Int32)), (.int (45 : Int32)), (.int (102 : Int32)), (.int (101 : Int32)), (.int (100 : Int32)), (.int (101 : Int32)), (.int (114 : Int32)), (.int (97 : Int32)), (.int (108 : Int32)), (.int (45 : Int32)), (.int (114 : Int32)), (.int (101 : Int32)), (.int (115 : Int32)), (.int (101 : Int32)), (.int (114 : Int32)), (.int (118 : Int32)), (.int (101 : Int32))] (.int (0 : Int32))) (w_OE : Addr) (S_OE : Sta Z Z.heap "java/util/Optional" "EMPTY" "Ljava/util/Optional;" (.ref w_OE)) (X_OE : Exa Z Z.heap w_OE "java/util/Optional") (I_OE_value : Fld Z Z.heap w_OE "java/util/Optional" "value" "Ljava/lang/Object;" .null) (g_CS : Int32) (S_CS : Sta Z Z.heap "java/lang/String" "COMPACT_STRINGS" "Z" (.int g_CS)) (nz_CS : ¬ (g_CS = (0 : Int32))) (g_SF : Value) (S_SF : Sta Z Z.heap "jdk/internal/util/Preconditions" "SIOOBE_FORMATTER" "Ljava/util/function/BiFunction;" g_SF) (r_SF : g_SF.isRef = true) (p0 : Int32) (p1 : Int32) (p2 : Int32) (h0 : Heap) (n0 : Nat) (X00 : Old Z n0 h0)  :
    MetFree l x (head1 (Jvm.Cond.code x code maxLocals ret :: ws) room_1) (fun a U => a = #[(.int p0), (.int p1), (.int p2)] ∧ Z.Warmed39 U.vm ∧ U.heap = h0 ∧ CHv Z consts_1 U.vm h0) (fun _ _ _ _ _ => True) (fun _ U o U' => ∃ v L, o = .returned v ∧ Q_rm_law Z w_US w_V k_V w_ID w_IB k_IB w_OE g_CS g_SF p0 p1 p2 h0 n0 v U'.heap L ∧ CHr Z consts_1 U.vm U.heap U'.vm U'.heap ∧ ReturnedEndW U o U' L 9 155) := by
  refine MetFree.of_bodySF (plainFor_of_name own_pn5) hisR ?_
  intro p e s m args below meth c s₁ Bd hml0 hP hK
  obtain ⟨rfl, hZ, hh, hCH⟩ := hP
  have hEL := own_EW Z a0 hw
  have CR0 : CHr Z consts_1 s.vm h0 s.vm h0 := CHr.refl hCH
  have hx := Bd.exec
  have hby := Bd.bytes
  have hml : c.maxLocals = 13 := hml0
  have hown : s.vm.findClass "com/example/tidewall/tidewall/ledger/BusinessCalendarByIdPinLaw" = some m.cls := findClass_of_methodNamed Bd.named
  have hnm := (name_of_methodNamed Bd.named Bd.method).1
  have X0 : Stand p l e room_1 (s.setVm s.vm) m #[(.int p0), (.int p1), (.int p2)] below meth c s₁ [] 0 0 := Stand.of_body Bd
  have e0 : s₁.heap = h0 := by rw [← hh, Bd.state]; rfl
  have N0 := Fr.nil n0
  have hS0 : s.Since s.vm 0 := own_since s
  have hk0 : 0 ≤ h0.size := Nat.zero_le _
  have hZ : Z.Warmed39 (s.setVm s.vm).vm := hZ
  have hown : (s.setVm s.vm).vm.findClass "com/example/tidewall/tidewall/ledger/BusinessCalendarByIdPinLaw" = some m.cls := hown
  refine Go.start fun P hPend => ?_
  refine Go.st (fun _ k => castTop (own_ef_rm_law m p0 p1 p2) k) ?_
  show Go p.tables e below P (s₁.setTop (mkF m 0 #[.val (.int p0), .val (.int p1), .val (.int p2), .unset, .unset, .unset, .unset, .unset, .unset, .unset, .unset, .unset, .unset] []))
  obtain ⟨a1, T1, h1, kk1, b1, kb1, X1, e1, E1, hS1, hk1, hZ1, hown1, Ea1, Ca1, Va1, Ab1, alt1, blt1, hCR1, Li1, hne1, st1⟩ := ldcCH X0 hx hZ hown (ow hw 0 rfl) (fun a ha => hw a (own_strAtoms a ha)) e0 hS0 hk0 hEL (by decide +kernel) CR0.1 (vs := [(.int (117 : Int32)), (.int (115 : Int32)), (.int (45 : Int32)), (.int (102 : Int32)), (.int (101 : Int32)), (.int (100 : Int32)), (.int (101 : Int32)), (.int (114 : Int32)), (.int (97 : Int32)), (.int (108 : Int32)), (.int (45 : Int32)), (.int (114 : Int32)), (.int (101 : Int32)), (.int (115 : Int32)), (.int (101 : Int32)), (.int (114 : Int32)), (.int (118 : Int32)), (.int (101 : Int32))]) (z := (18 : Int32)) (by decide +kernel) (by decide) rfl (g := (mkF m 0 #[.val (.int p0), .val (.int p1), .val (.int p2), .unset, .unset, .unset, .unset, .unset, .unset, .unset, .unset, .unset, .unset] [])) rfl (hb hby at_0) (n := 72) (by decide +kernel) (by decide) (by decide) (by decide)
  refine Go.st st1 ?_
  have K1 : Keep h0 h1 [] := (Keep.refl h0 []).ext E1
  have O1 := X00.ext E1
  have CR1 := CR0.trans hCR1
  show Go p.tables e below P (T1.setTop (mkF m 2 #[.val (.int p0), .val (.int p1), .val (.int p2), .unset, .unset, .unset, .unset, .unset, .unset, .unset, .unset, .unset, .unset] [(.ref a1)]))
  refine Go.st (fun _ => XS.astoreN X1.here hx rfl (hb hby at_2) rfl rfl (l' := #[.val (.int p0), .val (.int p1), .val (.int p2), .val (.ref a1), .unset, .unset, .unset, .unset, .unset, .unset, .unset, .unset, .unset]) rfl) ?_
  show Go p.tables e below P (T1.setTop (mkF m 3 #[.val (.int p0), .val (.int p1), .val (.int p2), .val (.ref a1), .unset, .unset, .unset, .unset, .unset, .unset, .unset, .unset, .unset] []))
  refine Go.st (fun _ => XS.iloadN X1.here hx rfl (hb hby at_3) rfl) ?_
  show Go p.tables e below P (T1.setTop (mkF m 4 #[.val (.int p0), .val (.int p1), .val (.int p2), .val (.ref a1), .unset, .unset, .unset, .unset, .unset, .unset, .unset, .unset, .unset] [(.int p0)]))
  refine Go.st (fun _ => X1.ldcInt hx hown1 (mvT hZ1 (ow hw 8 rfl)) (g := (mkF m 4 #[.val (.int p0), .val (.int p1), .val (.int p2), .val (.ref a1), .unset, .unset, .unset, .unset, .unset, .unset, .unset, .unset, .unset] [(.int p0)])) rfl (hb hby at_4) _) ?_
  show Go p.tables e below P (T1.setTop (mkF m 6 #[.val (.int p0), .val (.int p1), .val (.int p2), .val (.ref a1), .unset, .unset, .unset, .unset, .unset, .unset, .unset, .unset, .unset] [(.int (2147483647 : Int32)), (.int p0)]))
  refine Go.st (fun _ => XS.iand X1.here hx rfl (hb hby at_6) rfl) ?_
  show Go p.tables e below P (T1.setTop (mkF m 7 #[.val (.int p0), .val (.int p1), .val (.int p2), .val (.ref a1), .unset, .unset, .unset, .unset, .unset, .unset, .unset, .unset, .unset] [(.int (p0 &&& (2147483647 : Int32)))]))
  refine Go.st (fun _ => XS.iconst X1.here hx rfl (hb hby at_7)) ?_
  show Go p.tables e below P (T1.setTop (mkF m 8 #[.val (.int p0), .val (.int p1), .val (.int p2), .val (.ref a1), .unset, .unset, .unset, .unset, .unset, .unset, .unset, .unset, .unset] [(.int (5 : Int32)), (.int (p0 &&& (2147483647 : Int32)))]))
  refine Go.st (fun _ => iremM (g := (mkF m 8 #[.val (.int p0), .val (.int p1), .val (.int p2), .val (.ref a1), .unset, .unset, .unset, .unset, .unset, .unset, .unset, .unset, .unset] [(.int (5 : Int32)), (.int (p0 &&& (2147483647 : Int32)))])) X1 hx rfl (hb hby at_8) rfl (by decide)) ?_
  show Go p.tables e below P (T1.setTop (mkF m 9 #[.val (.int p0), .val (.int p1), .val (.int p2), .val (.ref a1), .unset, .unset, .unset, .unset, .unset, .unset, .unset, .unset, .unset] [(.int ((p0 &&& (2147483647 : Int32)) % (5 : Int32)))]))
  refine Go.st (fun _ => XS.istore X1.here hx rfl (hb hby at_9) rfl (l' := #[.val (.int p0), .val (.int p1), .val (.int p2), .val (.ref a1), .val (.int ((p0 &&& (2147483647 : Int32)) % (5 : Int32))), .unset, .unset, .unset, .unset, .unset, .unset, .unset, .unset]) rfl) ?_
  show Go p.tables e below P (T1.setTop (mkF m 11 #[.val (.int p0), .val (.int p1), .val (.int p2), .val (.ref a1), .val (.int ((p0 &&& (2147483647 : Int32)) % (5 : Int32))), .unset, .unset, .unset, .unset, .unset, .unset, .unset, .unset] []))
  refine Go.st (fun _ => XS.iloadN X1.here hx rfl (hb hby at_11) rfl) ?_
  show Go p.tables e below P (T1.setTop (mkF m 12 #[.val (.int p0), .val (.int p1), .val (.int p2), .val (.ref a1), .val (.int ((p0 &&& (2147483647 : Int32)) % (5 : Int32))), .unset, .unset, .unset, .unset, .unset, .unset, .unset, .unset] [(.int p1)]))
  refine Go.st (fun _ => X1.ldcInt hx hown1 (mvT hZ1 (ow hw 8 rfl)) (g := (mkF m 12 #[.val (.int p0), .val (.int p1), .val (.int p2), .val (.ref a1), .val (.int ((p0 &&& (2147483647 : Int32)) % (5 : Int32))), .unset, .unset, .unset, .unset, .unset, .unset, .unset, .unset] [(.int p1)])) rfl (hb hby at_12) _) ?_
  show Go p.tables e below P (T1.setTop (mkF m 14 #[.val (.int p0), .val (.int p1), .val (.int p2), .val (.ref a1), .val (.int ((p0 &&& (2147483647 : Int32)) % (5 : Int32))), .unset, .unset, .unset, .unset, .unset, .unset, .unset, .unset] [(.int (2147483647 : Int32)), (.int p1)]))
  refine Go.st (fun _ => XS.iand X1.here hx rfl (hb hby at_14) rfl) ?_
  show Go p.tables e below P (T1.setTop (mkF m 15 #[.val (.int p0), .val (.int p1), .val (.int p2), .val (.ref a1), .val (.int ((p0 &&& (2147483647 : Int32)) % (5 : Int32))), .unset, .unset, .unset, .unset, .unset, .unset, .unset, .unset] [(.int (p1 &&& (2147483647 : Int32)))]))
  refine Go.st (fun _ => XS.bipush X1.here hx rfl (hb hby at_15)) ?_
  show Go p.tables e below P (T1.setTop (mkF m 17 #[.val (.int p0), .val (.int p1), .val (.int p2), .val (.ref a1), .val (.int ((p0 &&& (2147483647 : Int32)) % (5 : Int32))), .unset, .unset, .unset, .unset, .unset, .unset, .unset, .unset] [(.int (18 : Int32)), (.int (p1 &&& (2147483647 : Int32)))]))
  refine Go.st (fun _ => iremM (g := (mkF m 17 #[.val (.int p0), .val (.int p1), .val (.int p2), .val (.ref a1), .val (.int ((p0 &&& (2147483647 : Int32)) % (5 : Int32))), .unset, .unset, .unset, .unset, .unset, .unset, .unset, .unset] [(.int (18 : Int32)), (.int (p1 &&& (2147483647 : Int32)))])) X1 hx rfl (hb hby at_17) rfl (by decide)) ?_
  show Go p.tables e below P (T1.setTop (mkF m 18 #[.val (.int p0), .val (.int p1), .val (.int p2), .val (.ref a1), .val (.int ((p0 &&& (2147483647 : Int32)) % (5 : Int32))), .unset, .unset, .unset, .unset, .unset, .unset, .unset, .unset] [(.int ((p1 &&& (2147483647 : Int32)) % (18 : Int32)))]))
  have hjp0 := own_rem18 p1
  obtain ⟨jp, he_jp⟩ : ∃ z : Int32, z = ((p1 &&& (2147483647 : Int32)) % (18 : Int32)) := ⟨_, rfl⟩
  rw [← he_jp]
  show Go p.tables e below P (T1.setTop (mkF m 18 #[.val (.int p0), .val (.int p1), .val (.int p2), .val (.ref a1), .val (.int ((p0 &&& (2147483647 : Int32)) % (5 : Int32))), .unset, .unset, .unset, .unset, .unset, .unset, .unset, .unset] [(.int jp)]))
  have hjp : (¬ jp < 0 ∧ jp < 18) ∧ jp.toNatClampNeg < 18 := by rw [he_jp]; exact hjp0
  have J2 : ∀ (Tj2 : State) (hj2 : Heap) (Lj2 : List Loc) (vmj2 : Vm) (kj2 : Nat) (Xj2 : Stand p l e room_1 (s.setVm vmj2) m #[(.int p0), (.int p1), (.int p2)] below meth c Tj2 Lj2 7 153) (ej2 : Tj2.heap = hj2) (Kj2 : Keep h0 hj2 []) (Oj2 : Old Z n0 hj2) (Nj2 : Fr n0 Lj2) (hSj2 : s.Since vmj2 kj2) (hkj2 : kj2 ≤ hj2.size) (hZj2 : Z.Warmed39 (s.setVm vmj2).vm) (hownj2 : (s.setVm vmj2).vm.findClass "com/example/tidewall/tidewall/ledger/BusinessCalendarByIdPinLaw" = some m.cls) (CRj2 : CHr Z consts_1 s.vm h0 vmj2 hj2) (ja : Addr) (jb : Addr) (jc : Addr) (js : Addr) (jx : Int32) (jcs : List Int32) (jv : Addr) (jk : ClassId) (hjE : Exa Z hj2 js "java/lang/String") (hjC : Fld Z hj2 js "java/lang/String" "coder" "B" (.int (0 : Int32))) (hjV : Fld Z hj2 js "java/lang/String" "value" "[B" (.ref jv)) (hjA : Arv Z hj2 jv jk .byte (Int32.ofNat jcs.length) ((jcs.map StrChars.lo8).map Value.int) (.int (0 : Int32))) (hpcj : ∀ c ∈ jcs, ¬ c < 0 ∧ ¬ (255 : Int32) < c) (hlej : jcs.length ≤ 4000) (hrel : ((jx = 1 ∧ ([(117 : Int32), (115 : Int32), (45 : Int32), (102 : Int32), (101 : Int32), (100 : Int32), (101 : Int32), (114 : Int32), (97 : Int32), (108 : Int32), (45 : Int32), (114 : Int32), (101 : Int32), (115 : Int32), (101 : Int32), (114 : Int32), (118 : Int32), (101 : Int32)] : List Int32) = jcs) ∨ (jx = 0 ∧ ¬ (([(117 : Int32), (115 : Int32), (45 : Int32), (102 : Int32), (101 : Int32), (100 : Int32), (101 : Int32), (114 : Int32), (97 : Int32), (108 : Int32), (45 : Int32), (114 : Int32), (101 : Int32), (115 : Int32), (101 : Int32), (114 : Int32), (118 : Int32), (101 : Int32)] : List Int32) = jcs)))), Go p.tables e below P (Tj2.setTop (mkF m 475 #[.val (.int p0), .val (.int p1), .val (.int p2), .val (.ref a1), .val (.int ((p0 &&& (2147483647 : Int32)) % (5 : Int32))), .val (.int jp), .val (.int (p2 &&& (255 : Int32))), .val (.ref ja), .val (.ref jb), .val (.ref jc), .val (.ref js), .val (.int jx), .unset] [])) := by
    intro Tj2 hj2 Lj2 vmj2 kj2 Xj2 ej2 Kj2 Oj2 Nj2 hSj2 hkj2 hZj2 hownj2 CRj2 ja jb jc js jx jcs jv jk hjE hjC hjV hjA hpcj hlej hrel
    show Go p.tables e below P (Tj2.setTop (mkF m 475 #[.val (.int p0), .val (.int p1), .val (.int p2), .val (.ref a1), .val (.int ((p0 &&& (2147483647 : Int32)) % (5 : Int32))), .val (.int jp), .val (.int (p2 &&& (255 : Int32))), .val (.ref ja), .val (.ref jb), .val (.ref jc), .val (.ref js), .val (.int jx), .unset] []))
    rcases hrel with ⟨rfl, hcs⟩ | ⟨rfl, hcs⟩
    · skip
      show Go p.tables e below P (Tj2.setTop (mkF m 475 #[.val (.int p0), .val (.int p1), .val (.int p2), .val (.ref a1), .val (.int ((p0 &&& (2147483647 : Int32)) % (5 : Int32))), .val (.int jp), .val (.int (p2 &&& (255 : Int32))), .val (.ref ja), .val (.ref jb), .val (.ref jc), .val (.ref js), .val (.int (1 : Int32)), .unset] []))
      refine Go.st (fun _ => XS.aload Xj2.here hx rfl (hb hby at_475) rfl rfl) ?_
      show Go p.tables e below P (Tj2.setTop (mkF m 477 #[.val (.int p0), .val (.int p1), .val (.int p2), .val (.ref a1), .val (.int ((p0 &&& (2147483647 : Int32)) % (5 : Int32))), .val (.int jp), .val (.int (p2 &&& (255 : Int32))), .val (.ref ja), .val (.ref jb), .val (.ref jc), .val (.ref js), .val (.int (1 : Int32)), .unset] [(.ref js)]))
      obtain ⟨_, _, ⟨T3, L3, k3, n3⟩, -, X3, ⟨Lc3, hQ3, l3, y3, z3⟩, st3⟩ := Jvm.LawKit.callS Xj2 hx (y := (⟨"com/example/tidewall/tidewall/ledger/BusinessCalendar", "byId", "(Ljava/lang/String;)Ljava/util/Optional;"⟩ : MethodName)) hownj2 (mvT hZj2 (ow hw 34 rfl)) (mvT hZj2 (ow hw 35 rfl)) (mvT hZj2 (ow hw 36 rfl)) (mvT hZj2 (ow hw 37 rfl)) (by decide) (backOf (W := 0) (rm_byt l Z a0 hw [] w_US X_US w_V k_V S_V X_V V_V S_UF w_ID F_ID X_ID I_ID_coder w_IB k_IB F_IB V_IB w_OE S_OE X_OE I_OE_value g_CS S_CS nz_CS g_SF S_SF r_SF js jcs jv jk hj2 n0 Oj2 hjE hjC hjV hjA hpcj hlej hcs) hZj2 (ow hw 37 rfl) (ow hw 36 rfl) (by decide) (by decide)) (g := (mkF m 477 #[.val (.int p0), .val (.int p1), .val (.int p2), .val (.ref a1), .val (.int ((p0 &&& (2147483647 : Int32)) % (5 : Int32))), .val (.int jp), .val (.int (p2 &&& (255 : Int32))), .val (.ref ja), .val (.ref jb), .val (.ref jc), .val (.ref js), .val (.int (1 : Int32)), .unset] [(.ref js)])) rfl (by rw [hml]; rfl) (argsL := [(.ref js)]) (rest := []) (lenOf own_pd9 rfl) rfl (by show 2 * 0 + _ ≤ _; exact Nat.le_of_eq rfl) (hb hby at_477) (fun _ _ => ⟨rfl, ej2, (by decide : 7 + 2 ≤ _), (by decide : 153 + 2 ≤ _)⟩)
      dsimp only [Pt.U, Pt.locs, Pt.cells, Pt.slots] at X3 l3 y3 z3 st3 hQ3
      subst y3 z3
      refine Go.st st3 ?_
      obtain ⟨ob_4, rfl, N3q, K3q, q3_0, q3_1, q3_2⟩ := hQ3
      have N3 : Fr n0 L3 := by rw [l3]; exact Fr.app Nj2 N3q
      have O3 := Oj2.keep K3q all0
      have K3 : Keep h0 T3.heap [] := Kj2.trans K3q all0
      have CR3 := CRj2.trans (CHr.keep K3q sf0 CRj2.1)
      have sz_ob_4 : h0.size ≤ ob_4 := Nat.le_trans Kj2.1 q3_0
      have g_ob_4 : n0 ≤ ob_4 := Nat.le_trans (own_oldsz X00) sz_ob_4
      show Go p.tables e below P (T3.setTop (mkF m 480 #[.val (.int p0), .val (.int p1), .val (.int p2), .val (.ref a1), .val (.int ((p0 &&& (2147483647 : Int32)) % (5 : Int32))), .val (.int jp), .val (.int (p2 &&& (255 : Int32))), .val (.ref ja), .val (.ref jb), .val (.ref jc), .val (.ref js), .val (.int (1 : Int32)), .unset] [(.ref ob_4)]))
      refine Go.st (fun _ => XS.astore X3.here hx rfl (hb hby at_480) rfl rfl (l' := #[.val (.int p0), .val (.int p1), .val (.int p2), .val (.ref a1), .val (.int ((p0 &&& (2147483647 : Int32)) % (5 : Int32))), .val (.int jp), .val (.int (p2 &&& (255 : Int32))), .val (.ref ja), .val (.ref jb), .val (.ref jc), .val (.ref js), .val (.int (1 : Int32)), .val (.ref ob_4)]) rfl) ?_
      show Go p.tables e below P (T3.setTop (mkF m 482 #[.val (.int p0), .val (.int p1), .val (.int p2), .val (.ref a1), .val (.int ((p0 &&& (2147483647 : Int32)) % (5 : Int32))), .val (.int jp), .val (.int (p2 &&& (255 : Int32))), .val (.ref ja), .val (.ref jb), .val (.ref jc), .val (.ref js), .val (.int (1 : Int32)), .val (.ref ob_4)] []))
      refine Go.st (fun _ => XS.iload X3.here hx rfl (hb hby at_482) rfl) ?_
      show Go p.tables e below P (T3.setTop (mkF m 484 #[.val (.int p0), .val (.int p1), .val (.int p2), .val (.ref a1), .val (.int ((p0 &&& (2147483647 : Int32)) % (5 : Int32))), .val (.int jp), .val (.int (p2 &&& (255 : Int32))), .val (.ref ja), .val (.ref jb), .val (.ref jc), .val (.ref js), .val (.int (1 : Int32)), .val (.ref ob_4)] [(.int (1 : Int32))]))
      refine Go.st (fun _ => XS.ifYes X3.here hx rfl (pc0 := 484) (pc' := 501) rfl (hb hby at_484) rfl ((if0 _ _).trans (feq (by decide)).2) (by decide) (by decide)) ?_
      show Go p.tables e below P (T3.setTop (mkF m 501 #[.val (.int p0), .val (.int p1), .val (.int p2), .val (.ref a1), .val (.int ((p0 &&& (2147483647 : Int32)) % (5 : Int32))), .val (.int jp), .val (.int (p2 &&& (255 : Int32))), .val (.ref ja), .val (.ref jb), .val (.ref jc), .val (.ref js), .val (.int (1 : Int32)), .val (.ref ob_4)] []))
      refine Go.st (fun _ => XS.aload X3.here hx rfl (hb hby at_501) rfl rfl) ?_
      show Go p.tables e below P (T3.setTop (mkF m 503 #[.val (.int p0), .val (.int p1), .val (.int p2), .val (.ref a1), .val (.int ((p0 &&& (2147483647 : Int32)) % (5 : Int32))), .val (.int jp), .val (.int (p2 &&& (255 : Int32))), .val (.ref ja), .val (.ref jb), .val (.ref jc), .val (.ref js), .val (.int (1 : Int32)), .val (.ref ob_4)] [(.ref ob_4)]))
      obtain ⟨cq5, kq5, q5a, q5b, q5c⟩ := isOf hZj2 rfl q3_1
      obtain ⟨_, _, ⟨T5, L5, k5, n5⟩, -, X5, ⟨Lc5, hQ5, l5, y5, z5⟩, st5⟩ := X3.virtualBack hx (y := (⟨"java/util/Optional", "isPresent", "()Z"⟩ : MethodName)) (z := (⟨"java/util/Optional", "isPresent", "()Z"⟩ : MethodName)) hownj2 (mvT hZj2 (ow hw 82 rfl)) (mvT hZj2 (ow hw 83 rfl)) (notFace_of_selects (args := #[]) (mvT hZj2 (ow hw 85 rfl))) (mvT hZj2 (ow hw 85 rfl)) (mvT hZj2 (ow hw 84 rfl)) (by decide) (backOf (W := 0) (rm_ip1 l Z a0 hw [] w_US X_US w_V k_V S_V X_V V_V S_UF w_ID F_ID X_ID I_ID_coder w_IB k_IB F_IB V_IB w_OE S_OE X_OE I_OE_value g_CS S_CS nz_CS g_SF S_SF r_SF ob_4 w_US T3.heap n0 O3 q3_2) hZj2 (ow hw 86 rfl) (ow hw 67 rfl) (by decide) (by decide)) q5a q5c (g := (mkF m 503 #[.val (.int p0), .val (.int p1), .val (.int p2), .val (.ref a1), .val (.int ((p0 &&& (2147483647 : Int32)) % (5 : Int32))), .val (.int jp), .val (.int (p2 &&& (255 : Int32))), .val (.ref ja), .val (.ref jb), .val (.ref jc), .val (.ref js), .val (.int (1 : Int32)), .val (.ref ob_4)] [(.ref ob_4)])) rfl (by rw [hml]; rfl) (Steps.refl _) (argsL := []) (rest := []) (lenOf own_pd10 rfl) rfl (by show 2 * 0 + _ ≤ _; exact Nat.le_of_eq rfl) (hb hby at_503) (fun _ _ => ⟨rfl, rfl, (by decide : 9 + 0 ≤ _), (by decide : 155 + 0 ≤ _)⟩)
      dsimp only [Pt.U, Pt.locs, Pt.cells, Pt.slots] at X5 l5 y5 z5 st5 hQ5
      subst y5 z5
      refine Go.tr st5 ?_
      obtain ⟨rfl, N5q, e5⟩ := hQ5
      have N5 : Fr n0 L5 := by rw [l5]; exact Fr.app N3 N5q
      show Go p.tables e below P (T5.setTop (mkF m 506 #[.val (.int p0), .val (.int p1), .val (.int p2), .val (.ref a1), .val (.int ((p0 &&& (2147483647 : Int32)) % (5 : Int32))), .val (.int jp), .val (.int (p2 &&& (255 : Int32))), .val (.ref ja), .val (.ref jb), .val (.ref jc), .val (.ref js), .val (.int (1 : Int32)), .val (.ref ob_4)] [(.int (1 : Int32))]))
      refine Go.st (fun _ => XS.ifNo X5.here hx rfl (hb hby at_506) rfl ((if0 _ _).trans (feq (by decide)).1)) ?_
      show Go p.tables e below P (T5.setTop (mkF m 509 #[.val (.int p0), .val (.int p1), .val (.int p2), .val (.ref a1), .val (.int ((p0 &&& (2147483647 : Int32)) % (5 : Int32))), .val (.int jp), .val (.int (p2 &&& (255 : Int32))), .val (.ref ja), .val (.ref jb), .val (.ref jc), .val (.ref js), .val (.int (1 : Int32)), .val (.ref ob_4)] []))
      refine Go.st (fun _ => XS.aload X5.here hx rfl (hb hby at_509) rfl rfl) ?_
      show Go p.tables e below P (T5.setTop (mkF m 511 #[.val (.int p0), .val (.int p1), .val (.int p2), .val (.ref a1), .val (.int ((p0 &&& (2147483647 : Int32)) % (5 : Int32))), .val (.int jp), .val (.int (p2 &&& (255 : Int32))), .val (.ref ja), .val (.ref jb), .val (.ref jc), .val (.ref js), .val (.int (1 : Int32)), .val (.ref ob_4)] [(.ref ob_4)]))
      obtain ⟨cq6, kq6, q6a, q6b, q6c⟩ := isOf hZj2 e5 q3_1
      obtain ⟨_, _, ⟨T6, L6, k6, n6⟩, -, X6, ⟨Lc6, hQ6, l6, y6, z6⟩, st6⟩ := X5.virtualBack hx (y := (⟨"java/util/Optional", "get", "()Ljava/lang/Object;"⟩ : MethodName)) (z := (⟨"java/util/Optional", "get", "()Ljava/lang/Object;"⟩ : MethodName)) hownj2 (mvT hZj2 (ow hw 87 rfl)) (mvT hZj2 (ow hw 88 rfl)) (notFace_of_selects (args := #[]) (mvT hZj2 (ow hw 90 rfl))) (mvT hZj2 (ow hw 90 rfl)) (mvT hZj2 (ow hw 89 rfl)) (by decide) (backOf (W := 0) (rm_oget l Z a0 hw [] w_US X_US w_V k_V S_V X_V V_V S_UF w_ID F_ID X_ID I_ID_coder w_IB k_IB F_IB V_IB w_OE S_OE X_OE I_OE_value g_CS S_CS nz_CS g_SF S_SF r_SF ob_4 w_US T3.heap n0 O3 q3_2) hZj2 (ow hw 91 rfl) (ow hw 67 rfl) (by decide) (by decide)) q6a q6c (g := (mkF m 511 #[.val (.int p0), .val (.int p1), .val (.int p2), .val (.ref a1), .val (.int ((p0 &&& (2147483647 : Int32)) % (5 : Int32))), .val (.int jp), .val (.int (p2 &&& (255 : Int32))), .val (.ref ja), .val (.ref jb), .val (.ref jc), .val (.ref js), .val (.int (1 : Int32)), .val (.ref ob_4)] [(.ref ob_4)])) rfl (by rw [hml]; rfl) (Steps.refl _) (argsL := []) (rest := []) (lenOf own_pd11 rfl) rfl (by show 2 * 0 + _ ≤ _; exact Nat.le_of_eq rfl) (hb hby at_511) (fun _ _ => ⟨rfl, e5, (by decide : 9 + 0 ≤ _), (by decide : 155 + 0 ≤ _)⟩)
      dsimp only [Pt.U, Pt.locs, Pt.cells, Pt.slots] at X6 l6 y6 z6 st6 hQ6
      subst y6 z6
      refine Go.tr st6 ?_
      obtain ⟨rfl, N6q, e6⟩ := hQ6
      have N6 : Fr n0 L6 := by rw [l6]; exact Fr.app N5 N6q
      show Go p.tables e below P (T6.setTop (mkF m 514 #[.val (.int p0), .val (.int p1), .val (.int p2), .val (.ref a1), .val (.int ((p0 &&& (2147483647 : Int32)) % (5 : Int32))), .val (.int jp), .val (.int (p2 &&& (255 : Int32))), .val (.ref ja), .val (.ref jb), .val (.ref jc), .val (.ref js), .val (.int (1 : Int32)), .val (.ref ob_4)] [(.ref w_US)]))
      obtain ⟨T7, X7, e7, st7⟩ := getS2 X6 hx hZj2 hownj2 (host := "") (Or.inl (ow hw 92 rfl)) Via.refl e6 (S_UF.ext O3.2) (g := (mkF m 514 #[.val (.int p0), .val (.int p1), .val (.int p2), .val (.ref a1), .val (.int ((p0 &&& (2147483647 : Int32)) % (5 : Int32))), .val (.int jp), .val (.int (p2 &&& (255 : Int32))), .val (.ref ja), .val (.ref jb), .val (.ref jc), .val (.ref js), .val (.int (1 : Int32)), .val (.ref ob_4)] [(.ref w_US)])) rfl (hb hby at_514)
      refine Go.st st7 ?_
      show Go p.tables e below P (T7.setTop (mkF m 517 #[.val (.int p0), .val (.int p1), .val (.int p2), .val (.ref a1), .val (.int ((p0 &&& (2147483647 : Int32)) % (5 : Int32))), .val (.int jp), .val (.int (p2 &&& (255 : Int32))), .val (.ref ja), .val (.ref jb), .val (.ref jc), .val (.ref js), .val (.int (1 : Int32)), .val (.ref ob_4)] [(.ref w_US), (.ref w_US)]))
      refine Go.st (fun _ => Jvm.RoadKit.acmp (g := (mkF m 517 #[.val (.int p0), .val (.int p1), .val (.int p2), .val (.ref a1), .val (.int ((p0 &&& (2147483647 : Int32)) % (5 : Int32))), .val (.int jp), .val (.int (p2 &&& (255 : Int32))), .val (.ref ja), .val (.ref jb), .val (.ref jc), .val (.ref js), .val (.int (1 : Int32)), .val (.ref ob_4)] [(.ref w_US), (.ref w_US)])) X7 hx rfl rfl rfl (pc0 := 517) (pc' := 520) (same := true) rfl (hb hby at_517) rfl (decide_eq_true rfl) (by decide) (by decide)) ?_
      show Go p.tables e below P (T7.setTop (mkF m 520 #[.val (.int p0), .val (.int p1), .val (.int p2), .val (.ref a1), .val (.int ((p0 &&& (2147483647 : Int32)) % (5 : Int32))), .val (.int jp), .val (.int (p2 &&& (255 : Int32))), .val (.ref ja), .val (.ref jb), .val (.ref jc), .val (.ref js), .val (.int (1 : Int32)), .val (.ref ob_4)] []))
      refine Go.st (fun _ => XS.aload X7.here hx rfl (hb hby at_520) rfl rfl) ?_
      show Go p.tables e below P (T7.setTop (mkF m 522 #[.val (.int p0), .val (.int p1), .val (.int p2), .val (.ref a1), .val (.int ((p0 &&& (2147483647 : Int32)) % (5 : Int32))), .val (.int jp), .val (.int (p2 &&& (255 : Int32))), .val (.ref ja), .val (.ref jb), .val (.ref jc), .val (.ref js), .val (.int (1 : Int32)), .val (.ref ob_4)] [(.ref ob_4)]))
      obtain ⟨cq8, kq8, q8a, q8b, q8c⟩ := isOf hZj2 e7 q3_1
      obtain ⟨_, _, ⟨T8, L8, k8, n8⟩, -, X8, ⟨Lc8, hQ8, l8, y8, z8⟩, st8⟩ := X7.virtualBack hx (y := (⟨"java/util/Optional", "get", "()Ljava/lang/Object;"⟩ : MethodName)) (z := (⟨"java/util/Optional", "get", "()Ljava/lang/Object;"⟩ : MethodName)) hownj2 (mvT hZj2 (ow hw 87 rfl)) (mvT hZj2 (ow hw 88 rfl)) (notFace_of_selects (args := #[]) (mvT hZj2 (ow hw 90 rfl))) (mvT hZj2 (ow hw 90 rfl)) (mvT hZj2 (ow hw 89 rfl)) (by decide) (backOf (W := 0) (rm_oget l Z a0 hw [] w_US X_US w_V k_V S_V X_V V_V S_UF w_ID F_ID X_ID I_ID_coder w_IB k_IB F_IB V_IB w_OE S_OE X_OE I_OE_value g_CS S_CS nz_CS g_SF S_SF r_SF ob_4 w_US T3.heap n0 O3 q3_2) hZj2 (ow hw 91 rfl) (ow hw 67 rfl) (by decide) (by decide)) q8a q8c (g := (mkF m 522 #[.val (.int p0), .val (.int p1), .val (.int p2), .val (.ref a1), .val (.int ((p0 &&& (2147483647 : Int32)) % (5 : Int32))), .val (.int jp), .val (.int (p2 &&& (255 : Int32))), .val (.ref ja), .val (.ref jb), .val (.ref jc), .val (.ref js), .val (.int (1 : Int32)), .val (.ref ob_4)] [(.ref ob_4)])) rfl (by rw [hml]; rfl) (Steps.refl _) (argsL := []) (rest := []) (lenOf own_pd11 rfl) rfl (by show 2 * 0 + _ ≤ _; exact Nat.le_of_eq rfl) (hb hby at_522) (fun _ _ => ⟨rfl, e7, (by decide : 9 + 0 ≤ _), (by decide : 155 + 0 ≤ _)⟩)
      dsimp only [Pt.U, Pt.locs, Pt.cells, Pt.slots] at X8 l8 y8 z8 st8 hQ8
      subst y8 z8
      refine Go.tr st8 ?_
      obtain ⟨rfl, N8q, e8⟩ := hQ8
      have N8 : Fr n0 L8 := by rw [l8]; exact Fr.app N6 N8q
      show Go p.tables e below P (T8.setTop (mkF m 525 #[.val (.int p0), .val (.int p1), .val (.int p2), .val (.ref a1), .val (.int ((p0 &&& (2147483647 : Int32)) % (5 : Int32))), .val (.int jp), .val (.int (p2 &&& (255 : Int32))), .val (.ref ja), .val (.ref jb), .val (.ref jc), .val (.ref js), .val (.int (1 : Int32)), .val (.ref ob_4)] [(.ref w_US)]))
      obtain ⟨T9, X9, e9, st9⟩ := castY X8 hx hZj2 hownj2 (ow hw 94 rfl) e8 (Ins.of_exa (X_US.ext O3.2) (ow hw 95 rfl)) (g := (mkF m 525 #[.val (.int p0), .val (.int p1), .val (.int p2), .val (.ref a1), .val (.int ((p0 &&& (2147483647 : Int32)) % (5 : Int32))), .val (.int jp), .val (.int (p2 &&& (255 : Int32))), .val (.ref ja), .val (.ref jb), .val (.ref jc), .val (.ref js), .val (.int (1 : Int32)), .val (.ref ob_4)] [(.ref w_US)])) rfl rfl (hb hby at_525)
      refine Go.st st9 ?_
      show Go p.tables e below P (T9.setTop (mkF m 528 #[.val (.int p0), .val (.int p1), .val (.int p2), .val (.ref a1), .val (.int ((p0 &&& (2147483647 : Int32)) % (5 : Int32))), .val (.int jp), .val (.int (p2 &&& (255 : Int32))), .val (.ref ja), .val (.ref jb), .val (.ref jc), .val (.ref js), .val (.int (1 : Int32)), .val (.ref ob_4)] [(.ref w_US)]))
      obtain ⟨cq10, kq10, q10a, q10b, q10c⟩ := isOf hZj2 e9 (X_US.ext O3.2)
      obtain ⟨_, _, ⟨T10, L10, k10, n10⟩, -, X10, ⟨Lc10, hQ10, l10, y10, z10⟩, st10⟩ := X9.virtualBack hx (y := (⟨"com/example/tidewall/tidewall/ledger/BusinessCalendar", "id", "()Ljava/lang/String;"⟩ : MethodName)) (z := (⟨"com/example/tidewall/tidewall/ledger/BusinessCalendar", "id", "()Ljava/lang/String;"⟩ : MethodName)) hownj2 (mvT hZj2 (ow hw 96 rfl)) (mvT hZj2 (ow hw 97 rfl)) (notFace_of_selects (args := #[]) (mvT hZj2 (ow hw 99 rfl))) (mvT hZj2 (ow hw 99 rfl)) (mvT hZj2 (ow hw 98 rfl)) (by decide) (backOf (W := 0) (rm_gid l Z a0 hw [] w_US X_US w_V k_V S_V X_V V_V S_UF w_ID F_ID X_ID I_ID_coder w_IB k_IB F_IB V_IB w_OE S_OE X_OE I_OE_value g_CS S_CS nz_CS g_SF S_SF r_SF T3.heap n0 O3 ) hZj2 (ow hw 100 rfl) (ow hw 36 rfl) (by decide) (by decide)) q10a q10c (g := (mkF m 528 #[.val (.int p0), .val (.int p1), .val (.int p2), .val (.ref a1), .val (.int ((p0 &&& (2147483647 : Int32)) % (5 : Int32))), .val (.int jp), .val (.int (p2 &&& (255 : Int32))), .val (.ref ja), .val (.ref jb), .val (.ref jc), .val (.ref js), .val (.int (1 : Int32)), .val (.ref ob_4)] [(.ref w_US)])) rfl (by rw [hml]; rfl) (Steps.refl _) (argsL := []) (rest := []) (lenOf own_pd12 rfl) rfl (by show 2 * 0 + _ ≤ _; exact Nat.le_of_eq rfl) (hb hby at_528) (fun _ _ => ⟨rfl, e9, (by decide : 9 + 0 ≤ _), (by decide : 155 + 0 ≤ _)⟩)
      dsimp only [Pt.U, Pt.locs, Pt.cells, Pt.slots] at X10 l10 y10 z10 st10 hQ10
      subst y10 z10
      refine Go.tr st10 ?_
      obtain ⟨rfl, N10q, e10⟩ := hQ10
      have N10 : Fr n0 L10 := by rw [l10]; exact Fr.app N8 N10q
      show Go p.tables e below P (T10.setTop (mkF m 531 #[.val (.int p0), .val (.int p1), .val (.int p2), .val (.ref a1), .val (.int ((p0 &&& (2147483647 : Int32)) % (5 : Int32))), .val (.int jp), .val (.int (p2 &&& (255 : Int32))), .val (.ref ja), .val (.ref jb), .val (.ref jc), .val (.ref js), .val (.int (1 : Int32)), .val (.ref ob_4)] [(.ref w_ID)]))
      refine Go.st (fun _ => XS.aload X10.here hx rfl (hb hby at_531) rfl rfl) ?_
      show Go p.tables e below P (T10.setTop (mkF m 533 #[.val (.int p0), .val (.int p1), .val (.int p2), .val (.ref a1), .val (.int ((p0 &&& (2147483647 : Int32)) % (5 : Int32))), .val (.int jp), .val (.int (p2 &&& (255 : Int32))), .val (.ref ja), .val (.ref jb), .val (.ref jc), .val (.ref js), .val (.int (1 : Int32)), .val (.ref ob_4)] [(.ref js), (.ref w_ID)]))
      have hcd11 : StrChars.Road.CodA ([(117 : Int32), (115 : Int32), (45 : Int32), (102 : Int32), (101 : Int32), (100 : Int32), (101 : Int32), (114 : Int32), (97 : Int32), (108 : Int32), (45 : Int32), (114 : Int32), (101 : Int32), (115 : Int32), (101 : Int32), (114 : Int32), (118 : Int32), (101 : Int32)] : List Int32) 0 (18 : Int32) [(.int (117 : Int32)), (.int (115 : Int32)), (.int (45 : Int32)), (.int (102 : Int32)), (.int (101 : Int32)), (.int (100 : Int32)), (.int (101 : Int32)), (.int (114 : Int32)), (.int (97 : Int32)), (.int (108 : Int32)), (.int (45 : Int32)), (.int (114 : Int32)), (.int (101 : Int32)), (.int (115 : Int32)), (.int (101 : Int32)), (.int (114 : Int32)), (.int (118 : Int32)), (.int (101 : Int32))] := StrChars.Road.codOf (n := 18) rfl (fun c hc => ((show ∀ c ∈ ([(117 : Int32), (115 : Int32), (45 : Int32), (102 : Int32), (101 : Int32), (100 : Int32), (101 : Int32), (114 : Int32), (97 : Int32), (108 : Int32), (45 : Int32), (114 : Int32), (101 : Int32), (115 : Int32), (101 : Int32), (114 : Int32), (118 : Int32), (101 : Int32)] : List Int32), ¬ c < 0 ∧ ¬ (255 : Int32) < c by decide) c hc).2)
      have c12 := (hjE.keep K3q)
      have c13 := (hjV.keep K3q nin0)
      have c14 := (hjC.keep K3q nin0)
      have c15 := (hjA.keep K3q nin0)
      have hcd11b : StrChars.Road.CodA jcs 0 (Int32.ofNat jcs.length) ((jcs.map StrChars.lo8).map Value.int) := StrChars.Road.codOf (n := jcs.length) rfl (fun c hc => (hpcj c hc).2)
      obtain ⟨cq11, kq11, q11a, q11b, q11c⟩ := isOf hZj2 e10 (X_ID.ext O3.2)
      obtain ⟨_, _, ⟨T11, L11, k11, n11⟩, -, X11, ⟨Lc11, hQ11, l11, y11, z11⟩, st11⟩ := X10.virtualBack hx (y := (⟨"java/lang/String", "equals", "(Ljava/lang/Object;)Z"⟩ : MethodName)) (z := (⟨"java/lang/String", "equals", "(Ljava/lang/Object;)Z"⟩ : MethodName)) hownj2 (mvT hZj2 (ow hw 101 rfl)) (mvT hZj2 (ow hw 56 rfl)) (notFace_of_selects (args := #[]) (mvT hZj2 (ow hw 58 rfl))) (mvT hZj2 (ow hw 58 rfl)) (mvT hZj2 (ow hw 57 rfl)) (by decide) (StrChars.Road.eqW (W := 0) hZj2 (fun d hd => hw d (own_wEq d hd)) (kI := 4) (ow hw 2 rfl) (X_ID.ext O3.2) (F_IB.ext O3.2) (I_ID_coder.ext O3.2) (V_IB.ext O3.2) hcd11 (own_up _ (show ∀ c ∈ ([(117 : Int32), (115 : Int32), (45 : Int32), (102 : Int32), (101 : Int32), (100 : Int32), (101 : Int32), (114 : Int32), (97 : Int32), (108 : Int32), (45 : Int32), (114 : Int32), (101 : Int32), (115 : Int32), (101 : Int32), (114 : Int32), (118 : Int32), (101 : Int32)] : List Int32), ¬ c < 0 ∧ ¬ (255 : Int32) < c by decide)) (Nat.le_of_ble_eq_true rfl) c12 c13 c14 c15 hcd11b (own_up _ hpcj) hlej (S_CS.ext O3.2) nz_CS (by decide) (by decide)) q11a q11c (g := (mkF m 533 #[.val (.int p0), .val (.int p1), .val (.int p2), .val (.ref a1), .val (.int ((p0 &&& (2147483647 : Int32)) % (5 : Int32))), .val (.int jp), .val (.int (p2 &&& (255 : Int32))), .val (.ref ja), .val (.ref jb), .val (.ref jc), .val (.ref js), .val (.int (1 : Int32)), .val (.ref ob_4)] [(.ref js), (.ref w_ID)])) rfl (by rw [hml]; rfl) (Steps.refl _) (argsL := [(.ref js)]) (rest := []) (lenOf own_pd6 rfl) rfl (by show 2 * 0 + _ ≤ _; exact Nat.le_of_eq rfl) (hb hby at_533) (fun _ _ => ⟨rfl, e10, (by decide : 9 + 0 ≤ _), (by decide : 155 + 0 ≤ _)⟩)
      dsimp only [Pt.U, Pt.locs, Pt.cells, Pt.slots] at X11 l11 y11 z11 st11 hQ11
      subst y11 z11
      refine Go.tr st11 ?_
      obtain ⟨hor11, rfl, e11⟩ := hQ11
      have N11 : Fr n0 L11 := by rw [l11]; exact Fr.app N10 (Fr.nil n0)
      obtain ⟨rfl, heq11⟩ : _ ∧ ([(117 : Int32), (115 : Int32), (45 : Int32), (102 : Int32), (101 : Int32), (100 : Int32), (101 : Int32), (114 : Int32), (97 : Int32), (108 : Int32), (45 : Int32), (114 : Int32), (101 : Int32), (115 : Int32), (101 : Int32), (114 : Int32), (118 : Int32), (101 : Int32)] : List Int32) = jcs := hor11.elim id (fun q => absurd hcs q.2)
      show Go p.tables e below P (T11.setTop (mkF m 536 #[.val (.int p0), .val (.int p1), .val (.int p2), .val (.ref a1), .val (.int ((p0 &&& (2147483647 : Int32)) % (5 : Int32))), .val (.int jp), .val (.int (p2 &&& (255 : Int32))), .val (.ref ja), .val (.ref jb), .val (.ref jc), .val (.ref js), .val (.int (1 : Int32)), .val (.ref ob_4)] [(.int (1 : Int32))]))
      refine Go.st (fun _ => XS.ifNo X11.here hx rfl (hb hby at_536) rfl ((if0 _ _).trans (feq (by decide)).1)) ?_
      show Go p.tables e below P (T11.setTop (mkF m 539 #[.val (.int p0), .val (.int p1), .val (.int p2), .val (.ref a1), .val (.int ((p0 &&& (2147483647 : Int32)) % (5 : Int32))), .val (.int jp), .val (.int (p2 &&& (255 : Int32))), .val (.ref ja), .val (.ref jb), .val (.ref jc), .val (.ref js), .val (.int (1 : Int32)), .val (.ref ob_4)] []))
      refine Go.st (fun _ => XS.iconst X11.here hx rfl (hb hby at_539)) ?_
      show Go p.tables e below P (T11.setTop (mkF m 540 #[.val (.int p0), .val (.int p1), .val (.int p2), .val (.ref a1), .val (.int ((p0 &&& (2147483647 : Int32)) % (5 : Int32))), .val (.int jp), .val (.int (p2 &&& (255 : Int32))), .val (.ref ja), .val (.ref jb), .val (.ref jc), .val (.ref js), .val (.int (1 : Int32)), .val (.ref ob_4)] [(.int (1 : Int32))]))
      refine Go.st (fun _ => XS.goto X11.here hx rfl (pc0 := 540) (pc' := 544) rfl (hb hby at_540) (by decide) (by decide)) ?_
      show Go p.tables e below P (T11.setTop (mkF m 544 #[.val (.int p0), .val (.int p1), .val (.int p2), .val (.ref a1), .val (.int ((p0 &&& (2147483647 : Int32)) % (5 : Int32))), .val (.int jp), .val (.int (p2 &&& (255 : Int32))), .val (.ref ja), .val (.ref jb), .val (.ref jc), .val (.ref js), .val (.int (1 : Int32)), .val (.ref ob_4)] [(.int (1 : Int32))]))
      obtain ⟨fs, hr, hrun, hended, -, hW, hpair, hsame⟩ := X11.leaveW hSj2 (by rw [e11]; exact (Nat.le_trans hkj2 K3q.1)) (v := some (.int (1 : Int32))) (fun h => by rw [Bd.returns] at h; cases h)
      have hCRe := CR3.trans (CHv.at X11 hZj2 hEL CR3.1)
      refine ⟨_, ?_, hPend _ _ hrun hended ⟨_, _, rfl, ?_, ?_, ⟨_, rfl⟩, hW, hpair, hsame.mono (by decide) (by decide)⟩⟩
      · exact retN X11 hx (t := .boolean) Bd.returns (by simp) (hb hby at_544) hr
      · show Q_rm_law Z _ _ _ _ _ _ _ _ _ _ _ _ h0 n0 _ T11.heap _
        rw [e11]
        exact ⟨rfl, N11, K3⟩
      · show CHr Z consts_1 s.vm s.heap T11.vm T11.heap
        rw [hh, e11]
        exact hCRe
    · skip
      show Go p.tables e below P (Tj2.setTop (mkF m 475 #[.val (.int p0), .val (.int p1), .val (.int p2), .val (.ref a1), .val (.int ((p0 &&& (2147483647 : Int32)) % (5 : Int32))), .val (.int jp), .val (.int (p2 &&& (255 : Int32))), .val (.ref ja), .val (.ref jb), .val (.ref jc), .val (.ref js), .val (.int (0 : Int32)), .unset] []))
      refine Go.st (fun _ => XS.aload Xj2.here hx rfl (hb hby at_475) rfl rfl) ?_
      show Go p.tables e below P (Tj2.setTop (mkF m 477 #[.val (.int p0), .val (.int p1), .val (.int p2), .val (.ref a1), .val (.int ((p0 &&& (2147483647 : Int32)) % (5 : Int32))), .val (.int jp), .val (.int (p2 &&& (255 : Int32))), .val (.ref ja), .val (.ref jb), .val (.ref jc), .val (.ref js), .val (.int (0 : Int32)), .unset] [(.ref js)]))
      obtain ⟨_, _, ⟨T16, L16, k16, n16⟩, -, X16, ⟨Lc16, hQ16, l16, y16, z16⟩, st16⟩ := Jvm.LawKit.callS Xj2 hx (y := (⟨"com/example/tidewall/tidewall/ledger/BusinessCalendar", "byId", "(Ljava/lang/String;)Ljava/util/Optional;"⟩ : MethodName)) hownj2 (mvT hZj2 (ow hw 34 rfl)) (mvT hZj2 (ow hw 35 rfl)) (mvT hZj2 (ow hw 36 rfl)) (mvT hZj2 (ow hw 37 rfl)) (by decide) (backOf (W := 0) (rm_byf l Z a0 hw [] w_US X_US w_V k_V S_V X_V V_V S_UF w_ID F_ID X_ID I_ID_coder w_IB k_IB F_IB V_IB w_OE S_OE X_OE I_OE_value g_CS S_CS nz_CS g_SF S_SF r_SF js jcs jv jk hj2 n0 Oj2 hjE hjC hjV hjA hpcj hlej hcs) hZj2 (ow hw 37 rfl) (ow hw 36 rfl) (by decide) (by decide)) (g := (mkF m 477 #[.val (.int p0), .val (.int p1), .val (.int p2), .val (.ref a1), .val (.int ((p0 &&& (2147483647 : Int32)) % (5 : Int32))), .val (.int jp), .val (.int (p2 &&& (255 : Int32))), .val (.ref ja), .val (.ref jb), .val (.ref jc), .val (.ref js), .val (.int (0 : Int32)), .unset] [(.ref js)])) rfl (by rw [hml]; rfl) (argsL := [(.ref js)]) (rest := []) (lenOf own_pd9 rfl) rfl (by show 2 * 0 + _ ≤ _; exact Nat.le_of_eq rfl) (hb hby at_477) (fun _ _ => ⟨rfl, ej2, (by decide : 7 + 1 ≤ _), (by decide : 153 + 1 ≤ _)⟩)
      dsimp only [Pt.U, Pt.locs, Pt.cells, Pt.slots] at X16 l16 y16 z16 st16 hQ16
      subst y16 z16
      refine Go.st st16 ?_
      obtain ⟨rfl, N16q, K16q⟩ := hQ16
      have N16 : Fr n0 L16 := by rw [l16]; exact Fr.app Nj2 N16q
      have O16 := Oj2.keep K16q all0
      have K16 : Keep h0 T16.heap [] := Kj2.trans K16q all0
      have CR16 := CRj2.trans (CHr.keep K16q sf0 CRj2.1)
      show Go p.tables e below P (T16.setTop (mkF m 480 #[.val (.int p0), .val (.int p1), .val (.int p2), .val (.ref a1), .val (.int ((p0 &&& (2147483647 : Int32)) % (5 : Int32))), .val (.int jp), .val (.int (p2 &&& (255 : Int32))), .val (.ref ja), .val (.ref jb), .val (.ref jc), .val (.ref js), .val (.int (0 : Int32)), .unset] [(.ref w_OE)]))
      refine Go.st (fun _ => XS.astore X16.here hx rfl (hb hby at_480) rfl rfl (l' := #[.val (.int p0), .val (.int p1), .val (.int p2), .val (.ref a1), .val (.int ((p0 &&& (2147483647 : Int32)) % (5 : Int32))), .val (.int jp), .val (.int (p2 &&& (255 : Int32))), .val (.ref ja), .val (.ref jb), .val (.ref jc), .val (.ref js), .val (.int (0 : Int32)), .val (.ref w_OE)]) rfl) ?_
      show Go p.tables e below P (T16.setTop (mkF m 482 #[.val (.int p0), .val (.int p1), .val (.int p2), .val (.ref a1), .val (.int ((p0 &&& (2147483647 : Int32)) % (5 : Int32))), .val (.int jp), .val (.int (p2 &&& (255 : Int32))), .val (.ref ja), .val (.ref jb), .val (.ref jc), .val (.ref js), .val (.int (0 : Int32)), .val (.ref w_OE)] []))
      refine Go.st (fun _ => XS.iload X16.here hx rfl (hb hby at_482) rfl) ?_
      show Go p.tables e below P (T16.setTop (mkF m 484 #[.val (.int p0), .val (.int p1), .val (.int p2), .val (.ref a1), .val (.int ((p0 &&& (2147483647 : Int32)) % (5 : Int32))), .val (.int jp), .val (.int (p2 &&& (255 : Int32))), .val (.ref ja), .val (.ref jb), .val (.ref jc), .val (.ref js), .val (.int (0 : Int32)), .val (.ref w_OE)] [(.int (0 : Int32))]))
      refine Go.st (fun _ => XS.ifNo X16.here hx rfl (hb hby at_484) rfl ((if0 _ _).trans (teq (by decide)).2)) ?_
      show Go p.tables e below P (T16.setTop (mkF m 487 #[.val (.int p0), .val (.int p1), .val (.int p2), .val (.ref a1), .val (.int ((p0 &&& (2147483647 : Int32)) % (5 : Int32))), .val (.int jp), .val (.int (p2 &&& (255 : Int32))), .val (.ref ja), .val (.ref jb), .val (.ref jc), .val (.ref js), .val (.int (0 : Int32)), .val (.ref w_OE)] []))
      refine Go.st (fun _ => XS.aload X16.here hx rfl (hb hby at_487) rfl rfl) ?_
      show Go p.tables e below P (T16.setTop (mkF m 489 #[.val (.int p0), .val (.int p1), .val (.int p2), .val (.ref a1), .val (.int ((p0 &&& (2147483647 : Int32)) % (5 : Int32))), .val (.int jp), .val (.int (p2 &&& (255 : Int32))), .val (.ref ja), .val (.ref jb), .val (.ref jc), .val (.ref js), .val (.int (0 : Int32)), .val (.ref w_OE)] [(.ref w_OE)]))
      obtain ⟨cq17, kq17, q17a, q17b, q17c⟩ := isOf hZj2 rfl (X_OE.ext O16.2)
      obtain ⟨_, _, ⟨T17, L17, k17, n17⟩, -, X17, ⟨Lc17, hQ17, l17, y17, z17⟩, st17⟩ := X16.virtualBack hx (y := (⟨"java/util/Optional", "isPresent", "()Z"⟩ : MethodName)) (z := (⟨"java/util/Optional", "isPresent", "()Z"⟩ : MethodName)) hownj2 (mvT hZj2 (ow hw 82 rfl)) (mvT hZj2 (ow hw 83 rfl)) (notFace_of_selects (args := #[]) (mvT hZj2 (ow hw 85 rfl))) (mvT hZj2 (ow hw 85 rfl)) (mvT hZj2 (ow hw 84 rfl)) (by decide) (backOf (W := 0) (rm_ip0 l Z a0 hw [] w_US X_US w_V k_V S_V X_V V_V S_UF w_ID F_ID X_ID I_ID_coder w_IB k_IB F_IB V_IB w_OE S_OE X_OE I_OE_value g_CS S_CS nz_CS g_SF S_SF r_SF w_OE T16.heap n0 O16 (I_OE_value.ext O16.2)) hZj2 (ow hw 86 rfl) (ow hw 67 rfl) (by decide) (by decide)) q17a q17c (g := (mkF m 489 #[.val (.int p0), .val (.int p1), .val (.int p2), .val (.ref a1), .val (.int ((p0 &&& (2147483647 : Int32)) % (5 : Int32))), .val (.int jp), .val (.int (p2 &&& (255 : Int32))), .val (.ref ja), .val (.ref jb), .val (.ref jc), .val (.ref js), .val (.int (0 : Int32)), .val (.ref w_OE)] [(.ref w_OE)])) rfl (by rw [hml]; rfl) (Steps.refl _) (argsL := []) (rest := []) (lenOf own_pd10 rfl) rfl (by show 2 * 0 + _ ≤ _; exact Nat.le_of_eq rfl) (hb hby at_489) (fun _ _ => ⟨rfl, rfl, (by decide : 8 + 0 ≤ _), (by decide : 154 + 0 ≤ _)⟩)
      dsimp only [Pt.U, Pt.locs, Pt.cells, Pt.slots] at X17 l17 y17 z17 st17 hQ17
      subst y17 z17
      refine Go.tr st17 ?_
      obtain ⟨rfl, N17q, e17⟩ := hQ17
      have N17 : Fr n0 L17 := by rw [l17]; exact Fr.app N16 N17q
      show Go p.tables e below P (T17.setTop (mkF m 492 #[.val (.int p0), .val (.int p1), .val (.int p2), .val (.ref a1), .val (.int ((p0 &&& (2147483647 : Int32)) % (5 : Int32))), .val (.int jp), .val (.int (p2 &&& (255 : Int32))), .val (.ref ja), .val (.ref jb), .val (.ref jc), .val (.ref js), .val (.int (0 : Int32)), .val (.ref w_OE)] [(.int (0 : Int32))]))
      refine Go.st (fun _ => XS.ifNo X17.here hx rfl (hb hby at_492) rfl ((if0 _ _).trans (teq (by decide)).2)) ?_
      show Go p.tables e below P (T17.setTop (mkF m 495 #[.val (.int p0), .val (.int p1), .val (.int p2), .val (.ref a1), .val (.int ((p0 &&& (2147483647 : Int32)) % (5 : Int32))), .val (.int jp), .val (.int (p2 &&& (255 : Int32))), .val (.ref ja), .val (.ref jb), .val (.ref jc), .val (.ref js), .val (.int (0 : Int32)), .val (.ref w_OE)] []))
      refine Go.st (fun _ => XS.iconst X17.here hx rfl (hb hby at_495)) ?_
      show Go p.tables e below P (T17.setTop (mkF m 496 #[.val (.int p0), .val (.int p1), .val (.int p2), .val (.ref a1), .val (.int ((p0 &&& (2147483647 : Int32)) % (5 : Int32))), .val (.int jp), .val (.int (p2 &&& (255 : Int32))), .val (.ref ja), .val (.ref jb), .val (.ref jc), .val (.ref js), .val (.int (0 : Int32)), .val (.ref w_OE)] [(.int (1 : Int32))]))
      refine Go.st (fun _ => XS.goto X17.here hx rfl (pc0 := 496) (pc' := 500) rfl (hb hby at_496) (by decide) (by decide)) ?_
      show Go p.tables e below P (T17.setTop (mkF m 500 #[.val (.int p0), .val (.int p1), .val (.int p2), .val (.ref a1), .val (.int ((p0 &&& (2147483647 : Int32)) % (5 : Int32))), .val (.int jp), .val (.int (p2 &&& (255 : Int32))), .val (.ref ja), .val (.ref jb), .val (.ref jc), .val (.ref js), .val (.int (0 : Int32)), .val (.ref w_OE)] [(.int (1 : Int32))]))
      obtain ⟨fs, hr, hrun, hended, -, hW, hpair, hsame⟩ := X17.leaveW hSj2 (by rw [e17]; exact (Nat.le_trans hkj2 K16q.1)) (v := some (.int (1 : Int32))) (fun h => by rw [Bd.returns] at h; cases h)
      have hCRe := CR16.trans (CHv.at X17 hZj2 hEL CR16.1)
      refine ⟨_, ?_, hPend _ _ hrun hended ⟨_, _, rfl, ?_, ?_, ⟨_, rfl⟩, hW, hpair, hsame.mono (by decide) (by decide)⟩⟩
      · exact retN X17 hx (t := .boolean) Bd.returns (by simp) (hb hby at_500) hr
      · show Q_rm_law Z _ _ _ _ _ _ _ _ _ _ _ _ h0 n0 _ T17.heap _
        rw [e17]
        exact ⟨rfl, N17, K16⟩
      · show CHr Z consts_1 s.vm s.heap T17.vm T17.heap
        rw [hh, e17]
        exact hCRe
  refine Go.st (fun _ => XS.istore X1.here hx rfl (hb hby at_18) rfl (l' := #[.val (.int p0), .val (.int p1), .val (.int p2), .val (.ref a1), .val (.int ((p0 &&& (2147483647 : Int32)) % (5 : Int32))), .val (.int jp), .unset, .unset, .unset, .unset, .unset, .unset, .unset]) rfl) ?_
  show Go p.tables e below P (T1.setTop (mkF m 20 #[.val (.int p0), .val (.int p1), .val (.int p2), .val (.ref a1), .val (.int ((p0 &&& (2147483647 : Int32)) % (5 : Int32))), .val (.int jp), .unset, .unset, .unset, .unset, .unset, .unset, .unset] []))
  refine Go.st (fun _ => XS.iloadN X1.here hx rfl (hb hby at_20) rfl) ?_
  show Go p.tables e below P (T1.setTop (mkF m 21 #[.val (.int p0), .val (.int p1), .val (.int p2), .val (.ref a1), .val (.int ((p0 &&& (2147483647 : Int32)) % (5 : Int32))), .val (.int jp), .unset, .unset, .unset, .unset, .unset, .unset, .unset] [(.int p2)]))
  refine Go.st (fun _ => XS.sipush X1.here hx rfl (hb hby at_21)) ?_
  show Go p.tables e below P (T1.setTop (mkF m 24 #[.val (.int p0), .val (.int p1), .val (.int p2), .val (.ref a1), .val (.int ((p0 &&& (2147483647 : Int32)) % (5 : Int32))), .val (.int jp), .unset, .unset, .unset, .unset, .unset, .unset, .unset] [(.int (255 : Int32)), (.int p2)]))
  refine Go.st (fun _ => XS.iand X1.here hx rfl (hb hby at_24) rfl) ?_
  show Go p.tables e below P (T1.setTop (mkF m 25 #[.val (.int p0), .val (.int p1), .val (.int p2), .val (.ref a1), .val (.int ((p0 &&& (2147483647 : Int32)) % (5 : Int32))), .val (.int jp), .unset, .unset, .unset, .unset, .unset, .unset, .unset] [(.int (p2 &&& (255 : Int32)))]))
  refine Go.st (fun _ => XS.i2c X1.here hx rfl (hb hby at_25) rfl) ?_
  show Go p.tables e below P (T1.setTop (mkF m 26 #[.val (.int p0), .val (.int p1), .val (.int p2), .val (.ref a1), .val (.int ((p0 &&& (2147483647 : Int32)) % (5 : Int32))), .val (.int jp), .unset, .unset, .unset, .unset, .unset, .unset, .unset] [(.int ((p2 &&& (255 : Int32)).toUInt32.toUInt16.toUInt32.toInt32))]))
  rw [i2c_mask]
  show Go p.tables e below P (T1.setTop (mkF m 26 #[.val (.int p0), .val (.int p1), .val (.int p2), .val (.ref a1), .val (.int ((p0 &&& (2147483647 : Int32)) % (5 : Int32))), .val (.int jp), .unset, .unset, .unset, .unset, .unset, .unset, .unset] [(.int (p2 &&& (255 : Int32)))]))
  refine Go.st (fun _ => XS.istore X1.here hx rfl (hb hby at_26) rfl (l' := #[.val (.int p0), .val (.int p1), .val (.int p2), .val (.ref a1), .val (.int ((p0 &&& (2147483647 : Int32)) % (5 : Int32))), .val (.int jp), .val (.int (p2 &&& (255 : Int32))), .unset, .unset, .unset, .unset, .unset, .unset]) rfl) ?_
  show Go p.tables e below P (T1.setTop (mkF m 28 #[.val (.int p0), .val (.int p1), .val (.int p2), .val (.ref a1), .val (.int ((p0 &&& (2147483647 : Int32)) % (5 : Int32))), .val (.int jp), .val (.int (p2 &&& (255 : Int32))), .unset, .unset, .unset, .unset, .unset, .unset] []))
  refine Go.st (fun _ => XS.bipush X1.here hx rfl (hb hby at_28)) ?_
  show Go p.tables e below P (T1.setTop (mkF m 30 #[.val (.int p0), .val (.int p1), .val (.int p2), .val (.ref a1), .val (.int ((p0 &&& (2147483647 : Int32)) % (5 : Int32))), .val (.int jp), .val (.int (p2 &&& (255 : Int32))), .unset, .unset, .unset, .unset, .unset, .unset] [(.int (18 : Int32))]))
  obtain ⟨T18, h18, k18, X18, e18, E18, A18, st18⟩ := newP X1 hx hZ1 (ow hw 9 rfl) e1 (g := (mkF m 30 #[.val (.int p0), .val (.int p1), .val (.int p2), .val (.ref a1), .val (.int ((p0 &&& (2147483647 : Int32)) % (5 : Int32))), .val (.int jp), .val (.int (p2 &&& (255 : Int32))), .unset, .unset, .unset, .unset, .unset, .unset] [(.int (18 : Int32))])) rfl (hb hby at_30) rfl (by decide) (cap := 18) (by decide) (by decide) (by decide) (by decide)
  obtain ⟨b18, g18⟩ : ∃ z, z = h1.size := ⟨_, rfl⟩
  rw [← g18] at A18 st18
  refine Go.st st18 ?_
  have g_b18 : n0 ≤ b18 := Nat.le_trans (own_oldsz O1) (Nat.le_of_eq g18.symm)
  have sz_b18 : h0.size ≤ b18 := Nat.le_trans K1.1 (Nat.le_of_eq g18.symm)
  have K18 : Keep h0 h18 [] := K1.ext E18
  have O18 := O1.ext E18
  have SF_b18 : Safe Z consts_1 T1.vm h18 b18 := Safe.ext E18 CR1.1 (Safe.new (Nat.le_of_eq g18.symm))
  have CR18 := CR1.trans (CHr.ext E18 CR1.1)
  have V18 : Arv Z h18 b18 k18 .char (18 : Int32) [(.int (0 : Int32)), (.int (0 : Int32)), (.int (0 : Int32)), (.int (0 : Int32)), (.int (0 : Int32)), (.int (0 : Int32)), (.int (0 : Int32)), (.int (0 : Int32)), (.int (0 : Int32)), (.int (0 : Int32)), (.int (0 : Int32)), (.int (0 : Int32)), (.int (0 : Int32)), (.int (0 : Int32)), (.int (0 : Int32)), (.int (0 : Int32)), (.int (0 : Int32)), (.int (0 : Int32))] (.int (0 : Int32)) := (Arv.new A18 (by decide)).pad (pad_rep [] (.int (0 : Int32)) 18)
  show Go p.tables e below P (T18.setTop (mkF m 32 #[.val (.int p0), .val (.int p1), .val (.int p2), .val (.ref a1), .val (.int ((p0 &&& (2147483647 : Int32)) % (5 : Int32))), .val (.int jp), .val (.int (p2 &&& (255 : Int32))), .unset, .unset, .unset, .unset, .unset, .unset] [(.ref b18)]))
  refine Go.st (fun _ => XS.dup X18.here hx rfl (hb hby at_32) rfl rfl) ?_
  show Go p.tables e below P (T18.setTop (mkF m 33 #[.val (.int p0), .val (.int p1), .val (.int p2), .val (.ref a1), .val (.int ((p0 &&& (2147483647 : Int32)) % (5 : Int32))), .val (.int jp), .val (.int (p2 &&& (255 : Int32))), .unset, .unset, .unset, .unset, .unset, .unset] [(.ref b18), (.ref b18)]))
  refine Go.st (fun _ => XS.iconst X18.here hx rfl (hb hby at_33)) ?_
  show Go p.tables e below P (T18.setTop (mkF m 34 #[.val (.int p0), .val (.int p1), .val (.int p2), .val (.ref a1), .val (.int ((p0 &&& (2147483647 : Int32)) % (5 : Int32))), .val (.int jp), .val (.int (p2 &&& (255 : Int32))), .unset, .unset, .unset, .unset, .unset, .unset] [(.int (0 : Int32)), (.ref b18), (.ref b18)]))
  refine Go.st (fun _ => XS.bipush X18.here hx rfl (hb hby at_34)) ?_
  show Go p.tables e below P (T18.setTop (mkF m 36 #[.val (.int p0), .val (.int p1), .val (.int p2), .val (.ref a1), .val (.int ((p0 &&& (2147483647 : Int32)) % (5 : Int32))), .val (.int jp), .val (.int (p2 &&& (255 : Int32))), .unset, .unset, .unset, .unset, .unset, .unset] [(.int (117 : Int32)), (.int (0 : Int32)), (.ref b18), (.ref b18)]))
  obtain ⟨T19, h19, X19, e19, W19, V19, st19⟩ := own_stC X18 hx hZ1 e18 V18 (j := (0 : Int32)) (i := 0) (by decide) (by decide) (Nat.le_of_ble_eq_true rfl) (g := (mkF m 36 #[.val (.int p0), .val (.int p1), .val (.int p2), .val (.ref a1), .val (.int ((p0 &&& (2147483647 : Int32)) % (5 : Int32))), .val (.int jp), .val (.int (p2 &&& (255 : Int32))), .unset, .unset, .unset, .unset, .unset, .unset] [(.int (117 : Int32)), (.int (0 : Int32)), (.ref b18), (.ref b18)])) rfl rfl (hb hby at_36)
  refine Go.st st19 ?_
  have sf20 := Safe.wr W19 SF_b18 CR18.1 SF_b18
  have CR19 := CR18.trans (CHr.wr W19 SF_b18 CR18.1)
  have K19 : Keep h0 h19 [] := K18.wr W19 (Or.inr sz_b18)
  have O19 := O18.wr W19 g_b18
  have N19 := Fr.snoc X19 N0 g_b18
  have V19' : Arv Z h19 b18 k18 .char (18 : Int32) [(.int (117 : Int32)), (.int (0 : Int32)), (.int (0 : Int32)), (.int (0 : Int32)), (.int (0 : Int32)), (.int (0 : Int32)), (.int (0 : Int32)), (.int (0 : Int32)), (.int (0 : Int32)), (.int (0 : Int32)), (.int (0 : Int32)), (.int (0 : Int32)), (.int (0 : Int32)), (.int (0 : Int32)), (.int (0 : Int32)), (.int (0 : Int32)), (.int (0 : Int32)), (.int (0 : Int32))] (.int (0 : Int32)) := V19
  show Go p.tables e below P (T19.setTop (mkF m 37 #[.val (.int p0), .val (.int p1), .val (.int p2), .val (.ref a1), .val (.int ((p0 &&& (2147483647 : Int32)) % (5 : Int32))), .val (.int jp), .val (.int (p2 &&& (255 : Int32))), .unset, .unset, .unset, .unset, .unset, .unset] [(.ref b18)]))
  refine Go.st (fun _ => XS.dup X19.here hx rfl (hb hby at_37) rfl rfl) ?_
  show Go p.tables e below P (T19.setTop (mkF m 38 #[.val (.int p0), .val (.int p1), .val (.int p2), .val (.ref a1), .val (.int ((p0 &&& (2147483647 : Int32)) % (5 : Int32))), .val (.int jp), .val (.int (p2 &&& (255 : Int32))), .unset, .unset, .unset, .unset, .unset, .unset] [(.ref b18), (.ref b18)]))
  refine Go.st (fun _ => XS.iconst X19.here hx rfl (hb hby at_38)) ?_
  show Go p.tables e below P (T19.setTop (mkF m 39 #[.val (.int p0), .val (.int p1), .val (.int p2), .val (.ref a1), .val (.int ((p0 &&& (2147483647 : Int32)) % (5 : Int32))), .val (.int jp), .val (.int (p2 &&& (255 : Int32))), .unset, .unset, .unset, .unset, .unset, .unset] [(.int (1 : Int32)), (.ref b18), (.ref b18)]))
  refine Go.st (fun _ => XS.bipush X19.here hx rfl (hb hby at_39)) ?_
  show Go p.tables e below P (T19.setTop (mkF m 41 #[.val (.int p0), .val (.int p1), .val (.int p2), .val (.ref a1), .val (.int ((p0 &&& (2147483647 : Int32)) % (5 : Int32))), .val (.int jp), .val (.int (p2 &&& (255 : Int32))), .unset, .unset, .unset, .unset, .unset, .unset] [(.int (115 : Int32)), (.int (1 : Int32)), (.ref b18), (.ref b18)]))
  obtain ⟨T21, h21, X21, e21, W21, V21, st21⟩ := own_stC X19 hx hZ1 e19 V19' (j := (1 : Int32)) (i := 1) (by decide) (by decide) (Nat.le_of_ble_eq_true rfl) (g := (mkF m 41 #[.val (.int p0), .val (.int p1), .val (.int p2), .val (.ref a1), .val (.int ((p0 &&& (2147483647 : Int32)) % (5 : Int32))), .val (.int jp), .val (.int (p2 &&& (255 : Int32))), .unset, .unset, .unset, .unset, .unset, .unset] [(.int (115 : Int32)), (.int (1 : Int32)), (.ref b18), (.ref b18)])) rfl rfl (hb hby at_41)
  refine Go.st st21 ?_
  have sf22 := Safe.wr W21 sf20 CR19.1 sf20
  have CR21 := CR19.trans (CHr.wr W21 sf20 CR19.1)
  have K21 : Keep h0 h21 [] := K19.wr W21 (Or.inr sz_b18)
  have O21 := O19.wr W21 g_b18
  have N21 := Fr.snoc X21 N19 g_b18
  have V21' : Arv Z h21 b18 k18 .char (18 : Int32) [(.int (117 : Int32)), (.int (115 : Int32)), (.int (0 : Int32)), (.int (0 : Int32)), (.int (0 : Int32)), (.int (0 : Int32)), (.int (0 : Int32)), (.int (0 : Int32)), (.int (0 : Int32)), (.int (0 : Int32)), (.int (0 : Int32)), (.int (0 : Int32)), (.int (0 : Int32)), (.int (0 : Int32)), (.int (0 : Int32)), (.int (0 : Int32)), (.int (0 : Int32)), (.int (0 : Int32))] (.int (0 : Int32)) := V21
  show Go p.tables e below P (T21.setTop (mkF m 42 #[.val (.int p0), .val (.int p1), .val (.int p2), .val (.ref a1), .val (.int ((p0 &&& (2147483647 : Int32)) % (5 : Int32))), .val (.int jp), .val (.int (p2 &&& (255 : Int32))), .unset, .unset, .unset, .unset, .unset, .unset] [(.ref b18)]))
  refine Go.st (fun _ => XS.dup X21.here hx rfl (hb hby at_42) rfl rfl) ?_
  show Go p.tables e below P (T21.setTop (mkF m 43 #[.val (.int p0), .val (.int p1), .val (.int p2), .val (.ref a1), .val (.int ((p0 &&& (2147483647 : Int32)) % (5 : Int32))), .val (.int jp), .val (.int (p2 &&& (255 : Int32))), .unset, .unset, .unset, .unset, .unset, .unset] [(.ref b18), (.ref b18)]))
  refine Go.st (fun _ => XS.iconst X21.here hx rfl (hb hby at_43)) ?_
  show Go p.tables e below P (T21.setTop (mkF m 44 #[.val (.int p0), .val (.int p1), .val (.int p2), .val (.ref a1), .val (.int ((p0 &&& (2147483647 : Int32)) % (5 : Int32))), .val (.int jp), .val (.int (p2 &&& (255 : Int32))), .unset, .unset, .unset, .unset, .unset, .unset] [(.int (2 : Int32)), (.ref b18), (.ref b18)]))
  refine Go.st (fun _ => XS.bipush X21.here hx rfl (hb hby at_44)) ?_
  show Go p.tables e below P (T21.setTop (mkF m 46 #[.val (.int p0), .val (.int p1), .val (.int p2), .val (.ref a1), .val (.int ((p0 &&& (2147483647 : Int32)) % (5 : Int32))), .val (.int jp), .val (.int (p2 &&& (255 : Int32))), .unset, .unset, .unset, .unset, .unset, .unset] [(.int (45 : Int32)), (.int (2 : Int32)), (.ref b18), (.ref b18)]))
  obtain ⟨T23, h23, X23, e23, W23, V23, st23⟩ := own_stC X21 hx hZ1 e21 V21' (j := (2 : Int32)) (i := 2) (by decide) (by decide) (Nat.le_of_ble_eq_true rfl) (g := (mkF m 46 #[.val (.int p0), .val (.int p1), .val (.int p2), .val (.ref a1), .val (.int ((p0 &&& (2147483647 : Int32)) % (5 : Int32))), .val (.int jp), .val (.int (p2 &&& (255 : Int32))), .unset, .unset, .unset, .unset, .unset, .unset] [(.int (45 : Int32)), (.int (2 : Int32)), (.ref b18), (.ref b18)])) rfl rfl (hb hby at_46)
  refine Go.st st23 ?_
  have sf24 := Safe.wr W23 sf22 CR21.1 sf22
  have CR23 := CR21.trans (CHr.wr W23 sf22 CR21.1)
  have K23 : Keep h0 h23 [] := K21.wr W23 (Or.inr sz_b18)
  have O23 := O21.wr W23 g_b18
  have N23 := Fr.snoc X23 N21 g_b18
  have V23' : Arv Z h23 b18 k18 .char (18 : Int32) [(.int (117 : Int32)), (.int (115 : Int32)), (.int (45 : Int32)), (.int (0 : Int32)), (.int (0 : Int32)), (.int (0 : Int32)), (.int (0 : Int32)), (.int (0 : Int32)), (.int (0 : Int32)), (.int (0 : Int32)), (.int (0 : Int32)), (.int (0 : Int32)), (.int (0 : Int32)), (.int (0 : Int32)), (.int (0 : Int32)), (.int (0 : Int32)), (.int (0 : Int32)), (.int (0 : Int32))] (.int (0 : Int32)) := V23
  show Go p.tables e below P (T23.setTop (mkF m 47 #[.val (.int p0), .val (.int p1), .val (.int p2), .val (.ref a1), .val (.int ((p0 &&& (2147483647 : Int32)) % (5 : Int32))), .val (.int jp), .val (.int (p2 &&& (255 : Int32))), .unset, .unset, .unset, .unset, .unset, .unset] [(.ref b18)]))
  refine Go.st (fun _ => XS.dup X23.here hx rfl (hb hby at_47) rfl rfl) ?_
  show Go p.tables e below P (T23.setTop (mkF m 48 #[.val (.int p0), .val (.int p1), .val (.int p2), .val (.ref a1), .val (.int ((p0 &&& (2147483647 : Int32)) % (5 : Int32))), .val (.int jp), .val (.int (p2 &&& (255 : Int32))), .unset, .unset, .unset, .unset, .unset, .unset] [(.ref b18), (.ref b18)]))
  refine Go.st (fun _ => XS.iconst X23.here hx rfl (hb hby at_48)) ?_
  show Go p.tables e below P (T23.setTop (mkF m 49 #[.val (.int p0), .val (.int p1), .val (.int p2), .val (.ref a1), .val (.int ((p0 &&& (2147483647 : Int32)) % (5 : Int32))), .val (.int jp), .val (.int (p2 &&& (255 : Int32))), .unset, .unset, .unset, .unset, .unset, .unset] [(.int (3 : Int32)), (.ref b18), (.ref b18)]))
  refine Go.st (fun _ => XS.bipush X23.here hx rfl (hb hby at_49)) ?_
  show Go p.tables e below P (T23.setTop (mkF m 51 #[.val (.int p0), .val (.int p1), .val (.int p2), .val (.ref a1), .val (.int ((p0 &&& (2147483647 : Int32)) % (5 : Int32))), .val (.int jp), .val (.int (p2 &&& (255 : Int32))), .unset, .unset, .unset, .unset, .unset, .unset] [(.int (102 : Int32)), (.int (3 : Int32)), (.ref b18), (.ref b18)]))
  obtain ⟨T25, h25, X25, e25, W25, V25, st25⟩ := own_stC X23 hx hZ1 e23 V23' (j := (3 : Int32)) (i := 3) (by decide) (by decide) (Nat.le_of_ble_eq_true rfl) (g := (mkF m 51 #[.val (.int p0), .val (.int p1), .val (.int p2), .val (.ref a1), .val (.int ((p0 &&& (2147483647 : Int32)) % (5 : Int32))), .val (.int jp), .val (.int (p2 &&& (255 : Int32))), .unset, .unset, .unset, .unset, .unset, .unset] [(.int (102 : Int32)), (.int (3 : Int32)), (.ref b18), (.ref b18)])) rfl rfl (hb hby at_51)
  refine Go.st st25 ?_
  have sf26 := Safe.wr W25 sf24 CR23.1 sf24
  have CR25 := CR23.trans (CHr.wr W25 sf24 CR23.1)
  have K25 : Keep h0 h25 [] := K23.wr W25 (Or.inr sz_b18)
  have O25 := O23.wr W25 g_b18
  have N25 := Fr.snoc X25 N23 g_b18
  have V25' : Arv Z h25 b18 k18 .char (18 : Int32) [(.int (117 : Int32)), (.int (115 : Int32)), (.int (45 : Int32)), (.int (102 : Int32)), (.int (0 : Int32)), (.int (0 : Int32)), (.int (0 : Int32)), (.int (0 : Int32)), (.int (0 : Int32)), (.int (0 : Int32)), (.int (0 : Int32)), (.int (0 : Int32)), (.int (0 : Int32)), (.int (0 : Int32)), (.int (0 : Int32)), (.int (0 : Int32)), (.int (0 : Int32)), (.int (0 : Int32))] (.int (0 : Int32)) := V25
  show Go p.tables e below P (T25.setTop (mkF m 52 #[.val (.int p0), .val (.int p1), .val (.int p2), .val (.ref a1), .val (.int ((p0 &&& (2147483647 : Int32)) % (5 : Int32))), .val (.int jp), .val (.int (p2 &&& (255 : Int32))), .unset, .unset, .unset, .unset, .unset, .unset] [(.ref b18)]))
  refine Go.st (fun _ => XS.dup X25.here hx rfl (hb hby at_52) rfl rfl) ?_
  show Go p.tables e below P (T25.setTop (mkF m 53 #[.val (.int p0), .val (.int p1), .val (.int p2), .val (.ref a1), .val (.int ((p0 &&& (2147483647 : Int32)) % (5 : Int32))), .val (.int jp), .val (.int (p2 &&& (255 : Int32))), .unset, .unset, .unset, .unset, .unset, .unset] [(.ref b18), (.ref b18)]))
  refine Go.st (fun _ => XS.iconst X25.here hx rfl (hb hby at_53)) ?_
  show Go p.tables e below P (T25.setTop (mkF m 54 #[.val (.int p0), .val (.int p1), .val (.int p2), .val (.ref a1), .val (.int ((p0 &&& (2147483647 : Int32)) % (5 : Int32))), .val (.int jp), .val (.int (p2 &&& (255 : Int32))), .unset, .unset, .unset, .unset, .unset, .unset] [(.int (4 : Int32)), (.ref b18), (.ref b18)]))
  refine Go.st (fun _ => XS.bipush X25.here hx rfl (hb hby at_54)) ?_
  show Go p.tables e below P (T25.setTop (mkF m 56 #[.val (.int p0), .val (.int p1), .val (.int p2), .val (.ref a1), .val (.int ((p0 &&& (2147483647 : Int32)) % (5 : Int32))), .val (.int jp), .val (.int (p2 &&& (255 : Int32))), .unset, .unset, .unset, .unset, .unset, .unset] [(.int (101 : Int32)), (.int (4 : Int32)), (.ref b18), (.ref b18)]))
  obtain ⟨T27, h27, X27, e27, W27, V27, st27⟩ := own_stC X25 hx hZ1 e25 V25' (j := (4 : Int32)) (i := 4) (by decide) (by decide) (Nat.le_of_ble_eq_true rfl) (g := (mkF m 56 #[.val (.int p0), .val (.int p1), .val (.int p2), .val (.ref a1), .val (.int ((p0 &&& (2147483647 : Int32)) % (5 : Int32))), .val (.int jp), .val (.int (p2 &&& (255 : Int32))), .unset, .unset, .unset, .unset, .unset, .unset] [(.int (101 : Int32)), (.int (4 : Int32)), (.ref b18), (.ref b18)])) rfl rfl (hb hby at_56)
  refine Go.st st27 ?_
  have sf28 := Safe.wr W27 sf26 CR25.1 sf26
  have CR27 := CR25.trans (CHr.wr W27 sf26 CR25.1)
  have K27 : Keep h0 h27 [] := K25.wr W27 (Or.inr sz_b18)
  have O27 := O25.wr W27 g_b18
  have N27 := Fr.snoc X27 N25 g_b18
  have V27' : Arv Z h27 b18 k18 .char (18 : Int32) [(.int (117 : Int32)), (.int (115 : Int32)), (.int (45 : Int32)), (.int (102 : Int32)), (.int (101 : Int32)), (.int (0 : Int32)), (.int (0 : Int32)), (.int (0 : Int32)), (.int (0 : Int32)), (.int (0 : Int32)), (.int (0 : Int32)), (.int (0 : Int32)), (.int (0 : Int32)), (.int (0 : Int32)), (.int (0 : Int32)), (.int (0 : Int32)), (.int (0 : Int32)), (.int (0 : Int32))] (.int (0 : Int32)) := V27
  show Go p.tables e below P (T27.setTop (mkF m 57 #[.val (.int p0), .val (.int p1), .val (.int p2), .val (.ref a1), .val (.int ((p0 &&& (2147483647 : Int32)) % (5 : Int32))), .val (.int jp), .val (.int (p2 &&& (255 : Int32))), .unset, .unset, .unset, .unset, .unset, .unset] [(.ref b18)]))
  refine Go.st (fun _ => XS.dup X27.here hx rfl (hb hby at_57) rfl rfl) ?_
  show Go p.tables e below P (T27.setTop (mkF m 58 #[.val (.int p0), .val (.int p1), .val (.int p2), .val (.ref a1), .val (.int ((p0 &&& (2147483647 : Int32)) % (5 : Int32))), .val (.int jp), .val (.int (p2 &&& (255 : Int32))), .unset, .unset, .unset, .unset, .unset, .unset] [(.ref b18), (.ref b18)]))
  refine Go.st (fun _ => XS.iconst X27.here hx rfl (hb hby at_58)) ?_
  show Go p.tables e below P (T27.setTop (mkF m 59 #[.val (.int p0), .val (.int p1), .val (.int p2), .val (.ref a1), .val (.int ((p0 &&& (2147483647 : Int32)) % (5 : Int32))), .val (.int jp), .val (.int (p2 &&& (255 : Int32))), .unset, .unset, .unset, .unset, .unset, .unset] [(.int (5 : Int32)), (.ref b18), (.ref b18)]))
  refine Go.st (fun _ => XS.bipush X27.here hx rfl (hb hby at_59)) ?_
  show Go p.tables e below P (T27.setTop (mkF m 61 #[.val (.int p0), .val (.int p1), .val (.int p2), .val (.ref a1), .val (.int ((p0 &&& (2147483647 : Int32)) % (5 : Int32))), .val (.int jp), .val (.int (p2 &&& (255 : Int32))), .unset, .unset, .unset, .unset, .unset, .unset] [(.int (100 : Int32)), (.int (5 : Int32)), (.ref b18), (.ref b18)]))
  obtain ⟨T29, h29, X29, e29, W29, V29, st29⟩ := own_stC X27 hx hZ1 e27 V27' (j := (5 : Int32)) (i := 5) (by decide) (by decide) (Nat.le_of_ble_eq_true rfl) (g := (mkF m 61 #[.val (.int p0), .val (.int p1), .val (.int p2), .val (.ref a1), .val (.int ((p0 &&& (2147483647 : Int32)) % (5 : Int32))), .val (.int jp), .val (.int (p2 &&& (255 : Int32))), .unset, .unset, .unset, .unset, .unset, .unset] [(.int (100 : Int32)), (.int (5 : Int32)), (.ref b18), (.ref b18)])) rfl rfl (hb hby at_61)
  refine Go.st st29 ?_
  have sf30 := Safe.wr W29 sf28 CR27.1 sf28
  have CR29 := CR27.trans (CHr.wr W29 sf28 CR27.1)
  have K29 : Keep h0 h29 [] := K27.wr W29 (Or.inr sz_b18)
  have O29 := O27.wr W29 g_b18
  have N29 := Fr.snoc X29 N27 g_b18
  have V29' : Arv Z h29 b18 k18 .char (18 : Int32) [(.int (117 : Int32)), (.int (115 : Int32)), (.int (45 : Int32)), (.int (102 : Int32)), (.int (101 : Int32)), (.int (100 : Int32)), (.int (0 : Int32)), (.int (0 : Int32)), (.int (0 : Int32)), (.int (0 : Int32)), (.int (0 : Int32)), (.int (0 : Int32)), (.int (0 : Int32)), (.int (0 : Int32)), (.int (0 : Int32)), (.int (0 : Int32)), (.int (0 : Int32)), (.int (0 : Int32))] (.int (0 : Int32)) := V29
  show Go p.tables e below P (T29.setTop (mkF m 62 #[.val (.int p0), .val (.int p1), .val (.int p2), .val (.ref a1), .val (.int ((p0 &&& (2147483647 : Int32)) % (5 : Int32))), .val (.int jp), .val (.int (p2 &&& (255 : Int32))), .unset, .unset, .unset, .unset, .unset, .unset] [(.ref b18)]))
  refine Go.st (fun _ => XS.dup X29.here hx rfl (hb hby at_62) rfl rfl) ?_
  show Go p.tables e below P (T29.setTop (mkF m 63 #[.val (.int p0), .val (.int p1), .val (.int p2), .val (.ref a1), .val (.int ((p0 &&& (2147483647 : Int32)) % (5 : Int32))), .val (.int jp), .val (.int (p2 &&& (255 : Int32))), .unset, .unset, .unset, .unset, .unset, .unset] [(.ref b18), (.ref b18)]))
  refine Go.st (fun _ => XS.bipush X29.here hx rfl (hb hby at_63)) ?_
  show Go p.tables e below P (T29.setTop (mkF m 65 #[.val (.int p0), .val (.int p1), .val (.int p2), .val (.ref a1), .val (.int ((p0 &&& (2147483647 : Int32)) % (5 : Int32))), .val (.int jp), .val (.int (p2 &&& (255 : Int32))), .unset, .unset, .unset, .unset, .unset, .unset] [(.int (6 : Int32)), (.ref b18), (.ref b18)]))
  refine Go.st (fun _ => XS.bipush X29.here hx rfl (hb hby at_65)) ?_
  show Go p.tables e below P (T29.setTop (mkF m 67 #[.val (.int p0), .val (.int p1), .val (.int p2), .val (.ref a1), .val (.int ((p0 &&& (2147483647 : Int32)) % (5 : Int32))), .val (.int jp), .val (.int (p2 &&& (255 : Int32))), .unset, .unset, .unset, .unset, .unset, .unset] [(.int (101 : Int32)), (.int (6 : Int32)), (.ref b18), (.ref b18)]))
  obtain ⟨T31, h31, X31, e31, W31, V31, st31⟩ := own_stC X29 hx hZ1 e29 V29' (j := (6 : Int32)) (i := 6) (by decide) (by decide) (Nat.le_of_ble_eq_true rfl) (g := (mkF m 67 #[.val (.int p0), .val (.int p1), .val (.int p2), .val (.ref a1), .val (.int ((p0 &&& (2147483647 : Int32)) % (5 : Int32))), .val (.int jp), .val (.int (p2 &&& (255 : Int32))), .unset, .unset, .unset, .unset, .unset, .unset] [(.int (101 : Int32)), (.int (6 : Int32)), (.ref b18), (.ref b18)])) rfl rfl (hb hby at_67)
  refine Go.st st31 ?_
  have sf32 := Safe.wr W31 sf30 CR29.1 sf30
  have CR31 := CR29.trans (CHr.wr W31 sf30 CR29.1)
  have K31 : Keep h0 h31 [] := K29.wr W31 (Or.inr sz_b18)
  have O31 := O29.wr W31 g_b18
  have N31 := Fr.snoc X31 N29 g_b18
  have V31' : Arv Z h31 b18 k18 .char (18 : Int32) [(.int (117 : Int32)), (.int (115 : Int32)), (.int (45 : Int32)), (.int (102 : Int32)), (.int (101 : Int32)), (.int (100 : Int32)), (.int (101 : Int32)), (.int (0 : Int32)), (.int (0 : Int32)), (.int (0 : Int32)), (.int (0 : Int32)), (.int (0 : Int32)), (.int (0 : Int32)), (.int (0 : Int32)), (.int (0 : Int32)), (.int (0 : Int32)), (.int (0 : Int32)), (.int (0 : Int32))] (.int (0 : Int32)) := V31
  show Go p.tables e below P (T31.setTop (mkF m 68 #[.val (.int p0), .val (.int p1), .val (.int p2), .val (.ref a1), .val (.int ((p0 &&& (2147483647 : Int32)) % (5 : Int32))), .val (.int jp), .val (.int (p2 &&& (255 : Int32))), .unset, .unset, .unset, .unset, .unset, .unset] [(.ref b18)]))
  refine Go.st (fun _ => XS.dup X31.here hx rfl (hb hby at_68) rfl rfl) ?_
  show Go p.tables e below P (T31.setTop (mkF m 69 #[.val (.int p0), .val (.int p1), .val (.int p2), .val (.ref a1), .val (.int ((p0 &&& (2147483647 : Int32)) % (5 : Int32))), .val (.int jp), .val (.int (p2 &&& (255 : Int32))), .unset, .unset, .unset, .unset, .unset, .unset] [(.ref b18), (.ref b18)]))
  refine Go.st (fun _ => XS.bipush X31.here hx rfl (hb hby at_69)) ?_
  show Go p.tables e below P (T31.setTop (mkF m 71 #[.val (.int p0), .val (.int p1), .val (.int p2), .val (.ref a1), .val (.int ((p0 &&& (2147483647 : Int32)) % (5 : Int32))), .val (.int jp), .val (.int (p2 &&& (255 : Int32))), .unset, .unset, .unset, .unset, .unset, .unset] [(.int (7 : Int32)), (.ref b18), (.ref b18)]))
  refine Go.st (fun _ => XS.bipush X31.here hx rfl (hb hby at_71)) ?_
  show Go p.tables e below P (T31.setTop (mkF m 73 #[.val (.int p0), .val (.int p1), .val (.int p2), .val (.ref a1), .val (.int ((p0 &&& (2147483647 : Int32)) % (5 : Int32))), .val (.int jp), .val (.int (p2 &&& (255 : Int32))), .unset, .unset, .unset, .unset, .unset, .unset] [(.int (114 : Int32)), (.int (7 : Int32)), (.ref b18), (.ref b18)]))
  obtain ⟨T33, h33, X33, e33, W33, V33, st33⟩ := own_stC X31 hx hZ1 e31 V31' (j := (7 : Int32)) (i := 7) (by decide) (by decide) (Nat.le_of_ble_eq_true rfl) (g := (mkF m 73 #[.val (.int p0), .val (.int p1), .val (.int p2), .val (.ref a1), .val (.int ((p0 &&& (2147483647 : Int32)) % (5 : Int32))), .val (.int jp), .val (.int (p2 &&& (255 : Int32))), .unset, .unset, .unset, .unset, .unset, .unset] [(.int (114 : Int32)), (.int (7 : Int32)), (.ref b18), (.ref b18)])) rfl rfl (hb hby at_73)
  refine Go.st st33 ?_
  have sf34 := Safe.wr W33 sf32 CR31.1 sf32
  have CR33 := CR31.trans (CHr.wr W33 sf32 CR31.1)
  have K33 : Keep h0 h33 [] := K31.wr W33 (Or.inr sz_b18)
  have O33 := O31.wr W33 g_b18
  have N33 := Fr.snoc X33 N31 g_b18
  have V33' : Arv Z h33 b18 k18 .char (18 : Int32) [(.int (117 : Int32)), (.int (115 : Int32)), (.int (45 : Int32)), (.int (102 : Int32)), (.int (101 : Int32)), (.int (100 : Int32)), (.int (101 : Int32)), (.int (114 : Int32)), (.int (0 : Int32)), (.int (0 : Int32)), (.int (0 : Int32)), (.int (0 : Int32)), (.int (0 : Int32)), (.int (0 : Int32)), (.int (0 : Int32)), (.int (0 : Int32)), (.int (0 : Int32)), (.int (0 : Int32))] (.int (0 : Int32)) := V33
  show Go p.tables e below P (T33.setTop (mkF m 74 #[.val (.int p0), .val (.int p1), .val (.int p2), .val (.ref a1), .val (.int ((p0 &&& (2147483647 : Int32)) % (5 : Int32))), .val (.int jp), .val (.int (p2 &&& (255 : Int32))), .unset, .unset, .unset, .unset, .unset, .unset] [(.ref b18)]))
  refine Go.st (fun _ => XS.dup X33.here hx rfl (hb hby at_74) rfl rfl) ?_
  show Go p.tables e below P (T33.setTop (mkF m 75 #[.val (.int p0), .val (.int p1), .val (.int p2), .val (.ref a1), .val (.int ((p0 &&& (2147483647 : Int32)) % (5 : Int32))), .val (.int jp), .val (.int (p2 &&& (255 : Int32))), .unset, .unset, .unset, .unset, .unset, .unset] [(.ref b18), (.ref b18)]))
  refine Go.st (fun _ => XS.bipush X33.here hx rfl (hb hby at_75)) ?_
  show Go p.tables e below P (T33.setTop (mkF m 77 #[.val (.int p0), .val (.int p1), .val (.int p2), .val (.ref a1), .val (.int ((p0 &&& (2147483647 : Int32)) % (5 : Int32))), .val (.int jp), .val (.int (p2 &&& (255 : Int32))), .unset, .unset, .unset, .unset, .unset, .unset] [(.int (8 : Int32)), (.ref b18), (.ref b18)]))
  refine Go.st (fun _ => XS.bipush X33.here hx rfl (hb hby at_77)) ?_
  show Go p.tables e below P (T33.setTop (mkF m 79 #[.val (.int p0), .val (.int p1), .val (.int p2), .val (.ref a1), .val (.int ((p0 &&& (2147483647 : Int32)) % (5 : Int32))), .val (.int jp), .val (.int (p2 &&& (255 : Int32))), .unset, .unset, .unset, .unset, .unset, .unset] [(.int (97 : Int32)), (.int (8 : Int32)), (.ref b18), (.ref b18)]))
  obtain ⟨T35, h35, X35, e35, W35, V35, st35⟩ := own_stC X33 hx hZ1 e33 V33' (j := (8 : Int32)) (i := 8) (by decide) (by decide) (Nat.le_of_ble_eq_true rfl) (g := (mkF m 79 #[.val (.int p0), .val (.int p1), .val (.int p2), .val (.ref a1), .val (.int ((p0 &&& (2147483647 : Int32)) % (5 : Int32))), .val (.int jp), .val (.int (p2 &&& (255 : Int32))), .unset, .unset, .unset, .unset, .unset, .unset] [(.int (97 : Int32)), (.int (8 : Int32)), (.ref b18), (.ref b18)])) rfl rfl (hb hby at_79)
  refine Go.st st35 ?_
  have sf36 := Safe.wr W35 sf34 CR33.1 sf34
  have CR35 := CR33.trans (CHr.wr W35 sf34 CR33.1)
  have K35 : Keep h0 h35 [] := K33.wr W35 (Or.inr sz_b18)
  have O35 := O33.wr W35 g_b18
  have N35 := Fr.snoc X35 N33 g_b18
  have V35' : Arv Z h35 b18 k18 .char (18 : Int32) [(.int (117 : Int32)), (.int (115 : Int32)), (.int (45 : Int32)), (.int (102 : Int32)), (.int (101 : Int32)), (.int (100 : Int32)), (.int (101 : Int32)), (.int (114 : Int32)), (.int (97 : Int32)), (.int (0 : Int32)), (.int (0 : Int32)), (.int (0 : Int32)), (.int (0 : Int32)), (.int (0 : Int32)), (.int (0 : Int32)), (.int (0 : Int32)), (.int (0 : Int32)), (.int (0 : Int32))] (.int (0 : Int32)) := V35
  show Go p.tables e below P (T35.setTop (mkF m 80 #[.val (.int p0), .val (.int p1), .val (.int p2), .val (.ref a1), .val (.int ((p0 &&& (2147483647 : Int32)) % (5 : Int32))), .val (.int jp), .val (.int (p2 &&& (255 : Int32))), .unset, .unset, .unset, .unset, .unset, .unset] [(.ref b18)]))
  refine Go.st (fun _ => XS.dup X35.here hx rfl (hb hby at_80) rfl rfl) ?_
  show Go p.tables e below P (T35.setTop (mkF m 81 #[.val (.int p0), .val (.int p1), .val (.int p2), .val (.ref a1), .val (.int ((p0 &&& (2147483647 : Int32)) % (5 : Int32))), .val (.int jp), .val (.int (p2 &&& (255 : Int32))), .unset, .unset, .unset, .unset, .unset, .unset] [(.ref b18), (.ref b18)]))
  refine Go.st (fun _ => XS.bipush X35.here hx rfl (hb hby at_81)) ?_
  show Go p.tables e below P (T35.setTop (mkF m 83 #[.val (.int p0), .val (.int p1), .val (.int p2), .val (.ref a1), .val (.int ((p0 &&& (2147483647 : Int32)) % (5 : Int32))), .val (.int jp), .val (.int (p2 &&& (255 : Int32))), .unset, .unset, .unset, .unset, .unset, .unset] [(.int (9 : Int32)), (.ref b18), (.ref b18)]))
  refine Go.st (fun _ => XS.bipush X35.here hx rfl (hb hby at_83)) ?_
  show Go p.tables e below P (T35.setTop (mkF m 85 #[.val (.int p0), .val (.int p1), .val (.int p2), .val (.ref a1), .val (.int ((p0 &&& (2147483647 : Int32)) % (5 : Int32))), .val (.int jp), .val (.int (p2 &&& (255 : Int32))), .unset, .unset, .unset, .unset, .unset, .unset] [(.int (108 : Int32)), (.int (9 : Int32)), (.ref b18), (.ref b18)]))
  obtain ⟨T37, h37, X37, e37, W37, V37, st37⟩ := own_stC X35 hx hZ1 e35 V35' (j := (9 : Int32)) (i := 9) (by decide) (by decide) (Nat.le_of_ble_eq_true rfl) (g := (mkF m 85 #[.val (.int p0), .val (.int p1), .val (.int p2), .val (.ref a1), .val (.int ((p0 &&& (2147483647 : Int32)) % (5 : Int32))), .val (.int jp), .val (.int (p2 &&& (255 : Int32))), .unset, .unset, .unset, .unset, .unset, .unset] [(.int (108 : Int32)), (.int (9 : Int32)), (.ref b18), (.ref b18)])) rfl rfl (hb hby at_85)
  refine Go.st st37 ?_
  have sf38 := Safe.wr W37 sf36 CR35.1 sf36
  have CR37 := CR35.trans (CHr.wr W37 sf36 CR35.1)
  have K37 : Keep h0 h37 [] := K35.wr W37 (Or.inr sz_b18)
  have O37 := O35.wr W37 g_b18
  have N37 := Fr.snoc X37 N35 g_b18
  have V37' : Arv Z h37 b18 k18 .char (18 : Int32) [(.int (117 : Int32)), (.int (115 : Int32)), (.int (45 : Int32)), (.int (102 : Int32)), (.int (101 : Int32)), (.int (100 : Int32)), (.int (101 : Int32)), (.int (114 : Int32)), (.int (97 : Int32)), (.int (108 : Int32)), (.int (0 : Int32)), (.int (0 : Int32)), (.int (0 : Int32)), (.int (0 : Int32)), (.int (0 : Int32)), (.int (0 : Int32)), (.int (0 : Int32)), (.int (0 : Int32))] (.int (0 : Int32)) := V37
  show Go p.tables e below P (T37.setTop (mkF m 86 #[.val (.int p0), .val (.int p1), .val (.int p2), .val (.ref a1), .val (.int ((p0 &&& (2147483647 : Int32)) % (5 : Int32))), .val (.int jp), .val (.int (p2 &&& (255 : Int32))), .unset, .unset, .unset, .unset, .unset, .unset] [(.ref b18)]))
  refine Go.st (fun _ => XS.dup X37.here hx rfl (hb hby at_86) rfl rfl) ?_
  show Go p.tables e below P (T37.setTop (mkF m 87 #[.val (.int p0), .val (.int p1), .val (.int p2), .val (.ref a1), .val (.int ((p0 &&& (2147483647 : Int32)) % (5 : Int32))), .val (.int jp), .val (.int (p2 &&& (255 : Int32))), .unset, .unset, .unset, .unset, .unset, .unset] [(.ref b18), (.ref b18)]))
  refine Go.st (fun _ => XS.bipush X37.here hx rfl (hb hby at_87)) ?_
  show Go p.tables e below P (T37.setTop (mkF m 89 #[.val (.int p0), .val (.int p1), .val (.int p2), .val (.ref a1), .val (.int ((p0 &&& (2147483647 : Int32)) % (5 : Int32))), .val (.int jp), .val (.int (p2 &&& (255 : Int32))), .unset, .unset, .unset, .unset, .unset, .unset] [(.int (10 : Int32)), (.ref b18), (.ref b18)]))
  refine Go.st (fun _ => XS.bipush X37.here hx rfl (hb hby at_89)) ?_
  show Go p.tables e below P (T37.setTop (mkF m 91 #[.val (.int p0), .val (.int p1), .val (.int p2), .val (.ref a1), .val (.int ((p0 &&& (2147483647 : Int32)) % (5 : Int32))), .val (.int jp), .val (.int (p2 &&& (255 : Int32))), .unset, .unset, .unset, .unset, .unset, .unset] [(.int (45 : Int32)), (.int (10 : Int32)), (.ref b18), (.ref b18)]))
  obtain ⟨T39, h39, X39, e39, W39, V39, st39⟩ := own_stC X37 hx hZ1 e37 V37' (j := (10 : Int32)) (i := 10) (by decide) (by decide) (Nat.le_of_ble_eq_true rfl) (g := (mkF m 91 #[.val (.int p0), .val (.int p1), .val (.int p2), .val (.ref a1), .val (.int ((p0 &&& (2147483647 : Int32)) % (5 : Int32))), .val (.int jp), .val (.int (p2 &&& (255 : Int32))), .unset, .unset, .unset, .unset, .unset, .unset] [(.int (45 : Int32)), (.int (10 : Int32)), (.ref b18), (.ref b18)])) rfl rfl (hb hby at_91)
  refine Go.st st39 ?_
  have sf40 := Safe.wr W39 sf38 CR37.1 sf38
  have CR39 := CR37.trans (CHr.wr W39 sf38 CR37.1)
  have K39 : Keep h0 h39 [] := K37.wr W39 (Or.inr sz_b18)
  have O39 := O37.wr W39 g_b18
  have N39 := Fr.snoc X39 N37 g_b18
  have V39' : Arv Z h39 b18 k18 .char (18 : Int32) [(.int (117 : Int32)), (.int (115 : Int32)), (.int (45 : Int32)), (.int (102 : Int32)), (.int (101 : Int32)), (.int (100 : Int32)), (.int (101 : Int32)), (.int (114 : Int32)), (.int (97 : Int32)), (.int (108 : Int32)), (.int (45 : Int32)), (.int (0 : Int32)), (.int (0 : Int32)), (.int (0 : Int32)), (.int (0 : Int32)), (.int (0 : Int32)), (.int (0 : Int32)), (.int (0 : Int32))] (.int (0 : Int32)) := V39
  show Go p.tables e below P (T39.setTop (mkF m 92 #[.val (.int p0), .val (.int p1), .val (.int p2), .val (.ref a1), .val (.int ((p0 &&& (2147483647 : Int32)) % (5 : Int32))), .val (.int jp), .val (.int (p2 &&& (255 : Int32))), .unset, .unset, .unset, .unset, .unset, .unset] [(.ref b18)]))
  refine Go.st (fun _ => XS.dup X39.here hx rfl (hb hby at_92) rfl rfl) ?_
  show Go p.tables e below P (T39.setTop (mkF m 93 #[.val (.int p0), .val (.int p1), .val (.int p2), .val (.ref a1), .val (.int ((p0 &&& (2147483647 : Int32)) % (5 : Int32))), .val (.int jp), .val (.int (p2 &&& (255 : Int32))), .unset, .unset, .unset, .unset, .unset, .unset] [(.ref b18), (.ref b18)]))
  refine Go.st (fun _ => XS.bipush X39.here hx rfl (hb hby at_93)) ?_
  show Go p.tables e below P (T39.setTop (mkF m 95 #[.val (.int p0), .val (.int p1), .val (.int p2), .val (.ref a1), .val (.int ((p0 &&& (2147483647 : Int32)) % (5 : Int32))), .val (.int jp), .val (.int (p2 &&& (255 : Int32))), .unset, .unset, .unset, .unset, .unset, .unset] [(.int (11 : Int32)), (.ref b18), (.ref b18)]))
  refine Go.st (fun _ => XS.bipush X39.here hx rfl (hb hby at_95)) ?_
  show Go p.tables e below P (T39.setTop (mkF m 97 #[.val (.int p0), .val (.int p1), .val (.int p2), .val (.ref a1), .val (.int ((p0 &&& (2147483647 : Int32)) % (5 : Int32))), .val (.int jp), .val (.int (p2 &&& (255 : Int32))), .unset, .unset, .unset, .unset, .unset, .unset] [(.int (114 : Int32)), (.int (11 : Int32)), (.ref b18), (.ref b18)]))
  obtain ⟨T41, h41, X41, e41, W41, V41, st41⟩ := own_stC X39 hx hZ1 e39 V39' (j := (11 : Int32)) (i := 11) (by decide) (by decide) (Nat.le_of_ble_eq_true rfl) (g := (mkF m 97 #[.val (.int p0), .val (.int p1), .val (.int p2), .val (.ref a1), .val (.int ((p0 &&& (2147483647 : Int32)) % (5 : Int32))), .val (.int jp), .val (.int (p2 &&& (255 : Int32))), .unset, .unset, .unset, .unset, .unset, .unset] [(.int (114 : Int32)), (.int (11 : Int32)), (.ref b18), (.ref b18)])) rfl rfl (hb hby at_97)
  refine Go.st st41 ?_
  have sf42 := Safe.wr W41 sf40 CR39.1 sf40
  have CR41 := CR39.trans (CHr.wr W41 sf40 CR39.1)
  have K41 : Keep h0 h41 [] := K39.wr W41 (Or.inr sz_b18)
  have O41 := O39.wr W41 g_b18
  have N41 := Fr.snoc X41 N39 g_b18
  have V41' : Arv Z h41 b18 k18 .char (18 : Int32) [(.int (117 : Int32)), (.int (115 : Int32)), (.int (45 : Int32)), (.int (102 : Int32)), (.int (101 : Int32)), (.int (100 : Int32)), (.int (101 : Int32)), (.int (114 : Int32)), (.int (97 : Int32)), (.int (108 : Int32)), (.int (45 : Int32)), (.int (114 : Int32)), (.int (0 : Int32)), (.int (0 : Int32)), (.int (0 : Int32)), (.int (0 : Int32)), (.int (0 : Int32)), (.int (0 : Int32))] (.int (0 : Int32)) := V41
  show Go p.tables e below P (T41.setTop (mkF m 98 #[.val (.int p0), .val (.int p1), .val (.int p2), .val (.ref a1), .val (.int ((p0 &&& (2147483647 : Int32)) % (5 : Int32))), .val (.int jp), .val (.int (p2 &&& (255 : Int32))), .unset, .unset, .unset, .unset, .unset, .unset] [(.ref b18)]))
  refine Go.st (fun _ => XS.dup X41.here hx rfl (hb hby at_98) rfl rfl) ?_
  show Go p.tables e below P (T41.setTop (mkF m 99 #[.val (.int p0), .val (.int p1), .val (.int p2), .val (.ref a1), .val (.int ((p0 &&& (2147483647 : Int32)) % (5 : Int32))), .val (.int jp), .val (.int (p2 &&& (255 : Int32))), .unset, .unset, .unset, .unset, .unset, .unset] [(.ref b18), (.ref b18)]))
  refine Go.st (fun _ => XS.bipush X41.here hx rfl (hb hby at_99)) ?_
  show Go p.tables e below P (T41.setTop (mkF m 101 #[.val (.int p0), .val (.int p1), .val (.int p2), .val (.ref a1), .val (.int ((p0 &&& (2147483647 : Int32)) % (5 : Int32))), .val (.int jp), .val (.int (p2 &&& (255 : Int32))), .unset, .unset, .unset, .unset, .unset, .unset] [(.int (12 : Int32)), (.ref b18), (.ref b18)]))
  refine Go.st (fun _ => XS.bipush X41.here hx rfl (hb hby at_101)) ?_
  show Go p.tables e below P (T41.setTop (mkF m 103 #[.val (.int p0), .val (.int p1), .val (.int p2), .val (.ref a1), .val (.int ((p0 &&& (2147483647 : Int32)) % (5 : Int32))), .val (.int jp), .val (.int (p2 &&& (255 : Int32))), .unset, .unset, .unset, .unset, .unset, .unset] [(.int (101 : Int32)), (.int (12 : Int32)), (.ref b18), (.ref b18)]))
  obtain ⟨T43, h43, X43, e43, W43, V43, st43⟩ := own_stC X41 hx hZ1 e41 V41' (j := (12 : Int32)) (i := 12) (by decide) (by decide) (Nat.le_of_ble_eq_true rfl) (g := (mkF m 103 #[.val (.int p0), .val (.int p1), .val (.int p2), .val (.ref a1), .val (.int ((p0 &&& (2147483647 : Int32)) % (5 : Int32))), .val (.int jp), .val (.int (p2 &&& (255 : Int32))), .unset, .unset, .unset, .unset, .unset, .unset] [(.int (101 : Int32)), (.int (12 : Int32)), (.ref b18), (.ref b18)])) rfl rfl (hb hby at_103)
  refine Go.st st43 ?_
  have sf44 := Safe.wr W43 sf42 CR41.1 sf42
  have CR43 := CR41.trans (CHr.wr W43 sf42 CR41.1)
  have K43 : Keep h0 h43 [] := K41.wr W43 (Or.inr sz_b18)
  have O43 := O41.wr W43 g_b18
  have N43 := Fr.snoc X43 N41 g_b18
  have V43' : Arv Z h43 b18 k18 .char (18 : Int32) [(.int (117 : Int32)), (.int (115 : Int32)), (.int (45 : Int32)), (.int (102 : Int32)), (.int (101 : Int32)), (.int (100 : Int32)), (.int (101 : Int32)), (.int (114 : Int32)), (.int (97 : Int32)), (.int (108 : Int32)), (.int (45 : Int32)), (.int (114 : Int32)), (.int (101 : Int32)), (.int (0 : Int32)), (.int (0 : Int32)), (.int (0 : Int32)), (.int (0 : Int32)), (.int (0 : Int32))] (.int (0 : Int32)) := V43
  show Go p.tables e below P (T43.setTop (mkF m 104 #[.val (.int p0), .val (.int p1), .val (.int p2), .val (.ref a1), .val (.int ((p0 &&& (2147483647 : Int32)) % (5 : Int32))), .val (.int jp), .val (.int (p2 &&& (255 : Int32))), .unset, .unset, .unset, .unset, .unset, .unset] [(.ref b18)]))
  refine Go.st (fun _ => XS.dup X43.here hx rfl (hb hby at_104) rfl rfl) ?_
  show Go p.tables e below P (T43.setTop (mkF m 105 #[.val (.int p0), .val (.int p1), .val (.int p2), .val (.ref a1), .val (.int ((p0 &&& (2147483647 : Int32)) % (5 : Int32))), .val (.int jp), .val (.int (p2 &&& (255 : Int32))), .unset, .unset, .unset, .unset, .unset, .unset] [(.ref b18), (.ref b18)]))
  refine Go.st (fun _ => XS.bipush X43.here hx rfl (hb hby at_105)) ?_
  show Go p.tables e below P (T43.setTop (mkF m 107 #[.val (.int p0), .val (.int p1), .val (.int p2), .val (.ref a1), .val (.int ((p0 &&& (2147483647 : Int32)) % (5 : Int32))), .val (.int jp), .val (.int (p2 &&& (255 : Int32))), .unset, .unset, .unset, .unset, .unset, .unset] [(.int (13 : Int32)), (.ref b18), (.ref b18)]))
  refine Go.st (fun _ => XS.bipush X43.here hx rfl (hb hby at_107)) ?_
  show Go p.tables e below P (T43.setTop (mkF m 109 #[.val (.int p0), .val (.int p1), .val (.int p2), .val (.ref a1), .val (.int ((p0 &&& (2147483647 : Int32)) % (5 : Int32))), .val (.int jp), .val (.int (p2 &&& (255 : Int32))), .unset, .unset, .unset, .unset, .unset, .unset] [(.int (115 : Int32)), (.int (13 : Int32)), (.ref b18), (.ref b18)]))
  obtain ⟨T45, h45, X45, e45, W45, V45, st45⟩ := own_stC X43 hx hZ1 e43 V43' (j := (13 : Int32)) (i := 13) (by decide) (by decide) (Nat.le_of_ble_eq_true rfl) (g := (mkF m 109 #[.val (.int p0), .val (.int p1), .val (.int p2), .val (.ref a1), .val (.int ((p0 &&& (2147483647 : Int32)) % (5 : Int32))), .val (.int jp), .val (.int (p2 &&& (255 : Int32))), .unset, .unset, .unset, .unset, .unset, .unset] [(.int (115 : Int32)), (.int (13 : Int32)), (.ref b18), (.ref b18)])) rfl rfl (hb hby at_109)
  refine Go.st st45 ?_
  have sf46 := Safe.wr W45 sf44 CR43.1 sf44
  have CR45 := CR43.trans (CHr.wr W45 sf44 CR43.1)
  have K45 : Keep h0 h45 [] := K43.wr W45 (Or.inr sz_b18)
  have O45 := O43.wr W45 g_b18
  have N45 := Fr.snoc X45 N43 g_b18
  have V45' : Arv Z h45 b18 k18 .char (18 : Int32) [(.int (117 : Int32)), (.int (115 : Int32)), (.int (45 : Int32)), (.int (102 : Int32)), (.int (101 : Int32)), (.int (100 : Int32)), (.int (101 : Int32)), (.int (114 : Int32)), (.int (97 : Int32)), (.int (108 : Int32)), (.int (45 : Int32)), (.int (114 : Int32)), (.int (101 : Int32)), (.int (115 : Int32)), (.int (0 : Int32)), (.int (0 : Int32)), (.int (0 : Int32)), (.int (0 : Int32))] (.int (0 : Int32)) := V45
  show Go p.tables e below P (T45.setTop (mkF m 110 #[.val (.int p0), .val (.int p1), .val (.int p2), .val (.ref a1), .val (.int ((p0 &&& (2147483647 : Int32)) % (5 : Int32))), .val (.int jp), .val (.int (p2 &&& (255 : Int32))), .unset, .unset, .unset, .unset, .unset, .unset] [(.ref b18)]))
  refine Go.st (fun _ => XS.dup X45.here hx rfl (hb hby at_110) rfl rfl) ?_
  show Go p.tables e below P (T45.setTop (mkF m 111 #[.val (.int p0), .val (.int p1), .val (.int p2), .val (.ref a1), .val (.int ((p0 &&& (2147483647 : Int32)) % (5 : Int32))), .val (.int jp), .val (.int (p2 &&& (255 : Int32))), .unset, .unset, .unset, .unset, .unset, .unset] [(.ref b18), (.ref b18)]))
  refine Go.st (fun _ => XS.bipush X45.here hx rfl (hb hby at_111)) ?_
  show Go p.tables e below P (T45.setTop (mkF m 113 #[.val (.int p0), .val (.int p1), .val (.int p2), .val (.ref a1), .val (.int ((p0 &&& (2147483647 : Int32)) % (5 : Int32))), .val (.int jp), .val (.int (p2 &&& (255 : Int32))), .unset, .unset, .unset, .unset, .unset, .unset] [(.int (14 : Int32)), (.ref b18), (.ref b18)]))
  refine Go.st (fun _ => XS.bipush X45.here hx rfl (hb hby at_113)) ?_
  show Go p.tables e below P (T45.setTop (mkF m 115 #[.val (.int p0), .val (.int p1), .val (.int p2), .val (.ref a1), .val (.int ((p0 &&& (2147483647 : Int32)) % (5 : Int32))), .val (.int jp), .val (.int (p2 &&& (255 : Int32))), .unset, .unset, .unset, .unset, .unset, .unset] [(.int (101 : Int32)), (.int (14 : Int32)), (.ref b18), (.ref b18)]))
  obtain ⟨T47, h47, X47, e47, W47, V47, st47⟩ := own_stC X45 hx hZ1 e45 V45' (j := (14 : Int32)) (i := 14) (by decide) (by decide) (Nat.le_of_ble_eq_true rfl) (g := (mkF m 115 #[.val (.int p0), .val (.int p1), .val (.int p2), .val (.ref a1), .val (.int ((p0 &&& (2147483647 : Int32)) % (5 : Int32))), .val (.int jp), .val (.int (p2 &&& (255 : Int32))), .unset, .unset, .unset, .unset, .unset, .unset] [(.int (101 : Int32)), (.int (14 : Int32)), (.ref b18), (.ref b18)])) rfl rfl (hb hby at_115)
  refine Go.st st47 ?_
  have sf48 := Safe.wr W47 sf46 CR45.1 sf46
  have CR47 := CR45.trans (CHr.wr W47 sf46 CR45.1)
  have K47 : Keep h0 h47 [] := K45.wr W47 (Or.inr sz_b18)
  have O47 := O45.wr W47 g_b18
  have N47 := Fr.snoc X47 N45 g_b18
  have V47' : Arv Z h47 b18 k18 .char (18 : Int32) [(.int (117 : Int32)), (.int (115 : Int32)), (.int (45 : Int32)), (.int (102 : Int32)), (.int (101 : Int32)), (.int (100 : Int32)), (.int (101 : Int32)), (.int (114 : Int32)), (.int (97 : Int32)), (.int (108 : Int32)), (.int (45 : Int32)), (.int (114 : Int32)), (.int (101 : Int32)), (.int (115 : Int32)), (.int (101 : Int32)), (.int (0 : Int32)), (.int (0 : Int32)), (.int (0 : Int32))] (.int (0 : Int32)) := V47
  show Go p.tables e below P (T47.setTop (mkF m 116 #[.val (.int p0), .val (.int p1), .val (.int p2), .val (.ref a1), .val (.int ((p0 &&& (2147483647 : Int32)) % (5 : Int32))), .val (.int jp), .val (.int (p2 &&& (255 : Int32))), .unset, .unset, .unset, .unset, .unset, .unset] [(.ref b18)]))
  refine Go.st (fun _ => XS.dup X47.here hx rfl (hb hby at_116) rfl rfl) ?_
  show Go p.tables e below P (T47.setTop (mkF m 117 #[.val (.int p0), .val (.int p1), .val (.int p2), .val (.ref a1), .val (.int ((p0 &&& (2147483647 : Int32)) % (5 : Int32))), .val (.int jp), .val (.int (p2 &&& (255 : Int32))), .unset, .unset, .unset, .unset, .unset, .unset] [(.ref b18), (.ref b18)]))
  refine Go.st (fun _ => XS.bipush X47.here hx rfl (hb hby at_117)) ?_
  show Go p.tables e below P (T47.setTop (mkF m 119 #[.val (.int p0), .val (.int p1), .val (.int p2), .val (.ref a1), .val (.int ((p0 &&& (2147483647 : Int32)) % (5 : Int32))), .val (.int jp), .val (.int (p2 &&& (255 : Int32))), .unset, .unset, .unset, .unset, .unset, .unset] [(.int (15 : Int32)), (.ref b18), (.ref b18)]))
  refine Go.st (fun _ => XS.bipush X47.here hx rfl (hb hby at_119)) ?_
  show Go p.tables e below P (T47.setTop (mkF m 121 #[.val (.int p0), .val (.int p1), .val (.int p2), .val (.ref a1), .val (.int ((p0 &&& (2147483647 : Int32)) % (5 : Int32))), .val (.int jp), .val (.int (p2 &&& (255 : Int32))), .unset, .unset, .unset, .unset, .unset, .unset] [(.int (114 : Int32)), (.int (15 : Int32)), (.ref b18), (.ref b18)]))
  obtain ⟨T49, h49, X49, e49, W49, V49, st49⟩ := own_stC X47 hx hZ1 e47 V47' (j := (15 : Int32)) (i := 15) (by decide) (by decide) (Nat.le_of_ble_eq_true rfl) (g := (mkF m 121 #[.val (.int p0), .val (.int p1), .val (.int p2), .val (.ref a1), .val (.int ((p0 &&& (2147483647 : Int32)) % (5 : Int32))), .val (.int jp), .val (.int (p2 &&& (255 : Int32))), .unset, .unset, .unset, .unset, .unset, .unset] [(.int (114 : Int32)), (.int (15 : Int32)), (.ref b18), (.ref b18)])) rfl rfl (hb hby at_121)
  refine Go.st st49 ?_
  have sf50 := Safe.wr W49 sf48 CR47.1 sf48
  have CR49 := CR47.trans (CHr.wr W49 sf48 CR47.1)
  have K49 : Keep h0 h49 [] := K47.wr W49 (Or.inr sz_b18)
  have O49 := O47.wr W49 g_b18
  have N49 := Fr.snoc X49 N47 g_b18
  have V49' : Arv Z h49 b18 k18 .char (18 : Int32) [(.int (117 : Int32)), (.int (115 : Int32)), (.int (45 : Int32)), (.int (102 : Int32)), (.int (101 : Int32)), (.int (100 : Int32)), (.int (101 : Int32)), (.int (114 : Int32)), (.int (97 : Int32)), (.int (108 : Int32)), (.int (45 : Int32)), (.int (114 : Int32)), (.int (101 : Int32)), (.int (115 : Int32)), (.int (101 : Int32)), (.int (114 : Int32)), (.int (0 : Int32)), (.int (0 : Int32))] (.int (0 : Int32)) := V49
  show Go p.tables e below P (T49.setTop (mkF m 122 #[.val (.int p0), .val (.int p1), .val (.int p2), .val (.ref a1), .val (.int ((p0 &&& (2147483647 : Int32)) % (5 : Int32))), .val (.int jp), .val (.int (p2 &&& (255 : Int32))), .unset, .unset, .unset, .unset, .unset, .unset] [(.ref b18)]))
  refine Go.st (fun _ => XS.dup X49.here hx rfl (hb hby at_122) rfl rfl) ?_
  show Go p.tables e below P (T49.setTop (mkF m 123 #[.val (.int p0), .val (.int p1), .val (.int p2), .val (.ref a1), .val (.int ((p0 &&& (2147483647 : Int32)) % (5 : Int32))), .val (.int jp), .val (.int (p2 &&& (255 : Int32))), .unset, .unset, .unset, .unset, .unset, .unset] [(.ref b18), (.ref b18)]))
  refine Go.st (fun _ => XS.bipush X49.here hx rfl (hb hby at_123)) ?_
  show Go p.tables e below P (T49.setTop (mkF m 125 #[.val (.int p0), .val (.int p1), .val (.int p2), .val (.ref a1), .val (.int ((p0 &&& (2147483647 : Int32)) % (5 : Int32))), .val (.int jp), .val (.int (p2 &&& (255 : Int32))), .unset, .unset, .unset, .unset, .unset, .unset] [(.int (16 : Int32)), (.ref b18), (.ref b18)]))
  refine Go.st (fun _ => XS.bipush X49.here hx rfl (hb hby at_125)) ?_
  show Go p.tables e below P (T49.setTop (mkF m 127 #[.val (.int p0), .val (.int p1), .val (.int p2), .val (.ref a1), .val (.int ((p0 &&& (2147483647 : Int32)) % (5 : Int32))), .val (.int jp), .val (.int (p2 &&& (255 : Int32))), .unset, .unset, .unset, .unset, .unset, .unset] [(.int (118 : Int32)), (.int (16 : Int32)), (.ref b18), (.ref b18)]))
  obtain ⟨T51, h51, X51, e51, W51, V51, st51⟩ := own_stC X49 hx hZ1 e49 V49' (j := (16 : Int32)) (i := 16) (by decide) (by decide) (Nat.le_of_ble_eq_true rfl) (g := (mkF m 127 #[.val (.int p0), .val (.int p1), .val (.int p2), .val (.ref a1), .val (.int ((p0 &&& (2147483647 : Int32)) % (5 : Int32))), .val (.int jp), .val (.int (p2 &&& (255 : Int32))), .unset, .unset, .unset, .unset, .unset, .unset] [(.int (118 : Int32)), (.int (16 : Int32)), (.ref b18), (.ref b18)])) rfl rfl (hb hby at_127)
  refine Go.st st51 ?_
  have sf52 := Safe.wr W51 sf50 CR49.1 sf50
  have CR51 := CR49.trans (CHr.wr W51 sf50 CR49.1)
  have K51 : Keep h0 h51 [] := K49.wr W51 (Or.inr sz_b18)
  have O51 := O49.wr W51 g_b18
  have N51 := Fr.snoc X51 N49 g_b18
  have V51' : Arv Z h51 b18 k18 .char (18 : Int32) [(.int (117 : Int32)), (.int (115 : Int32)), (.int (45 : Int32)), (.int (102 : Int32)), (.int (101 : Int32)), (.int (100 : Int32)), (.int (101 : Int32)), (.int (114 : Int32)), (.int (97 : Int32)), (.int (108 : Int32)), (.int (45 : Int32)), (.int (114 : Int32)), (.int (101 : Int32)), (.int (115 : Int32)), (.int (101 : Int32)), (.int (114 : Int32)), (.int (118 : Int32)), (.int (0 : Int32))] (.int (0 : Int32)) := V51
  show Go p.tables e below P (T51.setTop (mkF m 128 #[.val (.int p0), .val (.int p1), .val (.int p2), .val (.ref a1), .val (.int ((p0 &&& (2147483647 : Int32)) % (5 : Int32))), .val (.int jp), .val (.int (p2 &&& (255 : Int32))), .unset, .unset, .unset, .unset, .unset, .unset] [(.ref b18)]))
  refine Go.st (fun _ => XS.dup X51.here hx rfl (hb hby at_128) rfl rfl) ?_
  show Go p.tables e below P (T51.setTop (mkF m 129 #[.val (.int p0), .val (.int p1), .val (.int p2), .val (.ref a1), .val (.int ((p0 &&& (2147483647 : Int32)) % (5 : Int32))), .val (.int jp), .val (.int (p2 &&& (255 : Int32))), .unset, .unset, .unset, .unset, .unset, .unset] [(.ref b18), (.ref b18)]))
  refine Go.st (fun _ => XS.bipush X51.here hx rfl (hb hby at_129)) ?_
  show Go p.tables e below P (T51.setTop (mkF m 131 #[.val (.int p0), .val (.int p1), .val (.int p2), .val (.ref a1), .val (.int ((p0 &&& (2147483647 : Int32)) % (5 : Int32))), .val (.int jp), .val (.int (p2 &&& (255 : Int32))), .unset, .unset, .unset, .unset, .unset, .unset] [(.int (17 : Int32)), (.ref b18), (.ref b18)]))
  refine Go.st (fun _ => XS.bipush X51.here hx rfl (hb hby at_131)) ?_
  show Go p.tables e below P (T51.setTop (mkF m 133 #[.val (.int p0), .val (.int p1), .val (.int p2), .val (.ref a1), .val (.int ((p0 &&& (2147483647 : Int32)) % (5 : Int32))), .val (.int jp), .val (.int (p2 &&& (255 : Int32))), .unset, .unset, .unset, .unset, .unset, .unset] [(.int (101 : Int32)), (.int (17 : Int32)), (.ref b18), (.ref b18)]))
  obtain ⟨T53, h53, X53, e53, W53, V53, st53⟩ := own_stC X51 hx hZ1 e51 V51' (j := (17 : Int32)) (i := 17) (by decide) (by decide) (Nat.le_of_ble_eq_true rfl) (g := (mkF m 133 #[.val (.int p0), .val (.int p1), .val (.int p2), .val (.ref a1), .val (.int ((p0 &&& (2147483647 : Int32)) % (5 : Int32))), .val (.int jp), .val (.int (p2 &&& (255 : Int32))), .unset, .unset, .unset, .unset, .unset, .unset] [(.int (101 : Int32)), (.int (17 : Int32)), (.ref b18), (.ref b18)])) rfl rfl (hb hby at_133)
  refine Go.st st53 ?_
  have sf54 := Safe.wr W53 sf52 CR51.1 sf52
  have CR53 := CR51.trans (CHr.wr W53 sf52 CR51.1)
  have K53 : Keep h0 h53 [] := K51.wr W53 (Or.inr sz_b18)
  have O53 := O51.wr W53 g_b18
  have N53 := Fr.snoc X53 N51 g_b18
  have V53' : Arv Z h53 b18 k18 .char (18 : Int32) [(.int (117 : Int32)), (.int (115 : Int32)), (.int (45 : Int32)), (.int (102 : Int32)), (.int (101 : Int32)), (.int (100 : Int32)), (.int (101 : Int32)), (.int (114 : Int32)), (.int (97 : Int32)), (.int (108 : Int32)), (.int (45 : Int32)), (.int (114 : Int32)), (.int (101 : Int32)), (.int (115 : Int32)), (.int (101 : Int32)), (.int (114 : Int32)), (.int (118 : Int32)), (.int (101 : Int32))] (.int (0 : Int32)) := V53
  show Go p.tables e below P (T53.setTop (mkF m 134 #[.val (.int p0), .val (.int p1), .val (.int p2), .val (.ref a1), .val (.int ((p0 &&& (2147483647 : Int32)) % (5 : Int32))), .val (.int jp), .val (.int (p2 &&& (255 : Int32))), .unset, .unset, .unset, .unset, .unset, .unset] [(.ref b18)]))
  refine Go.st (fun _ => XS.astore X53.here hx rfl (hb hby at_134) rfl rfl (l' := #[.val (.int p0), .val (.int p1), .val (.int p2), .val (.ref a1), .val (.int ((p0 &&& (2147483647 : Int32)) % (5 : Int32))), .val (.int jp), .val (.int (p2 &&& (255 : Int32))), .val (.ref b18), .unset, .unset, .unset, .unset, .unset]) rfl) ?_
  show Go p.tables e below P (T53.setTop (mkF m 136 #[.val (.int p0), .val (.int p1), .val (.int p2), .val (.ref a1), .val (.int ((p0 &&& (2147483647 : Int32)) % (5 : Int32))), .val (.int jp), .val (.int (p2 &&& (255 : Int32))), .val (.ref b18), .unset, .unset, .unset, .unset, .unset] []))
  refine Go.st (fun _ => XS.bipush X53.here hx rfl (hb hby at_136)) ?_
  show Go p.tables e below P (T53.setTop (mkF m 138 #[.val (.int p0), .val (.int p1), .val (.int p2), .val (.ref a1), .val (.int ((p0 &&& (2147483647 : Int32)) % (5 : Int32))), .val (.int jp), .val (.int (p2 &&& (255 : Int32))), .val (.ref b18), .unset, .unset, .unset, .unset, .unset] [(.int (19 : Int32))]))
  have c56 := (((((((((((((((((((Ea1.ext E18).wr W19).wr W21).wr W23).wr W25).wr W27).wr W29).wr W31).wr W33).wr W35).wr W37).wr W39).wr W41).wr W43).wr W45).wr W47).wr W49).wr W51).wr W53)
  have c57 := (((((((((((((((((((Ab1.ext E18).other W19 (Nat.ne_of_lt (Nat.lt_of_lt_of_le Ab1.lt (Nat.le_of_eq g18.symm)))).other W21 (Nat.ne_of_lt (Nat.lt_of_lt_of_le Ab1.lt (Nat.le_of_eq g18.symm)))).other W23 (Nat.ne_of_lt (Nat.lt_of_lt_of_le Ab1.lt (Nat.le_of_eq g18.symm)))).other W25 (Nat.ne_of_lt (Nat.lt_of_lt_of_le Ab1.lt (Nat.le_of_eq g18.symm)))).other W27 (Nat.ne_of_lt (Nat.lt_of_lt_of_le Ab1.lt (Nat.le_of_eq g18.symm)))).other W29 (Nat.ne_of_lt (Nat.lt_of_lt_of_le Ab1.lt (Nat.le_of_eq g18.symm)))).other W31 (Nat.ne_of_lt (Nat.lt_of_lt_of_le Ab1.lt (Nat.le_of_eq g18.symm)))).other W33 (Nat.ne_of_lt (Nat.lt_of_lt_of_le Ab1.lt (Nat.le_of_eq g18.symm)))).other W35 (Nat.ne_of_lt (Nat.lt_of_lt_of_le Ab1.lt (Nat.le_of_eq g18.symm)))).other W37 (Nat.ne_of_lt (Nat.lt_of_lt_of_le Ab1.lt (Nat.le_of_eq g18.symm)))).other W39 (Nat.ne_of_lt (Nat.lt_of_lt_of_le Ab1.lt (Nat.le_of_eq g18.symm)))).other W41 (Nat.ne_of_lt (Nat.lt_of_lt_of_le Ab1.lt (Nat.le_of_eq g18.symm)))).other W43 (Nat.ne_of_lt (Nat.lt_of_lt_of_le Ab1.lt (Nat.le_of_eq g18.symm)))).other W45 (Nat.ne_of_lt (Nat.lt_of_lt_of_le Ab1.lt (Nat.le_of_eq g18.symm)))).other W47 (Nat.ne_of_lt (Nat.lt_of_lt_of_le Ab1.lt (Nat.le_of_eq g18.symm)))).other W49 (Nat.ne_of_lt (Nat.lt_of_lt_of_le Ab1.lt (Nat.le_of_eq g18.symm)))).other W51 (Nat.ne_of_lt (Nat.lt_of_lt_of_le Ab1.lt (Nat.le_of_eq g18.symm)))).other W53 (Nat.ne_of_lt (Nat.lt_of_lt_of_le Ab1.lt (Nat.le_of_eq g18.symm))))
  obtain ⟨T55, h55, k55, X55, e55, E55, A55, st55⟩ := newP X53 hx hZ1 (ow hw 9 rfl) e53 (g := (mkF m 138 #[.val (.int p0), .val (.int p1), .val (.int p2), .val (.ref a1), .val (.int ((p0 &&& (2147483647 : Int32)) % (5 : Int32))), .val (.int jp), .val (.int (p2 &&& (255 : Int32))), .val (.ref b18), .unset, .unset, .unset, .unset, .unset] [(.int (19 : Int32))])) rfl (hb hby at_138) rfl (by decide) (cap := 19) (by decide) (by decide) (by decide) (by decide)
  obtain ⟨b55, g55⟩ : ∃ z, z = h53.size := ⟨_, rfl⟩
  rw [← g55] at A55 st55
  refine Go.st st55 ?_
  have g_b55 : n0 ≤ b55 := Nat.le_trans (own_oldsz O53) (Nat.le_of_eq g55.symm)
  have sz_b55 : h0.size ≤ b55 := Nat.le_trans K53.1 (Nat.le_of_eq g55.symm)
  have K55 : Keep h0 h55 [] := K53.ext E55
  have O55 := O53.ext E55
  have sf58 := Safe.ext E55 CR53.1 sf54
  have SF_b55 : Safe Z consts_1 T1.vm h55 b55 := Safe.ext E55 CR53.1 (Safe.new (Nat.le_of_eq g55.symm))
  have CR55 := CR53.trans (CHr.ext E55 CR53.1)
  have V55 : Arv Z h55 b55 k55 .char (19 : Int32) [(.int (0 : Int32)), (.int (0 : Int32)), (.int (0 : Int32)), (.int (0 : Int32)), (.int (0 : Int32)), (.int (0 : Int32)), (.int (0 : Int32)), (.int (0 : Int32)), (.int (0 : Int32)), (.int (0 : Int32)), (.int (0 : Int32)), (.int (0 : Int32)), (.int (0 : Int32)), (.int (0 : Int32)), (.int (0 : Int32)), (.int (0 : Int32)), (.int (0 : Int32)), (.int (0 : Int32)), (.int (0 : Int32))] (.int (0 : Int32)) := (Arv.new A55 (by decide)).pad (pad_rep [] (.int (0 : Int32)) 19)
  show Go p.tables e below P (T55.setTop (mkF m 140 #[.val (.int p0), .val (.int p1), .val (.int p2), .val (.ref a1), .val (.int ((p0 &&& (2147483647 : Int32)) % (5 : Int32))), .val (.int jp), .val (.int (p2 &&& (255 : Int32))), .val (.ref b18), .unset, .unset, .unset, .unset, .unset] [(.ref b55)]))
  refine Go.st (fun _ => XS.dup X55.here hx rfl (hb hby at_140) rfl rfl) ?_
  show Go p.tables e below P (T55.setTop (mkF m 141 #[.val (.int p0), .val (.int p1), .val (.int p2), .val (.ref a1), .val (.int ((p0 &&& (2147483647 : Int32)) % (5 : Int32))), .val (.int jp), .val (.int (p2 &&& (255 : Int32))), .val (.ref b18), .unset, .unset, .unset, .unset, .unset] [(.ref b55), (.ref b55)]))
  refine Go.st (fun _ => XS.iconst X55.here hx rfl (hb hby at_141)) ?_
  show Go p.tables e below P (T55.setTop (mkF m 142 #[.val (.int p0), .val (.int p1), .val (.int p2), .val (.ref a1), .val (.int ((p0 &&& (2147483647 : Int32)) % (5 : Int32))), .val (.int jp), .val (.int (p2 &&& (255 : Int32))), .val (.ref b18), .unset, .unset, .unset, .unset, .unset] [(.int (0 : Int32)), (.ref b55), (.ref b55)]))
  refine Go.st (fun _ => XS.bipush X55.here hx rfl (hb hby at_142)) ?_
  show Go p.tables e below P (T55.setTop (mkF m 144 #[.val (.int p0), .val (.int p1), .val (.int p2), .val (.ref a1), .val (.int ((p0 &&& (2147483647 : Int32)) % (5 : Int32))), .val (.int jp), .val (.int (p2 &&& (255 : Int32))), .val (.ref b18), .unset, .unset, .unset, .unset, .unset] [(.int (117 : Int32)), (.int (0 : Int32)), (.ref b55), (.ref b55)]))
  obtain ⟨T59, h59, X59, e59, W59, V59, st59⟩ := own_stC X55 hx hZ1 e55 V55 (j := (0 : Int32)) (i := 0) (by decide) (by decide) (Nat.le_of_ble_eq_true rfl) (g := (mkF m 144 #[.val (.int p0), .val (.int p1), .val (.int p2), .val (.ref a1), .val (.int ((p0 &&& (2147483647 : Int32)) % (5 : Int32))), .val (.int jp), .val (.int (p2 &&& (255 : Int32))), .val (.ref b18), .unset, .unset, .unset, .unset, .unset] [(.int (117 : Int32)), (.int (0 : Int32)), (.ref b55), (.ref b55)])) rfl rfl (hb hby at_144)
  refine Go.st st59 ?_
  have sf60 := Safe.wr W59 SF_b55 CR55.1 sf58
  have sf61 := Safe.wr W59 SF_b55 CR55.1 SF_b55
  have CR59 := CR55.trans (CHr.wr W59 SF_b55 CR55.1)
  have K59 : Keep h0 h59 [] := K55.wr W59 (Or.inr sz_b55)
  have O59 := O55.wr W59 g_b55
  have N59 := Fr.snoc X59 N53 g_b55
  have V59' : Arv Z h59 b55 k55 .char (19 : Int32) [(.int (117 : Int32)), (.int (0 : Int32)), (.int (0 : Int32)), (.int (0 : Int32)), (.int (0 : Int32)), (.int (0 : Int32)), (.int (0 : Int32)), (.int (0 : Int32)), (.int (0 : Int32)), (.int (0 : Int32)), (.int (0 : Int32)), (.int (0 : Int32)), (.int (0 : Int32)), (.int (0 : Int32)), (.int (0 : Int32)), (.int (0 : Int32)), (.int (0 : Int32)), (.int (0 : Int32)), (.int (0 : Int32))] (.int (0 : Int32)) := V59
  show Go p.tables e below P (T59.setTop (mkF m 145 #[.val (.int p0), .val (.int p1), .val (.int p2), .val (.ref a1), .val (.int ((p0 &&& (2147483647 : Int32)) % (5 : Int32))), .val (.int jp), .val (.int (p2 &&& (255 : Int32))), .val (.ref b18), .unset, .unset, .unset, .unset, .unset] [(.ref b55)]))
  refine Go.st (fun _ => XS.dup X59.here hx rfl (hb hby at_145) rfl rfl) ?_
  show Go p.tables e below P (T59.setTop (mkF m 146 #[.val (.int p0), .val (.int p1), .val (.int p2), .val (.ref a1), .val (.int ((p0 &&& (2147483647 : Int32)) % (5 : Int32))), .val (.int jp), .val (.int (p2 &&& (255 : Int32))), .val (.ref b18), .unset, .unset, .unset, .unset, .unset] [(.ref b55), (.ref b55)]))
  refine Go.st (fun _ => XS.iconst X59.here hx rfl (hb hby at_146)) ?_
  show Go p.tables e below P (T59.setTop (mkF m 147 #[.val (.int p0), .val (.int p1), .val (.int p2), .val (.ref a1), .val (.int ((p0 &&& (2147483647 : Int32)) % (5 : Int32))), .val (.int jp), .val (.int (p2 &&& (255 : Int32))), .val (.ref b18), .unset, .unset, .unset, .unset, .unset] [(.int (1 : Int32)), (.ref b55), (.ref b55)]))
  refine Go.st (fun _ => XS.bipush X59.here hx rfl (hb hby at_147)) ?_
  show Go p.tables e below P (T59.setTop (mkF m 149 #[.val (.int p0), .val (.int p1), .val (.int p2), .val (.ref a1), .val (.int ((p0 &&& (2147483647 : Int32)) % (5 : Int32))), .val (.int jp), .val (.int (p2 &&& (255 : Int32))), .val (.ref b18), .unset, .unset, .unset, .unset, .unset] [(.int (115 : Int32)), (.int (1 : Int32)), (.ref b55), (.ref b55)]))
  obtain ⟨T62, h62, X62, e62, W62, V62, st62⟩ := own_stC X59 hx hZ1 e59 V59' (j := (1 : Int32)) (i := 1) (by decide) (by decide) (Nat.le_of_ble_eq_true rfl) (g := (mkF m 149 #[.val (.int p0), .val (.int p1), .val (.int p2), .val (.ref a1), .val (.int ((p0 &&& (2147483647 : Int32)) % (5 : Int32))), .val (.int jp), .val (.int (p2 &&& (255 : Int32))), .val (.ref b18), .unset, .unset, .unset, .unset, .unset] [(.int (115 : Int32)), (.int (1 : Int32)), (.ref b55), (.ref b55)])) rfl rfl (hb hby at_149)
  refine Go.st st62 ?_
  have sf63 := Safe.wr W62 sf61 CR59.1 sf60
  have sf64 := Safe.wr W62 sf61 CR59.1 sf61
  have CR62 := CR59.trans (CHr.wr W62 sf61 CR59.1)
  have K62 : Keep h0 h62 [] := K59.wr W62 (Or.inr sz_b55)
  have O62 := O59.wr W62 g_b55
  have N62 := Fr.snoc X62 N59 g_b55
  have V62' : Arv Z h62 b55 k55 .char (19 : Int32) [(.int (117 : Int32)), (.int (115 : Int32)), (.int (0 : Int32)), (.int (0 : Int32)), (.int (0 : Int32)), (.int (0 : Int32)), (.int (0 : Int32)), (.int (0 : Int32)), (.int (0 : Int32)), (.int (0 : Int32)), (.int (0 : Int32)), (.int (0 : Int32)), (.int (0 : Int32)), (.int (0 : Int32)), (.int (0 : Int32)), (.int (0 : Int32)), (.int (0 : Int32)), (.int (0 : Int32)), (.int (0 : Int32))] (.int (0 : Int32)) := V62
  show Go p.tables e below P (T62.setTop (mkF m 150 #[.val (.int p0), .val (.int p1), .val (.int p2), .val (.ref a1), .val (.int ((p0 &&& (2147483647 : Int32)) % (5 : Int32))), .val (.int jp), .val (.int (p2 &&& (255 : Int32))), .val (.ref b18), .unset, .unset, .unset, .unset, .unset] [(.ref b55)]))
  refine Go.st (fun _ => XS.dup X62.here hx rfl (hb hby at_150) rfl rfl) ?_
  show Go p.tables e below P (T62.setTop (mkF m 151 #[.val (.int p0), .val (.int p1), .val (.int p2), .val (.ref a1), .val (.int ((p0 &&& (2147483647 : Int32)) % (5 : Int32))), .val (.int jp), .val (.int (p2 &&& (255 : Int32))), .val (.ref b18), .unset, .unset, .unset, .unset, .unset] [(.ref b55), (.ref b55)]))
  refine Go.st (fun _ => XS.iconst X62.here hx rfl (hb hby at_151)) ?_
  show Go p.tables e below P (T62.setTop (mkF m 152 #[.val (.int p0), .val (.int p1), .val (.int p2), .val (.ref a1), .val (.int ((p0 &&& (2147483647 : Int32)) % (5 : Int32))), .val (.int jp), .val (.int (p2 &&& (255 : Int32))), .val (.ref b18), .unset, .unset, .unset, .unset, .unset] [(.int (2 : Int32)), (.ref b55), (.ref b55)]))
  refine Go.st (fun _ => XS.bipush X62.here hx rfl (hb hby at_152)) ?_
  show Go p.tables e below P (T62.setTop (mkF m 154 #[.val (.int p0), .val (.int p1), .val (.int p2), .val (.ref a1), .val (.int ((p0 &&& (2147483647 : Int32)) % (5 : Int32))), .val (.int jp), .val (.int (p2 &&& (255 : Int32))), .val (.ref b18), .unset, .unset, .unset, .unset, .unset] [(.int (45 : Int32)), (.int (2 : Int32)), (.ref b55), (.ref b55)]))
  obtain ⟨T65, h65, X65, e65, W65, V65, st65⟩ := own_stC X62 hx hZ1 e62 V62' (j := (2 : Int32)) (i := 2) (by decide) (by decide) (Nat.le_of_ble_eq_true rfl) (g := (mkF m 154 #[.val (.int p0), .val (.int p1), .val (.int p2), .val (.ref a1), .val (.int ((p0 &&& (2147483647 : Int32)) % (5 : Int32))), .val (.int jp), .val (.int (p2 &&& (255 : Int32))), .val (.ref b18), .unset, .unset, .unset, .unset, .unset] [(.int (45 : Int32)), (.int (2 : Int32)), (.ref b55), (.ref b55)])) rfl rfl (hb hby at_154)
  refine Go.st st65 ?_
  have sf66 := Safe.wr W65 sf64 CR62.1 sf63
  have sf67 := Safe.wr W65 sf64 CR62.1 sf64
  have CR65 := CR62.trans (CHr.wr W65 sf64 CR62.1)
  have K65 : Keep h0 h65 [] := K62.wr W65 (Or.inr sz_b55)
  have O65 := O62.wr W65 g_b55
  have N65 := Fr.snoc X65 N62 g_b55
  have V65' : Arv Z h65 b55 k55 .char (19 : Int32) [(.int (117 : Int32)), (.int (115 : Int32)), (.int (45 : Int32)), (.int (0 : Int32)), (.int (0 : Int32)), (.int (0 : Int32)), (.int (0 : Int32)), (.int (0 : Int32)), (.int (0 : Int32)), (.int (0 : Int32)), (.int (0 : Int32)), (.int (0 : Int32)), (.int (0 : Int32)), (.int (0 : Int32)), (.int (0 : Int32)), (.int (0 : Int32)), (.int (0 : Int32)), (.int (0 : Int32)), (.int (0 : Int32))] (.int (0 : Int32)) := V65
  show Go p.tables e below P (T65.setTop (mkF m 155 #[.val (.int p0), .val (.int p1), .val (.int p2), .val (.ref a1), .val (.int ((p0 &&& (2147483647 : Int32)) % (5 : Int32))), .val (.int jp), .val (.int (p2 &&& (255 : Int32))), .val (.ref b18), .unset, .unset, .unset, .unset, .unset] [(.ref b55)]))
  refine Go.st (fun _ => XS.dup X65.here hx rfl (hb hby at_155) rfl rfl) ?_
  show Go p.tables e below P (T65.setTop (mkF m 156 #[.val (.int p0), .val (.int p1), .val (.int p2), .val (.ref a1), .val (.int ((p0 &&& (2147483647 : Int32)) % (5 : Int32))), .val (.int jp), .val (.int (p2 &&& (255 : Int32))), .val (.ref b18), .unset, .unset, .unset, .unset, .unset] [(.ref b55), (.ref b55)]))
  refine Go.st (fun _ => XS.iconst X65.here hx rfl (hb hby at_156)) ?_
  show Go p.tables e below P (T65.setTop (mkF m 157 #[.val (.int p0), .val (.int p1), .val (.int p2), .val (.ref a1), .val (.int ((p0 &&& (2147483647 : Int32)) % (5 : Int32))), .val (.int jp), .val (.int (p2 &&& (255 : Int32))), .val (.ref b18), .unset, .unset, .unset, .unset, .unset] [(.int (3 : Int32)), (.ref b55), (.ref b55)]))
  refine Go.st (fun _ => XS.bipush X65.here hx rfl (hb hby at_157)) ?_
  show Go p.tables e below P (T65.setTop (mkF m 159 #[.val (.int p0), .val (.int p1), .val (.int p2), .val (.ref a1), .val (.int ((p0 &&& (2147483647 : Int32)) % (5 : Int32))), .val (.int jp), .val (.int (p2 &&& (255 : Int32))), .val (.ref b18), .unset, .unset, .unset, .unset, .unset] [(.int (102 : Int32)), (.int (3 : Int32)), (.ref b55), (.ref b55)]))
  obtain ⟨T68, h68, X68, e68, W68, V68, st68⟩ := own_stC X65 hx hZ1 e65 V65' (j := (3 : Int32)) (i := 3) (by decide) (by decide) (Nat.le_of_ble_eq_true rfl) (g := (mkF m 159 #[.val (.int p0), .val (.int p1), .val (.int p2), .val (.ref a1), .val (.int ((p0 &&& (2147483647 : Int32)) % (5 : Int32))), .val (.int jp), .val (.int (p2 &&& (255 : Int32))), .val (.ref b18), .unset, .unset, .unset, .unset, .unset] [(.int (102 : Int32)), (.int (3 : Int32)), (.ref b55), (.ref b55)])) rfl rfl (hb hby at_159)
  refine Go.st st68 ?_
  have sf69 := Safe.wr W68 sf67 CR65.1 sf66
  have sf70 := Safe.wr W68 sf67 CR65.1 sf67
  have CR68 := CR65.trans (CHr.wr W68 sf67 CR65.1)
  have K68 : Keep h0 h68 [] := K65.wr W68 (Or.inr sz_b55)
  have O68 := O65.wr W68 g_b55
  have N68 := Fr.snoc X68 N65 g_b55
  have V68' : Arv Z h68 b55 k55 .char (19 : Int32) [(.int (117 : Int32)), (.int (115 : Int32)), (.int (45 : Int32)), (.int (102 : Int32)), (.int (0 : Int32)), (.int (0 : Int32)), (.int (0 : Int32)), (.int (0 : Int32)), (.int (0 : Int32)), (.int (0 : Int32)), (.int (0 : Int32)), (.int (0 : Int32)), (.int (0 : Int32)), (.int (0 : Int32)), (.int (0 : Int32)), (.int (0 : Int32)), (.int (0 : Int32)), (.int (0 : Int32)), (.int (0 : Int32))] (.int (0 : Int32)) := V68
  show Go p.tables e below P (T68.setTop (mkF m 160 #[.val (.int p0), .val (.int p1), .val (.int p2), .val (.ref a1), .val (.int ((p0 &&& (2147483647 : Int32)) % (5 : Int32))), .val (.int jp), .val (.int (p2 &&& (255 : Int32))), .val (.ref b18), .unset, .unset, .unset, .unset, .unset] [(.ref b55)]))
  refine Go.st (fun _ => XS.dup X68.here hx rfl (hb hby at_160) rfl rfl) ?_
  show Go p.tables e below P (T68.setTop (mkF m 161 #[.val (.int p0), .val (.int p1), .val (.int p2), .val (.ref a1), .val (.int ((p0 &&& (2147483647 : Int32)) % (5 : Int32))), .val (.int jp), .val (.int (p2 &&& (255 : Int32))), .val (.ref b18), .unset, .unset, .unset, .unset, .unset] [(.ref b55), (.ref b55)]))
  refine Go.st (fun _ => XS.iconst X68.here hx rfl (hb hby at_161)) ?_
  show Go p.tables e below P (T68.setTop (mkF m 162 #[.val (.int p0), .val (.int p1), .val (.int p2), .val (.ref a1), .val (.int ((p0 &&& (2147483647 : Int32)) % (5 : Int32))), .val (.int jp), .val (.int (p2 &&& (255 : Int32))), .val (.ref b18), .unset, .unset, .unset, .unset, .unset] [(.int (4 : Int32)), (.ref b55), (.ref b55)]))
  refine Go.st (fun _ => XS.bipush X68.here hx rfl (hb hby at_162)) ?_
  show Go p.tables e below P (T68.setTop (mkF m 164 #[.val (.int p0), .val (.int p1), .val (.int p2), .val (.ref a1), .val (.int ((p0 &&& (2147483647 : Int32)) % (5 : Int32))), .val (.int jp), .val (.int (p2 &&& (255 : Int32))), .val (.ref b18), .unset, .unset, .unset, .unset, .unset] [(.int (101 : Int32)), (.int (4 : Int32)), (.ref b55), (.ref b55)]))
  obtain ⟨T71, h71, X71, e71, W71, V71, st71⟩ := own_stC X68 hx hZ1 e68 V68' (j := (4 : Int32)) (i := 4) (by decide) (by decide) (Nat.le_of_ble_eq_true rfl) (g := (mkF m 164 #[.val (.int p0), .val (.int p1), .val (.int p2), .val (.ref a1), .val (.int ((p0 &&& (2147483647 : Int32)) % (5 : Int32))), .val (.int jp), .val (.int (p2 &&& (255 : Int32))), .val (.ref b18), .unset, .unset, .unset, .unset, .unset] [(.int (101 : Int32)), (.int (4 : Int32)), (.ref b55), (.ref b55)])) rfl rfl (hb hby at_164)
  refine Go.st st71 ?_
  have sf72 := Safe.wr W71 sf70 CR68.1 sf69
  have sf73 := Safe.wr W71 sf70 CR68.1 sf70
  have CR71 := CR68.trans (CHr.wr W71 sf70 CR68.1)
  have K71 : Keep h0 h71 [] := K68.wr W71 (Or.inr sz_b55)
  have O71 := O68.wr W71 g_b55
  have N71 := Fr.snoc X71 N68 g_b55
  have V71' : Arv Z h71 b55 k55 .char (19 : Int32) [(.int (117 : Int32)), (.int (115 : Int32)), (.int (45 : Int32)), (.int (102 : Int32)), (.int (101 : Int32)), (.int (0 : Int32)), (.int (0 : Int32)), (.int (0 : Int32)), (.int (0 : Int32)), (.int (0 : Int32)), (.int (0 : Int32)), (.int (0 : Int32)), (.int (0 : Int32)), (.int (0 : Int32)), (.int (0 : Int32)), (.int (0 : Int32)), (.int (0 : Int32)), (.int (0 : Int32)), (.int (0 : Int32))] (.int (0 : Int32)) := V71
  show Go p.tables e below P (T71.setTop (mkF m 165 #[.val (.int p0), .val (.int p1), .val (.int p2), .val (.ref a1), .val (.int ((p0 &&& (2147483647 : Int32)) % (5 : Int32))), .val (.int jp), .val (.int (p2 &&& (255 : Int32))), .val (.ref b18), .unset, .unset, .unset, .unset, .unset] [(.ref b55)]))
  refine Go.st (fun _ => XS.dup X71.here hx rfl (hb hby at_165) rfl rfl) ?_
  show Go p.tables e below P (T71.setTop (mkF m 166 #[.val (.int p0), .val (.int p1), .val (.int p2), .val (.ref a1), .val (.int ((p0 &&& (2147483647 : Int32)) % (5 : Int32))), .val (.int jp), .val (.int (p2 &&& (255 : Int32))), .val (.ref b18), .unset, .unset, .unset, .unset, .unset] [(.ref b55), (.ref b55)]))
  refine Go.st (fun _ => XS.iconst X71.here hx rfl (hb hby at_166)) ?_
  show Go p.tables e below P (T71.setTop (mkF m 167 #[.val (.int p0), .val (.int p1), .val (.int p2), .val (.ref a1), .val (.int ((p0 &&& (2147483647 : Int32)) % (5 : Int32))), .val (.int jp), .val (.int (p2 &&& (255 : Int32))), .val (.ref b18), .unset, .unset, .unset, .unset, .unset] [(.int (5 : Int32)), (.ref b55), (.ref b55)]))
  refine Go.st (fun _ => XS.bipush X71.here hx rfl (hb hby at_167)) ?_
  show Go p.tables e below P (T71.setTop (mkF m 169 #[.val (.int p0), .val (.int p1), .val (.int p2), .val (.ref a1), .val (.int ((p0 &&& (2147483647 : Int32)) % (5 : Int32))), .val (.int jp), .val (.int (p2 &&& (255 : Int32))), .val (.ref b18), .unset, .unset, .unset, .unset, .unset] [(.int (100 : Int32)), (.int (5 : Int32)), (.ref b55), (.ref b55)]))
  obtain ⟨T74, h74, X74, e74, W74, V74, st74⟩ := own_stC X71 hx hZ1 e71 V71' (j := (5 : Int32)) (i := 5) (by decide) (by decide) (Nat.le_of_ble_eq_true rfl) (g := (mkF m 169 #[.val (.int p0), .val (.int p1), .val (.int p2), .val (.ref a1), .val (.int ((p0 &&& (2147483647 : Int32)) % (5 : Int32))), .val (.int jp), .val (.int (p2 &&& (255 : Int32))), .val (.ref b18), .unset, .unset, .unset, .unset, .unset] [(.int (100 : Int32)), (.int (5 : Int32)), (.ref b55), (.ref b55)])) rfl rfl (hb hby at_169)
  refine Go.st st74 ?_
  have sf75 := Safe.wr W74 sf73 CR71.1 sf72
  have sf76 := Safe.wr W74 sf73 CR71.1 sf73
  have CR74 := CR71.trans (CHr.wr W74 sf73 CR71.1)
  have K74 : Keep h0 h74 [] := K71.wr W74 (Or.inr sz_b55)
  have O74 := O71.wr W74 g_b55
  have N74 := Fr.snoc X74 N71 g_b55
  have V74' : Arv Z h74 b55 k55 .char (19 : Int32) [(.int (117 : Int32)), (.int (115 : Int32)), (.int (45 : Int32)), (.int (102 : Int32)), (.int (101 : Int32)), (.int (100 : Int32)), (.int (0 : Int32)), (.int (0 : Int32)), (.int (0 : Int32)), (.int (0 : Int32)), (.int (0 : Int32)), (.int (0 : Int32)), (.int (0 : Int32)), (.int (0 : Int32)), (.int (0 : Int32)), (.int (0 : Int32)), (.int (0 : Int32)), (.int (0 : Int32)), (.int (0 : Int32))] (.int (0 : Int32)) := V74
  show Go p.tables e below P (T74.setTop (mkF m 170 #[.val (.int p0), .val (.int p1), .val (.int p2), .val (.ref a1), .val (.int ((p0 &&& (2147483647 : Int32)) % (5 : Int32))), .val (.int jp), .val (.int (p2 &&& (255 : Int32))), .val (.ref b18), .unset, .unset, .unset, .unset, .unset] [(.ref b55)]))
  refine Go.st (fun _ => XS.dup X74.here hx rfl (hb hby at_170) rfl rfl) ?_
  show Go p.tables e below P (T74.setTop (mkF m 171 #[.val (.int p0), .val (.int p1), .val (.int p2), .val (.ref a1), .val (.int ((p0 &&& (2147483647 : Int32)) % (5 : Int32))), .val (.int jp), .val (.int (p2 &&& (255 : Int32))), .val (.ref b18), .unset, .unset, .unset, .unset, .unset] [(.ref b55), (.ref b55)]))
  refine Go.st (fun _ => XS.bipush X74.here hx rfl (hb hby at_171)) ?_
  show Go p.tables e below P (T74.setTop (mkF m 173 #[.val (.int p0), .val (.int p1), .val (.int p2), .val (.ref a1), .val (.int ((p0 &&& (2147483647 : Int32)) % (5 : Int32))), .val (.int jp), .val (.int (p2 &&& (255 : Int32))), .val (.ref b18), .unset, .unset, .unset, .unset, .unset] [(.int (6 : Int32)), (.ref b55), (.ref b55)]))
  refine Go.st (fun _ => XS.bipush X74.here hx rfl (hb hby at_173)) ?_
  show Go p.tables e below P (T74.setTop (mkF m 175 #[.val (.int p0), .val (.int p1), .val (.int p2), .val (.ref a1), .val (.int ((p0 &&& (2147483647 : Int32)) % (5 : Int32))), .val (.int jp), .val (.int (p2 &&& (255 : Int32))), .val (.ref b18), .unset, .unset, .unset, .unset, .unset] [(.int (101 : Int32)), (.int (6 : Int32)), (.ref b55), (.ref b55)]))
  obtain ⟨T77, h77, X77, e77, W77, V77, st77⟩ := own_stC X74 hx hZ1 e74 V74' (j := (6 : Int32)) (i := 6) (by decide) (by decide) (Nat.le_of_ble_eq_true rfl) (g := (mkF m 175 #[.val (.int p0), .val (.int p1), .val (.int p2), .val (.ref a1), .val (.int ((p0 &&& (2147483647 : Int32)) % (5 : Int32))), .val (.int jp), .val (.int (p2 &&& (255 : Int32))), .val (.ref b18), .unset, .unset, .unset, .unset, .unset] [(.int (101 : Int32)), (.int (6 : Int32)), (.ref b55), (.ref b55)])) rfl rfl (hb hby at_175)
  refine Go.st st77 ?_
  have sf78 := Safe.wr W77 sf76 CR74.1 sf75
  have sf79 := Safe.wr W77 sf76 CR74.1 sf76
  have CR77 := CR74.trans (CHr.wr W77 sf76 CR74.1)
  have K77 : Keep h0 h77 [] := K74.wr W77 (Or.inr sz_b55)
  have O77 := O74.wr W77 g_b55
  have N77 := Fr.snoc X77 N74 g_b55
  have V77' : Arv Z h77 b55 k55 .char (19 : Int32) [(.int (117 : Int32)), (.int (115 : Int32)), (.int (45 : Int32)), (.int (102 : Int32)), (.int (101 : Int32)), (.int (100 : Int32)), (.int (101 : Int32)), (.int (0 : Int32)), (.int (0 : Int32)), (.int (0 : Int32)), (.int (0 : Int32)), (.int (0 : Int32)), (.int (0 : Int32)), (.int (0 : Int32)), (.int (0 : Int32)), (.int (0 : Int32)), (.int (0 : Int32)), (.int (0 : Int32)), (.int (0 : Int32))] (.int (0 : Int32)) := V77
  show Go p.tables e below P (T77.setTop (mkF m 176 #[.val (.int p0), .val (.int p1), .val (.int p2), .val (.ref a1), .val (.int ((p0 &&& (2147483647 : Int32)) % (5 : Int32))), .val (.int jp), .val (.int (p2 &&& (255 : Int32))), .val (.ref b18), .unset, .unset, .unset, .unset, .unset] [(.ref b55)]))
  refine Go.st (fun _ => XS.dup X77.here hx rfl (hb hby at_176) rfl rfl) ?_
  show Go p.tables e below P (T77.setTop (mkF m 177 #[.val (.int p0), .val (.int p1), .val (.int p2), .val (.ref a1), .val (.int ((p0 &&& (2147483647 : Int32)) % (5 : Int32))), .val (.int jp), .val (.int (p2 &&& (255 : Int32))), .val (.ref b18), .unset, .unset, .unset, .unset, .unset] [(.ref b55), (.ref b55)]))
  refine Go.st (fun _ => XS.bipush X77.here hx rfl (hb hby at_177)) ?_
  show Go p.tables e below P (T77.setTop (mkF m 179 #[.val (.int p0), .val (.int p1), .val (.int p2), .val (.ref a1), .val (.int ((p0 &&& (2147483647 : Int32)) % (5 : Int32))), .val (.int jp), .val (.int (p2 &&& (255 : Int32))), .val (.ref b18), .unset, .unset, .unset, .unset, .unset] [(.int (7 : Int32)), (.ref b55), (.ref b55)]))
  refine Go.st (fun _ => XS.bipush X77.here hx rfl (hb hby at_179)) ?_
  show Go p.tables e below P (T77.setTop (mkF m 181 #[.val (.int p0), .val (.int p1), .val (.int p2), .val (.ref a1), .val (.int ((p0 &&& (2147483647 : Int32)) % (5 : Int32))), .val (.int jp), .val (.int (p2 &&& (255 : Int32))), .val (.ref b18), .unset, .unset, .unset, .unset, .unset] [(.int (114 : Int32)), (.int (7 : Int32)), (.ref b55), (.ref b55)]))
  obtain ⟨T80, h80, X80, e80, W80, V80, st80⟩ := own_stC X77 hx hZ1 e77 V77' (j := (7 : Int32)) (i := 7) (by decide) (by decide) (Nat.le_of_ble_eq_true rfl) (g := (mkF m 181 #[.val (.int p0), .val (.int p1), .val (.int p2), .val (.ref a1), .val (.int ((p0 &&& (2147483647 : Int32)) % (5 : Int32))), .val (.int jp), .val (.int (p2 &&& (255 : Int32))), .val (.ref b18), .unset, .unset, .unset, .unset, .unset] [(.int (114 : Int32)), (.int (7 : Int32)), (.ref b55), (.ref b55)])) rfl rfl (hb hby at_181)
  refine Go.st st80 ?_
  have sf81 := Safe.wr W80 sf79 CR77.1 sf78
  have sf82 := Safe.wr W80 sf79 CR77.1 sf79
  have CR80 := CR77.trans (CHr.wr W80 sf79 CR77.1)
  have K80 : Keep h0 h80 [] := K77.wr W80 (Or.inr sz_b55)
  have O80 := O77.wr W80 g_b55
  have N80 := Fr.snoc X80 N77 g_b55
  have V80' : Arv Z h80 b55 k55 .char (19 : Int32) [(.int (117 : Int32)), (.int (115 : Int32)), (.int (45 : Int32)), (.int (102 : Int32)), (.int (101 : Int32)), (.int (100 : Int32)), (.int (101 : Int32)), (.int (114 : Int32)), (.int (0 : Int32)), (.int (0 : Int32)), (.int (0 : Int32)), (.int (0 : Int32)), (.int (0 : Int32)), (.int (0 : Int32)), (.int (0 : Int32)), (.int (0 : Int32)), (.int (0 : Int32)), (.int (0 : Int32)), (.int (0 : Int32))] (.int (0 : Int32)) := V80
  show Go p.tables e below P (T80.setTop (mkF m 182 #[.val (.int p0), .val (.int p1), .val (.int p2), .val (.ref a1), .val (.int ((p0 &&& (2147483647 : Int32)) % (5 : Int32))), .val (.int jp), .val (.int (p2 &&& (255 : Int32))), .val (.ref b18), .unset, .unset, .unset, .unset, .unset] [(.ref b55)]))
  refine Go.st (fun _ => XS.dup X80.here hx rfl (hb hby at_182) rfl rfl) ?_
  show Go p.tables e below P (T80.setTop (mkF m 183 #[.val (.int p0), .val (.int p1), .val (.int p2), .val (.ref a1), .val (.int ((p0 &&& (2147483647 : Int32)) % (5 : Int32))), .val (.int jp), .val (.int (p2 &&& (255 : Int32))), .val (.ref b18), .unset, .unset, .unset, .unset, .unset] [(.ref b55), (.ref b55)]))
  refine Go.st (fun _ => XS.bipush X80.here hx rfl (hb hby at_183)) ?_
  show Go p.tables e below P (T80.setTop (mkF m 185 #[.val (.int p0), .val (.int p1), .val (.int p2), .val (.ref a1), .val (.int ((p0 &&& (2147483647 : Int32)) % (5 : Int32))), .val (.int jp), .val (.int (p2 &&& (255 : Int32))), .val (.ref b18), .unset, .unset, .unset, .unset, .unset] [(.int (8 : Int32)), (.ref b55), (.ref b55)]))
  refine Go.st (fun _ => XS.bipush X80.here hx rfl (hb hby at_185)) ?_
  show Go p.tables e below P (T80.setTop (mkF m 187 #[.val (.int p0), .val (.int p1), .val (.int p2), .val (.ref a1), .val (.int ((p0 &&& (2147483647 : Int32)) % (5 : Int32))), .val (.int jp), .val (.int (p2 &&& (255 : Int32))), .val (.ref b18), .unset, .unset, .unset, .unset, .unset] [(.int (97 : Int32)), (.int (8 : Int32)), (.ref b55), (.ref b55)]))
  obtain ⟨T83, h83, X83, e83, W83, V83, st83⟩ := own_stC X80 hx hZ1 e80 V80' (j := (8 : Int32)) (i := 8) (by decide) (by decide) (Nat.le_of_ble_eq_true rfl) (g := (mkF m 187 #[.val (.int p0), .val (.int p1), .val (.int p2), .val (.ref a1), .val (.int ((p0 &&& (2147483647 : Int32)) % (5 : Int32))), .val (.int jp), .val (.int (p2 &&& (255 : Int32))), .val (.ref b18), .unset, .unset, .unset, .unset, .unset] [(.int (97 : Int32)), (.int (8 : Int32)), (.ref b55), (.ref b55)])) rfl rfl (hb hby at_187)
  refine Go.st st83 ?_
  have sf84 := Safe.wr W83 sf82 CR80.1 sf81
  have sf85 := Safe.wr W83 sf82 CR80.1 sf82
  have CR83 := CR80.trans (CHr.wr W83 sf82 CR80.1)
  have K83 : Keep h0 h83 [] := K80.wr W83 (Or.inr sz_b55)
  have O83 := O80.wr W83 g_b55
  have N83 := Fr.snoc X83 N80 g_b55
  have V83' : Arv Z h83 b55 k55 .char (19 : Int32) [(.int (117 : Int32)), (.int (115 : Int32)), (.int (45 : Int32)), (.int (102 : Int32)), (.int (101 : Int32)), (.int (100 : Int32)), (.int (101 : Int32)), (.int (114 : Int32)), (.int (97 : Int32)), (.int (0 : Int32)), (.int (0 : Int32)), (.int (0 : Int32)), (.int (0 : Int32)), (.int (0 : Int32)), (.int (0 : Int32)), (.int (0 : Int32)), (.int (0 : Int32)), (.int (0 : Int32)), (.int (0 : Int32))] (.int (0 : Int32)) := V83
  show Go p.tables e below P (T83.setTop (mkF m 188 #[.val (.int p0), .val (.int p1), .val (.int p2), .val (.ref a1), .val (.int ((p0 &&& (2147483647 : Int32)) % (5 : Int32))), .val (.int jp), .val (.int (p2 &&& (255 : Int32))), .val (.ref b18), .unset, .unset, .unset, .unset, .unset] [(.ref b55)]))
  refine Go.st (fun _ => XS.dup X83.here hx rfl (hb hby at_188) rfl rfl) ?_
  show Go p.tables e below P (T83.setTop (mkF m 189 #[.val (.int p0), .val (.int p1), .val (.int p2), .val (.ref a1), .val (.int ((p0 &&& (2147483647 : Int32)) % (5 : Int32))), .val (.int jp), .val (.int (p2 &&& (255 : Int32))), .val (.ref b18), .unset, .unset, .unset, .unset, .unset] [(.ref b55), (.ref b55)]))
  refine Go.st (fun _ => XS.bipush X83.here hx rfl (hb hby at_189)) ?_
  show Go p.tables e below P (T83.setTop (mkF m 191 #[.val (.int p0), .val (.int p1), .val (.int p2), .val (.ref a1), .val (.int ((p0 &&& (2147483647 : Int32)) % (5 : Int32))), .val (.int jp), .val (.int (p2 &&& (255 : Int32))), .val (.ref b18), .unset, .unset, .unset, .unset, .unset] [(.int (9 : Int32)), (.ref b55), (.ref b55)]))
  refine Go.st (fun _ => XS.bipush X83.here hx rfl (hb hby at_191)) ?_
  show Go p.tables e below P (T83.setTop (mkF m 193 #[.val (.int p0), .val (.int p1), .val (.int p2), .val (.ref a1), .val (.int ((p0 &&& (2147483647 : Int32)) % (5 : Int32))), .val (.int jp), .val (.int (p2 &&& (255 : Int32))), .val (.ref b18), .unset, .unset, .unset, .unset, .unset] [(.int (108 : Int32)), (.int (9 : Int32)), (.ref b55), (.ref b55)]))
  obtain ⟨T86, h86, X86, e86, W86, V86, st86⟩ := own_stC X83 hx hZ1 e83 V83' (j := (9 : Int32)) (i := 9) (by decide) (by decide) (Nat.le_of_ble_eq_true rfl) (g := (mkF m 193 #[.val (.int p0), .val (.int p1), .val (.int p2), .val (.ref a1), .val (.int ((p0 &&& (2147483647 : Int32)) % (5 : Int32))), .val (.int jp), .val (.int (p2 &&& (255 : Int32))), .val (.ref b18), .unset, .unset, .unset, .unset, .unset] [(.int (108 : Int32)), (.int (9 : Int32)), (.ref b55), (.ref b55)])) rfl rfl (hb hby at_193)
  refine Go.st st86 ?_
  have sf87 := Safe.wr W86 sf85 CR83.1 sf84
  have sf88 := Safe.wr W86 sf85 CR83.1 sf85
  have CR86 := CR83.trans (CHr.wr W86 sf85 CR83.1)
  have K86 : Keep h0 h86 [] := K83.wr W86 (Or.inr sz_b55)
  have O86 := O83.wr W86 g_b55
  have N86 := Fr.snoc X86 N83 g_b55
  have V86' : Arv Z h86 b55 k55 .char (19 : Int32) [(.int (117 : Int32)), (.int (115 : Int32)), (.int (45 : Int32)), (.int (102 : Int32)), (.int (101 : Int32)), (.int (100 : Int32)), (.int (101 : Int32)), (.int (114 : Int32)), (.int (97 : Int32)), (.int (108 : Int32)), (.int (0 : Int32)), (.int (0 : Int32)), (.int (0 : Int32)), (.int (0 : Int32)), (.int (0 : Int32)), (.int (0 : Int32)), (.int (0 : Int32)), (.int (0 : Int32)), (.int (0 : Int32))] (.int (0 : Int32)) := V86
  show Go p.tables e below P (T86.setTop (mkF m 194 #[.val (.int p0), .val (.int p1), .val (.int p2), .val (.ref a1), .val (.int ((p0 &&& (2147483647 : Int32)) % (5 : Int32))), .val (.int jp), .val (.int (p2 &&& (255 : Int32))), .val (.ref b18), .unset, .unset, .unset, .unset, .unset] [(.ref b55)]))
  refine Go.st (fun _ => XS.dup X86.here hx rfl (hb hby at_194) rfl rfl) ?_
  show Go p.tables e below P (T86.setTop (mkF m 195 #[.val (.int p0), .val (.int p1), .val (.int p2), .val (.ref a1), .val (.int ((p0 &&& (2147483647 : Int32)) % (5 : Int32))), .val (.int jp), .val (.int (p2 &&& (255 : Int32))), .val (.ref b18), .unset, .unset, .unset, .unset, .unset] [(.ref b55), (.ref b55)]))
  refine Go.st (fun _ => XS.bipush X86.here hx rfl (hb hby at_195)) ?_
  show Go p.tables e below P (T86.setTop (mkF m 197 #[.val (.int p0), .val (.int p1), .val (.int p2), .val (.ref a1), .val (.int ((p0 &&& (2147483647 : Int32)) % (5 : Int32))), .val (.int jp), .val (.int (p2 &&& (255 : Int32))), .val (.ref b18), .unset, .unset, .unset, .unset, .unset] [(.int (10 : Int32)), (.ref b55), (.ref b55)]))
  refine Go.st (fun _ => XS.bipush X86.here hx rfl (hb hby at_197)) ?_
  show Go p.tables e below P (T86.setTop (mkF m 199 #[.val (.int p0), .val (.int p1), .val (.int p2), .val (.ref a1), .val (.int ((p0 &&& (2147483647 : Int32)) % (5 : Int32))), .val (.int jp), .val (.int (p2 &&& (255 : Int32))), .val (.ref b18), .unset, .unset, .unset, .unset, .unset] [(.int (45 : Int32)), (.int (10 : Int32)), (.ref b55), (.ref b55)]))
  obtain ⟨T89, h89, X89, e89, W89, V89, st89⟩ := own_stC X86 hx hZ1 e86 V86' (j := (10 : Int32)) (i := 10) (by decide) (by decide) (Nat.le_of_ble_eq_true rfl) (g := (mkF m 199 #[.val (.int p0), .val (.int p1), .val (.int p2), .val (.ref a1), .val (.int ((p0 &&& (2147483647 : Int32)) % (5 : Int32))), .val (.int jp), .val (.int (p2 &&& (255 : Int32))), .val (.ref b18), .unset, .unset, .unset, .unset, .unset] [(.int (45 : Int32)), (.int (10 : Int32)), (.ref b55), (.ref b55)])) rfl rfl (hb hby at_199)
  refine Go.st st89 ?_
  have sf90 := Safe.wr W89 sf88 CR86.1 sf87
  have sf91 := Safe.wr W89 sf88 CR86.1 sf88
  have CR89 := CR86.trans (CHr.wr W89 sf88 CR86.1)
  have K89 : Keep h0 h89 [] := K86.wr W89 (Or.inr sz_b55)
  have O89 := O86.wr W89 g_b55
  have N89 := Fr.snoc X89 N86 g_b55
  have V89' : Arv Z h89 b55 k55 .char (19 : Int32) [(.int (117 : Int32)), (.int (115 : Int32)), (.int (45 : Int32)), (.int (102 : Int32)), (.int (101 : Int32)), (.int (100 : Int32)), (.int (101 : Int32)), (.int (114 : Int32)), (.int (97 : Int32)), (.int (108 : Int32)), (.int (45 : Int32)), (.int (0 : Int32)), (.int (0 : Int32)), (.int (0 : Int32)), (.int (0 : Int32)), (.int (0 : Int32)), (.int (0 : Int32)), (.int (0 : Int32)), (.int (0 : Int32))] (.int (0 : Int32)) := V89
  show Go p.tables e below P (T89.setTop (mkF m 200 #[.val (.int p0), .val (.int p1), .val (.int p2), .val (.ref a1), .val (.int ((p0 &&& (2147483647 : Int32)) % (5 : Int32))), .val (.int jp), .val (.int (p2 &&& (255 : Int32))), .val (.ref b18), .unset, .unset, .unset, .unset, .unset] [(.ref b55)]))
  refine Go.st (fun _ => XS.dup X89.here hx rfl (hb hby at_200) rfl rfl) ?_
  show Go p.tables e below P (T89.setTop (mkF m 201 #[.val (.int p0), .val (.int p1), .val (.int p2), .val (.ref a1), .val (.int ((p0 &&& (2147483647 : Int32)) % (5 : Int32))), .val (.int jp), .val (.int (p2 &&& (255 : Int32))), .val (.ref b18), .unset, .unset, .unset, .unset, .unset] [(.ref b55), (.ref b55)]))
  refine Go.st (fun _ => XS.bipush X89.here hx rfl (hb hby at_201)) ?_
  show Go p.tables e below P (T89.setTop (mkF m 203 #[.val (.int p0), .val (.int p1), .val (.int p2), .val (.ref a1), .val (.int ((p0 &&& (2147483647 : Int32)) % (5 : Int32))), .val (.int jp), .val (.int (p2 &&& (255 : Int32))), .val (.ref b18), .unset, .unset, .unset, .unset, .unset] [(.int (11 : Int32)), (.ref b55), (.ref b55)]))
  refine Go.st (fun _ => XS.bipush X89.here hx rfl (hb hby at_203)) ?_
  show Go p.tables e below P (T89.setTop (mkF m 205 #[.val (.int p0), .val (.int p1), .val (.int p2), .val (.ref a1), .val (.int ((p0 &&& (2147483647 : Int32)) % (5 : Int32))), .val (.int jp), .val (.int (p2 &&& (255 : Int32))), .val (.ref b18), .unset, .unset, .unset, .unset, .unset] [(.int (114 : Int32)), (.int (11 : Int32)), (.ref b55), (.ref b55)]))
  obtain ⟨T92, h92, X92, e92, W92, V92, st92⟩ := own_stC X89 hx hZ1 e89 V89' (j := (11 : Int32)) (i := 11) (by decide) (by decide) (Nat.le_of_ble_eq_true rfl) (g := (mkF m 205 #[.val (.int p0), .val (.int p1), .val (.int p2), .val (.ref a1), .val (.int ((p0 &&& (2147483647 : Int32)) % (5 : Int32))), .val (.int jp), .val (.int (p2 &&& (255 : Int32))), .val (.ref b18), .unset, .unset, .unset, .unset, .unset] [(.int (114 : Int32)), (.int (11 : Int32)), (.ref b55), (.ref b55)])) rfl rfl (hb hby at_205)
  refine Go.st st92 ?_
  have sf93 := Safe.wr W92 sf91 CR89.1 sf90
  have sf94 := Safe.wr W92 sf91 CR89.1 sf91
  have CR92 := CR89.trans (CHr.wr W92 sf91 CR89.1)
  have K92 : Keep h0 h92 [] := K89.wr W92 (Or.inr sz_b55)
  have O92 := O89.wr W92 g_b55
  have N92 := Fr.snoc X92 N89 g_b55
  have V92' : Arv Z h92 b55 k55 .char (19 : Int32) [(.int (117 : Int32)), (.int (115 : Int32)), (.int (45 : Int32)), (.int (102 : Int32)), (.int (101 : Int32)), (.int (100 : Int32)), (.int (101 : Int32)), (.int (114 : Int32)), (.int (97 : Int32)), (.int (108 : Int32)), (.int (45 : Int32)), (.int (114 : Int32)), (.int (0 : Int32)), (.int (0 : Int32)), (.int (0 : Int32)), (.int (0 : Int32)), (.int (0 : Int32)), (.int (0 : Int32)), (.int (0 : Int32))] (.int (0 : Int32)) := V92
  show Go p.tables e below P (T92.setTop (mkF m 206 #[.val (.int p0), .val (.int p1), .val (.int p2), .val (.ref a1), .val (.int ((p0 &&& (2147483647 : Int32)) % (5 : Int32))), .val (.int jp), .val (.int (p2 &&& (255 : Int32))), .val (.ref b18), .unset, .unset, .unset, .unset, .unset] [(.ref b55)]))
  refine Go.st (fun _ => XS.dup X92.here hx rfl (hb hby at_206) rfl rfl) ?_
  show Go p.tables e below P (T92.setTop (mkF m 207 #[.val (.int p0), .val (.int p1), .val (.int p2), .val (.ref a1), .val (.int ((p0 &&& (2147483647 : Int32)) % (5 : Int32))), .val (.int jp), .val (.int (p2 &&& (255 : Int32))), .val (.ref b18), .unset, .unset, .unset, .unset, .unset] [(.ref b55), (.ref b55)]))
  refine Go.st (fun _ => XS.bipush X92.here hx rfl (hb hby at_207)) ?_
  show Go p.tables e below P (T92.setTop (mkF m 209 #[.val (.int p0), .val (.int p1), .val (.int p2), .val (.ref a1), .val (.int ((p0 &&& (2147483647 : Int32)) % (5 : Int32))), .val (.int jp), .val (.int (p2 &&& (255 : Int32))), .val (.ref b18), .unset, .unset, .unset, .unset, .unset] [(.int (12 : Int32)), (.ref b55), (.ref b55)]))
  refine Go.st (fun _ => XS.bipush X92.here hx rfl (hb hby at_209)) ?_
  show Go p.tables e below P (T92.setTop (mkF m 211 #[.val (.int p0), .val (.int p1), .val (.int p2), .val (.ref a1), .val (.int ((p0 &&& (2147483647 : Int32)) % (5 : Int32))), .val (.int jp), .val (.int (p2 &&& (255 : Int32))), .val (.ref b18), .unset, .unset, .unset, .unset, .unset] [(.int (101 : Int32)), (.int (12 : Int32)), (.ref b55), (.ref b55)]))
  obtain ⟨T95, h95, X95, e95, W95, V95, st95⟩ := own_stC X92 hx hZ1 e92 V92' (j := (12 : Int32)) (i := 12) (by decide) (by decide) (Nat.le_of_ble_eq_true rfl) (g := (mkF m 211 #[.val (.int p0), .val (.int p1), .val (.int p2), .val (.ref a1), .val (.int ((p0 &&& (2147483647 : Int32)) % (5 : Int32))), .val (.int jp), .val (.int (p2 &&& (255 : Int32))), .val (.ref b18), .unset, .unset, .unset, .unset, .unset] [(.int (101 : Int32)), (.int (12 : Int32)), (.ref b55), (.ref b55)])) rfl rfl (hb hby at_211)
  refine Go.st st95 ?_
  have sf96 := Safe.wr W95 sf94 CR92.1 sf93
  have sf97 := Safe.wr W95 sf94 CR92.1 sf94
  have CR95 := CR92.trans (CHr.wr W95 sf94 CR92.1)
  have K95 : Keep h0 h95 [] := K92.wr W95 (Or.inr sz_b55)
  have O95 := O92.wr W95 g_b55
  have N95 := Fr.snoc X95 N92 g_b55
  have V95' : Arv Z h95 b55 k55 .char (19 : Int32) [(.int (117 : Int32)), (.int (115 : Int32)), (.int (45 : Int32)), (.int (102 : Int32)), (.int (101 : Int32)), (.int (100 : Int32)), (.int (101 : Int32)), (.int (114 : Int32)), (.int (97 : Int32)), (.int (108 : Int32)), (.int (45 : Int32)), (.int (114 : Int32)), (.int (101 : Int32)), (.int (0 : Int32)), (.int (0 : Int32)), (.int (0 : Int32)), (.int (0 : Int32)), (.int (0 : Int32)), (.int (0 : Int32))] (.int (0 : Int32)) := V95
  show Go p.tables e below P (T95.setTop (mkF m 212 #[.val (.int p0), .val (.int p1), .val (.int p2), .val (.ref a1), .val (.int ((p0 &&& (2147483647 : Int32)) % (5 : Int32))), .val (.int jp), .val (.int (p2 &&& (255 : Int32))), .val (.ref b18), .unset, .unset, .unset, .unset, .unset] [(.ref b55)]))
  refine Go.st (fun _ => XS.dup X95.here hx rfl (hb hby at_212) rfl rfl) ?_
  show Go p.tables e below P (T95.setTop (mkF m 213 #[.val (.int p0), .val (.int p1), .val (.int p2), .val (.ref a1), .val (.int ((p0 &&& (2147483647 : Int32)) % (5 : Int32))), .val (.int jp), .val (.int (p2 &&& (255 : Int32))), .val (.ref b18), .unset, .unset, .unset, .unset, .unset] [(.ref b55), (.ref b55)]))
  refine Go.st (fun _ => XS.bipush X95.here hx rfl (hb hby at_213)) ?_
  show Go p.tables e below P (T95.setTop (mkF m 215 #[.val (.int p0), .val (.int p1), .val (.int p2), .val (.ref a1), .val (.int ((p0 &&& (2147483647 : Int32)) % (5 : Int32))), .val (.int jp), .val (.int (p2 &&& (255 : Int32))), .val (.ref b18), .unset, .unset, .unset, .unset, .unset] [(.int (13 : Int32)), (.ref b55), (.ref b55)]))
  refine Go.st (fun _ => XS.bipush X95.here hx rfl (hb hby at_215)) ?_
  show Go p.tables e below P (T95.setTop (mkF m 217 #[.val (.int p0), .val (.int p1), .val (.int p2), .val (.ref a1), .val (.int ((p0 &&& (2147483647 : Int32)) % (5 : Int32))), .val (.int jp), .val (.int (p2 &&& (255 : Int32))), .val (.ref b18), .unset, .unset, .unset, .unset, .unset] [(.int (115 : Int32)), (.int (13 : Int32)), (.ref b55), (.ref b55)]))
  obtain ⟨T98, h98, X98, e98, W98, V98, st98⟩ := own_stC X95 hx hZ1 e95 V95' (j := (13 : Int32)) (i := 13) (by decide) (by decide) (Nat.le_of_ble_eq_true rfl) (g := (mkF m 217 #[.val (.int p0), .val (.int p1), .val (.int p2), .val (.ref a1), .val (.int ((p0 &&& (2147483647 : Int32)) % (5 : Int32))), .val (.int jp), .val (.int (p2 &&& (255 : Int32))), .val (.ref b18), .unset, .unset, .unset, .unset, .unset] [(.int (115 : Int32)), (.int (13 : Int32)), (.ref b55), (.ref b55)])) rfl rfl (hb hby at_217)
  refine Go.st st98 ?_
  have sf99 := Safe.wr W98 sf97 CR95.1 sf96
  have sf100 := Safe.wr W98 sf97 CR95.1 sf97
  have CR98 := CR95.trans (CHr.wr W98 sf97 CR95.1)
  have K98 : Keep h0 h98 [] := K95.wr W98 (Or.inr sz_b55)
  have O98 := O95.wr W98 g_b55
  have N98 := Fr.snoc X98 N95 g_b55
  have V98' : Arv Z h98 b55 k55 .char (19 : Int32) [(.int (117 : Int32)), (.int (115 : Int32)), (.int (45 : Int32)), (.int (102 : Int32)), (.int (101 : Int32)), (.int (100 : Int32)), (.int (101 : Int32)), (.int (114 : Int32)), (.int (97 : Int32)), (.int (108 : Int32)), (.int (45 : Int32)), (.int (114 : Int32)), (.int (101 : Int32)), (.int (115 : Int32)), (.int (0 : Int32)), (.int (0 : Int32)), (.int (0 : Int32)), (.int (0 : Int32)), (.int (0 : Int32))] (.int (0 : Int32)) := V98
  show Go p.tables e below P (T98.setTop (mkF m 218 #[.val (.int p0), .val (.int p1), .val (.int p2), .val (.ref a1), .val (.int ((p0 &&& (2147483647 : Int32)) % (5 : Int32))), .val (.int jp), .val (.int (p2 &&& (255 : Int32))), .val (.ref b18), .unset, .unset, .unset, .unset, .unset] [(.ref b55)]))
  refine Go.st (fun _ => XS.dup X98.here hx rfl (hb hby at_218) rfl rfl) ?_
  show Go p.tables e below P (T98.setTop (mkF m 219 #[.val (.int p0), .val (.int p1), .val (.int p2), .val (.ref a1), .val (.int ((p0 &&& (2147483647 : Int32)) % (5 : Int32))), .val (.int jp), .val (.int (p2 &&& (255 : Int32))), .val (.ref b18), .unset, .unset, .unset, .unset, .unset] [(.ref b55), (.ref b55)]))
  refine Go.st (fun _ => XS.bipush X98.here hx rfl (hb hby at_219)) ?_
  show Go p.tables e below P (T98.setTop (mkF m 221 #[.val (.int p0), .val (.int p1), .val (.int p2), .val (.ref a1), .val (.int ((p0 &&& (2147483647 : Int32)) % (5 : Int32))), .val (.int jp), .val (.int (p2 &&& (255 : Int32))), .val (.ref b18), .unset, .unset, .unset, .unset, .unset] [(.int (14 : Int32)), (.ref b55), (.ref b55)]))
  refine Go.st (fun _ => XS.bipush X98.here hx rfl (hb hby at_221)) ?_
  show Go p.tables e below P (T98.setTop (mkF m 223 #[.val (.int p0), .val (.int p1), .val (.int p2), .val (.ref a1), .val (.int ((p0 &&& (2147483647 : Int32)) % (5 : Int32))), .val (.int jp), .val (.int (p2 &&& (255 : Int32))), .val (.ref b18), .unset, .unset, .unset, .unset, .unset] [(.int (101 : Int32)), (.int (14 : Int32)), (.ref b55), (.ref b55)]))
  obtain ⟨T101, h101, X101, e101, W101, V101, st101⟩ := own_stC X98 hx hZ1 e98 V98' (j := (14 : Int32)) (i := 14) (by decide) (by decide) (Nat.le_of_ble_eq_true rfl) (g := (mkF m 223 #[.val (.int p0), .val (.int p1), .val (.int p2), .val (.ref a1), .val (.int ((p0 &&& (2147483647 : Int32)) % (5 : Int32))), .val (.int jp), .val (.int (p2 &&& (255 : Int32))), .val (.ref b18), .unset, .unset, .unset, .unset, .unset] [(.int (101 : Int32)), (.int (14 : Int32)), (.ref b55), (.ref b55)])) rfl rfl (hb hby at_223)
  refine Go.st st101 ?_
  have sf102 := Safe.wr W101 sf100 CR98.1 sf99
  have sf103 := Safe.wr W101 sf100 CR98.1 sf100
  have CR101 := CR98.trans (CHr.wr W101 sf100 CR98.1)
  have K101 : Keep h0 h101 [] := K98.wr W101 (Or.inr sz_b55)
  have O101 := O98.wr W101 g_b55
  have N101 := Fr.snoc X101 N98 g_b55
  have V101' : Arv Z h101 b55 k55 .char (19 : Int32) [(.int (117 : Int32)), (.int (115 : Int32)), (.int (45 : Int32)), (.int (102 : Int32)), (.int (101 : Int32)), (.int (100 : Int32)), (.int (101 : Int32)), (.int (114 : Int32)), (.int (97 : Int32)), (.int (108 : Int32)), (.int (45 : Int32)), (.int (114 : Int32)), (.int (101 : Int32)), (.int (115 : Int32)), (.int (101 : Int32)), (.int (0 : Int32)), (.int (0 : Int32)), (.int (0 : Int32)), (.int (0 : Int32))] (.int (0 : Int32)) := V101
  show Go p.tables e below P (T101.setTop (mkF m 224 #[.val (.int p0), .val (.int p1), .val (.int p2), .val (.ref a1), .val (.int ((p0 &&& (2147483647 : Int32)) % (5 : Int32))), .val (.int jp), .val (.int (p2 &&& (255 : Int32))), .val (.ref b18), .unset, .unset, .unset, .unset, .unset] [(.ref b55)]))
  refine Go.st (fun _ => XS.dup X101.here hx rfl (hb hby at_224) rfl rfl) ?_
  show Go p.tables e below P (T101.setTop (mkF m 225 #[.val (.int p0), .val (.int p1), .val (.int p2), .val (.ref a1), .val (.int ((p0 &&& (2147483647 : Int32)) % (5 : Int32))), .val (.int jp), .val (.int (p2 &&& (255 : Int32))), .val (.ref b18), .unset, .unset, .unset, .unset, .unset] [(.ref b55), (.ref b55)]))
  refine Go.st (fun _ => XS.bipush X101.here hx rfl (hb hby at_225)) ?_
  show Go p.tables e below P (T101.setTop (mkF m 227 #[.val (.int p0), .val (.int p1), .val (.int p2), .val (.ref a1), .val (.int ((p0 &&& (2147483647 : Int32)) % (5 : Int32))), .val (.int jp), .val (.int (p2 &&& (255 : Int32))), .val (.ref b18), .unset, .unset, .unset, .unset, .unset] [(.int (15 : Int32)), (.ref b55), (.ref b55)]))
  refine Go.st (fun _ => XS.bipush X101.here hx rfl (hb hby at_227)) ?_
  show Go p.tables e below P (T101.setTop (mkF m 229 #[.val (.int p0), .val (.int p1), .val (.int p2), .val (.ref a1), .val (.int ((p0 &&& (2147483647 : Int32)) % (5 : Int32))), .val (.int jp), .val (.int (p2 &&& (255 : Int32))), .val (.ref b18), .unset, .unset, .unset, .unset, .unset] [(.int (114 : Int32)), (.int (15 : Int32)), (.ref b55), (.ref b55)]))
  obtain ⟨T104, h104, X104, e104, W104, V104, st104⟩ := own_stC X101 hx hZ1 e101 V101' (j := (15 : Int32)) (i := 15) (by decide) (by decide) (Nat.le_of_ble_eq_true rfl) (g := (mkF m 229 #[.val (.int p0), .val (.int p1), .val (.int p2), .val (.ref a1), .val (.int ((p0 &&& (2147483647 : Int32)) % (5 : Int32))), .val (.int jp), .val (.int (p2 &&& (255 : Int32))), .val (.ref b18), .unset, .unset, .unset, .unset, .unset] [(.int (114 : Int32)), (.int (15 : Int32)), (.ref b55), (.ref b55)])) rfl rfl (hb hby at_229)
  refine Go.st st104 ?_
  have sf105 := Safe.wr W104 sf103 CR101.1 sf102
  have sf106 := Safe.wr W104 sf103 CR101.1 sf103
  have CR104 := CR101.trans (CHr.wr W104 sf103 CR101.1)
  have K104 : Keep h0 h104 [] := K101.wr W104 (Or.inr sz_b55)
  have O104 := O101.wr W104 g_b55
  have N104 := Fr.snoc X104 N101 g_b55
  have V104' : Arv Z h104 b55 k55 .char (19 : Int32) [(.int (117 : Int32)), (.int (115 : Int32)), (.int (45 : Int32)), (.int (102 : Int32)), (.int (101 : Int32)), (.int (100 : Int32)), (.int (101 : Int32)), (.int (114 : Int32)), (.int (97 : Int32)), (.int (108 : Int32)), (.int (45 : Int32)), (.int (114 : Int32)), (.int (101 : Int32)), (.int (115 : Int32)), (.int (101 : Int32)), (.int (114 : Int32)), (.int (0 : Int32)), (.int (0 : Int32)), (.int (0 : Int32))] (.int (0 : Int32)) := V104
  show Go p.tables e below P (T104.setTop (mkF m 230 #[.val (.int p0), .val (.int p1), .val (.int p2), .val (.ref a1), .val (.int ((p0 &&& (2147483647 : Int32)) % (5 : Int32))), .val (.int jp), .val (.int (p2 &&& (255 : Int32))), .val (.ref b18), .unset, .unset, .unset, .unset, .unset] [(.ref b55)]))
  refine Go.st (fun _ => XS.dup X104.here hx rfl (hb hby at_230) rfl rfl) ?_
  show Go p.tables e below P (T104.setTop (mkF m 231 #[.val (.int p0), .val (.int p1), .val (.int p2), .val (.ref a1), .val (.int ((p0 &&& (2147483647 : Int32)) % (5 : Int32))), .val (.int jp), .val (.int (p2 &&& (255 : Int32))), .val (.ref b18), .unset, .unset, .unset, .unset, .unset] [(.ref b55), (.ref b55)]))
  refine Go.st (fun _ => XS.bipush X104.here hx rfl (hb hby at_231)) ?_
  show Go p.tables e below P (T104.setTop (mkF m 233 #[.val (.int p0), .val (.int p1), .val (.int p2), .val (.ref a1), .val (.int ((p0 &&& (2147483647 : Int32)) % (5 : Int32))), .val (.int jp), .val (.int (p2 &&& (255 : Int32))), .val (.ref b18), .unset, .unset, .unset, .unset, .unset] [(.int (16 : Int32)), (.ref b55), (.ref b55)]))
  refine Go.st (fun _ => XS.bipush X104.here hx rfl (hb hby at_233)) ?_
  show Go p.tables e below P (T104.setTop (mkF m 235 #[.val (.int p0), .val (.int p1), .val (.int p2), .val (.ref a1), .val (.int ((p0 &&& (2147483647 : Int32)) % (5 : Int32))), .val (.int jp), .val (.int (p2 &&& (255 : Int32))), .val (.ref b18), .unset, .unset, .unset, .unset, .unset] [(.int (118 : Int32)), (.int (16 : Int32)), (.ref b55), (.ref b55)]))
  obtain ⟨T107, h107, X107, e107, W107, V107, st107⟩ := own_stC X104 hx hZ1 e104 V104' (j := (16 : Int32)) (i := 16) (by decide) (by decide) (Nat.le_of_ble_eq_true rfl) (g := (mkF m 235 #[.val (.int p0), .val (.int p1), .val (.int p2), .val (.ref a1), .val (.int ((p0 &&& (2147483647 : Int32)) % (5 : Int32))), .val (.int jp), .val (.int (p2 &&& (255 : Int32))), .val (.ref b18), .unset, .unset, .unset, .unset, .unset] [(.int (118 : Int32)), (.int (16 : Int32)), (.ref b55), (.ref b55)])) rfl rfl (hb hby at_235)
  refine Go.st st107 ?_
  have sf108 := Safe.wr W107 sf106 CR104.1 sf105
  have sf109 := Safe.wr W107 sf106 CR104.1 sf106
  have CR107 := CR104.trans (CHr.wr W107 sf106 CR104.1)
  have K107 : Keep h0 h107 [] := K104.wr W107 (Or.inr sz_b55)
  have O107 := O104.wr W107 g_b55
  have N107 := Fr.snoc X107 N104 g_b55
  have V107' : Arv Z h107 b55 k55 .char (19 : Int32) [(.int (117 : Int32)), (.int (115 : Int32)), (.int (45 : Int32)), (.int (102 : Int32)), (.int (101 : Int32)), (.int (100 : Int32)), (.int (101 : Int32)), (.int (114 : Int32)), (.int (97 : Int32)), (.int (108 : Int32)), (.int (45 : Int32)), (.int (114 : Int32)), (.int (101 : Int32)), (.int (115 : Int32)), (.int (101 : Int32)), (.int (114 : Int32)), (.int (118 : Int32)), (.int (0 : Int32)), (.int (0 : Int32))] (.int (0 : Int32)) := V107
  show Go p.tables e below P (T107.setTop (mkF m 236 #[.val (.int p0), .val (.int p1), .val (.int p2), .val (.ref a1), .val (.int ((p0 &&& (2147483647 : Int32)) % (5 : Int32))), .val (.int jp), .val (.int (p2 &&& (255 : Int32))), .val (.ref b18), .unset, .unset, .unset, .unset, .unset] [(.ref b55)]))
  refine Go.st (fun _ => XS.dup X107.here hx rfl (hb hby at_236) rfl rfl) ?_
  show Go p.tables e below P (T107.setTop (mkF m 237 #[.val (.int p0), .val (.int p1), .val (.int p2), .val (.ref a1), .val (.int ((p0 &&& (2147483647 : Int32)) % (5 : Int32))), .val (.int jp), .val (.int (p2 &&& (255 : Int32))), .val (.ref b18), .unset, .unset, .unset, .unset, .unset] [(.ref b55), (.ref b55)]))
  refine Go.st (fun _ => XS.bipush X107.here hx rfl (hb hby at_237)) ?_
  show Go p.tables e below P (T107.setTop (mkF m 239 #[.val (.int p0), .val (.int p1), .val (.int p2), .val (.ref a1), .val (.int ((p0 &&& (2147483647 : Int32)) % (5 : Int32))), .val (.int jp), .val (.int (p2 &&& (255 : Int32))), .val (.ref b18), .unset, .unset, .unset, .unset, .unset] [(.int (17 : Int32)), (.ref b55), (.ref b55)]))
  refine Go.st (fun _ => XS.bipush X107.here hx rfl (hb hby at_239)) ?_
  show Go p.tables e below P (T107.setTop (mkF m 241 #[.val (.int p0), .val (.int p1), .val (.int p2), .val (.ref a1), .val (.int ((p0 &&& (2147483647 : Int32)) % (5 : Int32))), .val (.int jp), .val (.int (p2 &&& (255 : Int32))), .val (.ref b18), .unset, .unset, .unset, .unset, .unset] [(.int (101 : Int32)), (.int (17 : Int32)), (.ref b55), (.ref b55)]))
  obtain ⟨T110, h110, X110, e110, W110, V110, st110⟩ := own_stC X107 hx hZ1 e107 V107' (j := (17 : Int32)) (i := 17) (by decide) (by decide) (Nat.le_of_ble_eq_true rfl) (g := (mkF m 241 #[.val (.int p0), .val (.int p1), .val (.int p2), .val (.ref a1), .val (.int ((p0 &&& (2147483647 : Int32)) % (5 : Int32))), .val (.int jp), .val (.int (p2 &&& (255 : Int32))), .val (.ref b18), .unset, .unset, .unset, .unset, .unset] [(.int (101 : Int32)), (.int (17 : Int32)), (.ref b55), (.ref b55)])) rfl rfl (hb hby at_241)
  refine Go.st st110 ?_
  have sf111 := Safe.wr W110 sf109 CR107.1 sf108
  have sf112 := Safe.wr W110 sf109 CR107.1 sf109
  have CR110 := CR107.trans (CHr.wr W110 sf109 CR107.1)
  have K110 : Keep h0 h110 [] := K107.wr W110 (Or.inr sz_b55)
  have O110 := O107.wr W110 g_b55
  have N110 := Fr.snoc X110 N107 g_b55
  have V110' : Arv Z h110 b55 k55 .char (19 : Int32) [(.int (117 : Int32)), (.int (115 : Int32)), (.int (45 : Int32)), (.int (102 : Int32)), (.int (101 : Int32)), (.int (100 : Int32)), (.int (101 : Int32)), (.int (114 : Int32)), (.int (97 : Int32)), (.int (108 : Int32)), (.int (45 : Int32)), (.int (114 : Int32)), (.int (101 : Int32)), (.int (115 : Int32)), (.int (101 : Int32)), (.int (114 : Int32)), (.int (118 : Int32)), (.int (101 : Int32)), (.int (0 : Int32))] (.int (0 : Int32)) := V110
  show Go p.tables e below P (T110.setTop (mkF m 242 #[.val (.int p0), .val (.int p1), .val (.int p2), .val (.ref a1), .val (.int ((p0 &&& (2147483647 : Int32)) % (5 : Int32))), .val (.int jp), .val (.int (p2 &&& (255 : Int32))), .val (.ref b18), .unset, .unset, .unset, .unset, .unset] [(.ref b55)]))
  refine Go.st (fun _ => XS.dup X110.here hx rfl (hb hby at_242) rfl rfl) ?_
  show Go p.tables e below P (T110.setTop (mkF m 243 #[.val (.int p0), .val (.int p1), .val (.int p2), .val (.ref a1), .val (.int ((p0 &&& (2147483647 : Int32)) % (5 : Int32))), .val (.int jp), .val (.int (p2 &&& (255 : Int32))), .val (.ref b18), .unset, .unset, .unset, .unset, .unset] [(.ref b55), (.ref b55)]))
  refine Go.st (fun _ => XS.bipush X110.here hx rfl (hb hby at_243)) ?_
  show Go p.tables e below P (T110.setTop (mkF m 245 #[.val (.int p0), .val (.int p1), .val (.int p2), .val (.ref a1), .val (.int ((p0 &&& (2147483647 : Int32)) % (5 : Int32))), .val (.int jp), .val (.int (p2 &&& (255 : Int32))), .val (.ref b18), .unset, .unset, .unset, .unset, .unset] [(.int (18 : Int32)), (.ref b55), (.ref b55)]))
  refine Go.st (fun _ => XS.iload X110.here hx rfl (hb hby at_245) rfl) ?_
  show Go p.tables e below P (T110.setTop (mkF m 247 #[.val (.int p0), .val (.int p1), .val (.int p2), .val (.ref a1), .val (.int ((p0 &&& (2147483647 : Int32)) % (5 : Int32))), .val (.int jp), .val (.int (p2 &&& (255 : Int32))), .val (.ref b18), .unset, .unset, .unset, .unset, .unset] [(.int (p2 &&& (255 : Int32))), (.int (18 : Int32)), (.ref b55), (.ref b55)]))
  obtain ⟨T113, h113, X113, e113, W113, V113, st113⟩ := own_stC X110 hx hZ1 e110 V110' (j := (18 : Int32)) (i := 18) (by decide) (by decide) (Nat.le_of_ble_eq_true rfl) (g := (mkF m 247 #[.val (.int p0), .val (.int p1), .val (.int p2), .val (.ref a1), .val (.int ((p0 &&& (2147483647 : Int32)) % (5 : Int32))), .val (.int jp), .val (.int (p2 &&& (255 : Int32))), .val (.ref b18), .unset, .unset, .unset, .unset, .unset] [(.int (p2 &&& (255 : Int32))), (.int (18 : Int32)), (.ref b55), (.ref b55)])) rfl rfl (hb hby at_247)
  refine Go.st st113 ?_
  rw [show nar .char (p2 &&& (255 : Int32)) = (p2 &&& (255 : Int32)) from i2c_mask _] at V113
  have sf114 := Safe.wr W113 sf112 CR110.1 sf111
  have sf115 := Safe.wr W113 sf112 CR110.1 sf112
  have CR113 := CR110.trans (CHr.wr W113 sf112 CR110.1)
  have K113 : Keep h0 h113 [] := K110.wr W113 (Or.inr sz_b55)
  have O113 := O110.wr W113 g_b55
  have N113 := Fr.snoc X113 N110 g_b55
  have V113' : Arv Z h113 b55 k55 .char (19 : Int32) [(.int (117 : Int32)), (.int (115 : Int32)), (.int (45 : Int32)), (.int (102 : Int32)), (.int (101 : Int32)), (.int (100 : Int32)), (.int (101 : Int32)), (.int (114 : Int32)), (.int (97 : Int32)), (.int (108 : Int32)), (.int (45 : Int32)), (.int (114 : Int32)), (.int (101 : Int32)), (.int (115 : Int32)), (.int (101 : Int32)), (.int (114 : Int32)), (.int (118 : Int32)), (.int (101 : Int32)), (.int (p2 &&& (255 : Int32)))] (.int (0 : Int32)) := V113
  show Go p.tables e below P (T113.setTop (mkF m 248 #[.val (.int p0), .val (.int p1), .val (.int p2), .val (.ref a1), .val (.int ((p0 &&& (2147483647 : Int32)) % (5 : Int32))), .val (.int jp), .val (.int (p2 &&& (255 : Int32))), .val (.ref b18), .unset, .unset, .unset, .unset, .unset] [(.ref b55)]))
  refine Go.st (fun _ => XS.astore X113.here hx rfl (hb hby at_248) rfl rfl (l' := #[.val (.int p0), .val (.int p1), .val (.int p2), .val (.ref a1), .val (.int ((p0 &&& (2147483647 : Int32)) % (5 : Int32))), .val (.int jp), .val (.int (p2 &&& (255 : Int32))), .val (.ref b18), .val (.ref b55), .unset, .unset, .unset, .unset]) rfl) ?_
  show Go p.tables e below P (T113.setTop (mkF m 250 #[.val (.int p0), .val (.int p1), .val (.int p2), .val (.ref a1), .val (.int ((p0 &&& (2147483647 : Int32)) % (5 : Int32))), .val (.int jp), .val (.int (p2 &&& (255 : Int32))), .val (.ref b18), .val (.ref b55), .unset, .unset, .unset, .unset] []))
  refine Go.st (fun _ => XS.bipush X113.here hx rfl (hb hby at_250)) ?_
  show Go p.tables e below P (T113.setTop (mkF m 252 #[.val (.int p0), .val (.int p1), .val (.int p2), .val (.ref a1), .val (.int ((p0 &&& (2147483647 : Int32)) % (5 : Int32))), .val (.int jp), .val (.int (p2 &&& (255 : Int32))), .val (.ref b18), .val (.ref b55), .unset, .unset, .unset, .unset] [(.int (17 : Int32))]))
  have c117 := ((((((((((((((((((((c56.ext E55).wr W59).wr W62).wr W65).wr W68).wr W71).wr W74).wr W77).wr W80).wr W83).wr W86).wr W89).wr W92).wr W95).wr W98).wr W101).wr W104).wr W107).wr W110).wr W113)
  have c118 := ((((((((((((((((((((c57.ext E55).other W59 (Nat.ne_of_lt (Nat.lt_of_lt_of_le c57.lt (Nat.le_of_eq g55.symm)))).other W62 (Nat.ne_of_lt (Nat.lt_of_lt_of_le c57.lt (Nat.le_of_eq g55.symm)))).other W65 (Nat.ne_of_lt (Nat.lt_of_lt_of_le c57.lt (Nat.le_of_eq g55.symm)))).other W68 (Nat.ne_of_lt (Nat.lt_of_lt_of_le c57.lt (Nat.le_of_eq g55.symm)))).other W71 (Nat.ne_of_lt (Nat.lt_of_lt_of_le c57.lt (Nat.le_of_eq g55.symm)))).other W74 (Nat.ne_of_lt (Nat.lt_of_lt_of_le c57.lt (Nat.le_of_eq g55.symm)))).other W77 (Nat.ne_of_lt (Nat.lt_of_lt_of_le c57.lt (Nat.le_of_eq g55.symm)))).other W80 (Nat.ne_of_lt (Nat.lt_of_lt_of_le c57.lt (Nat.le_of_eq g55.symm)))).other W83 (Nat.ne_of_lt (Nat.lt_of_lt_of_le c57.lt (Nat.le_of_eq g55.symm)))).other W86 (Nat.ne_of_lt (Nat.lt_of_lt_of_le c57.lt (Nat.le_of_eq g55.symm)))).other W89 (Nat.ne_of_lt (Nat.lt_of_lt_of_le c57.lt (Nat.le_of_eq g55.symm)))).other W92 (Nat.ne_of_lt (Nat.lt_of_lt_of_le c57.lt (Nat.le_of_eq g55.symm)))).other W95 (Nat.ne_of_lt (Nat.lt_of_lt_of_le c57.lt (Nat.le_of_eq g55.symm)))).other W98 (Nat.ne_of_lt (Nat.lt_of_lt_of_le c57.lt (Nat.le_of_eq g55.symm)))).other W101 (Nat.ne_of_lt (Nat.lt_of_lt_of_le c57.lt (Nat.le_of_eq g55.symm)))).other W104 (Nat.ne_of_lt (Nat.lt_of_lt_of_le c57.lt (Nat.le_of_eq g55.symm)))).other W107 (Nat.ne_of_lt (Nat.lt_of_lt_of_le c57.lt (Nat.le_of_eq g55.symm)))).other W110 (Nat.ne_of_lt (Nat.lt_of_lt_of_le c57.lt (Nat.le_of_eq g55.symm)))).other W113 (Nat.ne_of_lt (Nat.lt_of_lt_of_le c57.lt (Nat.le_of_eq g55.symm))))
  have c119 := ((((((((((((((((((((V53'.ext E55).other W59 (Nat.ne_of_lt (Nat.lt_of_lt_of_le V53'.lt (Nat.le_of_eq g55.symm)))).other W62 (Nat.ne_of_lt (Nat.lt_of_lt_of_le V53'.lt (Nat.le_of_eq g55.symm)))).other W65 (Nat.ne_of_lt (Nat.lt_of_lt_of_le V53'.lt (Nat.le_of_eq g55.symm)))).other W68 (Nat.ne_of_lt (Nat.lt_of_lt_of_le V53'.lt (Nat.le_of_eq g55.symm)))).other W71 (Nat.ne_of_lt (Nat.lt_of_lt_of_le V53'.lt (Nat.le_of_eq g55.symm)))).other W74 (Nat.ne_of_lt (Nat.lt_of_lt_of_le V53'.lt (Nat.le_of_eq g55.symm)))).other W77 (Nat.ne_of_lt (Nat.lt_of_lt_of_le V53'.lt (Nat.le_of_eq g55.symm)))).other W80 (Nat.ne_of_lt (Nat.lt_of_lt_of_le V53'.lt (Nat.le_of_eq g55.symm)))).other W83 (Nat.ne_of_lt (Nat.lt_of_lt_of_le V53'.lt (Nat.le_of_eq g55.symm)))).other W86 (Nat.ne_of_lt (Nat.lt_of_lt_of_le V53'.lt (Nat.le_of_eq g55.symm)))).other W89 (Nat.ne_of_lt (Nat.lt_of_lt_of_le V53'.lt (Nat.le_of_eq g55.symm)))).other W92 (Nat.ne_of_lt (Nat.lt_of_lt_of_le V53'.lt (Nat.le_of_eq g55.symm)))).other W95 (Nat.ne_of_lt (Nat.lt_of_lt_of_le V53'.lt (Nat.le_of_eq g55.symm)))).other W98 (Nat.ne_of_lt (Nat.lt_of_lt_of_le V53'.lt (Nat.le_of_eq g55.symm)))).other W101 (Nat.ne_of_lt (Nat.lt_of_lt_of_le V53'.lt (Nat.le_of_eq g55.symm)))).other W104 (Nat.ne_of_lt (Nat.lt_of_lt_of_le V53'.lt (Nat.le_of_eq g55.symm)))).other W107 (Nat.ne_of_lt (Nat.lt_of_lt_of_le V53'.lt (Nat.le_of_eq g55.symm)))).other W110 (Nat.ne_of_lt (Nat.lt_of_lt_of_le V53'.lt (Nat.le_of_eq g55.symm)))).other W113 (Nat.ne_of_lt (Nat.lt_of_lt_of_le V53'.lt (Nat.le_of_eq g55.symm))))
  obtain ⟨T116, h116, k116, X116, e116, E116, A116, st116⟩ := newP X113 hx hZ1 (ow hw 9 rfl) e113 (g := (mkF m 252 #[.val (.int p0), .val (.int p1), .val (.int p2), .val (.ref a1), .val (.int ((p0 &&& (2147483647 : Int32)) % (5 : Int32))), .val (.int jp), .val (.int (p2 &&& (255 : Int32))), .val (.ref b18), .val (.ref b55), .unset, .unset, .unset, .unset] [(.int (17 : Int32))])) rfl (hb hby at_252) rfl (by decide) (cap := 17) (by decide) (by decide) (by decide) (by decide)
  obtain ⟨b116, g116⟩ : ∃ z, z = h113.size := ⟨_, rfl⟩
  rw [← g116] at A116 st116
  refine Go.st st116 ?_
  have g_b116 : n0 ≤ b116 := Nat.le_trans (own_oldsz O113) (Nat.le_of_eq g116.symm)
  have sz_b116 : h0.size ≤ b116 := Nat.le_trans K113.1 (Nat.le_of_eq g116.symm)
  have K116 : Keep h0 h116 [] := K113.ext E116
  have O116 := O113.ext E116
  have sf120 := Safe.ext E116 CR113.1 sf114
  have sf121 := Safe.ext E116 CR113.1 sf115
  have SF_b116 : Safe Z consts_1 T1.vm h116 b116 := Safe.ext E116 CR113.1 (Safe.new (Nat.le_of_eq g116.symm))
  have CR116 := CR113.trans (CHr.ext E116 CR113.1)
  have V116 : Arv Z h116 b116 k116 .char (17 : Int32) [(.int (0 : Int32)), (.int (0 : Int32)), (.int (0 : Int32)), (.int (0 : Int32)), (.int (0 : Int32)), (.int (0 : Int32)), (.int (0 : Int32)), (.int (0 : Int32)), (.int (0 : Int32)), (.int (0 : Int32)), (.int (0 : Int32)), (.int (0 : Int32)), (.int (0 : Int32)), (.int (0 : Int32)), (.int (0 : Int32)), (.int (0 : Int32)), (.int (0 : Int32))] (.int (0 : Int32)) := (Arv.new A116 (by decide)).pad (pad_rep [] (.int (0 : Int32)) 17)
  show Go p.tables e below P (T116.setTop (mkF m 254 #[.val (.int p0), .val (.int p1), .val (.int p2), .val (.ref a1), .val (.int ((p0 &&& (2147483647 : Int32)) % (5 : Int32))), .val (.int jp), .val (.int (p2 &&& (255 : Int32))), .val (.ref b18), .val (.ref b55), .unset, .unset, .unset, .unset] [(.ref b116)]))
  refine Go.st (fun _ => XS.dup X116.here hx rfl (hb hby at_254) rfl rfl) ?_
  show Go p.tables e below P (T116.setTop (mkF m 255 #[.val (.int p0), .val (.int p1), .val (.int p2), .val (.ref a1), .val (.int ((p0 &&& (2147483647 : Int32)) % (5 : Int32))), .val (.int jp), .val (.int (p2 &&& (255 : Int32))), .val (.ref b18), .val (.ref b55), .unset, .unset, .unset, .unset] [(.ref b116), (.ref b116)]))
  refine Go.st (fun _ => XS.iconst X116.here hx rfl (hb hby at_255)) ?_
  show Go p.tables e below P (T116.setTop (mkF m 256 #[.val (.int p0), .val (.int p1), .val (.int p2), .val (.ref a1), .val (.int ((p0 &&& (2147483647 : Int32)) % (5 : Int32))), .val (.int jp), .val (.int (p2 &&& (255 : Int32))), .val (.ref b18), .val (.ref b55), .unset, .unset, .unset, .unset] [(.int (0 : Int32)), (.ref b116), (.ref b116)]))
  refine Go.st (fun _ => XS.bipush X116.here hx rfl (hb hby at_256)) ?_
  show Go p.tables e below P (T116.setTop (mkF m 258 #[.val (.int p0), .val (.int p1), .val (.int p2), .val (.ref a1), .val (.int ((p0 &&& (2147483647 : Int32)) % (5 : Int32))), .val (.int jp), .val (.int (p2 &&& (255 : Int32))), .val (.ref b18), .val (.ref b55), .unset, .unset, .unset, .unset] [(.int (117 : Int32)), (.int (0 : Int32)), (.ref b116), (.ref b116)]))
  obtain ⟨T122, h122, X122, e122, W122, V122, st122⟩ := own_stC X116 hx hZ1 e116 V116 (j := (0 : Int32)) (i := 0) (by decide) (by decide) (Nat.le_of_ble_eq_true rfl) (g := (mkF m 258 #[.val (.int p0), .val (.int p1), .val (.int p2), .val (.ref a1), .val (.int ((p0 &&& (2147483647 : Int32)) % (5 : Int32))), .val (.int jp), .val (.int (p2 &&& (255 : Int32))), .val (.ref b18), .val (.ref b55), .unset, .unset, .unset, .unset] [(.int (117 : Int32)), (.int (0 : Int32)), (.ref b116), (.ref b116)])) rfl rfl (hb hby at_258)
  refine Go.st st122 ?_
  have sf123 := Safe.wr W122 SF_b116 CR116.1 sf120
  have sf124 := Safe.wr W122 SF_b116 CR116.1 sf121
  have sf125 := Safe.wr W122 SF_b116 CR116.1 SF_b116
  have CR122 := CR116.trans (CHr.wr W122 SF_b116 CR116.1)
  have K122 : Keep h0 h122 [] := K116.wr W122 (Or.inr sz_b116)
  have O122 := O116.wr W122 g_b116
  have N122 := Fr.snoc X122 N113 g_b116
  have V122' : Arv Z h122 b116 k116 .char (17 : Int32) [(.int (117 : Int32)), (.int (0 : Int32)), (.int (0 : Int32)), (.int (0 : Int32)), (.int (0 : Int32)), (.int (0 : Int32)), (.int (0 : Int32)), (.int (0 : Int32)), (.int (0 : Int32)), (.int (0 : Int32)), (.int (0 : Int32)), (.int (0 : Int32)), (.int (0 : Int32)), (.int (0 : Int32)), (.int (0 : Int32)), (.int (0 : Int32)), (.int (0 : Int32))] (.int (0 : Int32)) := V122
  show Go p.tables e below P (T122.setTop (mkF m 259 #[.val (.int p0), .val (.int p1), .val (.int p2), .val (.ref a1), .val (.int ((p0 &&& (2147483647 : Int32)) % (5 : Int32))), .val (.int jp), .val (.int (p2 &&& (255 : Int32))), .val (.ref b18), .val (.ref b55), .unset, .unset, .unset, .unset] [(.ref b116)]))
  refine Go.st (fun _ => XS.dup X122.here hx rfl (hb hby at_259) rfl rfl) ?_
  show Go p.tables e below P (T122.setTop (mkF m 260 #[.val (.int p0), .val (.int p1), .val (.int p2), .val (.ref a1), .val (.int ((p0 &&& (2147483647 : Int32)) % (5 : Int32))), .val (.int jp), .val (.int (p2 &&& (255 : Int32))), .val (.ref b18), .val (.ref b55), .unset, .unset, .unset, .unset] [(.ref b116), (.ref b116)]))
  refine Go.st (fun _ => XS.iconst X122.here hx rfl (hb hby at_260)) ?_
  show Go p.tables e below P (T122.setTop (mkF m 261 #[.val (.int p0), .val (.int p1), .val (.int p2), .val (.ref a1), .val (.int ((p0 &&& (2147483647 : Int32)) % (5 : Int32))), .val (.int jp), .val (.int (p2 &&& (255 : Int32))), .val (.ref b18), .val (.ref b55), .unset, .unset, .unset, .unset] [(.int (1 : Int32)), (.ref b116), (.ref b116)]))
  refine Go.st (fun _ => XS.bipush X122.here hx rfl (hb hby at_261)) ?_
  show Go p.tables e below P (T122.setTop (mkF m 263 #[.val (.int p0), .val (.int p1), .val (.int p2), .val (.ref a1), .val (.int ((p0 &&& (2147483647 : Int32)) % (5 : Int32))), .val (.int jp), .val (.int (p2 &&& (255 : Int32))), .val (.ref b18), .val (.ref b55), .unset, .unset, .unset, .unset] [(.int (115 : Int32)), (.int (1 : Int32)), (.ref b116), (.ref b116)]))
  obtain ⟨T126, h126, X126, e126, W126, V126, st126⟩ := own_stC X122 hx hZ1 e122 V122' (j := (1 : Int32)) (i := 1) (by decide) (by decide) (Nat.le_of_ble_eq_true rfl) (g := (mkF m 263 #[.val (.int p0), .val (.int p1), .val (.int p2), .val (.ref a1), .val (.int ((p0 &&& (2147483647 : Int32)) % (5 : Int32))), .val (.int jp), .val (.int (p2 &&& (255 : Int32))), .val (.ref b18), .val (.ref b55), .unset, .unset, .unset, .unset] [(.int (115 : Int32)), (.int (1 : Int32)), (.ref b116), (.ref b116)])) rfl rfl (hb hby at_263)
  refine Go.st st126 ?_
  have sf127 := Safe.wr W126 sf125 CR122.1 sf123
  have sf128 := Safe.wr W126 sf125 CR122.1 sf124
  have sf129 := Safe.wr W126 sf125 CR122.1 sf125
  have CR126 := CR122.trans (CHr.wr W126 sf125 CR122.1)
  have K126 : Keep h0 h126 [] := K122.wr W126 (Or.inr sz_b116)
  have O126 := O122.wr W126 g_b116
  have N126 := Fr.snoc X126 N122 g_b116
  have V126' : Arv Z h126 b116 k116 .char (17 : Int32) [(.int (117 : Int32)), (.int (115 : Int32)), (.int (0 : Int32)), (.int (0 : Int32)), (.int (0 : Int32)), (.int (0 : Int32)), (.int (0 : Int32)), (.int (0 : Int32)), (.int (0 : Int32)), (.int (0 : Int32)), (.int (0 : Int32)), (.int (0 : Int32)), (.int (0 : Int32)), (.int (0 : Int32)), (.int (0 : Int32)), (.int (0 : Int32)), (.int (0 : Int32))] (.int (0 : Int32)) := V126
  show Go p.tables e below P (T126.setTop (mkF m 264 #[.val (.int p0), .val (.int p1), .val (.int p2), .val (.ref a1), .val (.int ((p0 &&& (2147483647 : Int32)) % (5 : Int32))), .val (.int jp), .val (.int (p2 &&& (255 : Int32))), .val (.ref b18), .val (.ref b55), .unset, .unset, .unset, .unset] [(.ref b116)]))
  refine Go.st (fun _ => XS.dup X126.here hx rfl (hb hby at_264) rfl rfl) ?_
  show Go p.tables e below P (T126.setTop (mkF m 265 #[.val (.int p0), .val (.int p1), .val (.int p2), .val (.ref a1), .val (.int ((p0 &&& (2147483647 : Int32)) % (5 : Int32))), .val (.int jp), .val (.int (p2 &&& (255 : Int32))), .val (.ref b18), .val (.ref b55), .unset, .unset, .unset, .unset] [(.ref b116), (.ref b116)]))
  refine Go.st (fun _ => XS.iconst X126.here hx rfl (hb hby at_265)) ?_
  show Go p.tables e below P (T126.setTop (mkF m 266 #[.val (.int p0), .val (.int p1), .val (.int p2), .val (.ref a1), .val (.int ((p0 &&& (2147483647 : Int32)) % (5 : Int32))), .val (.int jp), .val (.int (p2 &&& (255 : Int32))), .val (.ref b18), .val (.ref b55), .unset, .unset, .unset, .unset] [(.int (2 : Int32)), (.ref b116), (.ref b116)]))
  refine Go.st (fun _ => XS.bipush X126.here hx rfl (hb hby at_266)) ?_
  show Go p.tables e below P (T126.setTop (mkF m 268 #[.val (.int p0), .val (.int p1), .val (.int p2), .val (.ref a1), .val (.int ((p0 &&& (2147483647 : Int32)) % (5 : Int32))), .val (.int jp), .val (.int (p2 &&& (255 : Int32))), .val (.ref b18), .val (.ref b55), .unset, .unset, .unset, .unset] [(.int (45 : Int32)), (.int (2 : Int32)), (.ref b116), (.ref b116)]))
  obtain ⟨T130, h130, X130, e130, W130, V130, st130⟩ := own_stC X126 hx hZ1 e126 V126' (j := (2 : Int32)) (i := 2) (by decide) (by decide) (Nat.le_of_ble_eq_true rfl) (g := (mkF m 268 #[.val (.int p0), .val (.int p1), .val (.int p2), .val (.ref a1), .val (.int ((p0 &&& (2147483647 : Int32)) % (5 : Int32))), .val (.int jp), .val (.int (p2 &&& (255 : Int32))), .val (.ref b18), .val (.ref b55), .unset, .unset, .unset, .unset] [(.int (45 : Int32)), (.int (2 : Int32)), (.ref b116), (.ref b116)])) rfl rfl (hb hby at_268)
  refine Go.st st130 ?_
  have sf131 := Safe.wr W130 sf129 CR126.1 sf127
  have sf132 := Safe.wr W130 sf129 CR126.1 sf128
  have sf133 := Safe.wr W130 sf129 CR126.1 sf129
  have CR130 := CR126.trans (CHr.wr W130 sf129 CR126.1)
  have K130 : Keep h0 h130 [] := K126.wr W130 (Or.inr sz_b116)
  have O130 := O126.wr W130 g_b116
  have N130 := Fr.snoc X130 N126 g_b116
  have V130' : Arv Z h130 b116 k116 .char (17 : Int32) [(.int (117 : Int32)), (.int (115 : Int32)), (.int (45 : Int32)), (.int (0 : Int32)), (.int (0 : Int32)), (.int (0 : Int32)), (.int (0 : Int32)), (.int (0 : Int32)), (.int (0 : Int32)), (.int (0 : Int32)), (.int (0 : Int32)), (.int (0 : Int32)), (.int (0 : Int32)), (.int (0 : Int32)), (.int (0 : Int32)), (.int (0 : Int32)), (.int (0 : Int32))] (.int (0 : Int32)) := V130
  show Go p.tables e below P (T130.setTop (mkF m 269 #[.val (.int p0), .val (.int p1), .val (.int p2), .val (.ref a1), .val (.int ((p0 &&& (2147483647 : Int32)) % (5 : Int32))), .val (.int jp), .val (.int (p2 &&& (255 : Int32))), .val (.ref b18), .val (.ref b55), .unset, .unset, .unset, .unset] [(.ref b116)]))
  refine Go.st (fun _ => XS.dup X130.here hx rfl (hb hby at_269) rfl rfl) ?_
  show Go p.tables e below P (T130.setTop (mkF m 270 #[.val (.int p0), .val (.int p1), .val (.int p2), .val (.ref a1), .val (.int ((p0 &&& (2147483647 : Int32)) % (5 : Int32))), .val (.int jp), .val (.int (p2 &&& (255 : Int32))), .val (.ref b18), .val (.ref b55), .unset, .unset, .unset, .unset] [(.ref b116), (.ref b116)]))
  refine Go.st (fun _ => XS.iconst X130.here hx rfl (hb hby at_270)) ?_
  show Go p.tables e below P (T130.setTop (mkF m 271 #[.val (.int p0), .val (.int p1), .val (.int p2), .val (.ref a1), .val (.int ((p0 &&& (2147483647 : Int32)) % (5 : Int32))), .val (.int jp), .val (.int (p2 &&& (255 : Int32))), .val (.ref b18), .val (.ref b55), .unset, .unset, .unset, .unset] [(.int (3 : Int32)), (.ref b116), (.ref b116)]))
  refine Go.st (fun _ => XS.bipush X130.here hx rfl (hb hby at_271)) ?_
  show Go p.tables e below P (T130.setTop (mkF m 273 #[.val (.int p0), .val (.int p1), .val (.int p2), .val (.ref a1), .val (.int ((p0 &&& (2147483647 : Int32)) % (5 : Int32))), .val (.int jp), .val (.int (p2 &&& (255 : Int32))), .val (.ref b18), .val (.ref b55), .unset, .unset, .unset, .unset] [(.int (102 : Int32)), (.int (3 : Int32)), (.ref b116), (.ref b116)]))
  obtain ⟨T134, h134, X134, e134, W134, V134, st134⟩ := own_stC X130 hx hZ1 e130 V130' (j := (3 : Int32)) (i := 3) (by decide) (by decide) (Nat.le_of_ble_eq_true rfl) (g := (mkF m 273 #[.val (.int p0), .val (.int p1), .val (.int p2), .val (.ref a1), .val (.int ((p0 &&& (2147483647 : Int32)) % (5 : Int32))), .val (.int jp), .val (.int (p2 &&& (255 : Int32))), .val (.ref b18), .val (.ref b55), .unset, .unset, .unset, .unset] [(.int (102 : Int32)), (.int (3 : Int32)), (.ref b116), (.ref b116)])) rfl rfl (hb hby at_273)
  refine Go.st st134 ?_
  have sf135 := Safe.wr W134 sf133 CR130.1 sf131
  have sf136 := Safe.wr W134 sf133 CR130.1 sf132
  have sf137 := Safe.wr W134 sf133 CR130.1 sf133
  have CR134 := CR130.trans (CHr.wr W134 sf133 CR130.1)
  have K134 : Keep h0 h134 [] := K130.wr W134 (Or.inr sz_b116)
  have O134 := O130.wr W134 g_b116
  have N134 := Fr.snoc X134 N130 g_b116
  have V134' : Arv Z h134 b116 k116 .char (17 : Int32) [(.int (117 : Int32)), (.int (115 : Int32)), (.int (45 : Int32)), (.int (102 : Int32)), (.int (0 : Int32)), (.int (0 : Int32)), (.int (0 : Int32)), (.int (0 : Int32)), (.int (0 : Int32)), (.int (0 : Int32)), (.int (0 : Int32)), (.int (0 : Int32)), (.int (0 : Int32)), (.int (0 : Int32)), (.int (0 : Int32)), (.int (0 : Int32)), (.int (0 : Int32))] (.int (0 : Int32)) := V134
  show Go p.tables e below P (T134.setTop (mkF m 274 #[.val (.int p0), .val (.int p1), .val (.int p2), .val (.ref a1), .val (.int ((p0 &&& (2147483647 : Int32)) % (5 : Int32))), .val (.int jp), .val (.int (p2 &&& (255 : Int32))), .val (.ref b18), .val (.ref b55), .unset, .unset, .unset, .unset] [(.ref b116)]))
  refine Go.st (fun _ => XS.dup X134.here hx rfl (hb hby at_274) rfl rfl) ?_
  show Go p.tables e below P (T134.setTop (mkF m 275 #[.val (.int p0), .val (.int p1), .val (.int p2), .val (.ref a1), .val (.int ((p0 &&& (2147483647 : Int32)) % (5 : Int32))), .val (.int jp), .val (.int (p2 &&& (255 : Int32))), .val (.ref b18), .val (.ref b55), .unset, .unset, .unset, .unset] [(.ref b116), (.ref b116)]))
  refine Go.st (fun _ => XS.iconst X134.here hx rfl (hb hby at_275)) ?_
  show Go p.tables e below P (T134.setTop (mkF m 276 #[.val (.int p0), .val (.int p1), .val (.int p2), .val (.ref a1), .val (.int ((p0 &&& (2147483647 : Int32)) % (5 : Int32))), .val (.int jp), .val (.int (p2 &&& (255 : Int32))), .val (.ref b18), .val (.ref b55), .unset, .unset, .unset, .unset] [(.int (4 : Int32)), (.ref b116), (.ref b116)]))
  refine Go.st (fun _ => XS.bipush X134.here hx rfl (hb hby at_276)) ?_
  show Go p.tables e below P (T134.setTop (mkF m 278 #[.val (.int p0), .val (.int p1), .val (.int p2), .val (.ref a1), .val (.int ((p0 &&& (2147483647 : Int32)) % (5 : Int32))), .val (.int jp), .val (.int (p2 &&& (255 : Int32))), .val (.ref b18), .val (.ref b55), .unset, .unset, .unset, .unset] [(.int (101 : Int32)), (.int (4 : Int32)), (.ref b116), (.ref b116)]))
  obtain ⟨T138, h138, X138, e138, W138, V138, st138⟩ := own_stC X134 hx hZ1 e134 V134' (j := (4 : Int32)) (i := 4) (by decide) (by decide) (Nat.le_of_ble_eq_true rfl) (g := (mkF m 278 #[.val (.int p0), .val (.int p1), .val (.int p2), .val (.ref a1), .val (.int ((p0 &&& (2147483647 : Int32)) % (5 : Int32))), .val (.int jp), .val (.int (p2 &&& (255 : Int32))), .val (.ref b18), .val (.ref b55), .unset, .unset, .unset, .unset] [(.int (101 : Int32)), (.int (4 : Int32)), (.ref b116), (.ref b116)])) rfl rfl (hb hby at_278)
  refine Go.st st138 ?_
  have sf139 := Safe.wr W138 sf137 CR134.1 sf135
  have sf140 := Safe.wr W138 sf137 CR134.1 sf136
  have sf141 := Safe.wr W138 sf137 CR134.1 sf137
  have CR138 := CR134.trans (CHr.wr W138 sf137 CR134.1)
  have K138 : Keep h0 h138 [] := K134.wr W138 (Or.inr sz_b116)
  have O138 := O134.wr W138 g_b116
  have N138 := Fr.snoc X138 N134 g_b116
  have V138' : Arv Z h138 b116 k116 .char (17 : Int32) [(.int (117 : Int32)), (.int (115 : Int32)), (.int (45 : Int32)), (.int (102 : Int32)), (.int (101 : Int32)), (.int (0 : Int32)), (.int (0 : Int32)), (.int (0 : Int32)), (.int (0 : Int32)), (.int (0 : Int32)), (.int (0 : Int32)), (.int (0 : Int32)), (.int (0 : Int32)), (.int (0 : Int32)), (.int (0 : Int32)), (.int (0 : Int32)), (.int (0 : Int32))] (.int (0 : Int32)) := V138
  show Go p.tables e below P (T138.setTop (mkF m 279 #[.val (.int p0), .val (.int p1), .val (.int p2), .val (.ref a1), .val (.int ((p0 &&& (2147483647 : Int32)) % (5 : Int32))), .val (.int jp), .val (.int (p2 &&& (255 : Int32))), .val (.ref b18), .val (.ref b55), .unset, .unset, .unset, .unset] [(.ref b116)]))
  refine Go.st (fun _ => XS.dup X138.here hx rfl (hb hby at_279) rfl rfl) ?_
  show Go p.tables e below P (T138.setTop (mkF m 280 #[.val (.int p0), .val (.int p1), .val (.int p2), .val (.ref a1), .val (.int ((p0 &&& (2147483647 : Int32)) % (5 : Int32))), .val (.int jp), .val (.int (p2 &&& (255 : Int32))), .val (.ref b18), .val (.ref b55), .unset, .unset, .unset, .unset] [(.ref b116), (.ref b116)]))
  refine Go.st (fun _ => XS.iconst X138.here hx rfl (hb hby at_280)) ?_
  show Go p.tables e below P (T138.setTop (mkF m 281 #[.val (.int p0), .val (.int p1), .val (.int p2), .val (.ref a1), .val (.int ((p0 &&& (2147483647 : Int32)) % (5 : Int32))), .val (.int jp), .val (.int (p2 &&& (255 : Int32))), .val (.ref b18), .val (.ref b55), .unset, .unset, .unset, .unset] [(.int (5 : Int32)), (.ref b116), (.ref b116)]))
  refine Go.st (fun _ => XS.bipush X138.here hx rfl (hb hby at_281)) ?_
  show Go p.tables e below P (T138.setTop (mkF m 283 #[.val (.int p0), .val (.int p1), .val (.int p2), .val (.ref a1), .val (.int ((p0 &&& (2147483647 : Int32)) % (5 : Int32))), .val (.int jp), .val (.int (p2 &&& (255 : Int32))), .val (.ref b18), .val (.ref b55), .unset, .unset, .unset, .unset] [(.int (100 : Int32)), (.int (5 : Int32)), (.ref b116), (.ref b116)]))
  obtain ⟨T142, h142, X142, e142, W142, V142, st142⟩ := own_stC X138 hx hZ1 e138 V138' (j := (5 : Int32)) (i := 5) (by decide) (by decide) (Nat.le_of_ble_eq_true rfl) (g := (mkF m 283 #[.val (.int p0), .val (.int p1), .val (.int p2), .val (.ref a1), .val (.int ((p0 &&& (2147483647 : Int32)) % (5 : Int32))), .val (.int jp), .val (.int (p2 &&& (255 : Int32))), .val (.ref b18), .val (.ref b55), .unset, .unset, .unset, .unset] [(.int (100 : Int32)), (.int (5 : Int32)), (.ref b116), (.ref b116)])) rfl rfl (hb hby at_283)
  refine Go.st st142 ?_
  have sf143 := Safe.wr W142 sf141 CR138.1 sf139
  have sf144 := Safe.wr W142 sf141 CR138.1 sf140
  have sf145 := Safe.wr W142 sf141 CR138.1 sf141
  have CR142 := CR138.trans (CHr.wr W142 sf141 CR138.1)
  have K142 : Keep h0 h142 [] := K138.wr W142 (Or.inr sz_b116)
  have O142 := O138.wr W142 g_b116
  have N142 := Fr.snoc X142 N138 g_b116
  have V142' : Arv Z h142 b116 k116 .char (17 : Int32) [(.int (117 : Int32)), (.int (115 : Int32)), (.int (45 : Int32)), (.int (102 : Int32)), (.int (101 : Int32)), (.int (100 : Int32)), (.int (0 : Int32)), (.int (0 : Int32)), (.int (0 : Int32)), (.int (0 : Int32)), (.int (0 : Int32)), (.int (0 : Int32)), (.int (0 : Int32)), (.int (0 : Int32)), (.int (0 : Int32)), (.int (0 : Int32)), (.int (0 : Int32))] (.int (0 : Int32)) := V142
  show Go p.tables e below P (T142.setTop (mkF m 284 #[.val (.int p0), .val (.int p1), .val (.int p2), .val (.ref a1), .val (.int ((p0 &&& (2147483647 : Int32)) % (5 : Int32))), .val (.int jp), .val (.int (p2 &&& (255 : Int32))), .val (.ref b18), .val (.ref b55), .unset, .unset, .unset, .unset] [(.ref b116)]))
  refine Go.st (fun _ => XS.dup X142.here hx rfl (hb hby at_284) rfl rfl) ?_
  show Go p.tables e below P (T142.setTop (mkF m 285 #[.val (.int p0), .val (.int p1), .val (.int p2), .val (.ref a1), .val (.int ((p0 &&& (2147483647 : Int32)) % (5 : Int32))), .val (.int jp), .val (.int (p2 &&& (255 : Int32))), .val (.ref b18), .val (.ref b55), .unset, .unset, .unset, .unset] [(.ref b116), (.ref b116)]))
  refine Go.st (fun _ => XS.bipush X142.here hx rfl (hb hby at_285)) ?_
  show Go p.tables e below P (T142.setTop (mkF m 287 #[.val (.int p0), .val (.int p1), .val (.int p2), .val (.ref a1), .val (.int ((p0 &&& (2147483647 : Int32)) % (5 : Int32))), .val (.int jp), .val (.int (p2 &&& (255 : Int32))), .val (.ref b18), .val (.ref b55), .unset, .unset, .unset, .unset] [(.int (6 : Int32)), (.ref b116), (.ref b116)]))
  refine Go.st (fun _ => XS.bipush X142.here hx rfl (hb hby at_287)) ?_
  show Go p.tables e below P (T142.setTop (mkF m 289 #[.val (.int p0), .val (.int p1), .val (.int p2), .val (.ref a1), .val (.int ((p0 &&& (2147483647 : Int32)) % (5 : Int32))), .val (.int jp), .val (.int (p2 &&& (255 : Int32))), .val (.ref b18), .val (.ref b55), .unset, .unset, .unset, .unset] [(.int (101 : Int32)), (.int (6 : Int32)), (.ref b116), (.ref b116)]))
  obtain ⟨T146, h146, X146, e146, W146, V146, st146⟩ := own_stC X142 hx hZ1 e142 V142' (j := (6 : Int32)) (i := 6) (by decide) (by decide) (Nat.le_of_ble_eq_true rfl) (g := (mkF m 289 #[.val (.int p0), .val (.int p1), .val (.int p2), .val (.ref a1), .val (.int ((p0 &&& (2147483647 : Int32)) % (5 : Int32))), .val (.int jp), .val (.int (p2 &&& (255 : Int32))), .val (.ref b18), .val (.ref b55), .unset, .unset, .unset, .unset] [(.int (101 : Int32)), (.int (6 : Int32)), (.ref b116), (.ref b116)])) rfl rfl (hb hby at_289)
  refine Go.st st146 ?_
  have sf147 := Safe.wr W146 sf145 CR142.1 sf143
  have sf148 := Safe.wr W146 sf145 CR142.1 sf144
  have sf149 := Safe.wr W146 sf145 CR142.1 sf145
  have CR146 := CR142.trans (CHr.wr W146 sf145 CR142.1)
  have K146 : Keep h0 h146 [] := K142.wr W146 (Or.inr sz_b116)
  have O146 := O142.wr W146 g_b116
  have N146 := Fr.snoc X146 N142 g_b116
  have V146' : Arv Z h146 b116 k116 .char (17 : Int32) [(.int (117 : Int32)), (.int (115 : Int32)), (.int (45 : Int32)), (.int (102 : Int32)), (.int (101 : Int32)), (.int (100 : Int32)), (.int (101 : Int32)), (.int (0 : Int32)), (.int (0 : Int32)), (.int (0 : Int32)), (.int (0 : Int32)), (.int (0 : Int32)), (.int (0 : Int32)), (.int (0 : Int32)), (.int (0 : Int32)), (.int (0 : Int32)), (.int (0 : Int32))] (.int (0 : Int32)) := V146
  show Go p.tables e below P (T146.setTop (mkF m 290 #[.val (.int p0), .val (.int p1), .val (.int p2), .val (.ref a1), .val (.int ((p0 &&& (2147483647 : Int32)) % (5 : Int32))), .val (.int jp), .val (.int (p2 &&& (255 : Int32))), .val (.ref b18), .val (.ref b55), .unset, .unset, .unset, .unset] [(.ref b116)]))
  refine Go.st (fun _ => XS.dup X146.here hx rfl (hb hby at_290) rfl rfl) ?_
  show Go p.tables e below P (T146.setTop (mkF m 291 #[.val (.int p0), .val (.int p1), .val (.int p2), .val (.ref a1), .val (.int ((p0 &&& (2147483647 : Int32)) % (5 : Int32))), .val (.int jp), .val (.int (p2 &&& (255 : Int32))), .val (.ref b18), .val (.ref b55), .unset, .unset, .unset, .unset] [(.ref b116), (.ref b116)]))
  refine Go.st (fun _ => XS.bipush X146.here hx rfl (hb hby at_291)) ?_
  show Go p.tables e below P (T146.setTop (mkF m 293 #[.val (.int p0), .val (.int p1), .val (.int p2), .val (.ref a1), .val (.int ((p0 &&& (2147483647 : Int32)) % (5 : Int32))), .val (.int jp), .val (.int (p2 &&& (255 : Int32))), .val (.ref b18), .val (.ref b55), .unset, .unset, .unset, .unset] [(.int (7 : Int32)), (.ref b116), (.ref b116)]))
  refine Go.st (fun _ => XS.bipush X146.here hx rfl (hb hby at_293)) ?_
  show Go p.tables e below P (T146.setTop (mkF m 295 #[.val (.int p0), .val (.int p1), .val (.int p2), .val (.ref a1), .val (.int ((p0 &&& (2147483647 : Int32)) % (5 : Int32))), .val (.int jp), .val (.int (p2 &&& (255 : Int32))), .val (.ref b18), .val (.ref b55), .unset, .unset, .unset, .unset] [(.int (114 : Int32)), (.int (7 : Int32)), (.ref b116), (.ref b116)]))
  obtain ⟨T150, h150, X150, e150, W150, V150, st150⟩ := own_stC X146 hx hZ1 e146 V146' (j := (7 : Int32)) (i := 7) (by decide) (by decide) (Nat.le_of_ble_eq_true rfl) (g := (mkF m 295 #[.val (.int p0), .val (.int p1), .val (.int p2), .val (.ref a1), .val (.int ((p0 &&& (2147483647 : Int32)) % (5 : Int32))), .val (.int jp), .val (.int (p2 &&& (255 : Int32))), .val (.ref b18), .val (.ref b55), .unset, .unset, .unset, .unset] [(.int (114 : Int32)), (.int (7 : Int32)), (.ref b116), (.ref b116)])) rfl rfl (hb hby at_295)
  refine Go.st st150 ?_
  have sf151 := Safe.wr W150 sf149 CR146.1 sf147
  have sf152 := Safe.wr W150 sf149 CR146.1 sf148
  have sf153 := Safe.wr W150 sf149 CR146.1 sf149
  have CR150 := CR146.trans (CHr.wr W150 sf149 CR146.1)
  have K150 : Keep h0 h150 [] := K146.wr W150 (Or.inr sz_b116)
  have O150 := O146.wr W150 g_b116
  have N150 := Fr.snoc X150 N146 g_b116
  have V150' : Arv Z h150 b116 k116 .char (17 : Int32) [(.int (117 : Int32)), (.int (115 : Int32)), (.int (45 : Int32)), (.int (102 : Int32)), (.int (101 : Int32)), (.int (100 : Int32)), (.int (101 : Int32)), (.int (114 : Int32)), (.int (0 : Int32)), (.int (0 : Int32)), (.int (0 : Int32)), (.int (0 : Int32)), (.int (0 : Int32)), (.int (0 : Int32)), (.int (0 : Int32)), (.int (0 : Int32)), (.int (0 : Int32))] (.int (0 : Int32)) := V150
  show Go p.tables e below P (T150.setTop (mkF m 296 #[.val (.int p0), .val (.int p1), .val (.int p2), .val (.ref a1), .val (.int ((p0 &&& (2147483647 : Int32)) % (5 : Int32))), .val (.int jp), .val (.int (p2 &&& (255 : Int32))), .val (.ref b18), .val (.ref b55), .unset, .unset, .unset, .unset] [(.ref b116)]))
  refine Go.st (fun _ => XS.dup X150.here hx rfl (hb hby at_296) rfl rfl) ?_
  show Go p.tables e below P (T150.setTop (mkF m 297 #[.val (.int p0), .val (.int p1), .val (.int p2), .val (.ref a1), .val (.int ((p0 &&& (2147483647 : Int32)) % (5 : Int32))), .val (.int jp), .val (.int (p2 &&& (255 : Int32))), .val (.ref b18), .val (.ref b55), .unset, .unset, .unset, .unset] [(.ref b116), (.ref b116)]))
  refine Go.st (fun _ => XS.bipush X150.here hx rfl (hb hby at_297)) ?_
  show Go p.tables e below P (T150.setTop (mkF m 299 #[.val (.int p0), .val (.int p1), .val (.int p2), .val (.ref a1), .val (.int ((p0 &&& (2147483647 : Int32)) % (5 : Int32))), .val (.int jp), .val (.int (p2 &&& (255 : Int32))), .val (.ref b18), .val (.ref b55), .unset, .unset, .unset, .unset] [(.int (8 : Int32)), (.ref b116), (.ref b116)]))
  refine Go.st (fun _ => XS.bipush X150.here hx rfl (hb hby at_299)) ?_
  show Go p.tables e below P (T150.setTop (mkF m 301 #[.val (.int p0), .val (.int p1), .val (.int p2), .val (.ref a1), .val (.int ((p0 &&& (2147483647 : Int32)) % (5 : Int32))), .val (.int jp), .val (.int (p2 &&& (255 : Int32))), .val (.ref b18), .val (.ref b55), .unset, .unset, .unset, .unset] [(.int (97 : Int32)), (.int (8 : Int32)), (.ref b116), (.ref b116)]))
  obtain ⟨T154, h154, X154, e154, W154, V154, st154⟩ := own_stC X150 hx hZ1 e150 V150' (j := (8 : Int32)) (i := 8) (by decide) (by decide) (Nat.le_of_ble_eq_true rfl) (g := (mkF m 301 #[.val (.int p0), .val (.int p1), .val (.int p2), .val (.ref a1), .val (.int ((p0 &&& (2147483647 : Int32)) % (5 : Int32))), .val (.int jp), .val (.int (p2 &&& (255 : Int32))), .val (.ref b18), .val (.ref b55), .unset, .unset, .unset, .unset] [(.int (97 : Int32)), (.int (8 : Int32)), (.ref b116), (.ref b116)])) rfl rfl (hb hby at_301)
  refine Go.st st154 ?_
  have sf155 := Safe.wr W154 sf153 CR150.1 sf151
  have sf156 := Safe.wr W154 sf153 CR150.1 sf152
  have sf157 := Safe.wr W154 sf153 CR150.1 sf153
  have CR154 := CR150.trans (CHr.wr W154 sf153 CR150.1)
  have K154 : Keep h0 h154 [] := K150.wr W154 (Or.inr sz_b116)
  have O154 := O150.wr W154 g_b116
  have N154 := Fr.snoc X154 N150 g_b116
  have V154' : Arv Z h154 b116 k116 .char (17 : Int32) [(.int (117 : Int32)), (.int (115 : Int32)), (.int (45 : Int32)), (.int (102 : Int32)), (.int (101 : Int32)), (.int (100 : Int32)), (.int (101 : Int32)), (.int (114 : Int32)), (.int (97 : Int32)), (.int (0 : Int32)), (.int (0 : Int32)), (.int (0 : Int32)), (.int (0 : Int32)), (.int (0 : Int32)), (.int (0 : Int32)), (.int (0 : Int32)), (.int (0 : Int32))] (.int (0 : Int32)) := V154
  show Go p.tables e below P (T154.setTop (mkF m 302 #[.val (.int p0), .val (.int p1), .val (.int p2), .val (.ref a1), .val (.int ((p0 &&& (2147483647 : Int32)) % (5 : Int32))), .val (.int jp), .val (.int (p2 &&& (255 : Int32))), .val (.ref b18), .val (.ref b55), .unset, .unset, .unset, .unset] [(.ref b116)]))
  refine Go.st (fun _ => XS.dup X154.here hx rfl (hb hby at_302) rfl rfl) ?_
  show Go p.tables e below P (T154.setTop (mkF m 303 #[.val (.int p0), .val (.int p1), .val (.int p2), .val (.ref a1), .val (.int ((p0 &&& (2147483647 : Int32)) % (5 : Int32))), .val (.int jp), .val (.int (p2 &&& (255 : Int32))), .val (.ref b18), .val (.ref b55), .unset, .unset, .unset, .unset] [(.ref b116), (.ref b116)]))
  refine Go.st (fun _ => XS.bipush X154.here hx rfl (hb hby at_303)) ?_
  show Go p.tables e below P (T154.setTop (mkF m 305 #[.val (.int p0), .val (.int p1), .val (.int p2), .val (.ref a1), .val (.int ((p0 &&& (2147483647 : Int32)) % (5 : Int32))), .val (.int jp), .val (.int (p2 &&& (255 : Int32))), .val (.ref b18), .val (.ref b55), .unset, .unset, .unset, .unset] [(.int (9 : Int32)), (.ref b116), (.ref b116)]))
  refine Go.st (fun _ => XS.bipush X154.here hx rfl (hb hby at_305)) ?_
  show Go p.tables e below P (T154.setTop (mkF m 307 #[.val (.int p0), .val (.int p1), .val (.int p2), .val (.ref a1), .val (.int ((p0 &&& (2147483647 : Int32)) % (5 : Int32))), .val (.int jp), .val (.int (p2 &&& (255 : Int32))), .val (.ref b18), .val (.ref b55), .unset, .unset, .unset, .unset] [(.int (108 : Int32)), (.int (9 : Int32)), (.ref b116), (.ref b116)]))
  obtain ⟨T158, h158, X158, e158, W158, V158, st158⟩ := own_stC X154 hx hZ1 e154 V154' (j := (9 : Int32)) (i := 9) (by decide) (by decide) (Nat.le_of_ble_eq_true rfl) (g := (mkF m 307 #[.val (.int p0), .val (.int p1), .val (.int p2), .val (.ref a1), .val (.int ((p0 &&& (2147483647 : Int32)) % (5 : Int32))), .val (.int jp), .val (.int (p2 &&& (255 : Int32))), .val (.ref b18), .val (.ref b55), .unset, .unset, .unset, .unset] [(.int (108 : Int32)), (.int (9 : Int32)), (.ref b116), (.ref b116)])) rfl rfl (hb hby at_307)
  refine Go.st st158 ?_
  have sf159 := Safe.wr W158 sf157 CR154.1 sf155
  have sf160 := Safe.wr W158 sf157 CR154.1 sf156
  have sf161 := Safe.wr W158 sf157 CR154.1 sf157
  have CR158 := CR154.trans (CHr.wr W158 sf157 CR154.1)
  have K158 : Keep h0 h158 [] := K154.wr W158 (Or.inr sz_b116)
  have O158 := O154.wr W158 g_b116
  have N158 := Fr.snoc X158 N154 g_b116
  have V158' : Arv Z h158 b116 k116 .char (17 : Int32) [(.int (117 : Int32)), (.int (115 : Int32)), (.int (45 : Int32)), (.int (102 : Int32)), (.int (101 : Int32)), (.int (100 : Int32)), (.int (101 : Int32)), (.int (114 : Int32)), (.int (97 : Int32)), (.int (108 : Int32)), (.int (0 : Int32)), (.int (0 : Int32)), (.int (0 : Int32)), (.int (0 : Int32)), (.int (0 : Int32)), (.int (0 : Int32)), (.int (0 : Int32))] (.int (0 : Int32)) := V158
  show Go p.tables e below P (T158.setTop (mkF m 308 #[.val (.int p0), .val (.int p1), .val (.int p2), .val (.ref a1), .val (.int ((p0 &&& (2147483647 : Int32)) % (5 : Int32))), .val (.int jp), .val (.int (p2 &&& (255 : Int32))), .val (.ref b18), .val (.ref b55), .unset, .unset, .unset, .unset] [(.ref b116)]))
  refine Go.st (fun _ => XS.dup X158.here hx rfl (hb hby at_308) rfl rfl) ?_
  show Go p.tables e below P (T158.setTop (mkF m 309 #[.val (.int p0), .val (.int p1), .val (.int p2), .val (.ref a1), .val (.int ((p0 &&& (2147483647 : Int32)) % (5 : Int32))), .val (.int jp), .val (.int (p2 &&& (255 : Int32))), .val (.ref b18), .val (.ref b55), .unset, .unset, .unset, .unset] [(.ref b116), (.ref b116)]))
  refine Go.st (fun _ => XS.bipush X158.here hx rfl (hb hby at_309)) ?_
  show Go p.tables e below P (T158.setTop (mkF m 311 #[.val (.int p0), .val (.int p1), .val (.int p2), .val (.ref a1), .val (.int ((p0 &&& (2147483647 : Int32)) % (5 : Int32))), .val (.int jp), .val (.int (p2 &&& (255 : Int32))), .val (.ref b18), .val (.ref b55), .unset, .unset, .unset, .unset] [(.int (10 : Int32)), (.ref b116), (.ref b116)]))
  refine Go.st (fun _ => XS.bipush X158.here hx rfl (hb hby at_311)) ?_
  show Go p.tables e below P (T158.setTop (mkF m 313 #[.val (.int p0), .val (.int p1), .val (.int p2), .val (.ref a1), .val (.int ((p0 &&& (2147483647 : Int32)) % (5 : Int32))), .val (.int jp), .val (.int (p2 &&& (255 : Int32))), .val (.ref b18), .val (.ref b55), .unset, .unset, .unset, .unset] [(.int (45 : Int32)), (.int (10 : Int32)), (.ref b116), (.ref b116)]))
  obtain ⟨T162, h162, X162, e162, W162, V162, st162⟩ := own_stC X158 hx hZ1 e158 V158' (j := (10 : Int32)) (i := 10) (by decide) (by decide) (Nat.le_of_ble_eq_true rfl) (g := (mkF m 313 #[.val (.int p0), .val (.int p1), .val (.int p2), .val (.ref a1), .val (.int ((p0 &&& (2147483647 : Int32)) % (5 : Int32))), .val (.int jp), .val (.int (p2 &&& (255 : Int32))), .val (.ref b18), .val (.ref b55), .unset, .unset, .unset, .unset] [(.int (45 : Int32)), (.int (10 : Int32)), (.ref b116), (.ref b116)])) rfl rfl (hb hby at_313)
  refine Go.st st162 ?_
  have sf163 := Safe.wr W162 sf161 CR158.1 sf159
  have sf164 := Safe.wr W162 sf161 CR158.1 sf160
  have sf165 := Safe.wr W162 sf161 CR158.1 sf161
  have CR162 := CR158.trans (CHr.wr W162 sf161 CR158.1)
  have K162 : Keep h0 h162 [] := K158.wr W162 (Or.inr sz_b116)
  have O162 := O158.wr W162 g_b116
  have N162 := Fr.snoc X162 N158 g_b116
  have V162' : Arv Z h162 b116 k116 .char (17 : Int32) [(.int (117 : Int32)), (.int (115 : Int32)), (.int (45 : Int32)), (.int (102 : Int32)), (.int (101 : Int32)), (.int (100 : Int32)), (.int (101 : Int32)), (.int (114 : Int32)), (.int (97 : Int32)), (.int (108 : Int32)), (.int (45 : Int32)), (.int (0 : Int32)), (.int (0 : Int32)), (.int (0 : Int32)), (.int (0 : Int32)), (.int (0 : Int32)), (.int (0 : Int32))] (.int (0 : Int32)) := V162
  show Go p.tables e below P (T162.setTop (mkF m 314 #[.val (.int p0), .val (.int p1), .val (.int p2), .val (.ref a1), .val (.int ((p0 &&& (2147483647 : Int32)) % (5 : Int32))), .val (.int jp), .val (.int (p2 &&& (255 : Int32))), .val (.ref b18), .val (.ref b55), .unset, .unset, .unset, .unset] [(.ref b116)]))
  refine Go.st (fun _ => XS.dup X162.here hx rfl (hb hby at_314) rfl rfl) ?_
  show Go p.tables e below P (T162.setTop (mkF m 315 #[.val (.int p0), .val (.int p1), .val (.int p2), .val (.ref a1), .val (.int ((p0 &&& (2147483647 : Int32)) % (5 : Int32))), .val (.int jp), .val (.int (p2 &&& (255 : Int32))), .val (.ref b18), .val (.ref b55), .unset, .unset, .unset, .unset] [(.ref b116), (.ref b116)]))
  refine Go.st (fun _ => XS.bipush X162.here hx rfl (hb hby at_315)) ?_
  show Go p.tables e below P (T162.setTop (mkF m 317 #[.val (.int p0), .val (.int p1), .val (.int p2), .val (.ref a1), .val (.int ((p0 &&& (2147483647 : Int32)) % (5 : Int32))), .val (.int jp), .val (.int (p2 &&& (255 : Int32))), .val (.ref b18), .val (.ref b55), .unset, .unset, .unset, .unset] [(.int (11 : Int32)), (.ref b116), (.ref b116)]))
  refine Go.st (fun _ => XS.bipush X162.here hx rfl (hb hby at_317)) ?_
  show Go p.tables e below P (T162.setTop (mkF m 319 #[.val (.int p0), .val (.int p1), .val (.int p2), .val (.ref a1), .val (.int ((p0 &&& (2147483647 : Int32)) % (5 : Int32))), .val (.int jp), .val (.int (p2 &&& (255 : Int32))), .val (.ref b18), .val (.ref b55), .unset, .unset, .unset, .unset] [(.int (114 : Int32)), (.int (11 : Int32)), (.ref b116), (.ref b116)]))
  obtain ⟨T166, h166, X166, e166, W166, V166, st166⟩ := own_stC X162 hx hZ1 e162 V162' (j := (11 : Int32)) (i := 11) (by decide) (by decide) (Nat.le_of_ble_eq_true rfl) (g := (mkF m 319 #[.val (.int p0), .val (.int p1), .val (.int p2), .val (.ref a1), .val (.int ((p0 &&& (2147483647 : Int32)) % (5 : Int32))), .val (.int jp), .val (.int (p2 &&& (255 : Int32))), .val (.ref b18), .val (.ref b55), .unset, .unset, .unset, .unset] [(.int (114 : Int32)), (.int (11 : Int32)), (.ref b116), (.ref b116)])) rfl rfl (hb hby at_319)
  refine Go.st st166 ?_
  have sf167 := Safe.wr W166 sf165 CR162.1 sf163
  have sf168 := Safe.wr W166 sf165 CR162.1 sf164
  have sf169 := Safe.wr W166 sf165 CR162.1 sf165
  have CR166 := CR162.trans (CHr.wr W166 sf165 CR162.1)
  have K166 : Keep h0 h166 [] := K162.wr W166 (Or.inr sz_b116)
  have O166 := O162.wr W166 g_b116
  have N166 := Fr.snoc X166 N162 g_b116
  have V166' : Arv Z h166 b116 k116 .char (17 : Int32) [(.int (117 : Int32)), (.int (115 : Int32)), (.int (45 : Int32)), (.int (102 : Int32)), (.int (101 : Int32)), (.int (100 : Int32)), (.int (101 : Int32)), (.int (114 : Int32)), (.int (97 : Int32)), (.int (108 : Int32)), (.int (45 : Int32)), (.int (114 : Int32)), (.int (0 : Int32)), (.int (0 : Int32)), (.int (0 : Int32)), (.int (0 : Int32)), (.int (0 : Int32))] (.int (0 : Int32)) := V166
  show Go p.tables e below P (T166.setTop (mkF m 320 #[.val (.int p0), .val (.int p1), .val (.int p2), .val (.ref a1), .val (.int ((p0 &&& (2147483647 : Int32)) % (5 : Int32))), .val (.int jp), .val (.int (p2 &&& (255 : Int32))), .val (.ref b18), .val (.ref b55), .unset, .unset, .unset, .unset] [(.ref b116)]))
  refine Go.st (fun _ => XS.dup X166.here hx rfl (hb hby at_320) rfl rfl) ?_
  show Go p.tables e below P (T166.setTop (mkF m 321 #[.val (.int p0), .val (.int p1), .val (.int p2), .val (.ref a1), .val (.int ((p0 &&& (2147483647 : Int32)) % (5 : Int32))), .val (.int jp), .val (.int (p2 &&& (255 : Int32))), .val (.ref b18), .val (.ref b55), .unset, .unset, .unset, .unset] [(.ref b116), (.ref b116)]))
  refine Go.st (fun _ => XS.bipush X166.here hx rfl (hb hby at_321)) ?_
  show Go p.tables e below P (T166.setTop (mkF m 323 #[.val (.int p0), .val (.int p1), .val (.int p2), .val (.ref a1), .val (.int ((p0 &&& (2147483647 : Int32)) % (5 : Int32))), .val (.int jp), .val (.int (p2 &&& (255 : Int32))), .val (.ref b18), .val (.ref b55), .unset, .unset, .unset, .unset] [(.int (12 : Int32)), (.ref b116), (.ref b116)]))
  refine Go.st (fun _ => XS.bipush X166.here hx rfl (hb hby at_323)) ?_
  show Go p.tables e below P (T166.setTop (mkF m 325 #[.val (.int p0), .val (.int p1), .val (.int p2), .val (.ref a1), .val (.int ((p0 &&& (2147483647 : Int32)) % (5 : Int32))), .val (.int jp), .val (.int (p2 &&& (255 : Int32))), .val (.ref b18), .val (.ref b55), .unset, .unset, .unset, .unset] [(.int (101 : Int32)), (.int (12 : Int32)), (.ref b116), (.ref b116)]))
  obtain ⟨T170, h170, X170, e170, W170, V170, st170⟩ := own_stC X166 hx hZ1 e166 V166' (j := (12 : Int32)) (i := 12) (by decide) (by decide) (Nat.le_of_ble_eq_true rfl) (g := (mkF m 325 #[.val (.int p0), .val (.int p1), .val (.int p2), .val (.ref a1), .val (.int ((p0 &&& (2147483647 : Int32)) % (5 : Int32))), .val (.int jp), .val (.int (p2 &&& (255 : Int32))), .val (.ref b18), .val (.ref b55), .unset, .unset, .unset, .unset] [(.int (101 : Int32)), (.int (12 : Int32)), (.ref b116), (.ref b116)])) rfl rfl (hb hby at_325)
  refine Go.st st170 ?_
  have sf171 := Safe.wr W170 sf169 CR166.1 sf167
  have sf172 := Safe.wr W170 sf169 CR166.1 sf168
  have sf173 := Safe.wr W170 sf169 CR166.1 sf169
  have CR170 := CR166.trans (CHr.wr W170 sf169 CR166.1)
  have K170 : Keep h0 h170 [] := K166.wr W170 (Or.inr sz_b116)
  have O170 := O166.wr W170 g_b116
  have N170 := Fr.snoc X170 N166 g_b116
  have V170' : Arv Z h170 b116 k116 .char (17 : Int32) [(.int (117 : Int32)), (.int (115 : Int32)), (.int (45 : Int32)), (.int (102 : Int32)), (.int (101 : Int32)), (.int (100 : Int32)), (.int (101 : Int32)), (.int (114 : Int32)), (.int (97 : Int32)), (.int (108 : Int32)), (.int (45 : Int32)), (.int (114 : Int32)), (.int (101 : Int32)), (.int (0 : Int32)), (.int (0 : Int32)), (.int (0 : Int32)), (.int (0 : Int32))] (.int (0 : Int32)) := V170
  show Go p.tables e below P (T170.setTop (mkF m 326 #[.val (.int p0), .val (.int p1), .val (.int p2), .val (.ref a1), .val (.int ((p0 &&& (2147483647 : Int32)) % (5 : Int32))), .val (.int jp), .val (.int (p2 &&& (255 : Int32))), .val (.ref b18), .val (.ref b55), .unset, .unset, .unset, .unset] [(.ref b116)]))
  refine Go.st (fun _ => XS.dup X170.here hx rfl (hb hby at_326) rfl rfl) ?_
  show Go p.tables e below P (T170.setTop (mkF m 327 #[.val (.int p0), .val (.int p1), .val (.int p2), .val (.ref a1), .val (.int ((p0 &&& (2147483647 : Int32)) % (5 : Int32))), .val (.int jp), .val (.int (p2 &&& (255 : Int32))), .val (.ref b18), .val (.ref b55), .unset, .unset, .unset, .unset] [(.ref b116), (.ref b116)]))
  refine Go.st (fun _ => XS.bipush X170.here hx rfl (hb hby at_327)) ?_
  show Go p.tables e below P (T170.setTop (mkF m 329 #[.val (.int p0), .val (.int p1), .val (.int p2), .val (.ref a1), .val (.int ((p0 &&& (2147483647 : Int32)) % (5 : Int32))), .val (.int jp), .val (.int (p2 &&& (255 : Int32))), .val (.ref b18), .val (.ref b55), .unset, .unset, .unset, .unset] [(.int (13 : Int32)), (.ref b116), (.ref b116)]))
  refine Go.st (fun _ => XS.bipush X170.here hx rfl (hb hby at_329)) ?_
  show Go p.tables e below P (T170.setTop (mkF m 331 #[.val (.int p0), .val (.int p1), .val (.int p2), .val (.ref a1), .val (.int ((p0 &&& (2147483647 : Int32)) % (5 : Int32))), .val (.int jp), .val (.int (p2 &&& (255 : Int32))), .val (.ref b18), .val (.ref b55), .unset, .unset, .unset, .unset] [(.int (115 : Int32)), (.int (13 : Int32)), (.ref b116), (.ref b116)]))
  obtain ⟨T174, h174, X174, e174, W174, V174, st174⟩ := own_stC X170 hx hZ1 e170 V170' (j := (13 : Int32)) (i := 13) (by decide) (by decide) (Nat.le_of_ble_eq_true rfl) (g := (mkF m 331 #[.val (.int p0), .val (.int p1), .val (.int p2), .val (.ref a1), .val (.int ((p0 &&& (2147483647 : Int32)) % (5 : Int32))), .val (.int jp), .val (.int (p2 &&& (255 : Int32))), .val (.ref b18), .val (.ref b55), .unset, .unset, .unset, .unset] [(.int (115 : Int32)), (.int (13 : Int32)), (.ref b116), (.ref b116)])) rfl rfl (hb hby at_331)
  refine Go.st st174 ?_
  have sf175 := Safe.wr W174 sf173 CR170.1 sf171
  have sf176 := Safe.wr W174 sf173 CR170.1 sf172
  have sf177 := Safe.wr W174 sf173 CR170.1 sf173
  have CR174 := CR170.trans (CHr.wr W174 sf173 CR170.1)
  have K174 : Keep h0 h174 [] := K170.wr W174 (Or.inr sz_b116)
  have O174 := O170.wr W174 g_b116
  have N174 := Fr.snoc X174 N170 g_b116
  have V174' : Arv Z h174 b116 k116 .char (17 : Int32) [(.int (117 : Int32)), (.int (115 : Int32)), (.int (45 : Int32)), (.int (102 : Int32)), (.int (101 : Int32)), (.int (100 : Int32)), (.int (101 : Int32)), (.int (114 : Int32)), (.int (97 : Int32)), (.int (108 : Int32)), (.int (45 : Int32)), (.int (114 : Int32)), (.int (101 : Int32)), (.int (115 : Int32)), (.int (0 : Int32)), (.int (0 : Int32)), (.int (0 : Int32))] (.int (0 : Int32)) := V174
  show Go p.tables e below P (T174.setTop (mkF m 332 #[.val (.int p0), .val (.int p1), .val (.int p2), .val (.ref a1), .val (.int ((p0 &&& (2147483647 : Int32)) % (5 : Int32))), .val (.int jp), .val (.int (p2 &&& (255 : Int32))), .val (.ref b18), .val (.ref b55), .unset, .unset, .unset, .unset] [(.ref b116)]))
  refine Go.st (fun _ => XS.dup X174.here hx rfl (hb hby at_332) rfl rfl) ?_
  show Go p.tables e below P (T174.setTop (mkF m 333 #[.val (.int p0), .val (.int p1), .val (.int p2), .val (.ref a1), .val (.int ((p0 &&& (2147483647 : Int32)) % (5 : Int32))), .val (.int jp), .val (.int (p2 &&& (255 : Int32))), .val (.ref b18), .val (.ref b55), .unset, .unset, .unset, .unset] [(.ref b116), (.ref b116)]))
  refine Go.st (fun _ => XS.bipush X174.here hx rfl (hb hby at_333)) ?_
  show Go p.tables e below P (T174.setTop (mkF m 335 #[.val (.int p0), .val (.int p1), .val (.int p2), .val (.ref a1), .val (.int ((p0 &&& (2147483647 : Int32)) % (5 : Int32))), .val (.int jp), .val (.int (p2 &&& (255 : Int32))), .val (.ref b18), .val (.ref b55), .unset, .unset, .unset, .unset] [(.int (14 : Int32)), (.ref b116), (.ref b116)]))
  refine Go.st (fun _ => XS.bipush X174.here hx rfl (hb hby at_335)) ?_
  show Go p.tables e below P (T174.setTop (mkF m 337 #[.val (.int p0), .val (.int p1), .val (.int p2), .val (.ref a1), .val (.int ((p0 &&& (2147483647 : Int32)) % (5 : Int32))), .val (.int jp), .val (.int (p2 &&& (255 : Int32))), .val (.ref b18), .val (.ref b55), .unset, .unset, .unset, .unset] [(.int (101 : Int32)), (.int (14 : Int32)), (.ref b116), (.ref b116)]))
  obtain ⟨T178, h178, X178, e178, W178, V178, st178⟩ := own_stC X174 hx hZ1 e174 V174' (j := (14 : Int32)) (i := 14) (by decide) (by decide) (Nat.le_of_ble_eq_true rfl) (g := (mkF m 337 #[.val (.int p0), .val (.int p1), .val (.int p2), .val (.ref a1), .val (.int ((p0 &&& (2147483647 : Int32)) % (5 : Int32))), .val (.int jp), .val (.int (p2 &&& (255 : Int32))), .val (.ref b18), .val (.ref b55), .unset, .unset, .unset, .unset] [(.int (101 : Int32)), (.int (14 : Int32)), (.ref b116), (.ref b116)])) rfl rfl (hb hby at_337)
  refine Go.st st178 ?_
  have sf179 := Safe.wr W178 sf177 CR174.1 sf175
  have sf180 := Safe.wr W178 sf177 CR174.1 sf176
  have sf181 := Safe.wr W178 sf177 CR174.1 sf177
  have CR178 := CR174.trans (CHr.wr W178 sf177 CR174.1)
  have K178 : Keep h0 h178 [] := K174.wr W178 (Or.inr sz_b116)
  have O178 := O174.wr W178 g_b116
  have N178 := Fr.snoc X178 N174 g_b116
  have V178' : Arv Z h178 b116 k116 .char (17 : Int32) [(.int (117 : Int32)), (.int (115 : Int32)), (.int (45 : Int32)), (.int (102 : Int32)), (.int (101 : Int32)), (.int (100 : Int32)), (.int (101 : Int32)), (.int (114 : Int32)), (.int (97 : Int32)), (.int (108 : Int32)), (.int (45 : Int32)), (.int (114 : Int32)), (.int (101 : Int32)), (.int (115 : Int32)), (.int (101 : Int32)), (.int (0 : Int32)), (.int (0 : Int32))] (.int (0 : Int32)) := V178
  show Go p.tables e below P (T178.setTop (mkF m 338 #[.val (.int p0), .val (.int p1), .val (.int p2), .val (.ref a1), .val (.int ((p0 &&& (2147483647 : Int32)) % (5 : Int32))), .val (.int jp), .val (.int (p2 &&& (255 : Int32))), .val (.ref b18), .val (.ref b55), .unset, .unset, .unset, .unset] [(.ref b116)]))
  refine Go.st (fun _ => XS.dup X178.here hx rfl (hb hby at_338) rfl rfl) ?_
  show Go p.tables e below P (T178.setTop (mkF m 339 #[.val (.int p0), .val (.int p1), .val (.int p2), .val (.ref a1), .val (.int ((p0 &&& (2147483647 : Int32)) % (5 : Int32))), .val (.int jp), .val (.int (p2 &&& (255 : Int32))), .val (.ref b18), .val (.ref b55), .unset, .unset, .unset, .unset] [(.ref b116), (.ref b116)]))
  refine Go.st (fun _ => XS.bipush X178.here hx rfl (hb hby at_339)) ?_
  show Go p.tables e below P (T178.setTop (mkF m 341 #[.val (.int p0), .val (.int p1), .val (.int p2), .val (.ref a1), .val (.int ((p0 &&& (2147483647 : Int32)) % (5 : Int32))), .val (.int jp), .val (.int (p2 &&& (255 : Int32))), .val (.ref b18), .val (.ref b55), .unset, .unset, .unset, .unset] [(.int (15 : Int32)), (.ref b116), (.ref b116)]))
  refine Go.st (fun _ => XS.bipush X178.here hx rfl (hb hby at_341)) ?_
  show Go p.tables e below P (T178.setTop (mkF m 343 #[.val (.int p0), .val (.int p1), .val (.int p2), .val (.ref a1), .val (.int ((p0 &&& (2147483647 : Int32)) % (5 : Int32))), .val (.int jp), .val (.int (p2 &&& (255 : Int32))), .val (.ref b18), .val (.ref b55), .unset, .unset, .unset, .unset] [(.int (114 : Int32)), (.int (15 : Int32)), (.ref b116), (.ref b116)]))
  obtain ⟨T182, h182, X182, e182, W182, V182, st182⟩ := own_stC X178 hx hZ1 e178 V178' (j := (15 : Int32)) (i := 15) (by decide) (by decide) (Nat.le_of_ble_eq_true rfl) (g := (mkF m 343 #[.val (.int p0), .val (.int p1), .val (.int p2), .val (.ref a1), .val (.int ((p0 &&& (2147483647 : Int32)) % (5 : Int32))), .val (.int jp), .val (.int (p2 &&& (255 : Int32))), .val (.ref b18), .val (.ref b55), .unset, .unset, .unset, .unset] [(.int (114 : Int32)), (.int (15 : Int32)), (.ref b116), (.ref b116)])) rfl rfl (hb hby at_343)
  refine Go.st st182 ?_
  have sf183 := Safe.wr W182 sf181 CR178.1 sf179
  have sf184 := Safe.wr W182 sf181 CR178.1 sf180
  have sf185 := Safe.wr W182 sf181 CR178.1 sf181
  have CR182 := CR178.trans (CHr.wr W182 sf181 CR178.1)
  have K182 : Keep h0 h182 [] := K178.wr W182 (Or.inr sz_b116)
  have O182 := O178.wr W182 g_b116
  have N182 := Fr.snoc X182 N178 g_b116
  have V182' : Arv Z h182 b116 k116 .char (17 : Int32) [(.int (117 : Int32)), (.int (115 : Int32)), (.int (45 : Int32)), (.int (102 : Int32)), (.int (101 : Int32)), (.int (100 : Int32)), (.int (101 : Int32)), (.int (114 : Int32)), (.int (97 : Int32)), (.int (108 : Int32)), (.int (45 : Int32)), (.int (114 : Int32)), (.int (101 : Int32)), (.int (115 : Int32)), (.int (101 : Int32)), (.int (114 : Int32)), (.int (0 : Int32))] (.int (0 : Int32)) := V182
  show Go p.tables e below P (T182.setTop (mkF m 344 #[.val (.int p0), .val (.int p1), .val (.int p2), .val (.ref a1), .val (.int ((p0 &&& (2147483647 : Int32)) % (5 : Int32))), .val (.int jp), .val (.int (p2 &&& (255 : Int32))), .val (.ref b18), .val (.ref b55), .unset, .unset, .unset, .unset] [(.ref b116)]))
  refine Go.st (fun _ => XS.dup X182.here hx rfl (hb hby at_344) rfl rfl) ?_
  show Go p.tables e below P (T182.setTop (mkF m 345 #[.val (.int p0), .val (.int p1), .val (.int p2), .val (.ref a1), .val (.int ((p0 &&& (2147483647 : Int32)) % (5 : Int32))), .val (.int jp), .val (.int (p2 &&& (255 : Int32))), .val (.ref b18), .val (.ref b55), .unset, .unset, .unset, .unset] [(.ref b116), (.ref b116)]))
  refine Go.st (fun _ => XS.bipush X182.here hx rfl (hb hby at_345)) ?_
  show Go p.tables e below P (T182.setTop (mkF m 347 #[.val (.int p0), .val (.int p1), .val (.int p2), .val (.ref a1), .val (.int ((p0 &&& (2147483647 : Int32)) % (5 : Int32))), .val (.int jp), .val (.int (p2 &&& (255 : Int32))), .val (.ref b18), .val (.ref b55), .unset, .unset, .unset, .unset] [(.int (16 : Int32)), (.ref b116), (.ref b116)]))
  refine Go.st (fun _ => XS.bipush X182.here hx rfl (hb hby at_347)) ?_
  show Go p.tables e below P (T182.setTop (mkF m 349 #[.val (.int p0), .val (.int p1), .val (.int p2), .val (.ref a1), .val (.int ((p0 &&& (2147483647 : Int32)) % (5 : Int32))), .val (.int jp), .val (.int (p2 &&& (255 : Int32))), .val (.ref b18), .val (.ref b55), .unset, .unset, .unset, .unset] [(.int (118 : Int32)), (.int (16 : Int32)), (.ref b116), (.ref b116)]))
  obtain ⟨T186, h186, X186, e186, W186, V186, st186⟩ := own_stC X182 hx hZ1 e182 V182' (j := (16 : Int32)) (i := 16) (by decide) (by decide) (Nat.le_of_ble_eq_true rfl) (g := (mkF m 349 #[.val (.int p0), .val (.int p1), .val (.int p2), .val (.ref a1), .val (.int ((p0 &&& (2147483647 : Int32)) % (5 : Int32))), .val (.int jp), .val (.int (p2 &&& (255 : Int32))), .val (.ref b18), .val (.ref b55), .unset, .unset, .unset, .unset] [(.int (118 : Int32)), (.int (16 : Int32)), (.ref b116), (.ref b116)])) rfl rfl (hb hby at_349)
  refine Go.st st186 ?_
  have sf187 := Safe.wr W186 sf185 CR182.1 sf183
  have sf188 := Safe.wr W186 sf185 CR182.1 sf184
  have sf189 := Safe.wr W186 sf185 CR182.1 sf185
  have CR186 := CR182.trans (CHr.wr W186 sf185 CR182.1)
  have K186 : Keep h0 h186 [] := K182.wr W186 (Or.inr sz_b116)
  have O186 := O182.wr W186 g_b116
  have N186 := Fr.snoc X186 N182 g_b116
  have V186' : Arv Z h186 b116 k116 .char (17 : Int32) [(.int (117 : Int32)), (.int (115 : Int32)), (.int (45 : Int32)), (.int (102 : Int32)), (.int (101 : Int32)), (.int (100 : Int32)), (.int (101 : Int32)), (.int (114 : Int32)), (.int (97 : Int32)), (.int (108 : Int32)), (.int (45 : Int32)), (.int (114 : Int32)), (.int (101 : Int32)), (.int (115 : Int32)), (.int (101 : Int32)), (.int (114 : Int32)), (.int (118 : Int32))] (.int (0 : Int32)) := V186
  show Go p.tables e below P (T186.setTop (mkF m 350 #[.val (.int p0), .val (.int p1), .val (.int p2), .val (.ref a1), .val (.int ((p0 &&& (2147483647 : Int32)) % (5 : Int32))), .val (.int jp), .val (.int (p2 &&& (255 : Int32))), .val (.ref b18), .val (.ref b55), .unset, .unset, .unset, .unset] [(.ref b116)]))
  refine Go.st (fun _ => XS.astore X186.here hx rfl (hb hby at_350) rfl rfl (l' := #[.val (.int p0), .val (.int p1), .val (.int p2), .val (.ref a1), .val (.int ((p0 &&& (2147483647 : Int32)) % (5 : Int32))), .val (.int jp), .val (.int (p2 &&& (255 : Int32))), .val (.ref b18), .val (.ref b55), .val (.ref b116), .unset, .unset, .unset]) rfl) ?_
  show Go p.tables e below P (T186.setTop (mkF m 352 #[.val (.int p0), .val (.int p1), .val (.int p2), .val (.ref a1), .val (.int ((p0 &&& (2147483647 : Int32)) % (5 : Int32))), .val (.int jp), .val (.int (p2 &&& (255 : Int32))), .val (.ref b18), .val (.ref b55), .val (.ref b116), .unset, .unset, .unset] []))
  refine Go.st (fun _ => XS.iload X186.here hx rfl (hb hby at_352) rfl) ?_
  show Go p.tables e below P (T186.setTop (mkF m 354 #[.val (.int p0), .val (.int p1), .val (.int p2), .val (.ref a1), .val (.int ((p0 &&& (2147483647 : Int32)) % (5 : Int32))), .val (.int jp), .val (.int (p2 &&& (255 : Int32))), .val (.ref b18), .val (.ref b55), .val (.ref b116), .unset, .unset, .unset] [(.int ((p0 &&& (2147483647 : Int32)) % (5 : Int32)))]))
  by_cases hc190 : ((p0 &&& (2147483647 : Int32)) % (5 : Int32)) = (0 : Int32)
  · skip
    refine Go.st (fun _ => XS.ifNo X186.here hx rfl (hb hby at_354) rfl ((if0 _ _).trans (teq hc190).2)) ?_
    show Go p.tables e below P (T186.setTop (mkF m 357 #[.val (.int p0), .val (.int p1), .val (.int p2), .val (.ref a1), .val (.int ((p0 &&& (2147483647 : Int32)) % (5 : Int32))), .val (.int jp), .val (.int (p2 &&& (255 : Int32))), .val (.ref b18), .val (.ref b55), .val (.ref b116), .unset, .unset, .unset] []))
    have c192 := ((((((((((((((((((c117.ext E116).wr W122).wr W126).wr W130).wr W134).wr W138).wr W142).wr W146).wr W150).wr W154).wr W158).wr W162).wr W166).wr W170).wr W174).wr W178).wr W182).wr W186)
    have c193 := ((((((((((((((((((c118.ext E116).other W122 (Nat.ne_of_lt (Nat.lt_of_lt_of_le c118.lt (Nat.le_of_eq g116.symm)))).other W126 (Nat.ne_of_lt (Nat.lt_of_lt_of_le c118.lt (Nat.le_of_eq g116.symm)))).other W130 (Nat.ne_of_lt (Nat.lt_of_lt_of_le c118.lt (Nat.le_of_eq g116.symm)))).other W134 (Nat.ne_of_lt (Nat.lt_of_lt_of_le c118.lt (Nat.le_of_eq g116.symm)))).other W138 (Nat.ne_of_lt (Nat.lt_of_lt_of_le c118.lt (Nat.le_of_eq g116.symm)))).other W142 (Nat.ne_of_lt (Nat.lt_of_lt_of_le c118.lt (Nat.le_of_eq g116.symm)))).other W146 (Nat.ne_of_lt (Nat.lt_of_lt_of_le c118.lt (Nat.le_of_eq g116.symm)))).other W150 (Nat.ne_of_lt (Nat.lt_of_lt_of_le c118.lt (Nat.le_of_eq g116.symm)))).other W154 (Nat.ne_of_lt (Nat.lt_of_lt_of_le c118.lt (Nat.le_of_eq g116.symm)))).other W158 (Nat.ne_of_lt (Nat.lt_of_lt_of_le c118.lt (Nat.le_of_eq g116.symm)))).other W162 (Nat.ne_of_lt (Nat.lt_of_lt_of_le c118.lt (Nat.le_of_eq g116.symm)))).other W166 (Nat.ne_of_lt (Nat.lt_of_lt_of_le c118.lt (Nat.le_of_eq g116.symm)))).other W170 (Nat.ne_of_lt (Nat.lt_of_lt_of_le c118.lt (Nat.le_of_eq g116.symm)))).other W174 (Nat.ne_of_lt (Nat.lt_of_lt_of_le c118.lt (Nat.le_of_eq g116.symm)))).other W178 (Nat.ne_of_lt (Nat.lt_of_lt_of_le c118.lt (Nat.le_of_eq g116.symm)))).other W182 (Nat.ne_of_lt (Nat.lt_of_lt_of_le c118.lt (Nat.le_of_eq g116.symm)))).other W186 (Nat.ne_of_lt (Nat.lt_of_lt_of_le c118.lt (Nat.le_of_eq g116.symm))))
    have c194 := ((((((((((((((((((c119.ext E116).other W122 (Nat.ne_of_lt (Nat.lt_of_lt_of_le c119.lt (Nat.le_of_eq g116.symm)))).other W126 (Nat.ne_of_lt (Nat.lt_of_lt_of_le c119.lt (Nat.le_of_eq g116.symm)))).other W130 (Nat.ne_of_lt (Nat.lt_of_lt_of_le c119.lt (Nat.le_of_eq g116.symm)))).other W134 (Nat.ne_of_lt (Nat.lt_of_lt_of_le c119.lt (Nat.le_of_eq g116.symm)))).other W138 (Nat.ne_of_lt (Nat.lt_of_lt_of_le c119.lt (Nat.le_of_eq g116.symm)))).other W142 (Nat.ne_of_lt (Nat.lt_of_lt_of_le c119.lt (Nat.le_of_eq g116.symm)))).other W146 (Nat.ne_of_lt (Nat.lt_of_lt_of_le c119.lt (Nat.le_of_eq g116.symm)))).other W150 (Nat.ne_of_lt (Nat.lt_of_lt_of_le c119.lt (Nat.le_of_eq g116.symm)))).other W154 (Nat.ne_of_lt (Nat.lt_of_lt_of_le c119.lt (Nat.le_of_eq g116.symm)))).other W158 (Nat.ne_of_lt (Nat.lt_of_lt_of_le c119.lt (Nat.le_of_eq g116.symm)))).other W162 (Nat.ne_of_lt (Nat.lt_of_lt_of_le c119.lt (Nat.le_of_eq g116.symm)))).other W166 (Nat.ne_of_lt (Nat.lt_of_lt_of_le c119.lt (Nat.le_of_eq g116.symm)))).other W170 (Nat.ne_of_lt (Nat.lt_of_lt_of_le c119.lt (Nat.le_of_eq g116.symm)))).other W174 (Nat.ne_of_lt (Nat.lt_of_lt_of_le c119.lt (Nat.le_of_eq g116.symm)))).other W178 (Nat.ne_of_lt (Nat.lt_of_lt_of_le c119.lt (Nat.le_of_eq g116.symm)))).other W182 (Nat.ne_of_lt (Nat.lt_of_lt_of_le c119.lt (Nat.le_of_eq g116.symm)))).other W186 (Nat.ne_of_lt (Nat.lt_of_lt_of_le c119.lt (Nat.le_of_eq g116.symm))))
    have c195 := ((((((((((((((((((V113'.ext E116).other W122 (Nat.ne_of_lt (Nat.lt_of_lt_of_le V113'.lt (Nat.le_of_eq g116.symm)))).other W126 (Nat.ne_of_lt (Nat.lt_of_lt_of_le V113'.lt (Nat.le_of_eq g116.symm)))).other W130 (Nat.ne_of_lt (Nat.lt_of_lt_of_le V113'.lt (Nat.le_of_eq g116.symm)))).other W134 (Nat.ne_of_lt (Nat.lt_of_lt_of_le V113'.lt (Nat.le_of_eq g116.symm)))).other W138 (Nat.ne_of_lt (Nat.lt_of_lt_of_le V113'.lt (Nat.le_of_eq g116.symm)))).other W142 (Nat.ne_of_lt (Nat.lt_of_lt_of_le V113'.lt (Nat.le_of_eq g116.symm)))).other W146 (Nat.ne_of_lt (Nat.lt_of_lt_of_le V113'.lt (Nat.le_of_eq g116.symm)))).other W150 (Nat.ne_of_lt (Nat.lt_of_lt_of_le V113'.lt (Nat.le_of_eq g116.symm)))).other W154 (Nat.ne_of_lt (Nat.lt_of_lt_of_le V113'.lt (Nat.le_of_eq g116.symm)))).other W158 (Nat.ne_of_lt (Nat.lt_of_lt_of_le V113'.lt (Nat.le_of_eq g116.symm)))).other W162 (Nat.ne_of_lt (Nat.lt_of_lt_of_le V113'.lt (Nat.le_of_eq g116.symm)))).other W166 (Nat.ne_of_lt (Nat.lt_of_lt_of_le V113'.lt (Nat.le_of_eq g116.symm)))).other W170 (Nat.ne_of_lt (Nat.lt_of_lt_of_le V113'.lt (Nat.le_of_eq g116.symm)))).other W174 (Nat.ne_of_lt (Nat.lt_of_lt_of_le V113'.lt (Nat.le_of_eq g116.symm)))).other W178 (Nat.ne_of_lt (Nat.lt_of_lt_of_le V113'.lt (Nat.le_of_eq g116.symm)))).other W182 (Nat.ne_of_lt (Nat.lt_of_lt_of_le V113'.lt (Nat.le_of_eq g116.symm)))).other W186 (Nat.ne_of_lt (Nat.lt_of_lt_of_le V113'.lt (Nat.le_of_eq g116.symm))))
    obtain ⟨T191, h191, X191, e191, E191, A191, D191, -, st191⟩ := newO X186 hx hZ1 hown1 (ow hw 10 rfl) (ow hw 2 rfl) (ow hw 1 rfl) e186 (g := (mkF m 357 #[.val (.int p0), .val (.int p1), .val (.int p2), .val (.ref a1), .val (.int ((p0 &&& (2147483647 : Int32)) % (5 : Int32))), .val (.int jp), .val (.int (p2 &&& (255 : Int32))), .val (.ref b18), .val (.ref b55), .val (.ref b116), .unset, .unset, .unset] [])) rfl (hb hby at_357) (by decide) (by decide)
    obtain ⟨b191, g191⟩ : ∃ z, z = h186.size := ⟨_, rfl⟩
    rw [← g191] at A191 D191 st191
    refine Go.st st191 ?_
    have g_b191 : n0 ≤ b191 := Nat.le_trans (own_oldsz O186) (Nat.le_of_eq g191.symm)
    have sz_b191 : h0.size ≤ b191 := Nat.le_trans K186.1 (Nat.le_of_eq g191.symm)
    have K191 : Keep h0 h191 [] := K186.ext E191
    have O191 := O186.ext E191
    have sf196 := Safe.ext E191 CR186.1 sf187
    have sf197 := Safe.ext E191 CR186.1 sf188
    have sf198 := Safe.ext E191 CR186.1 sf189
    have SF_b191 : Safe Z consts_1 T1.vm h191 b191 := Safe.ext E191 CR186.1 (Safe.new (Nat.le_of_eq g191.symm))
    have CR191 := CR186.trans (CHr.ext E191 CR186.1)
    have F199 : Fld Z h191 b191 "java/lang/String" "value" "[B" .null := D191 (Or.inr (ow hw 4 rfl)) (ty := (.array .byte)) (by decide)
    have F200 : Fld Z h191 b191 "java/lang/String" "coder" "B" (.int (0 : Int32)) := D191 (Or.inr (ow hw 5 rfl)) (ty := .byte) (by decide)
    show Go p.tables e below P (T191.setTop (mkF m 360 #[.val (.int p0), .val (.int p1), .val (.int p2), .val (.ref a1), .val (.int ((p0 &&& (2147483647 : Int32)) % (5 : Int32))), .val (.int jp), .val (.int (p2 &&& (255 : Int32))), .val (.ref b18), .val (.ref b55), .val (.ref b116), .unset, .unset, .unset] [(.ref b191)]))
    refine Go.st (fun _ => XS.dup X191.here hx rfl (hb hby at_360) rfl rfl) ?_
    show Go p.tables e below P (T191.setTop (mkF m 361 #[.val (.int p0), .val (.int p1), .val (.int p2), .val (.ref a1), .val (.int ((p0 &&& (2147483647 : Int32)) % (5 : Int32))), .val (.int jp), .val (.int (p2 &&& (255 : Int32))), .val (.ref b18), .val (.ref b55), .val (.ref b116), .unset, .unset, .unset] [(.ref b191), (.ref b191)]))
    refine Go.st (fun _ => XS.aload X191.here hx rfl (hb hby at_361) rfl rfl) ?_
    show Go p.tables e below P (T191.setTop (mkF m 363 #[.val (.int p0), .val (.int p1), .val (.int p2), .val (.ref a1), .val (.int ((p0 &&& (2147483647 : Int32)) % (5 : Int32))), .val (.int jp), .val (.int (p2 &&& (255 : Int32))), .val (.ref b18), .val (.ref b55), .val (.ref b116), .unset, .unset, .unset] [(.ref b18), (.ref b191), (.ref b191)]))
    have c202 := (c194.ext E191)
    have hp201 : ∀ c ∈ ([(117 : Int32), (115 : Int32), (45 : Int32), (102 : Int32), (101 : Int32), (100 : Int32), (101 : Int32), (114 : Int32), (97 : Int32), (108 : Int32), (45 : Int32), (114 : Int32), (101 : Int32), (115 : Int32), (101 : Int32), (114 : Int32), (118 : Int32), (101 : Int32)] : List Int32), ¬ c < 0 ∧ ¬ (255 : Int32) < c := by
      intro c hc
      simp only [List.mem_cons, List.not_mem_nil, or_false] at hc
      rcases hc with rfl | rfl | rfl | rfl | rfl | rfl | rfl | rfl | rfl | rfl | rfl | rfl | rfl | rfl | rfl | rfl | rfl | rfl
      · decide
      · decide
      · decide
      · decide
      · decide
      · decide
      · decide
      · decide
      · decide
      · decide
      · decide
      · decide
      · decide
      · decide
      · decide
      · decide
      · decide
      · decide
    have c203 := (c192.ext E191)
    have c204 := (c193.ext E191)
    have c205 := (c195.ext E191)
    have c206 := (V186'.ext E191)
    obtain ⟨_, _, ⟨T201, L201, k201, n201⟩, -, X201, ⟨Lc201, hQ201, l201, y201, z201⟩, st201⟩ := X191.specialBack hx (y := (⟨"java/lang/String", "<init>", "([C)V"⟩ : MethodName)) rfl hown1 (mvT hZ1 (ow hw 11 rfl)) (mvT hZ1 (ow hw 12 rfl)) (mvT hZ1 (ow hw 13 rfl)) (by decide) (StrChars.Road.backV (W := 1) hZ1 (fun d hd => hw d (own_wNew d hd)) (kI := 4) (ow hw 2 rfl) (cs := ([(117 : Int32), (115 : Int32), (45 : Int32), (102 : Int32), (101 : Int32), (100 : Int32), (101 : Int32), (114 : Int32), (97 : Int32), (108 : Int32), (45 : Int32), (114 : Int32), (101 : Int32), (115 : Int32), (101 : Int32), (114 : Int32), (118 : Int32), (101 : Int32)] : List Int32)) (bs := (([(117 : Int32), (115 : Int32), (45 : Int32), (102 : Int32), (101 : Int32), (100 : Int32), (101 : Int32), (114 : Int32), (97 : Int32), (108 : Int32), (45 : Int32), (114 : Int32), (101 : Int32), (115 : Int32), (101 : Int32), (114 : Int32), (118 : Int32), (101 : Int32)] : List Int32)).map (fun c => c.toInt8.toInt32)) (n := 18) g_b191 (own_oldsz O191) A191 F199 F200 c202 (S_CS.ext O191.2) nz_CS rfl rfl (by decide) (by decide) hp201 rfl (by decide) (by decide)) (g := (mkF m 363 #[.val (.int p0), .val (.int p1), .val (.int p2), .val (.ref a1), .val (.int ((p0 &&& (2147483647 : Int32)) % (5 : Int32))), .val (.int jp), .val (.int (p2 &&& (255 : Int32))), .val (.ref b18), .val (.ref b55), .val (.ref b116), .unset, .unset, .unset] [(.ref b18), (.ref b191), (.ref b191)])) rfl (by rw [hml]; rfl) (Steps.refl _) (a := b191) (argsL := [(.ref b18)]) (rest := [(.ref b191)]) (lenOf own_pd13 rfl) rfl (by show 2 * 0 + _ ≤ _; exact Nat.le_of_eq rfl) (hb hby at_363) (fun _ _ => ⟨rfl, e191, (by decide : 6 + 1 ≤ _), (by decide : 134 + 18 ≤ _)⟩)
    dsimp only [Pt.U, Pt.locs, Pt.cells, Pt.slots] at X201 l201 y201 z201 st201 hQ201
    subst y201 z201
    refine Go.tr st201 ?_
    obtain ⟨rfl, N201q, K201q, E201x, C201x, t201, kb201, gt201, szt201, net201, V201x, A201x⟩ := hQ201
    have N201 : Fr n0 L201 := by rw [l201]; exact Fr.app N186 N201q
    have O201 := O191.keep K201q (allS g_b191 all0)
    have K201 : Keep h0 T201.heap [] := K191.trans K201q (allS (Or.inr sz_b191) all0)
    have sf207 := Safe.keep K201q (sfS SF_b191 sf0) CR191.1 sf196
    have sf208 := Safe.keep K201q (sfS SF_b191 sf0) CR191.1 sf197
    have sf209 := Safe.keep K201q (sfS SF_b191 sf0) CR191.1 sf198
    have sf210 := Safe.keep K201q (sfS SF_b191 sf0) CR191.1 SF_b191
    have CR201 := CR191.trans (CHr.keep K201q (sfS SF_b191 sf0) CR191.1)
    have sz_t201 : h0.size ≤ t201 := Nat.le_trans K191.1 szt201
    show Go p.tables e below P (T201.setTop (mkF m 366 #[.val (.int p0), .val (.int p1), .val (.int p2), .val (.ref a1), .val (.int ((p0 &&& (2147483647 : Int32)) % (5 : Int32))), .val (.int jp), .val (.int (p2 &&& (255 : Int32))), .val (.ref b18), .val (.ref b55), .val (.ref b116), .unset, .unset, .unset] [(.ref b191)]))
    refine Go.st (fun _ => XS.astore X201.here hx rfl (hb hby at_366) rfl rfl (l' := #[.val (.int p0), .val (.int p1), .val (.int p2), .val (.ref a1), .val (.int ((p0 &&& (2147483647 : Int32)) % (5 : Int32))), .val (.int jp), .val (.int (p2 &&& (255 : Int32))), .val (.ref b18), .val (.ref b55), .val (.ref b116), .val (.ref b191), .unset, .unset]) rfl) ?_
    show Go p.tables e below P (T201.setTop (mkF m 368 #[.val (.int p0), .val (.int p1), .val (.int p2), .val (.ref a1), .val (.int ((p0 &&& (2147483647 : Int32)) % (5 : Int32))), .val (.int jp), .val (.int (p2 &&& (255 : Int32))), .val (.ref b18), .val (.ref b55), .val (.ref b116), .val (.ref b191), .unset, .unset] []))
    refine Go.st (fun _ => XS.iconst X201.here hx rfl (hb hby at_368)) ?_
    show Go p.tables e below P (T201.setTop (mkF m 369 #[.val (.int p0), .val (.int p1), .val (.int p2), .val (.ref a1), .val (.int ((p0 &&& (2147483647 : Int32)) % (5 : Int32))), .val (.int jp), .val (.int (p2 &&& (255 : Int32))), .val (.ref b18), .val (.ref b55), .val (.ref b116), .val (.ref b191), .unset, .unset] [(.int (1 : Int32))]))
    refine Go.st (fun _ => XS.istore X201.here hx rfl (hb hby at_369) rfl (l' := #[.val (.int p0), .val (.int p1), .val (.int p2), .val (.ref a1), .val (.int ((p0 &&& (2147483647 : Int32)) % (5 : Int32))), .val (.int jp), .val (.int (p2 &&& (255 : Int32))), .val (.ref b18), .val (.ref b55), .val (.ref b116), .val (.ref b191), .val (.int (1 : Int32)), .unset]) rfl) ?_
    show Go p.tables e below P (T201.setTop (mkF m 371 #[.val (.int p0), .val (.int p1), .val (.int p2), .val (.ref a1), .val (.int ((p0 &&& (2147483647 : Int32)) % (5 : Int32))), .val (.int jp), .val (.int (p2 &&& (255 : Int32))), .val (.ref b18), .val (.ref b55), .val (.ref b116), .val (.ref b191), .val (.int (1 : Int32)), .unset] []))
    refine Go.st (fun _ => XS.goto X201.here hx rfl (pc0 := 371) (pc' := 475) rfl (hb hby at_371) (by decide) (by decide)) ?_
    show Go p.tables e below P (T201.setTop (mkF m 475 #[.val (.int p0), .val (.int p1), .val (.int p2), .val (.ref a1), .val (.int ((p0 &&& (2147483647 : Int32)) % (5 : Int32))), .val (.int jp), .val (.int (p2 &&& (255 : Int32))), .val (.ref b18), .val (.ref b55), .val (.ref b116), .val (.ref b191), .val (.int (1 : Int32)), .unset] []))
    exact J2 T201 T201.heap _ _ _ (X201.more (by decide) (by decide)) rfl K201 O201 N201 hS1 (Nat.le_trans (Nat.le_trans (Nat.le_trans (Nat.le_trans (Nat.le_trans (Nat.le_trans (Nat.le_trans (Nat.le_trans (Nat.le_trans (Nat.le_trans (Nat.le_trans (Nat.le_trans (Nat.le_trans (Nat.le_trans (Nat.le_trans (Nat.le_trans (Nat.le_trans (Nat.le_trans (Nat.le_trans (Nat.le_trans (Nat.le_trans (Nat.le_trans (Nat.le_trans (Nat.le_trans (Nat.le_trans (Nat.le_trans (Nat.le_trans (Nat.le_trans (Nat.le_trans (Nat.le_trans (Nat.le_trans (Nat.le_trans (Nat.le_trans (Nat.le_trans (Nat.le_trans (Nat.le_trans (Nat.le_trans (Nat.le_trans (Nat.le_trans (Nat.le_trans (Nat.le_trans (Nat.le_trans (Nat.le_trans (Nat.le_trans (Nat.le_trans (Nat.le_trans (Nat.le_trans (Nat.le_trans (Nat.le_trans (Nat.le_trans (Nat.le_trans (Nat.le_trans (Nat.le_trans (Nat.le_trans (Nat.le_trans (Nat.le_trans (Nat.le_trans (Nat.le_trans (Nat.le_trans hk1 E18.1) (Keep.of_wr W19).1) (Keep.of_wr W21).1) (Keep.of_wr W23).1) (Keep.of_wr W25).1) (Keep.of_wr W27).1) (Keep.of_wr W29).1) (Keep.of_wr W31).1) (Keep.of_wr W33).1) (Keep.of_wr W35).1) (Keep.of_wr W37).1) (Keep.of_wr W39).1) (Keep.of_wr W41).1) (Keep.of_wr W43).1) (Keep.of_wr W45).1) (Keep.of_wr W47).1) (Keep.of_wr W49).1) (Keep.of_wr W51).1) (Keep.of_wr W53).1) E55.1) (Keep.of_wr W59).1) (Keep.of_wr W62).1) (Keep.of_wr W65).1) (Keep.of_wr W68).1) (Keep.of_wr W71).1) (Keep.of_wr W74).1) (Keep.of_wr W77).1) (Keep.of_wr W80).1) (Keep.of_wr W83).1) (Keep.of_wr W86).1) (Keep.of_wr W89).1) (Keep.of_wr W92).1) (Keep.of_wr W95).1) (Keep.of_wr W98).1) (Keep.of_wr W101).1) (Keep.of_wr W104).1) (Keep.of_wr W107).1) (Keep.of_wr W110).1) (Keep.of_wr W113).1) E116.1) (Keep.of_wr W122).1) (Keep.of_wr W126).1) (Keep.of_wr W130).1) (Keep.of_wr W134).1) (Keep.of_wr W138).1) (Keep.of_wr W142).1) (Keep.of_wr W146).1) (Keep.of_wr W150).1) (Keep.of_wr W154).1) (Keep.of_wr W158).1) (Keep.of_wr W162).1) (Keep.of_wr W166).1) (Keep.of_wr W170).1) (Keep.of_wr W174).1) (Keep.of_wr W178).1) (Keep.of_wr W182).1) (Keep.of_wr W186).1) E191.1) K201q.1) hZ1 hown1 CR201  b18 b55 b116 b191 (1 : Int32) ([(117 : Int32), (115 : Int32), (45 : Int32), (102 : Int32), (101 : Int32), (100 : Int32), (101 : Int32), (114 : Int32), (97 : Int32), (108 : Int32), (45 : Int32), (114 : Int32), (101 : Int32), (115 : Int32), (101 : Int32), (114 : Int32), (118 : Int32), (101 : Int32)] : List Int32) t201 kb201  E201x C201x V201x (own_arvN rfl A201x) hp201 (Nat.le_of_ble_eq_true rfl) (Or.inl ⟨rfl, rfl⟩)
  · skip
    refine Go.st (fun _ => XS.ifYes X186.here hx rfl (pc0 := 354) (pc' := 374) rfl (hb hby at_354) rfl ((if0 _ _).trans (feq hc190).2) (by decide) (by decide)) ?_
    show Go p.tables e below P (T186.setTop (mkF m 374 #[.val (.int p0), .val (.int p1), .val (.int p2), .val (.ref a1), .val (.int ((p0 &&& (2147483647 : Int32)) % (5 : Int32))), .val (.int jp), .val (.int (p2 &&& (255 : Int32))), .val (.ref b18), .val (.ref b55), .val (.ref b116), .unset, .unset, .unset] []))
    refine Go.st (fun _ => XS.iload X186.here hx rfl (hb hby at_374) rfl) ?_
    show Go p.tables e below P (T186.setTop (mkF m 376 #[.val (.int p0), .val (.int p1), .val (.int p2), .val (.ref a1), .val (.int ((p0 &&& (2147483647 : Int32)) % (5 : Int32))), .val (.int jp), .val (.int (p2 &&& (255 : Int32))), .val (.ref b18), .val (.ref b55), .val (.ref b116), .unset, .unset, .unset] [(.int ((p0 &&& (2147483647 : Int32)) % (5 : Int32)))]))
    refine Go.st (fun _ => XS.iconst X186.here hx rfl (hb hby at_376)) ?_
    show Go p.tables e below P (T186.setTop (mkF m 377 #[.val (.int p0), .val (.int p1), .val (.int p2), .val (.ref a1), .val (.int ((p0 &&& (2147483647 : Int32)) % (5 : Int32))), .val (.int jp), .val (.int (p2 &&& (255 : Int32))), .val (.ref b18), .val (.ref b55), .val (.ref b116), .unset, .unset, .unset] [(.int (1 : Int32)), (.int ((p0 &&& (2147483647 : Int32)) % (5 : Int32)))]))
    by_cases hc211 : ((p0 &&& (2147483647 : Int32)) % (5 : Int32)) = (1 : Int32)
    · skip
      refine Go.st (fun _ => XS.icmpNo X186.here hx rfl (hb hby at_377) rfl (teq hc211).2) ?_
      show Go p.tables e below P (T186.setTop (mkF m 380 #[.val (.int p0), .val (.int p1), .val (.int p2), .val (.ref a1), .val (.int ((p0 &&& (2147483647 : Int32)) % (5 : Int32))), .val (.int jp), .val (.int (p2 &&& (255 : Int32))), .val (.ref b18), .val (.ref b55), .val (.ref b116), .unset, .unset, .unset] []))
      refine Go.st (fun _ => XS.aload X186.here hx rfl (hb hby at_380) rfl rfl) ?_
      show Go p.tables e below P (T186.setTop (mkF m 382 #[.val (.int p0), .val (.int p1), .val (.int p2), .val (.ref a1), .val (.int ((p0 &&& (2147483647 : Int32)) % (5 : Int32))), .val (.int jp), .val (.int (p2 &&& (255 : Int32))), .val (.ref b18), .val (.ref b55), .val (.ref b116), .unset, .unset, .unset] [(.ref b18)]))
      refine Go.st (fun _ => XS.iload X186.here hx rfl (hb hby at_382) rfl) ?_
      show Go p.tables e below P (T186.setTop (mkF m 384 #[.val (.int p0), .val (.int p1), .val (.int p2), .val (.ref a1), .val (.int ((p0 &&& (2147483647 : Int32)) % (5 : Int32))), .val (.int jp), .val (.int (p2 &&& (255 : Int32))), .val (.ref b18), .val (.ref b55), .val (.ref b116), .unset, .unset, .unset] [(.int jp), (.ref b18)]))
      refine Go.st (fun _ => XS.iload X186.here hx rfl (hb hby at_384) rfl) ?_
      show Go p.tables e below P (T186.setTop (mkF m 386 #[.val (.int p0), .val (.int p1), .val (.int p2), .val (.ref a1), .val (.int ((p0 &&& (2147483647 : Int32)) % (5 : Int32))), .val (.int jp), .val (.int (p2 &&& (255 : Int32))), .val (.ref b18), .val (.ref b55), .val (.ref b116), .unset, .unset, .unset] [(.int (p2 &&& (255 : Int32))), (.int jp), (.ref b18)]))
      have c213 := ((((((((((((((((((c119.ext E116).other W122 (Nat.ne_of_lt (Nat.lt_of_lt_of_le c119.lt (Nat.le_of_eq g116.symm)))).other W126 (Nat.ne_of_lt (Nat.lt_of_lt_of_le c119.lt (Nat.le_of_eq g116.symm)))).other W130 (Nat.ne_of_lt (Nat.lt_of_lt_of_le c119.lt (Nat.le_of_eq g116.symm)))).other W134 (Nat.ne_of_lt (Nat.lt_of_lt_of_le c119.lt (Nat.le_of_eq g116.symm)))).other W138 (Nat.ne_of_lt (Nat.lt_of_lt_of_le c119.lt (Nat.le_of_eq g116.symm)))).other W142 (Nat.ne_of_lt (Nat.lt_of_lt_of_le c119.lt (Nat.le_of_eq g116.symm)))).other W146 (Nat.ne_of_lt (Nat.lt_of_lt_of_le c119.lt (Nat.le_of_eq g116.symm)))).other W150 (Nat.ne_of_lt (Nat.lt_of_lt_of_le c119.lt (Nat.le_of_eq g116.symm)))).other W154 (Nat.ne_of_lt (Nat.lt_of_lt_of_le c119.lt (Nat.le_of_eq g116.symm)))).other W158 (Nat.ne_of_lt (Nat.lt_of_lt_of_le c119.lt (Nat.le_of_eq g116.symm)))).other W162 (Nat.ne_of_lt (Nat.lt_of_lt_of_le c119.lt (Nat.le_of_eq g116.symm)))).other W166 (Nat.ne_of_lt (Nat.lt_of_lt_of_le c119.lt (Nat.le_of_eq g116.symm)))).other W170 (Nat.ne_of_lt (Nat.lt_of_lt_of_le c119.lt (Nat.le_of_eq g116.symm)))).other W174 (Nat.ne_of_lt (Nat.lt_of_lt_of_le c119.lt (Nat.le_of_eq g116.symm)))).other W178 (Nat.ne_of_lt (Nat.lt_of_lt_of_le c119.lt (Nat.le_of_eq g116.symm)))).other W182 (Nat.ne_of_lt (Nat.lt_of_lt_of_le c119.lt (Nat.le_of_eq g116.symm)))).other W186 (Nat.ne_of_lt (Nat.lt_of_lt_of_le c119.lt (Nat.le_of_eq g116.symm))))
      obtain ⟨T212, h212, X212, e212, W212, V212, st212⟩ := own_stC X186 hx hZ1 e186 c213 (j := jp) (i := (jp).toNatClampNeg) hjp.1 rfl hjp.2 (g := (mkF m 386 #[.val (.int p0), .val (.int p1), .val (.int p2), .val (.ref a1), .val (.int ((p0 &&& (2147483647 : Int32)) % (5 : Int32))), .val (.int jp), .val (.int (p2 &&& (255 : Int32))), .val (.ref b18), .val (.ref b55), .val (.ref b116), .unset, .unset, .unset] [(.int (p2 &&& (255 : Int32))), (.int jp), (.ref b18)])) rfl rfl (hb hby at_386)
      refine Go.st st212 ?_
      rw [show nar .char (p2 &&& (255 : Int32)) = (p2 &&& (255 : Int32)) from i2c_mask _] at V212
      have sf214 := Safe.wr W212 sf187 CR186.1 sf187
      have sf215 := Safe.wr W212 sf187 CR186.1 sf188
      have sf216 := Safe.wr W212 sf187 CR186.1 sf189
      have CR212 := CR186.trans (CHr.wr W212 sf187 CR186.1)
      have K212 : Keep h0 h212 [] := K186.wr W212 (Or.inr sz_b18)
      have O212 := O186.wr W212 g_b18
      have N212 := Fr.snoc X212 N186 g_b18
      have V212' : Arv Z h212 b18 k18 .char (18 : Int32) ((([(117 : Int32), (115 : Int32), (45 : Int32), (102 : Int32), (101 : Int32), (100 : Int32), (101 : Int32), (114 : Int32), (97 : Int32), (108 : Int32), (45 : Int32), (114 : Int32), (101 : Int32), (115 : Int32), (101 : Int32), (114 : Int32), (118 : Int32), (101 : Int32)] : List Int32).set jp.toNatClampNeg (p2 &&& (255 : Int32))).map Value.int) (.int (0 : Int32)) := own_arv_set V212
      show Go p.tables e below P (T212.setTop (mkF m 387 #[.val (.int p0), .val (.int p1), .val (.int p2), .val (.ref a1), .val (.int ((p0 &&& (2147483647 : Int32)) % (5 : Int32))), .val (.int jp), .val (.int (p2 &&& (255 : Int32))), .val (.ref b18), .val (.ref b55), .val (.ref b116), .unset, .unset, .unset] []))
      have c218 := (((((((((((((((((((c117.ext E116).wr W122).wr W126).wr W130).wr W134).wr W138).wr W142).wr W146).wr W150).wr W154).wr W158).wr W162).wr W166).wr W170).wr W174).wr W178).wr W182).wr W186).wr W212)
      have c219 := (((((((((((((((((((c118.ext E116).other W122 (Nat.ne_of_lt (Nat.lt_of_lt_of_le c118.lt (Nat.le_of_eq g116.symm)))).other W126 (Nat.ne_of_lt (Nat.lt_of_lt_of_le c118.lt (Nat.le_of_eq g116.symm)))).other W130 (Nat.ne_of_lt (Nat.lt_of_lt_of_le c118.lt (Nat.le_of_eq g116.symm)))).other W134 (Nat.ne_of_lt (Nat.lt_of_lt_of_le c118.lt (Nat.le_of_eq g116.symm)))).other W138 (Nat.ne_of_lt (Nat.lt_of_lt_of_le c118.lt (Nat.le_of_eq g116.symm)))).other W142 (Nat.ne_of_lt (Nat.lt_of_lt_of_le c118.lt (Nat.le_of_eq g116.symm)))).other W146 (Nat.ne_of_lt (Nat.lt_of_lt_of_le c118.lt (Nat.le_of_eq g116.symm)))).other W150 (Nat.ne_of_lt (Nat.lt_of_lt_of_le c118.lt (Nat.le_of_eq g116.symm)))).other W154 (Nat.ne_of_lt (Nat.lt_of_lt_of_le c118.lt (Nat.le_of_eq g116.symm)))).other W158 (Nat.ne_of_lt (Nat.lt_of_lt_of_le c118.lt (Nat.le_of_eq g116.symm)))).other W162 (Nat.ne_of_lt (Nat.lt_of_lt_of_le c118.lt (Nat.le_of_eq g116.symm)))).other W166 (Nat.ne_of_lt (Nat.lt_of_lt_of_le c118.lt (Nat.le_of_eq g116.symm)))).other W170 (Nat.ne_of_lt (Nat.lt_of_lt_of_le c118.lt (Nat.le_of_eq g116.symm)))).other W174 (Nat.ne_of_lt (Nat.lt_of_lt_of_le c118.lt (Nat.le_of_eq g116.symm)))).other W178 (Nat.ne_of_lt (Nat.lt_of_lt_of_le c118.lt (Nat.le_of_eq g116.symm)))).other W182 (Nat.ne_of_lt (Nat.lt_of_lt_of_le c118.lt (Nat.le_of_eq g116.symm)))).other W186 (Nat.ne_of_lt (Nat.lt_of_lt_of_le c118.lt (Nat.le_of_eq g116.symm)))).other W212 (Nat.ne_of_lt (Nat.lt_of_lt_of_le Ab1.lt (Nat.le_of_eq g18.symm))))
      have c220 := (((((((((((((((((((V113'.ext E116).other W122 (Nat.ne_of_lt (Nat.lt_of_lt_of_le V113'.lt (Nat.le_of_eq g116.symm)))).other W126 (Nat.ne_of_lt (Nat.lt_of_lt_of_le V113'.lt (Nat.le_of_eq g116.symm)))).other W130 (Nat.ne_of_lt (Nat.lt_of_lt_of_le V113'.lt (Nat.le_of_eq g116.symm)))).other W134 (Nat.ne_of_lt (Nat.lt_of_lt_of_le V113'.lt (Nat.le_of_eq g116.symm)))).other W138 (Nat.ne_of_lt (Nat.lt_of_lt_of_le V113'.lt (Nat.le_of_eq g116.symm)))).other W142 (Nat.ne_of_lt (Nat.lt_of_lt_of_le V113'.lt (Nat.le_of_eq g116.symm)))).other W146 (Nat.ne_of_lt (Nat.lt_of_lt_of_le V113'.lt (Nat.le_of_eq g116.symm)))).other W150 (Nat.ne_of_lt (Nat.lt_of_lt_of_le V113'.lt (Nat.le_of_eq g116.symm)))).other W154 (Nat.ne_of_lt (Nat.lt_of_lt_of_le V113'.lt (Nat.le_of_eq g116.symm)))).other W158 (Nat.ne_of_lt (Nat.lt_of_lt_of_le V113'.lt (Nat.le_of_eq g116.symm)))).other W162 (Nat.ne_of_lt (Nat.lt_of_lt_of_le V113'.lt (Nat.le_of_eq g116.symm)))).other W166 (Nat.ne_of_lt (Nat.lt_of_lt_of_le V113'.lt (Nat.le_of_eq g116.symm)))).other W170 (Nat.ne_of_lt (Nat.lt_of_lt_of_le V113'.lt (Nat.le_of_eq g116.symm)))).other W174 (Nat.ne_of_lt (Nat.lt_of_lt_of_le V113'.lt (Nat.le_of_eq g116.symm)))).other W178 (Nat.ne_of_lt (Nat.lt_of_lt_of_le V113'.lt (Nat.le_of_eq g116.symm)))).other W182 (Nat.ne_of_lt (Nat.lt_of_lt_of_le V113'.lt (Nat.le_of_eq g116.symm)))).other W186 (Nat.ne_of_lt (Nat.lt_of_lt_of_le V113'.lt (Nat.le_of_eq g116.symm)))).other W212 (Ne.symm (Nat.ne_of_lt (Nat.lt_of_lt_of_le V53'.lt (Nat.le_of_eq g55.symm)))))
      have c221 := (V186'.other W212 (Ne.symm (Nat.ne_of_lt (Nat.lt_of_lt_of_le c119.lt (Nat.le_of_eq g116.symm)))))
      obtain ⟨T217, h217, X217, e217, E217, A217, D217, -, st217⟩ := newO X212 hx hZ1 hown1 (ow hw 10 rfl) (ow hw 2 rfl) (ow hw 1 rfl) e212 (g := (mkF m 387 #[.val (.int p0), .val (.int p1), .val (.int p2), .val (.ref a1), .val (.int ((p0 &&& (2147483647 : Int32)) % (5 : Int32))), .val (.int jp), .val (.int (p2 &&& (255 : Int32))), .val (.ref b18), .val (.ref b55), .val (.ref b116), .unset, .unset, .unset] [])) rfl (hb hby at_387) (by decide) (by decide)
      obtain ⟨b217, g217⟩ : ∃ z, z = h212.size := ⟨_, rfl⟩
      rw [← g217] at A217 D217 st217
      refine Go.st st217 ?_
      have g_b217 : n0 ≤ b217 := Nat.le_trans (own_oldsz O212) (Nat.le_of_eq g217.symm)
      have sz_b217 : h0.size ≤ b217 := Nat.le_trans K212.1 (Nat.le_of_eq g217.symm)
      have K217 : Keep h0 h217 [] := K212.ext E217
      have O217 := O212.ext E217
      have sf222 := Safe.ext E217 CR212.1 sf214
      have sf223 := Safe.ext E217 CR212.1 sf215
      have sf224 := Safe.ext E217 CR212.1 sf216
      have SF_b217 : Safe Z consts_1 T1.vm h217 b217 := Safe.ext E217 CR212.1 (Safe.new (Nat.le_of_eq g217.symm))
      have CR217 := CR212.trans (CHr.ext E217 CR212.1)
      have F225 : Fld Z h217 b217 "java/lang/String" "value" "[B" .null := D217 (Or.inr (ow hw 4 rfl)) (ty := (.array .byte)) (by decide)
      have F226 : Fld Z h217 b217 "java/lang/String" "coder" "B" (.int (0 : Int32)) := D217 (Or.inr (ow hw 5 rfl)) (ty := .byte) (by decide)
      show Go p.tables e below P (T217.setTop (mkF m 390 #[.val (.int p0), .val (.int p1), .val (.int p2), .val (.ref a1), .val (.int ((p0 &&& (2147483647 : Int32)) % (5 : Int32))), .val (.int jp), .val (.int (p2 &&& (255 : Int32))), .val (.ref b18), .val (.ref b55), .val (.ref b116), .unset, .unset, .unset] [(.ref b217)]))
      refine Go.st (fun _ => XS.dup X217.here hx rfl (hb hby at_390) rfl rfl) ?_
      show Go p.tables e below P (T217.setTop (mkF m 391 #[.val (.int p0), .val (.int p1), .val (.int p2), .val (.ref a1), .val (.int ((p0 &&& (2147483647 : Int32)) % (5 : Int32))), .val (.int jp), .val (.int (p2 &&& (255 : Int32))), .val (.ref b18), .val (.ref b55), .val (.ref b116), .unset, .unset, .unset] [(.ref b217), (.ref b217)]))
      refine Go.st (fun _ => XS.aload X217.here hx rfl (hb hby at_391) rfl rfl) ?_
      show Go p.tables e below P (T217.setTop (mkF m 393 #[.val (.int p0), .val (.int p1), .val (.int p2), .val (.ref a1), .val (.int ((p0 &&& (2147483647 : Int32)) % (5 : Int32))), .val (.int jp), .val (.int (p2 &&& (255 : Int32))), .val (.ref b18), .val (.ref b55), .val (.ref b116), .unset, .unset, .unset] [(.ref b18), (.ref b217), (.ref b217)]))
      have c228 := (V212'.ext E217)
      have hp227 : ∀ c ∈ (([(117 : Int32), (115 : Int32), (45 : Int32), (102 : Int32), (101 : Int32), (100 : Int32), (101 : Int32), (114 : Int32), (97 : Int32), (108 : Int32), (45 : Int32), (114 : Int32), (101 : Int32), (115 : Int32), (101 : Int32), (114 : Int32), (118 : Int32), (101 : Int32)] : List Int32).set jp.toNatClampNeg (p2 &&& (255 : Int32))), ¬ c < 0 ∧ ¬ (255 : Int32) < c := by
        exact own_set_small (by decide) (own_and255 _)
      have c229 := (c218.ext E217)
      have c230 := (c219.ext E217)
      have c231 := (c220.ext E217)
      have c232 := (c221.ext E217)
      obtain ⟨_, _, ⟨T227, L227, k227, n227⟩, -, X227, ⟨Lc227, hQ227, l227, y227, z227⟩, st227⟩ := X217.specialBack hx (y := (⟨"java/lang/String", "<init>", "([C)V"⟩ : MethodName)) rfl hown1 (mvT hZ1 (ow hw 11 rfl)) (mvT hZ1 (ow hw 12 rfl)) (mvT hZ1 (ow hw 13 rfl)) (by decide) (StrChars.Road.backV (W := 1) hZ1 (fun d hd => hw d (own_wNew d hd)) (kI := 4) (ow hw 2 rfl) (cs := (([(117 : Int32), (115 : Int32), (45 : Int32), (102 : Int32), (101 : Int32), (100 : Int32), (101 : Int32), (114 : Int32), (97 : Int32), (108 : Int32), (45 : Int32), (114 : Int32), (101 : Int32), (115 : Int32), (101 : Int32), (114 : Int32), (118 : Int32), (101 : Int32)] : List Int32).set jp.toNatClampNeg (p2 &&& (255 : Int32)))) (bs := ((([(117 : Int32), (115 : Int32), (45 : Int32), (102 : Int32), (101 : Int32), (100 : Int32), (101 : Int32), (114 : Int32), (97 : Int32), (108 : Int32), (45 : Int32), (114 : Int32), (101 : Int32), (115 : Int32), (101 : Int32), (114 : Int32), (118 : Int32), (101 : Int32)] : List Int32).set jp.toNatClampNeg (p2 &&& (255 : Int32)))).map (fun c => c.toInt8.toInt32)) (n := 18) g_b217 (own_oldsz O217) A217 F225 F226 c228 (S_CS.ext O217.2) nz_CS (by simp) rfl (by decide) (by decide) hp227 rfl (by decide) (by decide)) (g := (mkF m 393 #[.val (.int p0), .val (.int p1), .val (.int p2), .val (.ref a1), .val (.int ((p0 &&& (2147483647 : Int32)) % (5 : Int32))), .val (.int jp), .val (.int (p2 &&& (255 : Int32))), .val (.ref b18), .val (.ref b55), .val (.ref b116), .unset, .unset, .unset] [(.ref b18), (.ref b217), (.ref b217)])) rfl (by rw [hml]; rfl) (Steps.refl _) (a := b217) (argsL := [(.ref b18)]) (rest := [(.ref b217)]) (lenOf own_pd13 rfl) rfl (by show 2 * 0 + _ ≤ _; exact Nat.le_of_eq rfl) (hb hby at_393) (fun _ _ => ⟨rfl, e217, (by decide : 6 + 1 ≤ _), (by decide : 134 + 18 ≤ _)⟩)
      dsimp only [Pt.U, Pt.locs, Pt.cells, Pt.slots] at X227 l227 y227 z227 st227 hQ227
      subst y227 z227
      refine Go.tr st227 ?_
      obtain ⟨rfl, N227q, K227q, E227x, C227x, t227, kb227, gt227, szt227, net227, V227x, A227x⟩ := hQ227
      have N227 : Fr n0 L227 := by rw [l227]; exact Fr.app N212 N227q
      have O227 := O217.keep K227q (allS g_b217 all0)
      have K227 : Keep h0 T227.heap [] := K217.trans K227q (allS (Or.inr sz_b217) all0)
      have sf233 := Safe.keep K227q (sfS SF_b217 sf0) CR217.1 sf222
      have sf234 := Safe.keep K227q (sfS SF_b217 sf0) CR217.1 sf223
      have sf235 := Safe.keep K227q (sfS SF_b217 sf0) CR217.1 sf224
      have sf236 := Safe.keep K227q (sfS SF_b217 sf0) CR217.1 SF_b217
      have CR227 := CR217.trans (CHr.keep K227q (sfS SF_b217 sf0) CR217.1)
      have sz_t227 : h0.size ≤ t227 := Nat.le_trans K217.1 szt227
      show Go p.tables e below P (T227.setTop (mkF m 396 #[.val (.int p0), .val (.int p1), .val (.int p2), .val (.ref a1), .val (.int ((p0 &&& (2147483647 : Int32)) % (5 : Int32))), .val (.int jp), .val (.int (p2 &&& (255 : Int32))), .val (.ref b18), .val (.ref b55), .val (.ref b116), .unset, .unset, .unset] [(.ref b217)]))
      refine Go.st (fun _ => XS.astore X227.here hx rfl (hb hby at_396) rfl rfl (l' := #[.val (.int p0), .val (.int p1), .val (.int p2), .val (.ref a1), .val (.int ((p0 &&& (2147483647 : Int32)) % (5 : Int32))), .val (.int jp), .val (.int (p2 &&& (255 : Int32))), .val (.ref b18), .val (.ref b55), .val (.ref b116), .val (.ref b217), .unset, .unset]) rfl) ?_
      show Go p.tables e below P (T227.setTop (mkF m 398 #[.val (.int p0), .val (.int p1), .val (.int p2), .val (.ref a1), .val (.int ((p0 &&& (2147483647 : Int32)) % (5 : Int32))), .val (.int jp), .val (.int (p2 &&& (255 : Int32))), .val (.ref b18), .val (.ref b55), .val (.ref b116), .val (.ref b217), .unset, .unset] []))
      refine Go.st (fun _ => XS.iload X227.here hx rfl (hb hby at_398) rfl) ?_
      show Go p.tables e below P (T227.setTop (mkF m 400 #[.val (.int p0), .val (.int p1), .val (.int p2), .val (.ref a1), .val (.int ((p0 &&& (2147483647 : Int32)) % (5 : Int32))), .val (.int jp), .val (.int (p2 &&& (255 : Int32))), .val (.ref b18), .val (.ref b55), .val (.ref b116), .val (.ref b217), .unset, .unset] [(.int (p2 &&& (255 : Int32)))]))
      refine Go.st (fun _ => XS.aloadN X227.here hx rfl (hb hby at_400) rfl rfl) ?_
      show Go p.tables e below P (T227.setTop (mkF m 401 #[.val (.int p0), .val (.int p1), .val (.int p2), .val (.ref a1), .val (.int ((p0 &&& (2147483647 : Int32)) % (5 : Int32))), .val (.int jp), .val (.int (p2 &&& (255 : Int32))), .val (.ref b18), .val (.ref b55), .val (.ref b116), .val (.ref b217), .unset, .unset] [(.ref a1), (.int (p2 &&& (255 : Int32)))]))
      refine Go.st (fun _ => XS.iload X227.here hx rfl (hb hby at_401) rfl) ?_
      show Go p.tables e below P (T227.setTop (mkF m 403 #[.val (.int p0), .val (.int p1), .val (.int p2), .val (.ref a1), .val (.int ((p0 &&& (2147483647 : Int32)) % (5 : Int32))), .val (.int jp), .val (.int (p2 &&& (255 : Int32))), .val (.ref b18), .val (.ref b55), .val (.ref b116), .val (.ref b217), .unset, .unset] [(.int jp), (.ref a1), (.int (p2 &&& (255 : Int32)))]))
      have c238 := (c229.keep K227q)
      have c239 := ((((((((((((((((((((((((((((((((((((((((((((((((((((((((((((Va1.ext E18).other W19 (Or.inl (Nat.ne_of_lt (Nat.lt_of_lt_of_le Ea1.lt (Nat.le_of_eq g18.symm))))).other W21 (Or.inl (Nat.ne_of_lt (Nat.lt_of_lt_of_le Ea1.lt (Nat.le_of_eq g18.symm))))).other W23 (Or.inl (Nat.ne_of_lt (Nat.lt_of_lt_of_le Ea1.lt (Nat.le_of_eq g18.symm))))).other W25 (Or.inl (Nat.ne_of_lt (Nat.lt_of_lt_of_le Ea1.lt (Nat.le_of_eq g18.symm))))).other W27 (Or.inl (Nat.ne_of_lt (Nat.lt_of_lt_of_le Ea1.lt (Nat.le_of_eq g18.symm))))).other W29 (Or.inl (Nat.ne_of_lt (Nat.lt_of_lt_of_le Ea1.lt (Nat.le_of_eq g18.symm))))).other W31 (Or.inl (Nat.ne_of_lt (Nat.lt_of_lt_of_le Ea1.lt (Nat.le_of_eq g18.symm))))).other W33 (Or.inl (Nat.ne_of_lt (Nat.lt_of_lt_of_le Ea1.lt (Nat.le_of_eq g18.symm))))).other W35 (Or.inl (Nat.ne_of_lt (Nat.lt_of_lt_of_le Ea1.lt (Nat.le_of_eq g18.symm))))).other W37 (Or.inl (Nat.ne_of_lt (Nat.lt_of_lt_of_le Ea1.lt (Nat.le_of_eq g18.symm))))).other W39 (Or.inl (Nat.ne_of_lt (Nat.lt_of_lt_of_le Ea1.lt (Nat.le_of_eq g18.symm))))).other W41 (Or.inl (Nat.ne_of_lt (Nat.lt_of_lt_of_le Ea1.lt (Nat.le_of_eq g18.symm))))).other W43 (Or.inl (Nat.ne_of_lt (Nat.lt_of_lt_of_le Ea1.lt (Nat.le_of_eq g18.symm))))).other W45 (Or.inl (Nat.ne_of_lt (Nat.lt_of_lt_of_le Ea1.lt (Nat.le_of_eq g18.symm))))).other W47 (Or.inl (Nat.ne_of_lt (Nat.lt_of_lt_of_le Ea1.lt (Nat.le_of_eq g18.symm))))).other W49 (Or.inl (Nat.ne_of_lt (Nat.lt_of_lt_of_le Ea1.lt (Nat.le_of_eq g18.symm))))).other W51 (Or.inl (Nat.ne_of_lt (Nat.lt_of_lt_of_le Ea1.lt (Nat.le_of_eq g18.symm))))).other W53 (Or.inl (Nat.ne_of_lt (Nat.lt_of_lt_of_le Ea1.lt (Nat.le_of_eq g18.symm))))).ext E55).other W59 (Or.inl (Nat.ne_of_lt (Nat.lt_of_lt_of_le c56.lt (Nat.le_of_eq g55.symm))))).other W62 (Or.inl (Nat.ne_of_lt (Nat.lt_of_lt_of_le c56.lt (Nat.le_of_eq g55.symm))))).other W65 (Or.inl (Nat.ne_of_lt (Nat.lt_of_lt_of_le c56.lt (Nat.le_of_eq g55.symm))))).other W68 (Or.inl (Nat.ne_of_lt (Nat.lt_of_lt_of_le c56.lt (Nat.le_of_eq g55.symm))))).other W71 (Or.inl (Nat.ne_of_lt (Nat.lt_of_lt_of_le c56.lt (Nat.le_of_eq g55.symm))))).other W74 (Or.inl (Nat.ne_of_lt (Nat.lt_of_lt_of_le c56.lt (Nat.le_of_eq g55.symm))))).other W77 (Or.inl (Nat.ne_of_lt (Nat.lt_of_lt_of_le c56.lt (Nat.le_of_eq g55.symm))))).other W80 (Or.inl (Nat.ne_of_lt (Nat.lt_of_lt_of_le c56.lt (Nat.le_of_eq g55.symm))))).other W83 (Or.inl (Nat.ne_of_lt (Nat.lt_of_lt_of_le c56.lt (Nat.le_of_eq g55.symm))))).other W86 (Or.inl (Nat.ne_of_lt (Nat.lt_of_lt_of_le c56.lt (Nat.le_of_eq g55.symm))))).other W89 (Or.inl (Nat.ne_of_lt (Nat.lt_of_lt_of_le c56.lt (Nat.le_of_eq g55.symm))))).other W92 (Or.inl (Nat.ne_of_lt (Nat.lt_of_lt_of_le c56.lt (Nat.le_of_eq g55.symm))))).other W95 (Or.inl (Nat.ne_of_lt (Nat.lt_of_lt_of_le c56.lt (Nat.le_of_eq g55.symm))))).other W98 (Or.inl (Nat.ne_of_lt (Nat.lt_of_lt_of_le c56.lt (Nat.le_of_eq g55.symm))))).other W101 (Or.inl (Nat.ne_of_lt (Nat.lt_of_lt_of_le c56.lt (Nat.le_of_eq g55.symm))))).other W104 (Or.inl (Nat.ne_of_lt (Nat.lt_of_lt_of_le c56.lt (Nat.le_of_eq g55.symm))))).other W107 (Or.inl (Nat.ne_of_lt (Nat.lt_of_lt_of_le c56.lt (Nat.le_of_eq g55.symm))))).other W110 (Or.inl (Nat.ne_of_lt (Nat.lt_of_lt_of_le c56.lt (Nat.le_of_eq g55.symm))))).other W113 (Or.inl (Nat.ne_of_lt (Nat.lt_of_lt_of_le c56.lt (Nat.le_of_eq g55.symm))))).ext E116).other W122 (Or.inl (Nat.ne_of_lt (Nat.lt_of_lt_of_le c117.lt (Nat.le_of_eq g116.symm))))).other W126 (Or.inl (Nat.ne_of_lt (Nat.lt_of_lt_of_le c117.lt (Nat.le_of_eq g116.symm))))).other W130 (Or.inl (Nat.ne_of_lt (Nat.lt_of_lt_of_le c117.lt (Nat.le_of_eq g116.symm))))).other W134 (Or.inl (Nat.ne_of_lt (Nat.lt_of_lt_of_le c117.lt (Nat.le_of_eq g116.symm))))).other W138 (Or.inl (Nat.ne_of_lt (Nat.lt_of_lt_of_le c117.lt (Nat.le_of_eq g116.symm))))).other W142 (Or.inl (Nat.ne_of_lt (Nat.lt_of_lt_of_le c117.lt (Nat.le_of_eq g116.symm))))).other W146 (Or.inl (Nat.ne_of_lt (Nat.lt_of_lt_of_le c117.lt (Nat.le_of_eq g116.symm))))).other W150 (Or.inl (Nat.ne_of_lt (Nat.lt_of_lt_of_le c117.lt (Nat.le_of_eq g116.symm))))).other W154 (Or.inl (Nat.ne_of_lt (Nat.lt_of_lt_of_le c117.lt (Nat.le_of_eq g116.symm))))).other W158 (Or.inl (Nat.ne_of_lt (Nat.lt_of_lt_of_le c117.lt (Nat.le_of_eq g116.symm))))).other W162 (Or.inl (Nat.ne_of_lt (Nat.lt_of_lt_of_le c117.lt (Nat.le_of_eq g116.symm))))).other W166 (Or.inl (Nat.ne_of_lt (Nat.lt_of_lt_of_le c117.lt (Nat.le_of_eq g116.symm))))).other W170 (Or.inl (Nat.ne_of_lt (Nat.lt_of_lt_of_le c117.lt (Nat.le_of_eq g116.symm))))).other W174 (Or.inl (Nat.ne_of_lt (Nat.lt_of_lt_of_le c117.lt (Nat.le_of_eq g116.symm))))).other W178 (Or.inl (Nat.ne_of_lt (Nat.lt_of_lt_of_le c117.lt (Nat.le_of_eq g116.symm))))).other W182 (Or.inl (Nat.ne_of_lt (Nat.lt_of_lt_of_le c117.lt (Nat.le_of_eq g116.symm))))).other W186 (Or.inl (Nat.ne_of_lt (Nat.lt_of_lt_of_le c117.lt (Nat.le_of_eq g116.symm))))).other W212 (Or.inl (Nat.ne_of_lt (Nat.lt_of_lt_of_le Ea1.lt (Nat.le_of_eq g18.symm))))).ext E217).keep K227q (ninS (Nat.ne_of_lt (Nat.lt_of_lt_of_le c218.lt (Nat.le_of_eq g217.symm))) nin0))
      have c240 := ((((((((((((((((((((((((((((((((((((((((((((((((((((((((((((Ca1.ext E18).other W19 (Or.inl (Nat.ne_of_lt (Nat.lt_of_lt_of_le Ea1.lt (Nat.le_of_eq g18.symm))))).other W21 (Or.inl (Nat.ne_of_lt (Nat.lt_of_lt_of_le Ea1.lt (Nat.le_of_eq g18.symm))))).other W23 (Or.inl (Nat.ne_of_lt (Nat.lt_of_lt_of_le Ea1.lt (Nat.le_of_eq g18.symm))))).other W25 (Or.inl (Nat.ne_of_lt (Nat.lt_of_lt_of_le Ea1.lt (Nat.le_of_eq g18.symm))))).other W27 (Or.inl (Nat.ne_of_lt (Nat.lt_of_lt_of_le Ea1.lt (Nat.le_of_eq g18.symm))))).other W29 (Or.inl (Nat.ne_of_lt (Nat.lt_of_lt_of_le Ea1.lt (Nat.le_of_eq g18.symm))))).other W31 (Or.inl (Nat.ne_of_lt (Nat.lt_of_lt_of_le Ea1.lt (Nat.le_of_eq g18.symm))))).other W33 (Or.inl (Nat.ne_of_lt (Nat.lt_of_lt_of_le Ea1.lt (Nat.le_of_eq g18.symm))))).other W35 (Or.inl (Nat.ne_of_lt (Nat.lt_of_lt_of_le Ea1.lt (Nat.le_of_eq g18.symm))))).other W37 (Or.inl (Nat.ne_of_lt (Nat.lt_of_lt_of_le Ea1.lt (Nat.le_of_eq g18.symm))))).other W39 (Or.inl (Nat.ne_of_lt (Nat.lt_of_lt_of_le Ea1.lt (Nat.le_of_eq g18.symm))))).other W41 (Or.inl (Nat.ne_of_lt (Nat.lt_of_lt_of_le Ea1.lt (Nat.le_of_eq g18.symm))))).other W43 (Or.inl (Nat.ne_of_lt (Nat.lt_of_lt_of_le Ea1.lt (Nat.le_of_eq g18.symm))))).other W45 (Or.inl (Nat.ne_of_lt (Nat.lt_of_lt_of_le Ea1.lt (Nat.le_of_eq g18.symm))))).other W47 (Or.inl (Nat.ne_of_lt (Nat.lt_of_lt_of_le Ea1.lt (Nat.le_of_eq g18.symm))))).other W49 (Or.inl (Nat.ne_of_lt (Nat.lt_of_lt_of_le Ea1.lt (Nat.le_of_eq g18.symm))))).other W51 (Or.inl (Nat.ne_of_lt (Nat.lt_of_lt_of_le Ea1.lt (Nat.le_of_eq g18.symm))))).other W53 (Or.inl (Nat.ne_of_lt (Nat.lt_of_lt_of_le Ea1.lt (Nat.le_of_eq g18.symm))))).ext E55).other W59 (Or.inl (Nat.ne_of_lt (Nat.lt_of_lt_of_le c56.lt (Nat.le_of_eq g55.symm))))).other W62 (Or.inl (Nat.ne_of_lt (Nat.lt_of_lt_of_le c56.lt (Nat.le_of_eq g55.symm))))).other W65 (Or.inl (Nat.ne_of_lt (Nat.lt_of_lt_of_le c56.lt (Nat.le_of_eq g55.symm))))).other W68 (Or.inl (Nat.ne_of_lt (Nat.lt_of_lt_of_le c56.lt (Nat.le_of_eq g55.symm))))).other W71 (Or.inl (Nat.ne_of_lt (Nat.lt_of_lt_of_le c56.lt (Nat.le_of_eq g55.symm))))).other W74 (Or.inl (Nat.ne_of_lt (Nat.lt_of_lt_of_le c56.lt (Nat.le_of_eq g55.symm))))).other W77 (Or.inl (Nat.ne_of_lt (Nat.lt_of_lt_of_le c56.lt (Nat.le_of_eq g55.symm))))).other W80 (Or.inl (Nat.ne_of_lt (Nat.lt_of_lt_of_le c56.lt (Nat.le_of_eq g55.symm))))).other W83 (Or.inl (Nat.ne_of_lt (Nat.lt_of_lt_of_le c56.lt (Nat.le_of_eq g55.symm))))).other W86 (Or.inl (Nat.ne_of_lt (Nat.lt_of_lt_of_le c56.lt (Nat.le_of_eq g55.symm))))).other W89 (Or.inl (Nat.ne_of_lt (Nat.lt_of_lt_of_le c56.lt (Nat.le_of_eq g55.symm))))).other W92 (Or.inl (Nat.ne_of_lt (Nat.lt_of_lt_of_le c56.lt (Nat.le_of_eq g55.symm))))).other W95 (Or.inl (Nat.ne_of_lt (Nat.lt_of_lt_of_le c56.lt (Nat.le_of_eq g55.symm))))).other W98 (Or.inl (Nat.ne_of_lt (Nat.lt_of_lt_of_le c56.lt (Nat.le_of_eq g55.symm))))).other W101 (Or.inl (Nat.ne_of_lt (Nat.lt_of_lt_of_le c56.lt (Nat.le_of_eq g55.symm))))).other W104 (Or.inl (Nat.ne_of_lt (Nat.lt_of_lt_of_le c56.lt (Nat.le_of_eq g55.symm))))).other W107 (Or.inl (Nat.ne_of_lt (Nat.lt_of_lt_of_le c56.lt (Nat.le_of_eq g55.symm))))).other W110 (Or.inl (Nat.ne_of_lt (Nat.lt_of_lt_of_le c56.lt (Nat.le_of_eq g55.symm))))).other W113 (Or.inl (Nat.ne_of_lt (Nat.lt_of_lt_of_le c56.lt (Nat.le_of_eq g55.symm))))).ext E116).other W122 (Or.inl (Nat.ne_of_lt (Nat.lt_of_lt_of_le c117.lt (Nat.le_of_eq g116.symm))))).other W126 (Or.inl (Nat.ne_of_lt (Nat.lt_of_lt_of_le c117.lt (Nat.le_of_eq g116.symm))))).other W130 (Or.inl (Nat.ne_of_lt (Nat.lt_of_lt_of_le c117.lt (Nat.le_of_eq g116.symm))))).other W134 (Or.inl (Nat.ne_of_lt (Nat.lt_of_lt_of_le c117.lt (Nat.le_of_eq g116.symm))))).other W138 (Or.inl (Nat.ne_of_lt (Nat.lt_of_lt_of_le c117.lt (Nat.le_of_eq g116.symm))))).other W142 (Or.inl (Nat.ne_of_lt (Nat.lt_of_lt_of_le c117.lt (Nat.le_of_eq g116.symm))))).other W146 (Or.inl (Nat.ne_of_lt (Nat.lt_of_lt_of_le c117.lt (Nat.le_of_eq g116.symm))))).other W150 (Or.inl (Nat.ne_of_lt (Nat.lt_of_lt_of_le c117.lt (Nat.le_of_eq g116.symm))))).other W154 (Or.inl (Nat.ne_of_lt (Nat.lt_of_lt_of_le c117.lt (Nat.le_of_eq g116.symm))))).other W158 (Or.inl (Nat.ne_of_lt (Nat.lt_of_lt_of_le c117.lt (Nat.le_of_eq g116.symm))))).other W162 (Or.inl (Nat.ne_of_lt (Nat.lt_of_lt_of_le c117.lt (Nat.le_of_eq g116.symm))))).other W166 (Or.inl (Nat.ne_of_lt (Nat.lt_of_lt_of_le c117.lt (Nat.le_of_eq g116.symm))))).other W170 (Or.inl (Nat.ne_of_lt (Nat.lt_of_lt_of_le c117.lt (Nat.le_of_eq g116.symm))))).other W174 (Or.inl (Nat.ne_of_lt (Nat.lt_of_lt_of_le c117.lt (Nat.le_of_eq g116.symm))))).other W178 (Or.inl (Nat.ne_of_lt (Nat.lt_of_lt_of_le c117.lt (Nat.le_of_eq g116.symm))))).other W182 (Or.inl (Nat.ne_of_lt (Nat.lt_of_lt_of_le c117.lt (Nat.le_of_eq g116.symm))))).other W186 (Or.inl (Nat.ne_of_lt (Nat.lt_of_lt_of_le c117.lt (Nat.le_of_eq g116.symm))))).other W212 (Or.inl (Nat.ne_of_lt (Nat.lt_of_lt_of_le Ea1.lt (Nat.le_of_eq g18.symm))))).ext E217).keep K227q (ninS (Nat.ne_of_lt (Nat.lt_of_lt_of_le c218.lt (Nat.le_of_eq g217.symm))) nin0))
      have c241 := (c230.keep K227q (ninS (Nat.ne_of_lt (Nat.lt_of_lt_of_le c219.lt (Nat.le_of_eq g217.symm))) nin0))
      have hcd237 : StrChars.Road.CodA ([(117 : Int32), (115 : Int32), (45 : Int32), (102 : Int32), (101 : Int32), (100 : Int32), (101 : Int32), (114 : Int32), (97 : Int32), (108 : Int32), (45 : Int32), (114 : Int32), (101 : Int32), (115 : Int32), (101 : Int32), (114 : Int32), (118 : Int32), (101 : Int32)] : List Int32) 0 (18 : Int32) [(.int (117 : Int32)), (.int (115 : Int32)), (.int (45 : Int32)), (.int (102 : Int32)), (.int (101 : Int32)), (.int (100 : Int32)), (.int (101 : Int32)), (.int (114 : Int32)), (.int (97 : Int32)), (.int (108 : Int32)), (.int (45 : Int32)), (.int (114 : Int32)), (.int (101 : Int32)), (.int (115 : Int32)), (.int (101 : Int32)), (.int (114 : Int32)), (.int (118 : Int32)), (.int (101 : Int32))] := StrChars.Road.codOf (n := 18) rfl (fun c hc => ((show ∀ c ∈ ([(117 : Int32), (115 : Int32), (45 : Int32), (102 : Int32), (101 : Int32), (100 : Int32), (101 : Int32), (114 : Int32), (97 : Int32), (108 : Int32), (45 : Int32), (114 : Int32), (101 : Int32), (115 : Int32), (101 : Int32), (114 : Int32), (118 : Int32), (101 : Int32)] : List Int32), ¬ c < 0 ∧ ¬ (255 : Int32) < c by decide) c hc).2)
      obtain ⟨cq237, kq237, q237a, q237b, q237c⟩ := isOf hZ1 rfl c238
      obtain ⟨_, _, ⟨T237, L237, k237, n237⟩, -, X237, ⟨Lc237, hQ237, l237, y237, z237⟩, st237⟩ := X227.virtualBack hx (y := (⟨"java/lang/String", "charAt", "(I)C"⟩ : MethodName)) (z := (⟨"java/lang/String", "charAt", "(I)C"⟩ : MethodName)) hown1 (mvT hZ1 (ow hw 102 rfl)) (mvT hZ1 (ow hw 103 rfl)) (notFace_of_selects (args := #[]) (mvT hZ1 (ow hw 105 rfl))) (mvT hZ1 (ow hw 105 rfl)) (mvT hZ1 (ow hw 104 rfl)) (by decide) (StrChars.Road.chN (W := 1) hZ1 (fun d hd => hw d (own_wCh d hd)) (kI := 4) (ow hw 2 rfl) c238 c239 c240 c241 hcd237 (own_up _ (show ∀ c ∈ ([(117 : Int32), (115 : Int32), (45 : Int32), (102 : Int32), (101 : Int32), (100 : Int32), (101 : Int32), (114 : Int32), (97 : Int32), (108 : Int32), (45 : Int32), (114 : Int32), (101 : Int32), (115 : Int32), (101 : Int32), (114 : Int32), (118 : Int32), (101 : Int32)] : List Int32), ¬ c < 0 ∧ ¬ (255 : Int32) < c by decide)) (S_CS.ext O227.2) nz_CS (S_SF.ext O227.2) r_SF (Nat.le_of_ble_eq_true rfl) (i := jp.toNatClampNeg) hjp.2 (j := jp) (own_natback hjp.1.1) (by decide) (by decide)) q237a q237c (g := (mkF m 403 #[.val (.int p0), .val (.int p1), .val (.int p2), .val (.ref a1), .val (.int ((p0 &&& (2147483647 : Int32)) % (5 : Int32))), .val (.int jp), .val (.int (p2 &&& (255 : Int32))), .val (.ref b18), .val (.ref b55), .val (.ref b116), .val (.ref b217), .unset, .unset] [(.int jp), (.ref a1), (.int (p2 &&& (255 : Int32)))])) rfl (by rw [hml]; rfl) (Steps.refl _) (argsL := [(.int jp)]) (rest := [(.int (p2 &&& (255 : Int32)))]) (lenOf own_pd14 rfl) rfl (by show 2 * 0 + _ ≤ _; exact Nat.le_of_eq rfl) (hb hby at_403) (fun _ _ => ⟨rfl, rfl, (by decide : 7 + 0 ≤ _), (by decide : 152 + 0 ≤ _)⟩)
      dsimp only [Pt.U, Pt.locs, Pt.cells, Pt.slots] at X237 l237 y237 z237 st237 hQ237
      subst y237 z237
      refine Go.tr st237 ?_
      obtain ⟨rfl, rfl, e237⟩ := hQ237
      have N237 : Fr n0 L237 := by rw [l237]; exact Fr.app N227 (Fr.nil n0)
      show Go p.tables e below P (T237.setTop (mkF m 406 #[.val (.int p0), .val (.int p1), .val (.int p2), .val (.ref a1), .val (.int ((p0 &&& (2147483647 : Int32)) % (5 : Int32))), .val (.int jp), .val (.int (p2 &&& (255 : Int32))), .val (.ref b18), .val (.ref b55), .val (.ref b116), .val (.ref b217), .unset, .unset] [(.int (([(117 : Int32), (115 : Int32), (45 : Int32), (102 : Int32), (101 : Int32), (100 : Int32), (101 : Int32), (114 : Int32), (97 : Int32), (108 : Int32), (45 : Int32), (114 : Int32), (101 : Int32), (115 : Int32), (101 : Int32), (114 : Int32), (118 : Int32), (101 : Int32)] : List Int32).getD jp.toNatClampNeg 0)), (.int (p2 &&& (255 : Int32)))]))
      by_cases hc242 : (p2 &&& (255 : Int32)) = (([(117 : Int32), (115 : Int32), (45 : Int32), (102 : Int32), (101 : Int32), (100 : Int32), (101 : Int32), (114 : Int32), (97 : Int32), (108 : Int32), (45 : Int32), (114 : Int32), (101 : Int32), (115 : Int32), (101 : Int32), (114 : Int32), (118 : Int32), (101 : Int32)] : List Int32).getD jp.toNatClampNeg 0)
      · skip
        refine Go.st (fun _ => XS.icmpNo X237.here hx rfl (hb hby at_406) rfl (teq hc242).2) ?_
        show Go p.tables e below P (T237.setTop (mkF m 409 #[.val (.int p0), .val (.int p1), .val (.int p2), .val (.ref a1), .val (.int ((p0 &&& (2147483647 : Int32)) % (5 : Int32))), .val (.int jp), .val (.int (p2 &&& (255 : Int32))), .val (.ref b18), .val (.ref b55), .val (.ref b116), .val (.ref b217), .unset, .unset] []))
        refine Go.st (fun _ => XS.iconst X237.here hx rfl (hb hby at_409)) ?_
        show Go p.tables e below P (T237.setTop (mkF m 410 #[.val (.int p0), .val (.int p1), .val (.int p2), .val (.ref a1), .val (.int ((p0 &&& (2147483647 : Int32)) % (5 : Int32))), .val (.int jp), .val (.int (p2 &&& (255 : Int32))), .val (.ref b18), .val (.ref b55), .val (.ref b116), .val (.ref b217), .unset, .unset] [(.int (1 : Int32))]))
        refine Go.st (fun _ => XS.goto X237.here hx rfl (pc0 := 410) (pc' := 414) rfl (hb hby at_410) (by decide) (by decide)) ?_
        show Go p.tables e below P (T237.setTop (mkF m 414 #[.val (.int p0), .val (.int p1), .val (.int p2), .val (.ref a1), .val (.int ((p0 &&& (2147483647 : Int32)) % (5 : Int32))), .val (.int jp), .val (.int (p2 &&& (255 : Int32))), .val (.ref b18), .val (.ref b55), .val (.ref b116), .val (.ref b217), .unset, .unset] [(.int (1 : Int32))]))
        refine Go.st (fun _ => XS.istore X237.here hx rfl (hb hby at_414) rfl (l' := #[.val (.int p0), .val (.int p1), .val (.int p2), .val (.ref a1), .val (.int ((p0 &&& (2147483647 : Int32)) % (5 : Int32))), .val (.int jp), .val (.int (p2 &&& (255 : Int32))), .val (.ref b18), .val (.ref b55), .val (.ref b116), .val (.ref b217), .val (.int (1 : Int32)), .unset]) rfl) ?_
        show Go p.tables e below P (T237.setTop (mkF m 416 #[.val (.int p0), .val (.int p1), .val (.int p2), .val (.ref a1), .val (.int ((p0 &&& (2147483647 : Int32)) % (5 : Int32))), .val (.int jp), .val (.int (p2 &&& (255 : Int32))), .val (.ref b18), .val (.ref b55), .val (.ref b116), .val (.ref b217), .val (.int (1 : Int32)), .unset] []))
        refine Go.st (fun _ => XS.goto X237.here hx rfl (pc0 := 416) (pc' := 475) rfl (hb hby at_416) (by decide) (by decide)) ?_
        show Go p.tables e below P (T237.setTop (mkF m 475 #[.val (.int p0), .val (.int p1), .val (.int p2), .val (.ref a1), .val (.int ((p0 &&& (2147483647 : Int32)) % (5 : Int32))), .val (.int jp), .val (.int (p2 &&& (255 : Int32))), .val (.ref b18), .val (.ref b55), .val (.ref b116), .val (.ref b217), .val (.int (1 : Int32)), .unset] []))
        exact J2 T237 T227.heap _ _ _ (X237.more (by decide) (by decide)) e237 K227 O227 N237 hS1 (Nat.le_trans (Nat.le_trans (Nat.le_trans (Nat.le_trans (Nat.le_trans (Nat.le_trans (Nat.le_trans (Nat.le_trans (Nat.le_trans (Nat.le_trans (Nat.le_trans (Nat.le_trans (Nat.le_trans (Nat.le_trans (Nat.le_trans (Nat.le_trans (Nat.le_trans (Nat.le_trans (Nat.le_trans (Nat.le_trans (Nat.le_trans (Nat.le_trans (Nat.le_trans (Nat.le_trans (Nat.le_trans (Nat.le_trans (Nat.le_trans (Nat.le_trans (Nat.le_trans (Nat.le_trans (Nat.le_trans (Nat.le_trans (Nat.le_trans (Nat.le_trans (Nat.le_trans (Nat.le_trans (Nat.le_trans (Nat.le_trans (Nat.le_trans (Nat.le_trans (Nat.le_trans (Nat.le_trans (Nat.le_trans (Nat.le_trans (Nat.le_trans (Nat.le_trans (Nat.le_trans (Nat.le_trans (Nat.le_trans (Nat.le_trans (Nat.le_trans (Nat.le_trans (Nat.le_trans (Nat.le_trans (Nat.le_trans (Nat.le_trans (Nat.le_trans (Nat.le_trans (Nat.le_trans (Nat.le_trans hk1 E18.1) (Keep.of_wr W19).1) (Keep.of_wr W21).1) (Keep.of_wr W23).1) (Keep.of_wr W25).1) (Keep.of_wr W27).1) (Keep.of_wr W29).1) (Keep.of_wr W31).1) (Keep.of_wr W33).1) (Keep.of_wr W35).1) (Keep.of_wr W37).1) (Keep.of_wr W39).1) (Keep.of_wr W41).1) (Keep.of_wr W43).1) (Keep.of_wr W45).1) (Keep.of_wr W47).1) (Keep.of_wr W49).1) (Keep.of_wr W51).1) (Keep.of_wr W53).1) E55.1) (Keep.of_wr W59).1) (Keep.of_wr W62).1) (Keep.of_wr W65).1) (Keep.of_wr W68).1) (Keep.of_wr W71).1) (Keep.of_wr W74).1) (Keep.of_wr W77).1) (Keep.of_wr W80).1) (Keep.of_wr W83).1) (Keep.of_wr W86).1) (Keep.of_wr W89).1) (Keep.of_wr W92).1) (Keep.of_wr W95).1) (Keep.of_wr W98).1) (Keep.of_wr W101).1) (Keep.of_wr W104).1) (Keep.of_wr W107).1) (Keep.of_wr W110).1) (Keep.of_wr W113).1) E116.1) (Keep.of_wr W122).1) (Keep.of_wr W126).1) (Keep.of_wr W130).1) (Keep.of_wr W134).1) (Keep.of_wr W138).1) (Keep.of_wr W142).1) (Keep.of_wr W146).1) (Keep.of_wr W150).1) (Keep.of_wr W154).1) (Keep.of_wr W158).1) (Keep.of_wr W162).1) (Keep.of_wr W166).1) (Keep.of_wr W170).1) (Keep.of_wr W174).1) (Keep.of_wr W178).1) (Keep.of_wr W182).1) (Keep.of_wr W186).1) (Keep.of_wr W212).1) E217.1) K227q.1) hZ1 hown1 CR227  b18 b55 b116 b217 (1 : Int32) (([(117 : Int32), (115 : Int32), (45 : Int32), (102 : Int32), (101 : Int32), (100 : Int32), (101 : Int32), (114 : Int32), (97 : Int32), (108 : Int32), (45 : Int32), (114 : Int32), (101 : Int32), (115 : Int32), (101 : Int32), (114 : Int32), (118 : Int32), (101 : Int32)] : List Int32).set jp.toNatClampNeg (p2 &&& (255 : Int32))) t227 kb227  E227x C227x V227x (own_arvN (by simp) A227x) hp227 (by rw [show (([(117 : Int32), (115 : Int32), (45 : Int32), (102 : Int32), (101 : Int32), (100 : Int32), (101 : Int32), (114 : Int32), (97 : Int32), (108 : Int32), (45 : Int32), (114 : Int32), (101 : Int32), (115 : Int32), (101 : Int32), (114 : Int32), (118 : Int32), (101 : Int32)] : List Int32).set jp.toNatClampNeg (p2 &&& (255 : Int32))).length = 18 from (by simp)]; decide) (Or.inl ⟨rfl, ((own_set_eq (xs := ([(117 : Int32), (115 : Int32), (45 : Int32), (102 : Int32), (101 : Int32), (100 : Int32), (101 : Int32), (114 : Int32), (97 : Int32), (108 : Int32), (45 : Int32), (114 : Int32), (101 : Int32), (115 : Int32), (101 : Int32), (114 : Int32), (118 : Int32), (101 : Int32)] : List Int32)) hjp.2).mpr (by assumption)).symm⟩)
      · skip
        refine Go.st (fun _ => XS.icmpYes X237.here hx rfl (pc0 := 406) (pc' := 413) rfl (hb hby at_406) rfl (feq hc242).2 (by decide) (by decide)) ?_
        show Go p.tables e below P (T237.setTop (mkF m 413 #[.val (.int p0), .val (.int p1), .val (.int p2), .val (.ref a1), .val (.int ((p0 &&& (2147483647 : Int32)) % (5 : Int32))), .val (.int jp), .val (.int (p2 &&& (255 : Int32))), .val (.ref b18), .val (.ref b55), .val (.ref b116), .val (.ref b217), .unset, .unset] []))
        refine Go.st (fun _ => XS.iconst X237.here hx rfl (hb hby at_413)) ?_
        show Go p.tables e below P (T237.setTop (mkF m 414 #[.val (.int p0), .val (.int p1), .val (.int p2), .val (.ref a1), .val (.int ((p0 &&& (2147483647 : Int32)) % (5 : Int32))), .val (.int jp), .val (.int (p2 &&& (255 : Int32))), .val (.ref b18), .val (.ref b55), .val (.ref b116), .val (.ref b217), .unset, .unset] [(.int (0 : Int32))]))
        refine Go.st (fun _ => XS.istore X237.here hx rfl (hb hby at_414) rfl (l' := #[.val (.int p0), .val (.int p1), .val (.int p2), .val (.ref a1), .val (.int ((p0 &&& (2147483647 : Int32)) % (5 : Int32))), .val (.int jp), .val (.int (p2 &&& (255 : Int32))), .val (.ref b18), .val (.ref b55), .val (.ref b116), .val (.ref b217), .val (.int (0 : Int32)), .unset]) rfl) ?_
        show Go p.tables e below P (T237.setTop (mkF m 416 #[.val (.int p0), .val (.int p1), .val (.int p2), .val (.ref a1), .val (.int ((p0 &&& (2147483647 : Int32)) % (5 : Int32))), .val (.int jp), .val (.int (p2 &&& (255 : Int32))), .val (.ref b18), .val (.ref b55), .val (.ref b116), .val (.ref b217), .val (.int (0 : Int32)), .unset] []))
        refine Go.st (fun _ => XS.goto X237.here hx rfl (pc0 := 416) (pc' := 475) rfl (hb hby at_416) (by decide) (by decide)) ?_
        show Go p.tables e below P (T237.setTop (mkF m 475 #[.val (.int p0), .val (.int p1), .val (.int p2), .val (.ref a1), .val (.int ((p0 &&& (2147483647 : Int32)) % (5 : Int32))), .val (.int jp), .val (.int (p2 &&& (255 : Int32))), .val (.ref b18), .val (.ref b55), .val (.ref b116), .val (.ref b217), .val (.int (0 : Int32)), .unset] []))
        exact J2 T237 T227.heap _ _ _ (X237.more (by decide) (by decide)) e237 K227 O227 N237 hS1 (Nat.le_trans (Nat.le_trans (Nat.le_trans (Nat.le_trans (Nat.le_trans (Nat.le_trans (Nat.le_trans (Nat.le_trans (Nat.le_trans (Nat.le_trans (Nat.le_trans (Nat.le_trans (Nat.le_trans (Nat.le_trans (Nat.le_trans (Nat.le_trans (Nat.le_trans (Nat.le_trans (Nat.le_trans (Nat.le_trans (Nat.le_trans (Nat.le_trans (Nat.le_trans (Nat.le_trans (Nat.le_trans (Nat.le_trans (Nat.le_trans (Nat.le_trans (Nat.le_trans (Nat.le_trans (Nat.le_trans (Nat.le_trans (Nat.le_trans (Nat.le_trans (Nat.le_trans (Nat.le_trans (Nat.le_trans (Nat.le_trans (Nat.le_trans (Nat.le_trans (Nat.le_trans (Nat.le_trans (Nat.le_trans (Nat.le_trans (Nat.le_trans (Nat.le_trans (Nat.le_trans (Nat.le_trans (Nat.le_trans (Nat.le_trans (Nat.le_trans (Nat.le_trans (Nat.le_trans (Nat.le_trans (Nat.le_trans (Nat.le_trans (Nat.le_trans (Nat.le_trans (Nat.le_trans (Nat.le_trans hk1 E18.1) (Keep.of_wr W19).1) (Keep.of_wr W21).1) (Keep.of_wr W23).1) (Keep.of_wr W25).1) (Keep.of_wr W27).1) (Keep.of_wr W29).1) (Keep.of_wr W31).1) (Keep.of_wr W33).1) (Keep.of_wr W35).1) (Keep.of_wr W37).1) (Keep.of_wr W39).1) (Keep.of_wr W41).1) (Keep.of_wr W43).1) (Keep.of_wr W45).1) (Keep.of_wr W47).1) (Keep.of_wr W49).1) (Keep.of_wr W51).1) (Keep.of_wr W53).1) E55.1) (Keep.of_wr W59).1) (Keep.of_wr W62).1) (Keep.of_wr W65).1) (Keep.of_wr W68).1) (Keep.of_wr W71).1) (Keep.of_wr W74).1) (Keep.of_wr W77).1) (Keep.of_wr W80).1) (Keep.of_wr W83).1) (Keep.of_wr W86).1) (Keep.of_wr W89).1) (Keep.of_wr W92).1) (Keep.of_wr W95).1) (Keep.of_wr W98).1) (Keep.of_wr W101).1) (Keep.of_wr W104).1) (Keep.of_wr W107).1) (Keep.of_wr W110).1) (Keep.of_wr W113).1) E116.1) (Keep.of_wr W122).1) (Keep.of_wr W126).1) (Keep.of_wr W130).1) (Keep.of_wr W134).1) (Keep.of_wr W138).1) (Keep.of_wr W142).1) (Keep.of_wr W146).1) (Keep.of_wr W150).1) (Keep.of_wr W154).1) (Keep.of_wr W158).1) (Keep.of_wr W162).1) (Keep.of_wr W166).1) (Keep.of_wr W170).1) (Keep.of_wr W174).1) (Keep.of_wr W178).1) (Keep.of_wr W182).1) (Keep.of_wr W186).1) (Keep.of_wr W212).1) E217.1) K227q.1) hZ1 hown1 CR227  b18 b55 b116 b217 (0 : Int32) (([(117 : Int32), (115 : Int32), (45 : Int32), (102 : Int32), (101 : Int32), (100 : Int32), (101 : Int32), (114 : Int32), (97 : Int32), (108 : Int32), (45 : Int32), (114 : Int32), (101 : Int32), (115 : Int32), (101 : Int32), (114 : Int32), (118 : Int32), (101 : Int32)] : List Int32).set jp.toNatClampNeg (p2 &&& (255 : Int32))) t227 kb227  E227x C227x V227x (own_arvN (by simp) A227x) hp227 (by rw [show (([(117 : Int32), (115 : Int32), (45 : Int32), (102 : Int32), (101 : Int32), (100 : Int32), (101 : Int32), (114 : Int32), (97 : Int32), (108 : Int32), (45 : Int32), (114 : Int32), (101 : Int32), (115 : Int32), (101 : Int32), (114 : Int32), (118 : Int32), (101 : Int32)] : List Int32).set jp.toNatClampNeg (p2 &&& (255 : Int32))).length = 18 from (by simp)]; decide) (Or.inr ⟨rfl, fun q => (by assumption : ¬ _) ((own_set_eq (xs := ([(117 : Int32), (115 : Int32), (45 : Int32), (102 : Int32), (101 : Int32), (100 : Int32), (101 : Int32), (114 : Int32), (97 : Int32), (108 : Int32), (45 : Int32), (114 : Int32), (101 : Int32), (115 : Int32), (101 : Int32), (114 : Int32), (118 : Int32), (101 : Int32)] : List Int32)) hjp.2).mp q.symm)⟩)
    · skip
      refine Go.st (fun _ => XS.icmpYes X186.here hx rfl (pc0 := 377) (pc' := 419) rfl (hb hby at_377) rfl (feq hc211).2 (by decide) (by decide)) ?_
      show Go p.tables e below P (T186.setTop (mkF m 419 #[.val (.int p0), .val (.int p1), .val (.int p2), .val (.ref a1), .val (.int ((p0 &&& (2147483647 : Int32)) % (5 : Int32))), .val (.int jp), .val (.int (p2 &&& (255 : Int32))), .val (.ref b18), .val (.ref b55), .val (.ref b116), .unset, .unset, .unset] []))
      refine Go.st (fun _ => XS.iload X186.here hx rfl (hb hby at_419) rfl) ?_
      show Go p.tables e below P (T186.setTop (mkF m 421 #[.val (.int p0), .val (.int p1), .val (.int p2), .val (.ref a1), .val (.int ((p0 &&& (2147483647 : Int32)) % (5 : Int32))), .val (.int jp), .val (.int (p2 &&& (255 : Int32))), .val (.ref b18), .val (.ref b55), .val (.ref b116), .unset, .unset, .unset] [(.int ((p0 &&& (2147483647 : Int32)) % (5 : Int32)))]))
      refine Go.st (fun _ => XS.iconst X186.here hx rfl (hb hby at_421)) ?_
      show Go p.tables e below P (T186.setTop (mkF m 422 #[.val (.int p0), .val (.int p1), .val (.int p2), .val (.ref a1), .val (.int ((p0 &&& (2147483647 : Int32)) % (5 : Int32))), .val (.int jp), .val (.int (p2 &&& (255 : Int32))), .val (.ref b18), .val (.ref b55), .val (.ref b116), .unset, .unset, .unset] [(.int (2 : Int32)), (.int ((p0 &&& (2147483647 : Int32)) % (5 : Int32)))]))
      by_cases hc243 : ((p0 &&& (2147483647 : Int32)) % (5 : Int32)) = (2 : Int32)
      · skip
        refine Go.st (fun _ => XS.icmpNo X186.here hx rfl (hb hby at_422) rfl (teq hc243).2) ?_
        show Go p.tables e below P (T186.setTop (mkF m 425 #[.val (.int p0), .val (.int p1), .val (.int p2), .val (.ref a1), .val (.int ((p0 &&& (2147483647 : Int32)) % (5 : Int32))), .val (.int jp), .val (.int (p2 &&& (255 : Int32))), .val (.ref b18), .val (.ref b55), .val (.ref b116), .unset, .unset, .unset] []))
        refine Go.st (fun _ => XS.iload X186.here hx rfl (hb hby at_425) rfl) ?_
        show Go p.tables e below P (T186.setTop (mkF m 427 #[.val (.int p0), .val (.int p1), .val (.int p2), .val (.ref a1), .val (.int ((p0 &&& (2147483647 : Int32)) % (5 : Int32))), .val (.int jp), .val (.int (p2 &&& (255 : Int32))), .val (.ref b18), .val (.ref b55), .val (.ref b116), .unset, .unset, .unset] [(.int (p2 &&& (255 : Int32)))]))
        have c245 := ((((((((((((((((((c117.ext E116).wr W122).wr W126).wr W130).wr W134).wr W138).wr W142).wr W146).wr W150).wr W154).wr W158).wr W162).wr W166).wr W170).wr W174).wr W178).wr W182).wr W186)
        have c246 := ((((((((((((((((((c118.ext E116).other W122 (Nat.ne_of_lt (Nat.lt_of_lt_of_le c118.lt (Nat.le_of_eq g116.symm)))).other W126 (Nat.ne_of_lt (Nat.lt_of_lt_of_le c118.lt (Nat.le_of_eq g116.symm)))).other W130 (Nat.ne_of_lt (Nat.lt_of_lt_of_le c118.lt (Nat.le_of_eq g116.symm)))).other W134 (Nat.ne_of_lt (Nat.lt_of_lt_of_le c118.lt (Nat.le_of_eq g116.symm)))).other W138 (Nat.ne_of_lt (Nat.lt_of_lt_of_le c118.lt (Nat.le_of_eq g116.symm)))).other W142 (Nat.ne_of_lt (Nat.lt_of_lt_of_le c118.lt (Nat.le_of_eq g116.symm)))).other W146 (Nat.ne_of_lt (Nat.lt_of_lt_of_le c118.lt (Nat.le_of_eq g116.symm)))).other W150 (Nat.ne_of_lt (Nat.lt_of_lt_of_le c118.lt (Nat.le_of_eq g116.symm)))).other W154 (Nat.ne_of_lt (Nat.lt_of_lt_of_le c118.lt (Nat.le_of_eq g116.symm)))).other W158 (Nat.ne_of_lt (Nat.lt_of_lt_of_le c118.lt (Nat.le_of_eq g116.symm)))).other W162 (Nat.ne_of_lt (Nat.lt_of_lt_of_le c118.lt (Nat.le_of_eq g116.symm)))).other W166 (Nat.ne_of_lt (Nat.lt_of_lt_of_le c118.lt (Nat.le_of_eq g116.symm)))).other W170 (Nat.ne_of_lt (Nat.lt_of_lt_of_le c118.lt (Nat.le_of_eq g116.symm)))).other W174 (Nat.ne_of_lt (Nat.lt_of_lt_of_le c118.lt (Nat.le_of_eq g116.symm)))).other W178 (Nat.ne_of_lt (Nat.lt_of_lt_of_le c118.lt (Nat.le_of_eq g116.symm)))).other W182 (Nat.ne_of_lt (Nat.lt_of_lt_of_le c118.lt (Nat.le_of_eq g116.symm)))).other W186 (Nat.ne_of_lt (Nat.lt_of_lt_of_le c118.lt (Nat.le_of_eq g116.symm))))
        have c247 := ((((((((((((((((((c119.ext E116).other W122 (Nat.ne_of_lt (Nat.lt_of_lt_of_le c119.lt (Nat.le_of_eq g116.symm)))).other W126 (Nat.ne_of_lt (Nat.lt_of_lt_of_le c119.lt (Nat.le_of_eq g116.symm)))).other W130 (Nat.ne_of_lt (Nat.lt_of_lt_of_le c119.lt (Nat.le_of_eq g116.symm)))).other W134 (Nat.ne_of_lt (Nat.lt_of_lt_of_le c119.lt (Nat.le_of_eq g116.symm)))).other W138 (Nat.ne_of_lt (Nat.lt_of_lt_of_le c119.lt (Nat.le_of_eq g116.symm)))).other W142 (Nat.ne_of_lt (Nat.lt_of_lt_of_le c119.lt (Nat.le_of_eq g116.symm)))).other W146 (Nat.ne_of_lt (Nat.lt_of_lt_of_le c119.lt (Nat.le_of_eq g116.symm)))).other W150 (Nat.ne_of_lt (Nat.lt_of_lt_of_le c119.lt (Nat.le_of_eq g116.symm)))).other W154 (Nat.ne_of_lt (Nat.lt_of_lt_of_le c119.lt (Nat.le_of_eq g116.symm)))).other W158 (Nat.ne_of_lt (Nat.lt_of_lt_of_le c119.lt (Nat.le_of_eq g116.symm)))).other W162 (Nat.ne_of_lt (Nat.lt_of_lt_of_le c119.lt (Nat.le_of_eq g116.symm)))).other W166 (Nat.ne_of_lt (Nat.lt_of_lt_of_le c119.lt (Nat.le_of_eq g116.symm)))).other W170 (Nat.ne_of_lt (Nat.lt_of_lt_of_le c119.lt (Nat.le_of_eq g116.symm)))).other W174 (Nat.ne_of_lt (Nat.lt_of_lt_of_le c119.lt (Nat.le_of_eq g116.symm)))).other W178 (Nat.ne_of_lt (Nat.lt_of_lt_of_le c119.lt (Nat.le_of_eq g116.symm)))).other W182 (Nat.ne_of_lt (Nat.lt_of_lt_of_le c119.lt (Nat.le_of_eq g116.symm)))).other W186 (Nat.ne_of_lt (Nat.lt_of_lt_of_le c119.lt (Nat.le_of_eq g116.symm))))
        have c248 := ((((((((((((((((((V113'.ext E116).other W122 (Nat.ne_of_lt (Nat.lt_of_lt_of_le V113'.lt (Nat.le_of_eq g116.symm)))).other W126 (Nat.ne_of_lt (Nat.lt_of_lt_of_le V113'.lt (Nat.le_of_eq g116.symm)))).other W130 (Nat.ne_of_lt (Nat.lt_of_lt_of_le V113'.lt (Nat.le_of_eq g116.symm)))).other W134 (Nat.ne_of_lt (Nat.lt_of_lt_of_le V113'.lt (Nat.le_of_eq g116.symm)))).other W138 (Nat.ne_of_lt (Nat.lt_of_lt_of_le V113'.lt (Nat.le_of_eq g116.symm)))).other W142 (Nat.ne_of_lt (Nat.lt_of_lt_of_le V113'.lt (Nat.le_of_eq g116.symm)))).other W146 (Nat.ne_of_lt (Nat.lt_of_lt_of_le V113'.lt (Nat.le_of_eq g116.symm)))).other W150 (Nat.ne_of_lt (Nat.lt_of_lt_of_le V113'.lt (Nat.le_of_eq g116.symm)))).other W154 (Nat.ne_of_lt (Nat.lt_of_lt_of_le V113'.lt (Nat.le_of_eq g116.symm)))).other W158 (Nat.ne_of_lt (Nat.lt_of_lt_of_le V113'.lt (Nat.le_of_eq g116.symm)))).other W162 (Nat.ne_of_lt (Nat.lt_of_lt_of_le V113'.lt (Nat.le_of_eq g116.symm)))).other W166 (Nat.ne_of_lt (Nat.lt_of_lt_of_le V113'.lt (Nat.le_of_eq g116.symm)))).other W170 (Nat.ne_of_lt (Nat.lt_of_lt_of_le V113'.lt (Nat.le_of_eq g116.symm)))).other W174 (Nat.ne_of_lt (Nat.lt_of_lt_of_le V113'.lt (Nat.le_of_eq g116.symm)))).other W178 (Nat.ne_of_lt (Nat.lt_of_lt_of_le V113'.lt (Nat.le_of_eq g116.symm)))).other W182 (Nat.ne_of_lt (Nat.lt_of_lt_of_le V113'.lt (Nat.le_of_eq g116.symm)))).other W186 (Nat.ne_of_lt (Nat.lt_of_lt_of_le V113'.lt (Nat.le_of_eq g116.symm))))
        obtain ⟨_, _, ⟨T244, L244, k244, n244⟩, -, X244, ⟨Lc244, hQ244, l244, y244, z244⟩, st244⟩ := Jvm.LawKit.callS X186 hx (y := (⟨"java/lang/String", "valueOf", "(C)Ljava/lang/String;"⟩ : MethodName)) hown1 (mvT hZ1 (ow hw 127 rfl)) (mvT hZ1 (ow hw 128 rfl)) (mvT hZ1 (ow hw 1 rfl)) (mvT hZ1 (ow hw 129 rfl)) (by decide) (backOf (W := 0) (rm_valOf l Z a0 hw [] w_US X_US w_V k_V S_V X_V V_V S_UF w_ID F_ID X_ID I_ID_coder w_IB k_IB F_IB V_IB w_OE S_OE X_OE I_OE_value g_CS S_CS nz_CS g_SF S_SF r_SF (p2 &&& (255 : Int32)) h186 n0 O186 (own_and255 _)) hZ1 (ow hw 129 rfl) (ow hw 1 rfl) (by decide) (by decide)) (g := (mkF m 427 #[.val (.int p0), .val (.int p1), .val (.int p2), .val (.ref a1), .val (.int ((p0 &&& (2147483647 : Int32)) % (5 : Int32))), .val (.int jp), .val (.int (p2 &&& (255 : Int32))), .val (.ref b18), .val (.ref b55), .val (.ref b116), .unset, .unset, .unset] [(.int (p2 &&& (255 : Int32)))])) rfl (by rw [hml]; rfl) (argsL := [(.int (p2 &&& (255 : Int32)))]) (rest := []) (lenOf own_pd15 rfl) rfl (by show 2 * 0 + _ ≤ _; exact Nat.le_of_eq rfl) (hb hby at_427) (fun _ _ => ⟨rfl, e186, (by decide : 5 + 2 ≤ _), (by decide : 130 + 5 ≤ _)⟩)
        dsimp only [Pt.U, Pt.locs, Pt.cells, Pt.slots] at X244 l244 y244 z244 st244 hQ244
        subst y244 z244
        refine Go.st st244 ?_
        obtain ⟨ob_249, vb_250, kb_251, rfl, N244q, K244q, q244_0, q244_1, q244_2, q244_3, q244_4, q244_5⟩ := hQ244
        have N244 : Fr n0 L244 := by rw [l244]; exact Fr.app N186 N244q
        have O244 := O186.keep K244q all0
        have K244 : Keep h0 T244.heap [] := K186.trans K244q all0
        have sf252 := Safe.keep K244q sf0 CR186.1 sf187
        have sf253 := Safe.keep K244q sf0 CR186.1 sf188
        have sf254 := Safe.keep K244q sf0 CR186.1 sf189
        have CR244 := CR186.trans (CHr.keep K244q sf0 CR186.1)
        have sz_ob_249 : h0.size ≤ ob_249 := Nat.le_trans K186.1 q244_0
        have g_ob_249 : n0 ≤ ob_249 := Nat.le_trans (own_oldsz X00) sz_ob_249
        have sz_vb_250 : h0.size ≤ vb_250 := Nat.le_trans K186.1 q244_1
        have g_vb_250 : n0 ≤ vb_250 := Nat.le_trans (own_oldsz X00) sz_vb_250
        show Go p.tables e below P (T244.setTop (mkF m 430 #[.val (.int p0), .val (.int p1), .val (.int p2), .val (.ref a1), .val (.int ((p0 &&& (2147483647 : Int32)) % (5 : Int32))), .val (.int jp), .val (.int (p2 &&& (255 : Int32))), .val (.ref b18), .val (.ref b55), .val (.ref b116), .unset, .unset, .unset] [(.ref ob_249)]))
        refine Go.st (fun _ => XS.astore X244.here hx rfl (hb hby at_430) rfl rfl (l' := #[.val (.int p0), .val (.int p1), .val (.int p2), .val (.ref a1), .val (.int ((p0 &&& (2147483647 : Int32)) % (5 : Int32))), .val (.int jp), .val (.int (p2 &&& (255 : Int32))), .val (.ref b18), .val (.ref b55), .val (.ref b116), .val (.ref ob_249), .unset, .unset]) rfl) ?_
        show Go p.tables e below P (T244.setTop (mkF m 432 #[.val (.int p0), .val (.int p1), .val (.int p2), .val (.ref a1), .val (.int ((p0 &&& (2147483647 : Int32)) % (5 : Int32))), .val (.int jp), .val (.int (p2 &&& (255 : Int32))), .val (.ref b18), .val (.ref b55), .val (.ref b116), .val (.ref ob_249), .unset, .unset] []))
        refine Go.st (fun _ => XS.iconst X244.here hx rfl (hb hby at_432)) ?_
        show Go p.tables e below P (T244.setTop (mkF m 433 #[.val (.int p0), .val (.int p1), .val (.int p2), .val (.ref a1), .val (.int ((p0 &&& (2147483647 : Int32)) % (5 : Int32))), .val (.int jp), .val (.int (p2 &&& (255 : Int32))), .val (.ref b18), .val (.ref b55), .val (.ref b116), .val (.ref ob_249), .unset, .unset] [(.int (0 : Int32))]))
        refine Go.st (fun _ => XS.istore X244.here hx rfl (hb hby at_433) rfl (l' := #[.val (.int p0), .val (.int p1), .val (.int p2), .val (.ref a1), .val (.int ((p0 &&& (2147483647 : Int32)) % (5 : Int32))), .val (.int jp), .val (.int (p2 &&& (255 : Int32))), .val (.ref b18), .val (.ref b55), .val (.ref b116), .val (.ref ob_249), .val (.int (0 : Int32)), .unset]) rfl) ?_
        show Go p.tables e below P (T244.setTop (mkF m 435 #[.val (.int p0), .val (.int p1), .val (.int p2), .val (.ref a1), .val (.int ((p0 &&& (2147483647 : Int32)) % (5 : Int32))), .val (.int jp), .val (.int (p2 &&& (255 : Int32))), .val (.ref b18), .val (.ref b55), .val (.ref b116), .val (.ref ob_249), .val (.int (0 : Int32)), .unset] []))
        refine Go.st (fun _ => XS.goto X244.here hx rfl (pc0 := 435) (pc' := 475) rfl (hb hby at_435) (by decide) (by decide)) ?_
        show Go p.tables e below P (T244.setTop (mkF m 475 #[.val (.int p0), .val (.int p1), .val (.int p2), .val (.ref a1), .val (.int ((p0 &&& (2147483647 : Int32)) % (5 : Int32))), .val (.int jp), .val (.int (p2 &&& (255 : Int32))), .val (.ref b18), .val (.ref b55), .val (.ref b116), .val (.ref ob_249), .val (.int (0 : Int32)), .unset] []))
        exact J2 T244 T244.heap _ _ _ (X244.more (by decide) (by decide)) rfl K244 O244 N244 hS1 (Nat.le_trans (Nat.le_trans (Nat.le_trans (Nat.le_trans (Nat.le_trans (Nat.le_trans (Nat.le_trans (Nat.le_trans (Nat.le_trans (Nat.le_trans (Nat.le_trans (Nat.le_trans (Nat.le_trans (Nat.le_trans (Nat.le_trans (Nat.le_trans (Nat.le_trans (Nat.le_trans (Nat.le_trans (Nat.le_trans (Nat.le_trans (Nat.le_trans (Nat.le_trans (Nat.le_trans (Nat.le_trans (Nat.le_trans (Nat.le_trans (Nat.le_trans (Nat.le_trans (Nat.le_trans (Nat.le_trans (Nat.le_trans (Nat.le_trans (Nat.le_trans (Nat.le_trans (Nat.le_trans (Nat.le_trans (Nat.le_trans (Nat.le_trans (Nat.le_trans (Nat.le_trans (Nat.le_trans (Nat.le_trans (Nat.le_trans (Nat.le_trans (Nat.le_trans (Nat.le_trans (Nat.le_trans (Nat.le_trans (Nat.le_trans (Nat.le_trans (Nat.le_trans (Nat.le_trans (Nat.le_trans (Nat.le_trans (Nat.le_trans (Nat.le_trans (Nat.le_trans hk1 E18.1) (Keep.of_wr W19).1) (Keep.of_wr W21).1) (Keep.of_wr W23).1) (Keep.of_wr W25).1) (Keep.of_wr W27).1) (Keep.of_wr W29).1) (Keep.of_wr W31).1) (Keep.of_wr W33).1) (Keep.of_wr W35).1) (Keep.of_wr W37).1) (Keep.of_wr W39).1) (Keep.of_wr W41).1) (Keep.of_wr W43).1) (Keep.of_wr W45).1) (Keep.of_wr W47).1) (Keep.of_wr W49).1) (Keep.of_wr W51).1) (Keep.of_wr W53).1) E55.1) (Keep.of_wr W59).1) (Keep.of_wr W62).1) (Keep.of_wr W65).1) (Keep.of_wr W68).1) (Keep.of_wr W71).1) (Keep.of_wr W74).1) (Keep.of_wr W77).1) (Keep.of_wr W80).1) (Keep.of_wr W83).1) (Keep.of_wr W86).1) (Keep.of_wr W89).1) (Keep.of_wr W92).1) (Keep.of_wr W95).1) (Keep.of_wr W98).1) (Keep.of_wr W101).1) (Keep.of_wr W104).1) (Keep.of_wr W107).1) (Keep.of_wr W110).1) (Keep.of_wr W113).1) E116.1) (Keep.of_wr W122).1) (Keep.of_wr W126).1) (Keep.of_wr W130).1) (Keep.of_wr W134).1) (Keep.of_wr W138).1) (Keep.of_wr W142).1) (Keep.of_wr W146).1) (Keep.of_wr W150).1) (Keep.of_wr W154).1) (Keep.of_wr W158).1) (Keep.of_wr W162).1) (Keep.of_wr W166).1) (Keep.of_wr W170).1) (Keep.of_wr W174).1) (Keep.of_wr W178).1) (Keep.of_wr W182).1) (Keep.of_wr W186).1) K244q.1) hZ1 hown1 CR244  b18 b55 b116 ob_249 (0 : Int32) ([(p2 &&& (255 : Int32))] : List Int32) vb_250 kb_251  q244_2 q244_3 q244_4 (own_arvN rfl q244_5) (own_one (own_and255 _)) (Nat.le_of_ble_eq_true rfl) (Or.inr ⟨rfl, fun q => absurd (congrArg List.length q) (by simp)⟩)
      · skip
        refine Go.st (fun _ => XS.icmpYes X186.here hx rfl (pc0 := 422) (pc' := 438) rfl (hb hby at_422) rfl (feq hc243).2 (by decide) (by decide)) ?_
        show Go p.tables e below P (T186.setTop (mkF m 438 #[.val (.int p0), .val (.int p1), .val (.int p2), .val (.ref a1), .val (.int ((p0 &&& (2147483647 : Int32)) % (5 : Int32))), .val (.int jp), .val (.int (p2 &&& (255 : Int32))), .val (.ref b18), .val (.ref b55), .val (.ref b116), .unset, .unset, .unset] []))
        refine Go.st (fun _ => XS.iload X186.here hx rfl (hb hby at_438) rfl) ?_
        show Go p.tables e below P (T186.setTop (mkF m 440 #[.val (.int p0), .val (.int p1), .val (.int p2), .val (.ref a1), .val (.int ((p0 &&& (2147483647 : Int32)) % (5 : Int32))), .val (.int jp), .val (.int (p2 &&& (255 : Int32))), .val (.ref b18), .val (.ref b55), .val (.ref b116), .unset, .unset, .unset] [(.int ((p0 &&& (2147483647 : Int32)) % (5 : Int32)))]))
        refine Go.st (fun _ => XS.iconst X186.here hx rfl (hb hby at_440)) ?_
        show Go p.tables e below P (T186.setTop (mkF m 441 #[.val (.int p0), .val (.int p1), .val (.int p2), .val (.ref a1), .val (.int ((p0 &&& (2147483647 : Int32)) % (5 : Int32))), .val (.int jp), .val (.int (p2 &&& (255 : Int32))), .val (.ref b18), .val (.ref b55), .val (.ref b116), .unset, .unset, .unset] [(.int (3 : Int32)), (.int ((p0 &&& (2147483647 : Int32)) % (5 : Int32)))]))
        by_cases hc255 : ((p0 &&& (2147483647 : Int32)) % (5 : Int32)) = (3 : Int32)
        · skip
          refine Go.st (fun _ => XS.icmpNo X186.here hx rfl (hb hby at_441) rfl (teq hc255).2) ?_
          show Go p.tables e below P (T186.setTop (mkF m 444 #[.val (.int p0), .val (.int p1), .val (.int p2), .val (.ref a1), .val (.int ((p0 &&& (2147483647 : Int32)) % (5 : Int32))), .val (.int jp), .val (.int (p2 &&& (255 : Int32))), .val (.ref b18), .val (.ref b55), .val (.ref b116), .unset, .unset, .unset] []))
          have c257 := ((((((((((((((((((c117.ext E116).wr W122).wr W126).wr W130).wr W134).wr W138).wr W142).wr W146).wr W150).wr W154).wr W158).wr W162).wr W166).wr W170).wr W174).wr W178).wr W182).wr W186)
          have c258 := ((((((((((((((((((c118.ext E116).other W122 (Nat.ne_of_lt (Nat.lt_of_lt_of_le c118.lt (Nat.le_of_eq g116.symm)))).other W126 (Nat.ne_of_lt (Nat.lt_of_lt_of_le c118.lt (Nat.le_of_eq g116.symm)))).other W130 (Nat.ne_of_lt (Nat.lt_of_lt_of_le c118.lt (Nat.le_of_eq g116.symm)))).other W134 (Nat.ne_of_lt (Nat.lt_of_lt_of_le c118.lt (Nat.le_of_eq g116.symm)))).other W138 (Nat.ne_of_lt (Nat.lt_of_lt_of_le c118.lt (Nat.le_of_eq g116.symm)))).other W142 (Nat.ne_of_lt (Nat.lt_of_lt_of_le c118.lt (Nat.le_of_eq g116.symm)))).other W146 (Nat.ne_of_lt (Nat.lt_of_lt_of_le c118.lt (Nat.le_of_eq g116.symm)))).other W150 (Nat.ne_of_lt (Nat.lt_of_lt_of_le c118.lt (Nat.le_of_eq g116.symm)))).other W154 (Nat.ne_of_lt (Nat.lt_of_lt_of_le c118.lt (Nat.le_of_eq g116.symm)))).other W158 (Nat.ne_of_lt (Nat.lt_of_lt_of_le c118.lt (Nat.le_of_eq g116.symm)))).other W162 (Nat.ne_of_lt (Nat.lt_of_lt_of_le c118.lt (Nat.le_of_eq g116.symm)))).other W166 (Nat.ne_of_lt (Nat.lt_of_lt_of_le c118.lt (Nat.le_of_eq g116.symm)))).other W170 (Nat.ne_of_lt (Nat.lt_of_lt_of_le c118.lt (Nat.le_of_eq g116.symm)))).other W174 (Nat.ne_of_lt (Nat.lt_of_lt_of_le c118.lt (Nat.le_of_eq g116.symm)))).other W178 (Nat.ne_of_lt (Nat.lt_of_lt_of_le c118.lt (Nat.le_of_eq g116.symm)))).other W182 (Nat.ne_of_lt (Nat.lt_of_lt_of_le c118.lt (Nat.le_of_eq g116.symm)))).other W186 (Nat.ne_of_lt (Nat.lt_of_lt_of_le c118.lt (Nat.le_of_eq g116.symm))))
          have c259 := ((((((((((((((((((c119.ext E116).other W122 (Nat.ne_of_lt (Nat.lt_of_lt_of_le c119.lt (Nat.le_of_eq g116.symm)))).other W126 (Nat.ne_of_lt (Nat.lt_of_lt_of_le c119.lt (Nat.le_of_eq g116.symm)))).other W130 (Nat.ne_of_lt (Nat.lt_of_lt_of_le c119.lt (Nat.le_of_eq g116.symm)))).other W134 (Nat.ne_of_lt (Nat.lt_of_lt_of_le c119.lt (Nat.le_of_eq g116.symm)))).other W138 (Nat.ne_of_lt (Nat.lt_of_lt_of_le c119.lt (Nat.le_of_eq g116.symm)))).other W142 (Nat.ne_of_lt (Nat.lt_of_lt_of_le c119.lt (Nat.le_of_eq g116.symm)))).other W146 (Nat.ne_of_lt (Nat.lt_of_lt_of_le c119.lt (Nat.le_of_eq g116.symm)))).other W150 (Nat.ne_of_lt (Nat.lt_of_lt_of_le c119.lt (Nat.le_of_eq g116.symm)))).other W154 (Nat.ne_of_lt (Nat.lt_of_lt_of_le c119.lt (Nat.le_of_eq g116.symm)))).other W158 (Nat.ne_of_lt (Nat.lt_of_lt_of_le c119.lt (Nat.le_of_eq g116.symm)))).other W162 (Nat.ne_of_lt (Nat.lt_of_lt_of_le c119.lt (Nat.le_of_eq g116.symm)))).other W166 (Nat.ne_of_lt (Nat.lt_of_lt_of_le c119.lt (Nat.le_of_eq g116.symm)))).other W170 (Nat.ne_of_lt (Nat.lt_of_lt_of_le c119.lt (Nat.le_of_eq g116.symm)))).other W174 (Nat.ne_of_lt (Nat.lt_of_lt_of_le c119.lt (Nat.le_of_eq g116.symm)))).other W178 (Nat.ne_of_lt (Nat.lt_of_lt_of_le c119.lt (Nat.le_of_eq g116.symm)))).other W182 (Nat.ne_of_lt (Nat.lt_of_lt_of_le c119.lt (Nat.le_of_eq g116.symm)))).other W186 (Nat.ne_of_lt (Nat.lt_of_lt_of_le c119.lt (Nat.le_of_eq g116.symm))))
          have c260 := ((((((((((((((((((V113'.ext E116).other W122 (Nat.ne_of_lt (Nat.lt_of_lt_of_le V113'.lt (Nat.le_of_eq g116.symm)))).other W126 (Nat.ne_of_lt (Nat.lt_of_lt_of_le V113'.lt (Nat.le_of_eq g116.symm)))).other W130 (Nat.ne_of_lt (Nat.lt_of_lt_of_le V113'.lt (Nat.le_of_eq g116.symm)))).other W134 (Nat.ne_of_lt (Nat.lt_of_lt_of_le V113'.lt (Nat.le_of_eq g116.symm)))).other W138 (Nat.ne_of_lt (Nat.lt_of_lt_of_le V113'.lt (Nat.le_of_eq g116.symm)))).other W142 (Nat.ne_of_lt (Nat.lt_of_lt_of_le V113'.lt (Nat.le_of_eq g116.symm)))).other W146 (Nat.ne_of_lt (Nat.lt_of_lt_of_le V113'.lt (Nat.le_of_eq g116.symm)))).other W150 (Nat.ne_of_lt (Nat.lt_of_lt_of_le V113'.lt (Nat.le_of_eq g116.symm)))).other W154 (Nat.ne_of_lt (Nat.lt_of_lt_of_le V113'.lt (Nat.le_of_eq g116.symm)))).other W158 (Nat.ne_of_lt (Nat.lt_of_lt_of_le V113'.lt (Nat.le_of_eq g116.symm)))).other W162 (Nat.ne_of_lt (Nat.lt_of_lt_of_le V113'.lt (Nat.le_of_eq g116.symm)))).other W166 (Nat.ne_of_lt (Nat.lt_of_lt_of_le V113'.lt (Nat.le_of_eq g116.symm)))).other W170 (Nat.ne_of_lt (Nat.lt_of_lt_of_le V113'.lt (Nat.le_of_eq g116.symm)))).other W174 (Nat.ne_of_lt (Nat.lt_of_lt_of_le V113'.lt (Nat.le_of_eq g116.symm)))).other W178 (Nat.ne_of_lt (Nat.lt_of_lt_of_le V113'.lt (Nat.le_of_eq g116.symm)))).other W182 (Nat.ne_of_lt (Nat.lt_of_lt_of_le V113'.lt (Nat.le_of_eq g116.symm)))).other W186 (Nat.ne_of_lt (Nat.lt_of_lt_of_le V113'.lt (Nat.le_of_eq g116.symm))))
          obtain ⟨T256, h256, X256, e256, E256, A256, D256, -, st256⟩ := newO X186 hx hZ1 hown1 (ow hw 10 rfl) (ow hw 2 rfl) (ow hw 1 rfl) e186 (g := (mkF m 444 #[.val (.int p0), .val (.int p1), .val (.int p2), .val (.ref a1), .val (.int ((p0 &&& (2147483647 : Int32)) % (5 : Int32))), .val (.int jp), .val (.int (p2 &&& (255 : Int32))), .val (.ref b18), .val (.ref b55), .val (.ref b116), .unset, .unset, .unset] [])) rfl (hb hby at_444) (by decide) (by decide)
          obtain ⟨b256, g256⟩ : ∃ z, z = h186.size := ⟨_, rfl⟩
          rw [← g256] at A256 D256 st256
          refine Go.st st256 ?_
          have g_b256 : n0 ≤ b256 := Nat.le_trans (own_oldsz O186) (Nat.le_of_eq g256.symm)
          have sz_b256 : h0.size ≤ b256 := Nat.le_trans K186.1 (Nat.le_of_eq g256.symm)
          have K256 : Keep h0 h256 [] := K186.ext E256
          have O256 := O186.ext E256
          have sf261 := Safe.ext E256 CR186.1 sf187
          have sf262 := Safe.ext E256 CR186.1 sf188
          have sf263 := Safe.ext E256 CR186.1 sf189
          have SF_b256 : Safe Z consts_1 T1.vm h256 b256 := Safe.ext E256 CR186.1 (Safe.new (Nat.le_of_eq g256.symm))
          have CR256 := CR186.trans (CHr.ext E256 CR186.1)
          have F264 : Fld Z h256 b256 "java/lang/String" "value" "[B" .null := D256 (Or.inr (ow hw 4 rfl)) (ty := (.array .byte)) (by decide)
          have F265 : Fld Z h256 b256 "java/lang/String" "coder" "B" (.int (0 : Int32)) := D256 (Or.inr (ow hw 5 rfl)) (ty := .byte) (by decide)
          show Go p.tables e below P (T256.setTop (mkF m 447 #[.val (.int p0), .val (.int p1), .val (.int p2), .val (.ref a1), .val (.int ((p0 &&& (2147483647 : Int32)) % (5 : Int32))), .val (.int jp), .val (.int (p2 &&& (255 : Int32))), .val (.ref b18), .val (.ref b55), .val (.ref b116), .unset, .unset, .unset] [(.ref b256)]))
          refine Go.st (fun _ => XS.dup X256.here hx rfl (hb hby at_447) rfl rfl) ?_
          show Go p.tables e below P (T256.setTop (mkF m 448 #[.val (.int p0), .val (.int p1), .val (.int p2), .val (.ref a1), .val (.int ((p0 &&& (2147483647 : Int32)) % (5 : Int32))), .val (.int jp), .val (.int (p2 &&& (255 : Int32))), .val (.ref b18), .val (.ref b55), .val (.ref b116), .unset, .unset, .unset] [(.ref b256), (.ref b256)]))
          refine Go.st (fun _ => XS.aload X256.here hx rfl (hb hby at_448) rfl rfl) ?_
          show Go p.tables e below P (T256.setTop (mkF m 450 #[.val (.int p0), .val (.int p1), .val (.int p2), .val (.ref a1), .val (.int ((p0 &&& (2147483647 : Int32)) % (5 : Int32))), .val (.int jp), .val (.int (p2 &&& (255 : Int32))), .val (.ref b18), .val (.ref b55), .val (.ref b116), .unset, .unset, .unset] [(.ref b55), (.ref b256), (.ref b256)]))
          have c267 := (c260.ext E256)
          have hp266 : ∀ c ∈ ([(117 : Int32), (115 : Int32), (45 : Int32), (102 : Int32), (101 : Int32), (100 : Int32), (101 : Int32), (114 : Int32), (97 : Int32), (108 : Int32), (45 : Int32), (114 : Int32), (101 : Int32), (115 : Int32), (101 : Int32), (114 : Int32), (118 : Int32), (101 : Int32), (p2 &&& (255 : Int32))] : List Int32), ¬ c < 0 ∧ ¬ (255 : Int32) < c := by
            intro c hc
            simp only [List.mem_cons, List.not_mem_nil, or_false] at hc
            rcases hc with rfl | rfl | rfl | rfl | rfl | rfl | rfl | rfl | rfl | rfl | rfl | rfl | rfl | rfl | rfl | rfl | rfl | rfl | rfl
            · decide
            · decide
            · decide
            · decide
            · decide
            · decide
            · decide
            · decide
            · decide
            · decide
            · decide
            · decide
            · decide
            · decide
            · decide
            · decide
            · decide
            · decide
            · exact own_and255 _
          have c268 := (c257.ext E256)
          have c269 := (c258.ext E256)
          have c270 := (c259.ext E256)
          have c271 := (V186'.ext E256)
          obtain ⟨_, _, ⟨T266, L266, k266, n266⟩, -, X266, ⟨Lc266, hQ266, l266, y266, z266⟩, st266⟩ := X256.specialBack hx (y := (⟨"java/lang/String", "<init>", "([C)V"⟩ : MethodName)) rfl hown1 (mvT hZ1 (ow hw 11 rfl)) (mvT hZ1 (ow hw 12 rfl)) (mvT hZ1 (ow hw 13 rfl)) (by decide) (StrChars.Road.backV (W := 1) hZ1 (fun d hd => hw d (own_wNew d hd)) (kI := 4) (ow hw 2 rfl) (cs := ([(117 : Int32), (115 : Int32), (45 : Int32), (102 : Int32), (101 : Int32), (100 : Int32), (101 : Int32), (114 : Int32), (97 : Int32), (108 : Int32), (45 : Int32), (114 : Int32), (101 : Int32), (115 : Int32), (101 : Int32), (114 : Int32), (118 : Int32), (101 : Int32), (p2 &&& (255 : Int32))] : List Int32)) (bs := (([(117 : Int32), (115 : Int32), (45 : Int32), (102 : Int32), (101 : Int32), (100 : Int32), (101 : Int32), (114 : Int32), (97 : Int32), (108 : Int32), (45 : Int32), (114 : Int32), (101 : Int32), (115 : Int32), (101 : Int32), (114 : Int32), (118 : Int32), (101 : Int32), (p2 &&& (255 : Int32))] : List Int32)).map (fun c => c.toInt8.toInt32)) (n := 19) g_b256 (own_oldsz O256) A256 F264 F265 c267 (S_CS.ext O256.2) nz_CS rfl rfl (by decide) (by decide) hp266 rfl (by decide) (by decide)) (g := (mkF m 450 #[.val (.int p0), .val (.int p1), .val (.int p2), .val (.ref a1), .val (.int ((p0 &&& (2147483647 : Int32)) % (5 : Int32))), .val (.int jp), .val (.int (p2 &&& (255 : Int32))), .val (.ref b18), .val (.ref b55), .val (.ref b116), .unset, .unset, .unset] [(.ref b55), (.ref b256), (.ref b256)])) rfl (by rw [hml]; rfl) (Steps.refl _) (a := b256) (argsL := [(.ref b55)]) (rest := [(.ref b256)]) (lenOf own_pd13 rfl) rfl (by show 2 * 0 + _ ≤ _; exact Nat.le_of_eq rfl) (hb hby at_450) (fun _ _ => ⟨rfl, e256, (by decide : 6 + 1 ≤ _), (by decide : 134 + 19 ≤ _)⟩)
          dsimp only [Pt.U, Pt.locs, Pt.cells, Pt.slots] at X266 l266 y266 z266 st266 hQ266
          subst y266 z266
          refine Go.tr st266 ?_
          obtain ⟨rfl, N266q, K266q, E266x, C266x, t266, kb266, gt266, szt266, net266, V266x, A266x⟩ := hQ266
          have N266 : Fr n0 L266 := by rw [l266]; exact Fr.app N186 N266q
          have O266 := O256.keep K266q (allS g_b256 all0)
          have K266 : Keep h0 T266.heap [] := K256.trans K266q (allS (Or.inr sz_b256) all0)
          have sf272 := Safe.keep K266q (sfS SF_b256 sf0) CR256.1 sf261
          have sf273 := Safe.keep K266q (sfS SF_b256 sf0) CR256.1 sf262
          have sf274 := Safe.keep K266q (sfS SF_b256 sf0) CR256.1 sf263
          have sf275 := Safe.keep K266q (sfS SF_b256 sf0) CR256.1 SF_b256
          have CR266 := CR256.trans (CHr.keep K266q (sfS SF_b256 sf0) CR256.1)
          have sz_t266 : h0.size ≤ t266 := Nat.le_trans K256.1 szt266
          show Go p.tables e below P (T266.setTop (mkF m 453 #[.val (.int p0), .val (.int p1), .val (.int p2), .val (.ref a1), .val (.int ((p0 &&& (2147483647 : Int32)) % (5 : Int32))), .val (.int jp), .val (.int (p2 &&& (255 : Int32))), .val (.ref b18), .val (.ref b55), .val (.ref b116), .unset, .unset, .unset] [(.ref b256)]))
          refine Go.st (fun _ => XS.astore X266.here hx rfl (hb hby at_453) rfl rfl (l' := #[.val (.int p0), .val (.int p1), .val (.int p2), .val (.ref a1), .val (.int ((p0 &&& (2147483647 : Int32)) % (5 : Int32))), .val (.int jp), .val (.int (p2 &&& (255 : Int32))), .val (.ref b18), .val (.ref b55), .val (.ref b116), .val (.ref b256), .unset, .unset]) rfl) ?_
          show Go p.tables e below P (T266.setTop (mkF m 455 #[.val (.int p0), .val (.int p1), .val (.int p2), .val (.ref a1), .val (.int ((p0 &&& (2147483647 : Int32)) % (5 : Int32))), .val (.int jp), .val (.int (p2 &&& (255 : Int32))), .val (.ref b18), .val (.ref b55), .val (.ref b116), .val (.ref b256), .unset, .unset] []))
          refine Go.st (fun _ => XS.iconst X266.here hx rfl (hb hby at_455)) ?_
          show Go p.tables e below P (T266.setTop (mkF m 456 #[.val (.int p0), .val (.int p1), .val (.int p2), .val (.ref a1), .val (.int ((p0 &&& (2147483647 : Int32)) % (5 : Int32))), .val (.int jp), .val (.int (p2 &&& (255 : Int32))), .val (.ref b18), .val (.ref b55), .val (.ref b116), .val (.ref b256), .unset, .unset] [(.int (0 : Int32))]))
          refine Go.st (fun _ => XS.istore X266.here hx rfl (hb hby at_456) rfl (l' := #[.val (.int p0), .val (.int p1), .val (.int p2), .val (.ref a1), .val (.int ((p0 &&& (2147483647 : Int32)) % (5 : Int32))), .val (.int jp), .val (.int (p2 &&& (255 : Int32))), .val (.ref b18), .val (.ref b55), .val (.ref b116), .val (.ref b256), .val (.int (0 : Int32)), .unset]) rfl) ?_
          show Go p.tables e below P (T266.setTop (mkF m 458 #[.val (.int p0), .val (.int p1), .val (.int p2), .val (.ref a1), .val (.int ((p0 &&& (2147483647 : Int32)) % (5 : Int32))), .val (.int jp), .val (.int (p2 &&& (255 : Int32))), .val (.ref b18), .val (.ref b55), .val (.ref b116), .val (.ref b256), .val (.int (0 : Int32)), .unset] []))
          refine Go.st (fun _ => XS.goto X266.here hx rfl (pc0 := 458) (pc' := 475) rfl (hb hby at_458) (by decide) (by decide)) ?_
          show Go p.tables e below P (T266.setTop (mkF m 475 #[.val (.int p0), .val (.int p1), .val (.int p2), .val (.ref a1), .val (.int ((p0 &&& (2147483647 : Int32)) % (5 : Int32))), .val (.int jp), .val (.int (p2 &&& (255 : Int32))), .val (.ref b18), .val (.ref b55), .val (.ref b116), .val (.ref b256), .val (.int (0 : Int32)), .unset] []))
          exact J2 T266 T266.heap _ _ _ (X266.more (by decide) (by decide)) rfl K266 O266 N266 hS1 (Nat.le_trans (Nat.le_trans (Nat.le_trans (Nat.le_trans (Nat.le_trans (Nat.le_trans (Nat.le_trans (Nat.le_trans (Nat.le_trans (Nat.le_trans (Nat.le_trans (Nat.le_trans (Nat.le_trans (Nat.le_trans (Nat.le_trans (Nat.le_trans (Nat.le_trans (Nat.le_trans (Nat.le_trans (Nat.le_trans (Nat.le_trans (Nat.le_trans (Nat.le_trans (Nat.le_trans (Nat.le_trans (Nat.le_trans (Nat.le_trans (Nat.le_trans (Nat.le_trans (Nat.le_trans (Nat.le_trans (Nat.le_trans (Nat.le_trans (Nat.le_trans (Nat.le_trans (Nat.le_trans (Nat.le_trans (Nat.le_trans (Nat.le_trans (Nat.le_trans (Nat.le_trans (Nat.le_trans (Nat.le_trans (Nat.le_trans (Nat.le_trans (Nat.le_trans (Nat.le_trans (Nat.le_trans (Nat.le_trans (Nat.le_trans (Nat.le_trans (Nat.le_trans (Nat.le_trans (Nat.le_trans (Nat.le_trans (Nat.le_trans (Nat.le_trans (Nat.le_trans (Nat.le_trans hk1 E18.1) (Keep.of_wr W19).1) (Keep.of_wr W21).1) (Keep.of_wr W23).1) (Keep.of_wr W25).1) (Keep.of_wr W27).1) (Keep.of_wr W29).1) (Keep.of_wr W31).1) (Keep.of_wr W33).1) (Keep.of_wr W35).1) (Keep.of_wr W37).1) (Keep.of_wr W39).1) (Keep.of_wr W41).1) (Keep.of_wr W43).1) (Keep.of_wr W45).1) (Keep.of_wr W47).1) (Keep.of_wr W49).1) (Keep.of_wr W51).1) (Keep.of_wr W53).1) E55.1) (Keep.of_wr W59).1) (Keep.of_wr W62).1) (Keep.of_wr W65).1) (Keep.of_wr W68).1) (Keep.of_wr W71).1) (Keep.of_wr W74).1) (Keep.of_wr W77).1) (Keep.of_wr W80).1) (Keep.of_wr W83).1) (Keep.of_wr W86).1) (Keep.of_wr W89).1) (Keep.of_wr W92).1) (Keep.of_wr W95).1) (Keep.of_wr W98).1) (Keep.of_wr W101).1) (Keep.of_wr W104).1) (Keep.of_wr W107).1) (Keep.of_wr W110).1) (Keep.of_wr W113).1) E116.1) (Keep.of_wr W122).1) (Keep.of_wr W126).1) (Keep.of_wr W130).1) (Keep.of_wr W134).1) (Keep.of_wr W138).1) (Keep.of_wr W142).1) (Keep.of_wr W146).1) (Keep.of_wr W150).1) (Keep.of_wr W154).1) (Keep.of_wr W158).1) (Keep.of_wr W162).1) (Keep.of_wr W166).1) (Keep.of_wr W170).1) (Keep.of_wr W174).1) (Keep.of_wr W178).1) (Keep.of_wr W182).1) (Keep.of_wr W186).1) E256.1) K266q.1) hZ1 hown1 CR266  b18 b55 b116 b256 (0 : Int32) ([(117 : Int32), (115 : Int32), (45 : Int32), (102 : Int32), (101 : Int32), (100 : Int32), (101 : Int32), (114 : Int32), (97 : Int32), (108 : Int32), (45 : Int32), (114 : Int32), (101 : Int32), (115 : Int32), (101 : Int32), (114 : Int32), (118 : Int32), (101 : Int32), (p2 &&& (255 : Int32))] : List Int32) t266 kb266  E266x C266x V266x (own_arvN rfl A266x) hp266 (Nat.le_of_ble_eq_true rfl) (Or.inr ⟨rfl, fun q => absurd (congrArg List.length q) (by simp)⟩)
        · skip
          refine Go.st (fun _ => XS.icmpYes X186.here hx rfl (pc0 := 441) (pc' := 461) rfl (hb hby at_441) rfl (feq hc255).2 (by decide) (by decide)) ?_
          show Go p.tables e below P (T186.setTop (mkF m 461 #[.val (.int p0), .val (.int p1), .val (.int p2), .val (.ref a1), .val (.int ((p0 &&& (2147483647 : Int32)) % (5 : Int32))), .val (.int jp), .val (.int (p2 &&& (255 : Int32))), .val (.ref b18), .val (.ref b55), .val (.ref b116), .unset, .unset, .unset] []))
          have c277 := ((((((((((((((((((c117.ext E116).wr W122).wr W126).wr W130).wr W134).wr W138).wr W142).wr W146).wr W150).wr W154).wr W158).wr W162).wr W166).wr W170).wr W174).wr W178).wr W182).wr W186)
          have c278 := ((((((((((((((((((c118.ext E116).other W122 (Nat.ne_of_lt (Nat.lt_of_lt_of_le c118.lt (Nat.le_of_eq g116.symm)))).other W126 (Nat.ne_of_lt (Nat.lt_of_lt_of_le c118.lt (Nat.le_of_eq g116.symm)))).other W130 (Nat.ne_of_lt (Nat.lt_of_lt_of_le c118.lt (Nat.le_of_eq g116.symm)))).other W134 (Nat.ne_of_lt (Nat.lt_of_lt_of_le c118.lt (Nat.le_of_eq g116.symm)))).other W138 (Nat.ne_of_lt (Nat.lt_of_lt_of_le c118.lt (Nat.le_of_eq g116.symm)))).other W142 (Nat.ne_of_lt (Nat.lt_of_lt_of_le c118.lt (Nat.le_of_eq g116.symm)))).other W146 (Nat.ne_of_lt (Nat.lt_of_lt_of_le c118.lt (Nat.le_of_eq g116.symm)))).other W150 (Nat.ne_of_lt (Nat.lt_of_lt_of_le c118.lt (Nat.le_of_eq g116.symm)))).other W154 (Nat.ne_of_lt (Nat.lt_of_lt_of_le c118.lt (Nat.le_of_eq g116.symm)))).other W158 (Nat.ne_of_lt (Nat.lt_of_lt_of_le c118.lt (Nat.le_of_eq g116.symm)))).other W162 (Nat.ne_of_lt (Nat.lt_of_lt_of_le c118.lt (Nat.le_of_eq g116.symm)))).other W166 (Nat.ne_of_lt (Nat.lt_of_lt_of_le c118.lt (Nat.le_of_eq g116.symm)))).other W170 (Nat.ne_of_lt (Nat.lt_of_lt_of_le c118.lt (Nat.le_of_eq g116.symm)))).other W174 (Nat.ne_of_lt (Nat.lt_of_lt_of_le c118.lt (Nat.le_of_eq g116.symm)))).other W178 (Nat.ne_of_lt (Nat.lt_of_lt_of_le c118.lt (Nat.le_of_eq g116.symm)))).other W182 (Nat.ne_of_lt (Nat.lt_of_lt_of_le c118.lt (Nat.le_of_eq g116.symm)))).other W186 (Nat.ne_of_lt (Nat.lt_of_lt_of_le c118.lt (Nat.le_of_eq g116.symm))))
          have c279 := ((((((((((((((((((c119.ext E116).other W122 (Nat.ne_of_lt (Nat.lt_of_lt_of_le c119.lt (Nat.le_of_eq g116.symm)))).other W126 (Nat.ne_of_lt (Nat.lt_of_lt_of_le c119.lt (Nat.le_of_eq g116.symm)))).other W130 (Nat.ne_of_lt (Nat.lt_of_lt_of_le c119.lt (Nat.le_of_eq g116.symm)))).other W134 (Nat.ne_of_lt (Nat.lt_of_lt_of_le c119.lt (Nat.le_of_eq g116.symm)))).other W138 (Nat.ne_of_lt (Nat.lt_of_lt_of_le c119.lt (Nat.le_of_eq g116.symm)))).other W142 (Nat.ne_of_lt (Nat.lt_of_lt_of_le c119.lt (Nat.le_of_eq g116.symm)))).other W146 (Nat.ne_of_lt (Nat.lt_of_lt_of_le c119.lt (Nat.le_of_eq g116.symm)))).other W150 (Nat.ne_of_lt (Nat.lt_of_lt_of_le c119.lt (Nat.le_of_eq g116.symm)))).other W154 (Nat.ne_of_lt (Nat.lt_of_lt_of_le c119.lt (Nat.le_of_eq g116.symm)))).other W158 (Nat.ne_of_lt (Nat.lt_of_lt_of_le c119.lt (Nat.le_of_eq g116.symm)))).other W162 (Nat.ne_of_lt (Nat.lt_of_lt_of_le c119.lt (Nat.le_of_eq g116.symm)))).other W166 (Nat.ne_of_lt (Nat.lt_of_lt_of_le c119.lt (Nat.le_of_eq g116.symm)))).other W170 (Nat.ne_of_lt (Nat.lt_of_lt_of_le c119.lt (Nat.le_of_eq g116.symm)))).other W174 (Nat.ne_of_lt (Nat.lt_of_lt_of_le c119.lt (Nat.le_of_eq g116.symm)))).other W178 (Nat.ne_of_lt (Nat.lt_of_lt_of_le c119.lt (Nat.le_of_eq g116.symm)))).other W182 (Nat.ne_of_lt (Nat.lt_of_lt_of_le c119.lt (Nat.le_of_eq g116.symm)))).other W186 (Nat.ne_of_lt (Nat.lt_of_lt_of_le c119.lt (Nat.le_of_eq g116.symm))))
          have c280 := ((((((((((((((((((V113'.ext E116).other W122 (Nat.ne_of_lt (Nat.lt_of_lt_of_le V113'.lt (Nat.le_of_eq g116.symm)))).other W126 (Nat.ne_of_lt (Nat.lt_of_lt_of_le V113'.lt (Nat.le_of_eq g116.symm)))).other W130 (Nat.ne_of_lt (Nat.lt_of_lt_of_le V113'.lt (Nat.le_of_eq g116.symm)))).other W134 (Nat.ne_of_lt (Nat.lt_of_lt_of_le V113'.lt (Nat.le_of_eq g116.symm)))).other W138 (Nat.ne_of_lt (Nat.lt_of_lt_of_le V113'.lt (Nat.le_of_eq g116.symm)))).other W142 (Nat.ne_of_lt (Nat.lt_of_lt_of_le V113'.lt (Nat.le_of_eq g116.symm)))).other W146 (Nat.ne_of_lt (Nat.lt_of_lt_of_le V113'.lt (Nat.le_of_eq g116.symm)))).other W150 (Nat.ne_of_lt (Nat.lt_of_lt_of_le V113'.lt (Nat.le_of_eq g116.symm)))).other W154 (Nat.ne_of_lt (Nat.lt_of_lt_of_le V113'.lt (Nat.le_of_eq g116.symm)))).other W158 (Nat.ne_of_lt (Nat.lt_of_lt_of_le V113'.lt (Nat.le_of_eq g116.symm)))).other W162 (Nat.ne_of_lt (Nat.lt_of_lt_of_le V113'.lt (Nat.le_of_eq g116.symm)))).other W166 (Nat.ne_of_lt (Nat.lt_of_lt_of_le V113'.lt (Nat.le_of_eq g116.symm)))).other W170 (Nat.ne_of_lt (Nat.lt_of_lt_of_le V113'.lt (Nat.le_of_eq g116.symm)))).other W174 (Nat.ne_of_lt (Nat.lt_of_lt_of_le V113'.lt (Nat.le_of_eq g116.symm)))).other W178 (Nat.ne_of_lt (Nat.lt_of_lt_of_le V113'.lt (Nat.le_of_eq g116.symm)))).other W182 (Nat.ne_of_lt (Nat.lt_of_lt_of_le V113'.lt (Nat.le_of_eq g116.symm)))).other W186 (Nat.ne_of_lt (Nat.lt_of_lt_of_le V113'.lt (Nat.le_of_eq g116.symm))))
          obtain ⟨T276, h276, X276, e276, E276, A276, D276, -, st276⟩ := newO X186 hx hZ1 hown1 (ow hw 10 rfl) (ow hw 2 rfl) (ow hw 1 rfl) e186 (g := (mkF m 461 #[.val (.int p0), .val (.int p1), .val (.int p2), .val (.ref a1), .val (.int ((p0 &&& (2147483647 : Int32)) % (5 : Int32))), .val (.int jp), .val (.int (p2 &&& (255 : Int32))), .val (.ref b18), .val (.ref b55), .val (.ref b116), .unset, .unset, .unset] [])) rfl (hb hby at_461) (by decide) (by decide)
          obtain ⟨b276, g276⟩ : ∃ z, z = h186.size := ⟨_, rfl⟩
          rw [← g276] at A276 D276 st276
          refine Go.st st276 ?_
          have g_b276 : n0 ≤ b276 := Nat.le_trans (own_oldsz O186) (Nat.le_of_eq g276.symm)
          have sz_b276 : h0.size ≤ b276 := Nat.le_trans K186.1 (Nat.le_of_eq g276.symm)
          have K276 : Keep h0 h276 [] := K186.ext E276
          have O276 := O186.ext E276
          have sf281 := Safe.ext E276 CR186.1 sf187
          have sf282 := Safe.ext E276 CR186.1 sf188
          have sf283 := Safe.ext E276 CR186.1 sf189
          have SF_b276 : Safe Z consts_1 T1.vm h276 b276 := Safe.ext E276 CR186.1 (Safe.new (Nat.le_of_eq g276.symm))
          have CR276 := CR186.trans (CHr.ext E276 CR186.1)
          have F284 : Fld Z h276 b276 "java/lang/String" "value" "[B" .null := D276 (Or.inr (ow hw 4 rfl)) (ty := (.array .byte)) (by decide)
          have F285 : Fld Z h276 b276 "java/lang/String" "coder" "B" (.int (0 : Int32)) := D276 (Or.inr (ow hw 5 rfl)) (ty := .byte) (by decide)
          show Go p.tables e below P (T276.setTop (mkF m 464 #[.val (.int p0), .val (.int p1), .val (.int p2), .val (.ref a1), .val (.int ((p0 &&& (2147483647 : Int32)) % (5 : Int32))), .val (.int jp), .val (.int (p2 &&& (255 : Int32))), .val (.ref b18), .val (.ref b55), .val (.ref b116), .unset, .unset, .unset] [(.ref b276)]))
          refine Go.st (fun _ => XS.dup X276.here hx rfl (hb hby at_464) rfl rfl) ?_
          show Go p.tables e below P (T276.setTop (mkF m 465 #[.val (.int p0), .val (.int p1), .val (.int p2), .val (.ref a1), .val (.int ((p0 &&& (2147483647 : Int32)) % (5 : Int32))), .val (.int jp), .val (.int (p2 &&& (255 : Int32))), .val (.ref b18), .val (.ref b55), .val (.ref b116), .unset, .unset, .unset] [(.ref b276), (.ref b276)]))
          refine Go.st (fun _ => XS.aload X276.here hx rfl (hb hby at_465) rfl rfl) ?_
          show Go p.tables e below P (T276.setTop (mkF m 467 #[.val (.int p0), .val (.int p1), .val (.int p2), .val (.ref a1), .val (.int ((p0 &&& (2147483647 : Int32)) % (5 : Int32))), .val (.int jp), .val (.int (p2 &&& (255 : Int32))), .val (.ref b18), .val (.ref b55), .val (.ref b116), .unset, .unset, .unset] [(.ref b116), (.ref b276), (.ref b276)]))
          have c287 := (V186'.ext E276)
          have hp286 : ∀ c ∈ ([(117 : Int32), (115 : Int32), (45 : Int32), (102 : Int32), (101 : Int32), (100 : Int32), (101 : Int32), (114 : Int32), (97 : Int32), (108 : Int32), (45 : Int32), (114 : Int32), (101 : Int32), (115 : Int32), (101 : Int32), (114 : Int32), (118 : Int32)] : List Int32), ¬ c < 0 ∧ ¬ (255 : Int32) < c := by
            intro c hc
            simp only [List.mem_cons, List.not_mem_nil, or_false] at hc
            rcases hc with rfl | rfl | rfl | rfl | rfl | rfl | rfl | rfl | rfl | rfl | rfl | rfl | rfl | rfl | rfl | rfl | rfl
            · decide
            · decide
            · decide
            · decide
            · decide
            · decide
            · decide
            · decide
            · decide
            · decide
            · decide
            · decide
            · decide
            · decide
            · decide
            · decide
            · decide
          have c288 := (c277.ext E276)
          have c289 := (c278.ext E276)
          have c290 := (c279.ext E276)
          have c291 := (c280.ext E276)
          obtain ⟨_, _, ⟨T286, L286, k286, n286⟩, -, X286, ⟨Lc286, hQ286, l286, y286, z286⟩, st286⟩ := X276.specialBack hx (y := (⟨"java/lang/String", "<init>", "([C)V"⟩ : MethodName)) rfl hown1 (mvT hZ1 (ow hw 11 rfl)) (mvT hZ1 (ow hw 12 rfl)) (mvT hZ1 (ow hw 13 rfl)) (by decide) (StrChars.Road.backV (W := 1) hZ1 (fun d hd => hw d (own_wNew d hd)) (kI := 4) (ow hw 2 rfl) (cs := ([(117 : Int32), (115 : Int32), (45 : Int32), (102 : Int32), (101 : Int32), (100 : Int32), (101 : Int32), (114 : Int32), (97 : Int32), (108 : Int32), (45 : Int32), (114 : Int32), (101 : Int32), (115 : Int32), (101 : Int32), (114 : Int32), (118 : Int32)] : List Int32)) (bs := (([(117 : Int32), (115 : Int32), (45 : Int32), (102 : Int32), (101 : Int32), (100 : Int32), (101 : Int32), (114 : Int32), (97 : Int32), (108 : Int32), (45 : Int32), (114 : Int32), (101 : Int32), (115 : Int32), (101 : Int32), (114 : Int32), (118 : Int32)] : List Int32)).map (fun c => c.toInt8.toInt32)) (n := 17) g_b276 (own_oldsz O276) A276 F284 F285 c287 (S_CS.ext O276.2) nz_CS rfl rfl (by decide) (by decide) hp286 rfl (by decide) (by decide)) (g := (mkF m 467 #[.val (.int p0), .val (.int p1), .val (.int p2), .val (.ref a1), .val (.int ((p0 &&& (2147483647 : Int32)) % (5 : Int32))), .val (.int jp), .val (.int (p2 &&& (255 : Int32))), .val (.ref b18), .val (.ref b55), .val (.ref b116), .unset, .unset, .unset] [(.ref b116), (.ref b276), (.ref b276)])) rfl (by rw [hml]; rfl) (Steps.refl _) (a := b276) (argsL := [(.ref b116)]) (rest := [(.ref b276)]) (lenOf own_pd13 rfl) rfl (by show 2 * 0 + _ ≤ _; exact Nat.le_of_eq rfl) (hb hby at_467) (fun _ _ => ⟨rfl, e276, (by decide : 6 + 1 ≤ _), (by decide : 134 + 17 ≤ _)⟩)
          dsimp only [Pt.U, Pt.locs, Pt.cells, Pt.slots] at X286 l286 y286 z286 st286 hQ286
          subst y286 z286
          refine Go.tr st286 ?_
          obtain ⟨rfl, N286q, K286q, E286x, C286x, t286, kb286, gt286, szt286, net286, V286x, A286x⟩ := hQ286
          have N286 : Fr n0 L286 := by rw [l286]; exact Fr.app N186 N286q
          have O286 := O276.keep K286q (allS g_b276 all0)
          have K286 : Keep h0 T286.heap [] := K276.trans K286q (allS (Or.inr sz_b276) all0)
          have sf292 := Safe.keep K286q (sfS SF_b276 sf0) CR276.1 sf281
          have sf293 := Safe.keep K286q (sfS SF_b276 sf0) CR276.1 sf282
          have sf294 := Safe.keep K286q (sfS SF_b276 sf0) CR276.1 sf283
          have sf295 := Safe.keep K286q (sfS SF_b276 sf0) CR276.1 SF_b276
          have CR286 := CR276.trans (CHr.keep K286q (sfS SF_b276 sf0) CR276.1)
          have sz_t286 : h0.size ≤ t286 := Nat.le_trans K276.1 szt286
          show Go p.tables e below P (T286.setTop (mkF m 470 #[.val (.int p0), .val (.int p1), .val (.int p2), .val (.ref a1), .val (.int ((p0 &&& (2147483647 : Int32)) % (5 : Int32))), .val (.int jp), .val (.int (p2 &&& (255 : Int32))), .val (.ref b18), .val (.ref b55), .val (.ref b116), .unset, .unset, .unset] [(.ref b276)]))
          refine Go.st (fun _ => XS.astore X286.here hx rfl (hb hby at_470) rfl rfl (l' := #[.val (.int p0), .val (.int p1), .val (.int p2), .val (.ref a1), .val (.int ((p0 &&& (2147483647 : Int32)) % (5 : Int32))), .val (.int jp), .val (.int (p2 &&& (255 : Int32))), .val (.ref b18), .val (.ref b55), .val (.ref b116), .val (.ref b276), .unset, .unset]) rfl) ?_
          show Go p.tables e below P (T286.setTop (mkF m 472 #[.val (.int p0), .val (.int p1), .val (.int p2), .val (.ref a1), .val (.int ((p0 &&& (2147483647 : Int32)) % (5 : Int32))), .val (.int jp), .val (.int (p2 &&& (255 : Int32))), .val (.ref b18), .val (.ref b55), .val (.ref b116), .val (.ref b276), .unset, .unset] []))
          refine Go.st (fun _ => XS.iconst X286.here hx rfl (hb hby at_472)) ?_
          show Go p.tables e below P (T286.setTop (mkF m 473 #[.val (.int p0), .val (.int p1), .val (.int p2), .val (.ref a1), .val (.int ((p0 &&& (2147483647 : Int32)) % (5 : Int32))), .val (.int jp), .val (.int (p2 &&& (255 : Int32))), .val (.ref b18), .val (.ref b55), .val (.ref b116), .val (.ref b276), .unset, .unset] [(.int (0 : Int32))]))
          refine Go.st (fun _ => XS.istore X286.here hx rfl (hb hby at_473) rfl (l' := #[.val (.int p0), .val (.int p1), .val (.int p2), .val (.ref a1), .val (.int ((p0 &&& (2147483647 : Int32)) % (5 : Int32))), .val (.int jp), .val (.int (p2 &&& (255 : Int32))), .val (.ref b18), .val (.ref b55), .val (.ref b116), .val (.ref b276), .val (.int (0 : Int32)), .unset]) rfl) ?_
          show Go p.tables e below P (T286.setTop (mkF m 475 #[.val (.int p0), .val (.int p1), .val (.int p2), .val (.ref a1), .val (.int ((p0 &&& (2147483647 : Int32)) % (5 : Int32))), .val (.int jp), .val (.int (p2 &&& (255 : Int32))), .val (.ref b18), .val (.ref b55), .val (.ref b116), .val (.ref b276), .val (.int (0 : Int32)), .unset] []))
          exact J2 T286 T286.heap _ _ _ (X286.more (by decide) (by decide)) rfl K286 O286 N286 hS1 (Nat.le_trans (Nat.le_trans (Nat.le_trans (Nat.le_trans (Nat.le_trans (Nat.le_trans (Nat.le_trans (Nat.le_trans (Nat.le_trans (Nat.le_trans (Nat.le_trans (Nat.le_trans (Nat.le_trans (Nat.le_trans (Nat.le_trans (Nat.le_trans (Nat.le_trans (Nat.le_trans (Nat.le_trans (Nat.le_trans (Nat.le_trans (Nat.le_trans (Nat.le_trans (Nat.le_trans (Nat.le_trans (Nat.le_trans (Nat.le_trans (Nat.le_trans (Nat.le_trans (Nat.le_trans (Nat.le_trans (Nat.le_trans (Nat.le_trans (Nat.le_trans (Nat.le_trans (Nat.le_trans (Nat.le_trans (Nat.le_trans (Nat.le_trans (Nat.le_trans (Nat.le_trans (Nat.le_trans (Nat.le_trans (Nat.le_trans (Nat.le_trans (Nat.le_trans (Nat.le_trans (Nat.le_trans (Nat.le_trans (Nat.le_trans (Nat.le_trans (Nat.le_trans (Nat.le_trans (Nat.le_trans (Nat.le_trans (Nat.le_trans (Nat.le_trans (Nat.le_trans (Nat.le_trans hk1 E18.1) (Keep.of_wr W19).1) (Keep.of_wr W21).1) (Keep.of_wr W23).1) (Keep.of_wr W25).1) (Keep.of_wr W27).1) (Keep.of_wr W29).1) (Keep.of_wr W31).1) (Keep.of_wr W33).1) (Keep.of_wr W35).1) (Keep.of_wr W37).1) (Keep.of_wr W39).1) (Keep.of_wr W41).1) (Keep.of_wr W43).1) (Keep.of_wr W45).1) (Keep.of_wr W47).1) (Keep.of_wr W49).1) (Keep.of_wr W51).1) (Keep.of_wr W53).1) E55.1) (Keep.of_wr W59).1) (Keep.of_wr W62).1) (Keep.of_wr W65).1) (Keep.of_wr W68).1) (Keep.of_wr W71).1) (Keep.of_wr W74).1) (Keep.of_wr W77).1) (Keep.of_wr W80).1) (Keep.of_wr W83).1) (Keep.of_wr W86).1) (Keep.of_wr W89).1) (Keep.of_wr W92).1) (Keep.of_wr W95).1) (Keep.of_wr W98).1) (Keep.of_wr W101).1) (Keep.of_wr W104).1) (Keep.of_wr W107).1) (Keep.of_wr W110).1) (Keep.of_wr W113).1) E116.1) (Keep.of_wr W122).1) (Keep.of_wr W126).1) (Keep.of_wr W130).1) (Keep.of_wr W134).1) (Keep.of_wr W138).1) (Keep.of_wr W142).1) (Keep.of_wr W146).1) (Keep.of_wr W150).1) (Keep.of_wr W154).1) (Keep.of_wr W158).1) (Keep.of_wr W162).1) (Keep.of_wr W166).1) (Keep.of_wr W170).1) (Keep.of_wr W174).1) (Keep.of_wr W178).1) (Keep.of_wr W182).1) (Keep.of_wr W186).1) E276.1) K286q.1) hZ1 hown1 CR286  b18 b55 b116 b276 (0 : Int32) ([(117 : Int32), (115 : Int32), (45 : Int32), (102 : Int32), (101 : Int32), (100 : Int32), (101 : Int32), (114 : Int32), (97 : Int32), (108 : Int32), (45 : Int32), (114 : Int32), (101 : Int32), (115 : Int32), (101 : Int32), (114 : Int32), (118 : Int32)] : List Int32) t286 kb286  E286x C286x V286x (own_arvN rfl A286x) hp286 (Nat.le_of_ble_eq_true rfl) (Or.inr ⟨rfl, fun q => absurd (congrArg List.length q) (by simp)⟩)
set_option maxRecDepth 65536 in
set_option maxHeartbeats 40000000 in
theorem comes_1 {Post : Tables → Env → Array Value → State → Outcome → State → Prop} (hpost : ∀ tb e args s v u, (limb_1_1.after args s (.returned v) u = true ∧ limb_1_2.after args s (.returned v) u = true ∧ True) → ReturnedEndW s (.returned v) u (Jvm.fieldLocs frame_1_writes args s ++ Jvm.arrayLocs frame_1_arrays args s ++ Jvm.staticLocs frame_1_statics s) 24 1280 → Post tb e args s (.returned v) u) :
    ArmFor flags0 classFile x code maxLocals ret World_1 tables_1 room_1 Calls_1 rest_1 Pre_1 Post := by
  intro l hfl _ _ p e ha hc hk s m args below hf hA hF happ hP
  obtain ⟨hcalls, hrest, hpre⟩ := hP
  obtain ⟨-, -, -, hnamed, -, -, -, hat⟩ := (Spec.applies_iff hf).mp happ
  obtain ⟨hg, hn⟩ := and_e (Cond.before_iff.mp (show (Jvm.Cond.and given_1 narrow_1).before args s = true from hpre))
  obtain ⟨hc_1, hc_2⟩ := and_e hg
  obtain ⟨hc_3, hc_4⟩ := and_e hc_2
  obtain ⟨hc_5, hc_6⟩ := and_e hc_4
  obtain ⟨w0, w1, w2, rfl⟩ : ∃ w0 w1 w2 : Value, args = #[w0, w1, w2] := by
    have hs : args.size = 3 := by simpa [Cond.value, given_1] using hc_1
    obtain ⟨L⟩ := args
    match L, hs with
    | [w0, w1, w2], _ => exact ⟨w0, w1, w2, rfl⟩
  have hw := fun d (hd : d ∈ tables_1) => atoms_spec (ws := Jvm.Cond.code x code maxLocals ret :: tables_1) hat d (List.mem_cons_of_mem _ hd)
  have hfit : Fit s := fun {y c} hc i hi => by
    obtain ⟨ha, rfl⟩ := Array.getElem?_eq_some_iff.mp hc
    have q := List.all_eq_true.mp ((Array.all_eq_true_iff_forall_mem.mp hF) _ (Array.getElem_mem ha)) i (List.mem_range.mpr hi)
    simpa [Array.getElem?_eq_getElem hi] using q
  obtain ⟨hsets, hown0⟩ := atoms_of _ (rest_1_c_eq ▸ (show rest_1_c.before _ s = true from hrest))
  have nCS := not_v (Cond.before_iff.mp (hsets _ (List.mem_of_getElem? (i := 2) rfl)))
  obtain ⟨g_CS, eCS⟩ := is_v (Cond.before_iff.mp (hsets _ (List.mem_of_getElem? (i := 1) rfl)))
  have S_CS := Sta.start eCS (Or.inl (hsets _ (List.mem_of_getElem? (i := 0) rfl)))
  have nz_CS : ¬ (g_CS = (0 : Int32)) := gotF (Cond.eq_ints eCS (Term.int_eval (0))) nCS
  obtain ⟨g_SF, eSF, r_SF⟩ := isR_v (Cond.before_iff.mp (hsets _ (List.mem_of_getElem? (i := 8) rfl)))
  have S_SF := Sta.start eSF (Or.inl (hsets _ (List.mem_of_getElem? (i := 7) rfl)))
  obtain ⟨i0, ea0⟩ := is_v hc_3
  obtain rfl : w0 = (.int i0) := Option.some.inj ea0
  obtain ⟨i1, ea1⟩ := is_v hc_5
  obtain rfl : w1 = (.int i1) := Option.some.inj ea1
  obtain ⟨i2, ea2⟩ := is_v hc_6
  obtain rfl : w2 = (.int i2) := Option.some.inj ea2
  obtain ⟨hc_7, hc_8⟩ := and_e hn
  obtain ⟨hc_9, hc_10⟩ := and_e hc_8
  obtain ⟨hc_11, hc_12⟩ := and_e hc_10
  obtain ⟨hc_13, hc_14⟩ := and_e hc_12
  obtain ⟨hc_15, hc_16⟩ := and_e hc_14
  obtain ⟨hc_17, hc_18⟩ := and_e hc_16
  obtain ⟨hc_19, hc_20⟩ := and_e hc_18
  obtain ⟨hc_21, hc_22⟩ := and_e hc_20
  obtain ⟨hc_23, hc_24⟩ := and_e hc_22
  obtain ⟨hc_25, hc_26⟩ := and_e hc_24
  obtain ⟨hc_27, hc_28⟩ := and_e hc_26
  obtain ⟨hc_29, hc_30⟩ := and_e hc_28
  obtain ⟨hc_31, hc_32⟩ := and_e hc_30
  obtain ⟨hc_33, hc_34⟩ := and_e hc_32
  obtain ⟨hc_35, hc_36⟩ := and_e hc_34
  obtain ⟨hc_37, hc_38⟩ := and_e hc_36
  obtain ⟨hc_39, hc_40⟩ := and_e hc_38
  obtain ⟨hc_41, hc_42⟩ := and_e hc_40
  obtain ⟨hc_43, hc_44⟩ := and_e hc_42
  obtain ⟨hc_45, hc_46⟩ := and_e hc_44
  obtain ⟨hc_47, hc_48⟩ := and_e hc_46
  obtain ⟨hc_49, hc_50⟩ := and_e hc_48
  obtain ⟨hc_51, hc_52⟩ := and_e hc_50
  obtain ⟨hc_53, hc_54⟩ := and_e hc_52
  obtain ⟨hc_55, hc_56⟩ := and_e hc_54
  obtain ⟨hc_57, hc_58⟩ := and_e hc_56
  obtain ⟨w_V, ev_V⟩ := exa_v hc_9
  have X_V := Exa.start ev_V hc_9
  have S_V := Sta.start ev_V (Or.inr ⟨(ow hw 36 rfl), (ow hw 42 rfl)⟩)
  obtain ⟨cl_V, A_V⟩ := Arr.start ev_V hc_7
  obtain ⟨hsz_V, hln_V⟩ := own_len_start (eqv_i (Term.int_eval (1)) hc_11) ev_V A_V.1
  obtain ⟨w_US, ev_US⟩ := exa_v hc_13
  have X_US := Exa.start ev_US hc_13
  obtain ⟨w_ID, ev_ID⟩ := exa_v hc_15
  have X_ID := Exa.start ev_ID hc_15
  have F_ID := Fld.start ((fld_at ev_US).symm.trans ev_ID)
  obtain ⟨w_IB, ev_IB⟩ := arr_v hc_19
  have F_IB := Fld.start ((fld_at ev_ID).symm.trans ev_IB)
  obtain ⟨cl_IB, A_IB⟩ := Arr.start ev_IB hc_19
  obtain ⟨hsz_IB, hln_IB⟩ := own_len_start (eqv_i (Term.int_eval (18)) hc_21) ev_IB A_IB.1
  have ev_UF := own_eq_ref ev_US hc_23
  have S_UF := Sta.start ev_UF (Or.inr ⟨(ow hw 36 rfl), (ow hw 93 rfl)⟩)
  have I_ID_coder := Fld.start ((fld_at ev_ID).symm.trans (eqv_i (Term.int_eval (0)) hc_17))
  have el_V_0 := (elem_in ev_US ev_V (Term.int_eval (0)) A_V.1).2
  have V_V := Arv.start (vs := [(.ref w_US)]) (dv := .null) hfit A_V hsz_V hln_V (by decide) rfl ⟨el_V_0, trivial⟩
  have el_IB_0 := (elem_in (eqv_i (Term.int_eval (117)) hc_25) ev_IB (Term.int_eval (0)) A_IB.1).2
  have el_IB_1 := (elem_in (eqv_i (Term.int_eval (115)) hc_27) ev_IB (Term.int_eval (1)) A_IB.1).2
  have el_IB_2 := (elem_in (eqv_i (Term.int_eval (45)) hc_29) ev_IB (Term.int_eval (2)) A_IB.1).2
  have el_IB_3 := (elem_in (eqv_i (Term.int_eval (102)) hc_31) ev_IB (Term.int_eval (3)) A_IB.1).2
  have el_IB_4 := (elem_in (eqv_i (Term.int_eval (101)) hc_33) ev_IB (Term.int_eval (4)) A_IB.1).2
  have el_IB_5 := (elem_in (eqv_i (Term.int_eval (100)) hc_35) ev_IB (Term.int_eval (5)) A_IB.1).2
  have el_IB_6 := (elem_in (eqv_i (Term.int_eval (101)) hc_37) ev_IB (Term.int_eval (6)) A_IB.1).2
  have el_IB_7 := (elem_in (eqv_i (Term.int_eval (114)) hc_39) ev_IB (Term.int_eval (7)) A_IB.1).2
  have el_IB_8 := (elem_in (eqv_i (Term.int_eval (97)) hc_41) ev_IB (Term.int_eval (8)) A_IB.1).2
  have el_IB_9 := (elem_in (eqv_i (Term.int_eval (108)) hc_43) ev_IB (Term.int_eval (9)) A_IB.1).2
  have el_IB_10 := (elem_in (eqv_i (Term.int_eval (45)) hc_45) ev_IB (Term.int_eval (10)) A_IB.1).2
  have el_IB_11 := (elem_in (eqv_i (Term.int_eval (114)) hc_47) ev_IB (Term.int_eval (11)) A_IB.1).2
  have el_IB_12 := (elem_in (eqv_i (Term.int_eval (101)) hc_49) ev_IB (Term.int_eval (12)) A_IB.1).2
  have el_IB_13 := (elem_in (eqv_i (Term.int_eval (115)) hc_51) ev_IB (Term.int_eval (13)) A_IB.1).2
  have el_IB_14 := (elem_in (eqv_i (Term.int_eval (101)) hc_53) ev_IB (Term.int_eval (14)) A_IB.1).2
  have el_IB_15 := (elem_in (eqv_i (Term.int_eval (114)) hc_55) ev_IB (Term.int_eval (15)) A_IB.1).2
  have el_IB_16 := (elem_in (eqv_i (Term.int_eval (118)) hc_57) ev_IB (Term.int_eval (16)) A_IB.1).2
  have el_IB_17 := (elem_in (eqv_i (Term.int_eval (101)) hc_58) ev_IB (Term.int_eval (17)) A_IB.1).2
  have V_IB := Arv.start (vs := [(.int (117 : Int32)), (.int (115 : Int32)), (.int (45 : Int32)), (.int (102 : Int32)), (.int (101 : Int32)), (.int (100 : Int32)), (.int (101 : Int32)), (.int (114 : Int32)), (.int (97 : Int32)), (.int (108 : Int32)), (.int (45 : Int32)), (.int (114 : Int32)), (.int (101 : Int32)), (.int (115 : Int32)), (.int (101 : Int32)), (.int (114 : Int32)), (.int (118 : Int32)), (.int (101 : Int32))]) (dv := (.int (0 : Int32))) hfit A_IB hsz_IB hln_IB (by decide) rfl ⟨el_IB_0, el_IB_1, el_IB_2, el_IB_3, el_IB_4, el_IB_5, el_IB_6, el_IB_7, el_IB_8, el_IB_9, el_IB_10, el_IB_11, el_IB_12, el_IB_13, el_IB_14, el_IB_15, el_IB_16, el_IB_17, trivial⟩
  obtain ⟨w_OE, ev_OE⟩ := exa_v (Cond.before_iff.mp (hsets _ (List.mem_of_getElem? (i := 11) rfl)))
  have X_OE := Exa.start ev_OE (Cond.before_iff.mp (hsets _ (List.mem_of_getElem? (i := 11) rfl)))
  have S_OE := Sta.start ev_OE (Or.inl (Cond.before_iff.mpr (Cond.before_iff.mp (hsets _ (List.mem_of_getElem? (i := 10) rfl)))))
  have I_OE_value := Fld.start ((fld_at ev_OE).symm.trans (null_v (Cond.before_iff.mp (hsets _ (List.mem_of_getElem? (i := 12) rfl)))))
  obtain ⟨n, o, h1, h2, h3, _, L, rfl, ⟨rfl, N, _⟩, -, hq⟩ := rm_law l s _ hw tables_1 w_US X_US w_V _ S_V X_V V_V S_UF w_ID F_ID X_ID I_ID_coder w_IB _ F_IB V_IB w_OE S_OE X_OE I_OE_value g_CS S_CS nz_CS g_SF S_SF r_SF i0 i1 i2 s.heap s.heap.size (Old.start s) p e ha hc hk s m _ below hf ((Spec.applies_iff_loose hf).mp happ).1 ⟨rfl, State.Warmed39.refl s, rfl, (CHv.start (own_EW s _ hw) (fun p hp => hcalls.1 p hp) (hsets _ (List.mem_of_getElem? (i := 2) rfl)) (ow hw 3 rfl) (ow hw 2 rfl))⟩ trivial
  refine ⟨n, _, h1, h2, h3, hpost _ _ _ _ _ _ ⟨Cond.after_iff.mpr rfl, Cond.after_iff.mpr (eq_i res_at (Term.int_eval (1)) rfl), trivial⟩ ⟨hq.1, hq.2.1, hq.2.2.1, (hq.2.2.2.sift fun y hy => Or.inr (N y hy)).mono (by decide) (by decide)⟩⟩
theorem main_1_1 : Claimed_1_1 := comes_1 fun _ _ _ _ _ _ h hF => ⟨h.1, hF⟩
theorem main_1_2 : Claimed_1_2 := comes_1 fun _ _ _ _ _ _ h hF => ⟨h.2.1, hF⟩
end Jvm.Pilot.@@N@@
namespace Jvm.Pilot.@@N@@
open Jvm Jvm.ClassFile Sem Op Lib Jvm.Free Jvm.Stand Jvm.Pilot.@@N@@.Jvm.D
/-! MADE BY PROGRAM (witnessworld.py) out of the Statement's table words and the real class files: 25 classes; the members and pool entries that the words name. The judged class is class 1, her method 1. -/
namespace start1
open Jvm.ClassFile
def u (s : String) : CpInfo := .utf8 (stringToUtf16 s)
/-- a pool by its gaps: so many unusable entries, then the entry; so many at the end -/
def gap : Nat → List CpInfo → List CpInfo
  | 0, r => r
  | n + 1, r => .unusable :: gap n r
def poolList (es : List (Nat × CpInfo)) (last : Nat) : List CpInfo := es.foldr (fun e r => gap e.1 (e.2 :: r)) (gap last [])
def pool (es : List (Nat × CpInfo)) (last : Nat) : Array CpInfo := ⟨poolList es last⟩
def fileOf (pool : Array CpInfo) (this : Nat) (attrs : Array Attribute := #[]) (ms : Array MethodInfo := #[]) (fl : Nat := 33) (sup : Nat := 0) (ifs : Array Nat := #[]) (fds : Array FieldInfo := #[]) : ClassFile where
  minorVersion := 0
  majorVersion := 65
  constantPool := pool
  accessFlags := fl
  thisClass := this
  superClass := sup
  interfaces := ifs
  fields := fds
  methods := ms
  attributes := attrs
def plain (name : String) (sup : Option ClassId) : Class where
  name := name
  kind := .ordinary
  loader := none
  accessFlags := 33
  super := sup
  interfaces := #[]
  cf := none
  fields := #[]
  methods := #[]
  instanceTypes := #[]
  staticTypes := #[]
  resolved := #[]
  callSites := []
  init := .initialized
  statics := none
  mirror := none

def pool0 : Array CpInfo := pool [(5, u "<init>"), (0, u "()V"), (1, .class_ 10), (1, u "java/lang/Object"), (85, u "clone"), (0, u "()Ljava/lang/Object;")] 26

def k0c0 : Code := { maxStack := 0, maxLocals := 1, code := object_method_1_code, exceptionTable := #[], attributes := #[] }
def k0m0 : Method := { name := "<init>", desc := "()V", sig := { parameters := [], returnType := none }, accessFlags := 1, code := some k0c0 }
def k0m1 : Method := { name := "clone", desc := "()Ljava/lang/Object;", sig := { parameters := [], returnType := some (.object "java/lang/Object") }, accessFlags := 260, code := none }
/-- java/lang/Object -/
def k0 : Class := { plain "java/lang/Object" none with
  accessFlags := 33
  interfaces := #[]
  cf := some (fileOf pool0 8 #[] #[{ accessFlags := 1, nameIndex := 5, descriptorIndex := 6, attributes := #[] }, { accessFlags := 260, nameIndex := 96, descriptorIndex := 97, attributes := #[] }] 33 0 #[] #[])
  fields := #[]
  methods := #[k0m0, k0m1]
  instanceTypes := #[]
  staticTypes := #[]
  resolved := Array.replicate 124 none
  statics := none }

def pool1 : Array CpInfo := pool [(2, .class_ 4), (1, u "java/lang/Object"), (0, u "<init>"), (0, u "()V"), (0, .string 8), (0, u "us-federal-reserve"), (0, .integer 2147483647), (0, .class_ 11), (0, u "java/lang/String"), (0, .methodref 10 13), (0, .nameAndType 5 14), (0, u "([C)V"), (0, .methodref 10 16), (0, .nameAndType 17 18), (0, u "charAt"), (0, u "(I)C"), (0, .methodref 10 20), (0, .nameAndType 21 22), (0, u "valueOf"), (0, u "(C)Ljava/lang/String;"), (0, .methodref 24 25), (0, .class_ 26), (0, .nameAndType 27 28), (0, u "com/example/tidewall/tidewall/ledger/BusinessCalendar"), (0, u "byId"), (0, u "(Ljava/lang/String;)Ljava/util/Optional;"), (0, .methodref 30 31), (0, .class_ 32), (0, .nameAndType 33 34), (0, u "java/util/Optional"), (0, u "isPresent"), (0, u "()Z"), (0, .methodref 30 36), (0, .nameAndType 37 38), (0, u "get"), (0, u "()Ljava/lang/Object;"), (0, .fieldref 24 40), (0, .nameAndType 41 42), (0, u "US_FEDERAL_RESERVE"), (0, u "Lcom/example/tidewall/tidewall/ledger/BusinessCalendar;"), (0, .methodref 24 44), (0, .nameAndType 45 46), (0, u "id"), (0, u "()Ljava/lang/String;"), (0, .methodref 10 48), (0, .nameAndType 49 50), (0, u "equals"), (0, u "(Ljava/lang/Object;)Z"), (0, .class_ 52), (0, u "com/example/tidewall/tidewall/ledger/BusinessCalendarByIdPinLaw"), (2, u "law"), (0, u "(III)Z")] 5

def k1m0 : Method := { name := "<init>", desc := "()V", sig := { parameters := [], returnType := none }, accessFlags := 1, code := none }
def k1c1 : Code := { maxStack := 4, maxLocals := 13, code := code, exceptionTable := #[], attributes := #[] }
def k1m1 : Method := { name := "law", desc := "(III)Z", sig := { parameters := [.int, .int, .int], returnType := some .boolean }, accessFlags := 9, code := some k1c1 }
/-- com/example/tidewall/tidewall/ledger/BusinessCalendarByIdPinLaw -/
def k1 : Class := { plain "com/example/tidewall/tidewall/ledger/BusinessCalendarByIdPinLaw" (some 0) with
  accessFlags := 49
  interfaces := #[]
  cf := some (fileOf pool1 51 #[] #[{ accessFlags := 1, nameIndex := 5, descriptorIndex := 6, attributes := #[] }, { accessFlags := 9, nameIndex := 55, descriptorIndex := 56, attributes := #[] }] 49 2 #[] #[])
  fields := #[]
  methods := #[k1m0, k1m1]
  instanceTypes := #[]
  staticTypes := #[]
  resolved := Array.replicate 62 none
  statics := none }

def pool2 : Array CpInfo := pool [(1, .class_ 2), (0, u "java/io/Serializable"), (0, .class_ 4), (0, u "java/lang/Object")] 2

/-- java/io/Serializable -/
def k2 : Class := { plain "java/io/Serializable" (some 0) with
  accessFlags := 1537
  interfaces := #[]
  cf := some (fileOf pool2 1 #[] #[] 1537 3 #[] #[])
  fields := #[]
  methods := #[]
  instanceTypes := #[]
  staticTypes := #[]
  resolved := Array.replicate 7 none
  statics := none }

def pool3 : Array CpInfo := pool [(1, .class_ 2), (0, u "java/lang/Comparable"), (0, .class_ 4), (0, u "java/lang/Object")] 7

/-- java/lang/Comparable -/
def k3 : Class := { plain "java/lang/Comparable" (some 0) with
  accessFlags := 1537
  interfaces := #[]
  cf := some (fileOf pool3 1 #[] #[] 1537 3 #[] #[])
  fields := #[]
  methods := #[]
  instanceTypes := #[]
  staticTypes := #[]
  resolved := Array.replicate 12 none
  statics := none }

def pool4 : Array CpInfo := pool [(2, .class_ 4), (1, u "java/lang/CharSequence"), (42, .class_ 48), (0, u "java/lang/CharSequence$1CodePointIterator"), (10, .class_ 60), (0, u "java/lang/CharSequence$1CharIterator"), (5, .class_ 67), (0, u "java/lang/Object")] 63

/-- java/lang/CharSequence -/
def k4 : Class := { plain "java/lang/CharSequence" (some 0) with
  accessFlags := 1537
  interfaces := #[]
  cf := some (fileOf pool4 2 #[.nestMembers #[47, 59]] #[] 1537 66 #[] #[])
  fields := #[]
  methods := #[]
  instanceTypes := #[]
  staticTypes := #[]
  resolved := Array.replicate 131 none
  statics := none }

def pool5 : Array CpInfo := pool [(1, .class_ 2), (0, u "java/lang/constant/Constable"), (0, .class_ 4), (0, u "java/lang/Object")] 6

/-- java/lang/constant/Constable -/
def k5 : Class := { plain "java/lang/constant/Constable" (some 0) with
  accessFlags := 1537
  interfaces := #[]
  cf := some (fileOf pool5 1 #[] #[] 1537 3 #[] #[])
  fields := #[]
  methods := #[]
  instanceTypes := #[]
  staticTypes := #[]
  resolved := Array.replicate 11 none
  statics := none }

def pool6 : Array CpInfo := pool [(1, .class_ 2), (0, u "java/lang/constant/ConstantDesc"), (0, .class_ 4), (0, u "java/lang/Object")] 32

/-- java/lang/constant/ConstantDesc -/
def k6 : Class := { plain "java/lang/constant/ConstantDesc" (some 0) with
  accessFlags := 1537
  interfaces := #[]
  cf := some (fileOf pool6 1 #[] #[] 1537 3 #[] #[])
  fields := #[]
  methods := #[]
  instanceTypes := #[]
  staticTypes := #[]
  resolved := Array.replicate 37 none
  statics := none }

def pool7 : Array CpInfo := pool [(1, .methodref 2 3), (0, .class_ 4), (0, .nameAndType 5 6), (0, u "java/lang/Object"), (0, u "<init>"), (0, u "()V"), (2, .fieldref 10 11), (0, .class_ 12), (0, .nameAndType 13 14), (0, u "java/lang/String"), (0, u "value"), (0, u "[B"), (0, .fieldref 10 16), (0, .nameAndType 17 18), (0, u "coder"), (0, u "B"), (2, u "hash"), (0, u "I"), (2, u "hashIsZero"), (0, u "Z"), (0, .methodref 10 28), (0, .nameAndType 5 29), (0, u "([CIILjava/lang/Void;)V"), (8, .fieldref 10 39), (0, .nameAndType 40 26), (0, u "COMPACT_STRINGS"), (1, .class_ 44), (1, u "java/lang/StringUTF16"), (0, u "compress"), (1, .methodref 42 48), (0, .nameAndType 49 50), (0, u "coderFromArrayLen"), (0, u "([BI)B"), (2, u "toBytes"), (53, .class_ 109), (1, u "java/lang/StringLatin1"), (32, u "()Z"), (34, .methodref 42 178), (0, .nameAndType 45 179), (0, u "([CII)[B"), (29, .methodref 10 210), (0, .nameAndType 5 211), (0, u "([BB)V"), (151, u "([BI)C"), (5, u "(C)Z"), (21, u "(II)V"), (35, u "(I)C"), (64, .methodref 10 493), (0, .nameAndType 494 142), (0, u "isLatin1"), (0, .methodref 107 496), (0, .nameAndType 497 363), (0, u "charAt"), (3, u "checkIndex"), (39, .methodref 107 542), (0, .nameAndType 543 544), (0, u "equals"), (0, u "([B[B)Z"), (28, u "(Ljava/lang/Object;)Z"), (1, .class_ 576), (0, u "java/lang/CharSequence"), (22, u "CASE_INSENSITIVE_ORDER"), (0, u "Ljava/util/Comparator;"), (181, u "valueOf"), (0, u "(C)Ljava/lang/String;"), (226, u "([C)V"), (4, .methodref 107 1016), (0, .nameAndType 1017 369), (0, u "canEncode"), (0, .methodref 107 1019), (0, .nameAndType 53 1020), (0, u "(C)[B"), (32, .fieldref 1054 1055), (0, .class_ 1056), (0, .nameAndType 1057 1058), (0, u "jdk/internal/util/Preconditions"), (0, u "SIOOBE_FORMATTER"), (0, u "Ljava/util/function/BiFunction;"), (0, .methodref 1054 1060), (0, .nameAndType 501 1061), (0, u "(IILjava/util/function/BiFunction;)I"), (39, u "serialPersistentFields"), (0, u "[Ljava/io/ObjectStreamField;"), (0, .class_ 1104), (0, u "java/lang/String$CaseInsensitiveComparator"), (1, .class_ 1107), (0, u "java/io/Serializable"), (0, .class_ 1109), (0, u "java/lang/Comparable"), (0, .class_ 1111), (0, u "java/lang/constant/Constable"), (0, .class_ 1113), (0, u "java/lang/constant/ConstantDesc"), (2, u "serialVersionUID"), (0, u "J"), (3, u "REPL"), (0, u "C"), (2, u "LATIN1"), (1, u "UTF16")] 323

def k7m0 : Method := { name := "<init>", desc := "()V", sig := { parameters := [], returnType := none }, accessFlags := 1, code := none }
def k7c1 : Code := { maxStack := 5, maxLocals := 2, code := jdk_42_method_3_code, exceptionTable := #[], attributes := #[] }
def k7m1 : Method := { name := "<init>", desc := "([C)V", sig := { parameters := [(.array .char)], returnType := none }, accessFlags := 1, code := some k7c1 }
def k7c2 : Code := { maxStack := 2, maxLocals := 2, code := jdk_42_method_56_code, exceptionTable := #[], attributes := #[] }
def k7m2 : Method := { name := "charAt", desc := "(I)C", sig := { parameters := [.int], returnType := some .char }, accessFlags := 1, code := some k7c2 }
def k7c3 : Code := { maxStack := 2, maxLocals := 3, code := jdk_42_method_66_code, exceptionTable := #[], attributes := #[] }
def k7m3 : Method := { name := "equals", desc := "(Ljava/lang/Object;)Z", sig := { parameters := [(.object "java/lang/Object")], returnType := some .boolean }, accessFlags := 1, code := some k7c3 }
def k7c4 : Code := { maxStack := 4, maxLocals := 1, code := jdk_42_method_139_code, exceptionTable := #[], attributes := #[] }
def k7m4 : Method := { name := "valueOf", desc := "(C)Ljava/lang/String;", sig := { parameters := [.char], returnType := some (.object "java/lang/String") }, accessFlags := 9, code := some k7c4 }
def k7c5 : Code := { maxStack := 4, maxLocals := 6, code := jdk_42_method_149_code, exceptionTable := #[], attributes := #[] }
def k7m5 : Method := { name := "<init>", desc := "([CIILjava/lang/Void;)V", sig := { parameters := [(.array .char), .int, .int, (.object "java/lang/Void")], returnType := none }, accessFlags := 2, code := some k7c5 }
def k7c6 : Code := { maxStack := 2, maxLocals := 3, code := jdk_42_method_151_code, exceptionTable := #[], attributes := #[] }
def k7m6 : Method := { name := "<init>", desc := "([BB)V", sig := { parameters := [(.array .byte), .byte], returnType := none }, accessFlags := 0, code := some k7c6 }
def k7c7 : Code := { maxStack := 1, maxLocals := 1, code := jdk_42_method_154_code, exceptionTable := #[], attributes := #[] }
def k7m7 : Method := { name := "isLatin1", desc := "()Z", sig := { parameters := [], returnType := some .boolean }, accessFlags := 0, code := some k7c7 }
def k7c8 : Code := { maxStack := 3, maxLocals := 2, code := jdk_42_method_155_code, exceptionTable := #[], attributes := #[] }
def k7m8 : Method := { name := "checkIndex", desc := "(II)V", sig := { parameters := [.int, .int], returnType := none }, accessFlags := 8, code := some k7c8 }
/-- java/lang/String -/
def k7 : Class := { plain "java/lang/String" (some 0) with
  accessFlags := 49
  interfaces := #[2, 3, 4, 5, 6]
  cf := some (fileOf pool7 10 #[.nestMembers #[1103]] #[{ accessFlags := 1, nameIndex := 5, descriptorIndex := 6, attributes := #[] }, { accessFlags := 1, nameIndex := 5, descriptorIndex := 1010, attributes := #[] }, { accessFlags := 1, nameIndex := 497, descriptorIndex := 427, attributes := #[] }, { accessFlags := 1, nameIndex := 543, descriptorIndex := 573, attributes := #[] }, { accessFlags := 9, nameIndex := 782, descriptorIndex := 783, attributes := #[] }, { accessFlags := 2, nameIndex := 5, descriptorIndex := 29, attributes := #[] }, { accessFlags := 0, nameIndex := 5, descriptorIndex := 211, attributes := #[] }, { accessFlags := 0, nameIndex := 494, descriptorIndex := 142, attributes := #[] }, { accessFlags := 8, nameIndex := 501, descriptorIndex := 391, attributes := #[] }] 49 2 #[1106, 1108, 575, 1110, 1112] #[{ accessFlags := 18, nameIndex := 13, descriptorIndex := 14, attributes := #[] }, { accessFlags := 18, nameIndex := 17, descriptorIndex := 18, attributes := #[] }, { accessFlags := 2, nameIndex := 21, descriptorIndex := 22, attributes := #[] }, { accessFlags := 2, nameIndex := 25, descriptorIndex := 26, attributes := #[] }, { accessFlags := 26, nameIndex := 1116, descriptorIndex := 1117, attributes := #[] }, { accessFlags := 24, nameIndex := 40, descriptorIndex := 26, attributes := #[] }, { accessFlags := 26, nameIndex := 1101, descriptorIndex := 1102, attributes := #[] }, { accessFlags := 26, nameIndex := 1121, descriptorIndex := 1122, attributes := #[] }, { accessFlags := 25, nameIndex := 599, descriptorIndex := 600, attributes := #[] }, { accessFlags := 24, nameIndex := 1125, descriptorIndex := 18, attributes := #[] }, { accessFlags := 24, nameIndex := 1127, descriptorIndex := 18, attributes := #[] }])
  fields := #[{ name := "value", type := (.array .byte), accessFlags := 18, slot := 0, constantValue := 0 }, { name := "coder", type := .byte, accessFlags := 18, slot := 1, constantValue := 0 }, { name := "hash", type := .int, accessFlags := 2, slot := 2, constantValue := 0 }, { name := "hashIsZero", type := .boolean, accessFlags := 2, slot := 3, constantValue := 0 }, { name := "serialVersionUID", type := .long, accessFlags := 26, slot := 0, constantValue := 0 }, { name := "COMPACT_STRINGS", type := .boolean, accessFlags := 24, slot := 1, constantValue := 0 }, { name := "serialPersistentFields", type := (.array (.object "java/io/ObjectStreamField")), accessFlags := 26, slot := 2, constantValue := 0 }, { name := "REPL", type := .char, accessFlags := 26, slot := 3, constantValue := 0 }, { name := "CASE_INSENSITIVE_ORDER", type := (.object "java/util/Comparator"), accessFlags := 25, slot := 4, constantValue := 0 }, { name := "LATIN1", type := .byte, accessFlags := 24, slot := 5, constantValue := 0 }, { name := "UTF16", type := .byte, accessFlags := 24, slot := 6, constantValue := 0 }]
  methods := #[k7m0, k7m1, k7m2, k7m3, k7m4, k7m5, k7m6, k7m7, k7m8]
  instanceTypes := #[(.array .byte), .byte, .int, .boolean]
  staticTypes := #[.long, .boolean, (.array (.object "java/io/ObjectStreamField")), .char, (.object "java/util/Comparator"), .byte, .byte]
  resolved := Array.replicate 1451 none
  statics := some 0 }

def pool8 : Array CpInfo := pool [(6, .class_ 8), (1, u "java/lang/Object"), (0, u "<init>"), (0, u "()V"), (1, .class_ 14), (1, u "java/lang/StringUTF16"), (31, u "$assertionsDisabled"), (0, u "Z"), (13, u "HI_BYTE_SHIFT"), (0, u "I"), (2, u "LO_BYTE_SHIFT"), (49, .methodref 12 116), (0, .nameAndType 117 118), (0, u "compress"), (0, u "([CI[BII)I"), (3, u "([CII)[B"), (138, u "coderFromArrayLen"), (0, u "([BI)B"), (106, .class_ 371), (1, u "java/lang/StringUTF16$LinesSpliterator"), (58, u "MAX_LENGTH"), (196, .class_ 628), (0, u "java/lang/StringUTF16$CodePointsSpliterator"), (0, .class_ 630), (0, u "java/lang/StringUTF16$CharsSpliterator")] 4

def k8m0 : Method := { name := "<init>", desc := "()V", sig := { parameters := [], returnType := none }, accessFlags := 0, code := none }
def k8c1 : Code := { maxStack := 2, maxLocals := 2, code := jdk_52_method_15_code, exceptionTable := #[], attributes := #[] }
def k8m1 : Method := { name := "coderFromArrayLen", desc := "([BI)B", sig := { parameters := [(.array .byte), .int], returnType := some .byte }, accessFlags := 8, code := some k8c1 }
def k8c2 : Code := { maxStack := 5, maxLocals := 6, code := jdk_52_method_16_code, exceptionTable := #[], attributes := #[] }
def k8m2 : Method := { name := "compress", desc := "([CII)[B", sig := { parameters := [(.array .char), .int, .int], returnType := some (.array .byte) }, accessFlags := 9, code := some k8c2 }
def k8c3 : Code := { maxStack := 3, maxLocals := 7, code := jdk_52_method_21_code, exceptionTable := #[], attributes := #[] }
def k8m3 : Method := { name := "compress", desc := "([CI[BII)I", sig := { parameters := [(.array .char), .int, (.array .byte), .int, .int], returnType := some .int }, accessFlags := 9, code := some k8c3 }
/-- java/lang/StringUTF16 -/
def k8 : Class := { plain "java/lang/StringUTF16" (some 0) with
  accessFlags := 48
  interfaces := #[]
  cf := some (fileOf pool8 12 #[.nestMembers #[627, 629, 369]] #[{ accessFlags := 0, nameIndex := 9, descriptorIndex := 10, attributes := #[] }, { accessFlags := 8, nameIndex := 261, descriptorIndex := 262, attributes := #[] }, { accessFlags := 9, nameIndex := 117, descriptorIndex := 122, attributes := #[] }, { accessFlags := 9, nameIndex := 117, descriptorIndex := 118, attributes := #[] }] 48 6 #[] #[{ accessFlags := 26, nameIndex := 61, descriptorIndex := 62, attributes := #[] }, { accessFlags := 26, nameIndex := 65, descriptorIndex := 62, attributes := #[] }, { accessFlags := 24, nameIndex := 430, descriptorIndex := 62, attributes := #[] }, { accessFlags := 4120, nameIndex := 46, descriptorIndex := 47, attributes := #[] }])
  fields := #[{ name := "HI_BYTE_SHIFT", type := .int, accessFlags := 26, slot := 0, constantValue := 0 }, { name := "LO_BYTE_SHIFT", type := .int, accessFlags := 26, slot := 1, constantValue := 0 }, { name := "MAX_LENGTH", type := .int, accessFlags := 24, slot := 2, constantValue := 0 }, { name := "$assertionsDisabled", type := .boolean, accessFlags := 4120, slot := 3, constantValue := 0 }]
  methods := #[k8m0, k8m1, k8m2, k8m3]
  instanceTypes := #[]
  staticTypes := #[.int, .int, .int, .boolean]
  resolved := Array.replicate 635 none
  statics := none }

def pool9 : Array CpInfo := pool [(2, .class_ 4), (1, u "java/lang/Enum"), (0, u "name"), (0, u "Ljava/lang/String;"), (2, u "ordinal"), (0, u "I"), (1, .class_ 14), (1, u "java/lang/Object"), (4, u "hash"), (86, .class_ 108), (1, u "java/lang/Enum$EnumDesc"), (2, .class_ 112), (0, u "java/lang/constant/Constable"), (0, .class_ 114), (0, u "java/lang/Comparable"), (0, .class_ 116), (0, u "java/io/Serializable")] 87

/-- java/lang/Enum -/
def k9 : Class := { plain "java/lang/Enum" (some 0) with
  accessFlags := 1057
  interfaces := #[5, 3, 2]
  cf := some (fileOf pool9 2 #[.nestMembers #[106]] #[] 1057 12 #[111, 113, 115] #[{ accessFlags := 18, nameIndex := 5, descriptorIndex := 6, attributes := #[] }, { accessFlags := 18, nameIndex := 9, descriptorIndex := 10, attributes := #[] }, { accessFlags := 2, nameIndex := 19, descriptorIndex := 10, attributes := #[] }])
  fields := #[{ name := "name", type := (.object "java/lang/String"), accessFlags := 18, slot := 0, constantValue := 0 }, { name := "ordinal", type := .int, accessFlags := 18, slot := 1, constantValue := 0 }, { name := "hash", type := .int, accessFlags := 2, slot := 2, constantValue := 0 }]
  methods := #[]
  instanceTypes := #[(.object "java/lang/String"), .int, .int]
  staticTypes := #[]
  resolved := Array.replicate 204 none
  statics := none }

def pool10 : Array CpInfo := pool [(1, .class_ 2), (0, u "com/example/tidewall/tidewall/ledger/BusinessCalendar"), (2, u "US_FEDERAL_RESERVE"), (0, u "Lcom/example/tidewall/tidewall/ledger/BusinessCalendar;"), (0, .fieldref 1 8), (0, .nameAndType 9 10), (0, u "$VALUES"), (0, u "[Lcom/example/tidewall/tidewall/ledger/BusinessCalendar;"), (0, .methodref 12 13), (0, .class_ 10), (0, .nameAndType 14 15), (0, u "clone"), (0, u "()Ljava/lang/Object;"), (1, .class_ 19), (1, u "java/lang/Enum"), (6, .fieldref 1 27), (0, .nameAndType 28 29), (0, u "id"), (0, u "Ljava/lang/String;"), (0, .methodref 1 31), (0, .nameAndType 32 33), (0, u "values"), (0, u "()[Lcom/example/tidewall/tidewall/ledger/BusinessCalendar;"), (0, .methodref 35 36), (0, .class_ 37), (0, .nameAndType 38 39), (0, u "java/lang/String"), (0, u "equals"), (0, u "(Ljava/lang/Object;)Z"), (0, .methodref 41 42), (0, .class_ 43), (0, .nameAndType 44 45), (0, u "java/util/Optional"), (0, u "of"), (0, u "(Ljava/lang/Object;)Ljava/util/Optional;"), (0, .methodref 41 47), (0, .nameAndType 48 49), (0, u "empty"), (0, u "()Ljava/util/Optional;"), (48, .class_ 100), (1, u "com/example/tidewall/tidewall/ledger/BusinessCalendar$2"), (24, .class_ 126), (0, u "com/example/tidewall/tidewall/ledger/BusinessCalendar$1"), (14, u "()Ljava/lang/String;"), (0, u "byId"), (0, u "(Ljava/lang/String;)Ljava/util/Optional;")] 27

def k10c0 : Code := { maxStack := 1, maxLocals := 0, code := prog_37_method_1_code, exceptionTable := #[], attributes := #[] }
def k10m0 : Method := { name := "values", desc := "()[Lcom/example/tidewall/tidewall/ledger/BusinessCalendar;", sig := { parameters := [], returnType := some (.array (.object "com/example/tidewall/tidewall/ledger/BusinessCalendar")) }, accessFlags := 9, code := some k10c0 }
def k10c1 : Code := { maxStack := 1, maxLocals := 1, code := prog_37_method_4_code, exceptionTable := #[], attributes := #[] }
def k10m1 : Method := { name := "id", desc := "()Ljava/lang/String;", sig := { parameters := [], returnType := some (.object "java/lang/String") }, accessFlags := 1, code := some k10c1 }
def k10c2 : Code := { maxStack := 2, maxLocals := 5, code := prog_37_method_5_code, exceptionTable := #[], attributes := #[] }
def k10m2 : Method := { name := "byId", desc := "(Ljava/lang/String;)Ljava/util/Optional;", sig := { parameters := [(.object "java/lang/String")], returnType := some (.object "java/util/Optional") }, accessFlags := 9, code := some k10c2 }
/-- com/example/tidewall/tidewall/ledger/BusinessCalendar -/
def k10 : Class := { plain "com/example/tidewall/tidewall/ledger/BusinessCalendar" (some 9) with
  accessFlags := 17441
  interfaces := #[]
  cf := some (fileOf pool10 1 #[.nestMembers #[98, 125]] #[{ accessFlags := 9, nameIndex := 32, descriptorIndex := 33, attributes := #[] }, { accessFlags := 1, nameIndex := 28, descriptorIndex := 141, attributes := #[] }, { accessFlags := 9, nameIndex := 142, descriptorIndex := 143, attributes := #[] }] 17441 17 #[] #[{ accessFlags := 16409, nameIndex := 5, descriptorIndex := 6, attributes := #[] }, { accessFlags := 18, nameIndex := 28, descriptorIndex := 29, attributes := #[] }, { accessFlags := 4122, nameIndex := 9, descriptorIndex := 10, attributes := #[] }])
  fields := #[{ name := "US_FEDERAL_RESERVE", type := (.object "com/example/tidewall/tidewall/ledger/BusinessCalendar"), accessFlags := 16409, slot := 0, constantValue := 0 }, { name := "id", type := (.object "java/lang/String"), accessFlags := 18, slot := 3, constantValue := 0 }, { name := "$VALUES", type := (.array (.object "com/example/tidewall/tidewall/ledger/BusinessCalendar")), accessFlags := 4122, slot := 1, constantValue := 0 }]
  methods := #[k10m0, k10m1, k10m2]
  instanceTypes := #[(.object "java/lang/String"), .int, .int, (.object "java/lang/String")]
  staticTypes := #[(.object "com/example/tidewall/tidewall/ledger/BusinessCalendar"), (.array (.object "com/example/tidewall/tidewall/ledger/BusinessCalendar"))]
  resolved := Array.replicate 171 none
  statics := some 1 }

def pool11 : Array CpInfo := pool [(1, .class_ 2), (0, u "java/lang/Cloneable"), (0, .class_ 4), (0, u "java/lang/Object")] 2

/-- java/lang/Cloneable -/
def k11 : Class := { plain "java/lang/Cloneable" (some 0) with
  accessFlags := 1537
  interfaces := #[]
  cf := some (fileOf pool11 1 #[] #[] 1537 3 #[] #[])
  fields := #[]
  methods := #[]
  instanceTypes := #[]
  staticTypes := #[]
  resolved := Array.replicate 7 none
  statics := none }

def pool12 : Array CpInfo := pool [(2, .class_ 4), (1, u "com/example/tidewall/tidewall/ledger/BusinessCalendar"), (22, .class_ 28), (0, u "com/example/tidewall/tidewall/ledger/BusinessCalendar$1")] 10

/-- com/example/tidewall/tidewall/ledger/BusinessCalendar$1 -/
def k12 : Class := { plain "com/example/tidewall/tidewall/ledger/BusinessCalendar$1" (some 10) with
  accessFlags := 16432
  interfaces := #[]
  cf := some (fileOf pool12 27 #[.nestHost 2] #[] 16432 2 #[] #[])
  fields := #[]
  methods := #[]
  instanceTypes := #[(.object "java/lang/String"), .int, .int, (.object "java/lang/String")]
  staticTypes := #[]
  resolved := Array.replicate 39 none
  statics := none }

def pool13 : Array CpInfo := pool [(1, .class_ 2), (0, u "java/lang/String"), (1, .class_ 6), (1, u "java/lang/Object"), (0, u "<init>"), (0, u "()V"), (0, .methodref 1 10), (0, .nameAndType 11 12), (0, u "checkIndex"), (0, u "(II)V"), (1, .class_ 16), (1, u "java/lang/StringLatin1"), (36, u "([BI)C"), (36, u "canEncode"), (14, u "(C)Z"), (15, u "$assertionsDisabled"), (0, u "Z"), (98, .class_ 223), (1, u "java/lang/StringLatin1$LinesSpliterator"), (28, u "charAt"), (28, u "equals"), (0, u "([B[B)Z"), (97, u "toBytes"), (1, u "(C)[B"), (7, .class_ 391), (0, u "java/lang/StringLatin1$CharsSpliterator")] 3

def k13m0 : Method := { name := "<init>", desc := "()V", sig := { parameters := [], returnType := none }, accessFlags := 0, code := none }
def k13c1 : Code := { maxStack := 2, maxLocals := 2, code := jdk_43_method_2_code, exceptionTable := #[], attributes := #[] }
def k13m1 : Method := { name := "charAt", desc := "([BI)C", sig := { parameters := [(.array .byte), .int], returnType := some .char }, accessFlags := 9, code := some k13c1 }
def k13c2 : Code := { maxStack := 2, maxLocals := 1, code := jdk_43_method_3_code, exceptionTable := #[], attributes := #[] }
def k13m2 : Method := { name := "canEncode", desc := "(C)Z", sig := { parameters := [.char], returnType := some .boolean }, accessFlags := 9, code := some k13c2 }
def k13c3 : Code := { maxStack := 3, maxLocals := 3, code := jdk_43_method_13_code, exceptionTable := #[], attributes := #[] }
def k13m3 : Method := { name := "equals", desc := "([B[B)Z", sig := { parameters := [(.array .byte), (.array .byte)], returnType := some .boolean }, accessFlags := 9, code := some k13c3 }
def k13c4 : Code := { maxStack := 4, maxLocals := 1, code := jdk_43_method_46_code, exceptionTable := #[], attributes := #[] }
def k13m4 : Method := { name := "toBytes", desc := "(C)[B", sig := { parameters := [.char], returnType := some (.array .byte) }, accessFlags := 9, code := some k13c4 }
/-- java/lang/StringLatin1 -/
def k13 : Class := { plain "java/lang/StringLatin1" (some 0) with
  accessFlags := 48
  interfaces := #[]
  cf := some (fileOf pool13 14 #[.nestMembers #[390, 221]] #[{ accessFlags := 0, nameIndex := 7, descriptorIndex := 8, attributes := #[] }, { accessFlags := 9, nameIndex := 252, descriptorIndex := 53, attributes := #[] }, { accessFlags := 9, nameIndex := 90, descriptorIndex := 105, attributes := #[] }, { accessFlags := 9, nameIndex := 281, descriptorIndex := 282, attributes := #[] }, { accessFlags := 9, nameIndex := 380, descriptorIndex := 382, attributes := #[] }] 48 4 #[] #[{ accessFlags := 4120, nameIndex := 121, descriptorIndex := 122, attributes := #[] }])
  fields := #[{ name := "$assertionsDisabled", type := .boolean, accessFlags := 4120, slot := 0, constantValue := 0 }]
  methods := #[k13m0, k13m1, k13m2, k13m3, k13m4]
  instanceTypes := #[]
  staticTypes := #[.boolean]
  resolved := Array.replicate 395 none
  statics := none }

def pool14 : Array CpInfo := pool [(1, .fieldref 2 3), (0, .class_ 4), (0, .nameAndType 5 6), (0, u "java/util/Optional"), (0, u "EMPTY"), (0, u "Ljava/util/Optional;"), (0, .methodref 8 9), (0, .class_ 10), (0, .nameAndType 11 12), (0, u "java/lang/Object"), (0, u "<init>"), (0, u "()V"), (0, .fieldref 2 14), (0, .nameAndType 15 16), (0, u "value"), (0, u "Ljava/lang/Object;"), (0, .methodref 18 19), (0, .class_ 20), (0, .nameAndType 21 22), (0, u "java/util/Objects"), (0, u "requireNonNull"), (0, u "(Ljava/lang/Object;)Ljava/lang/Object;"), (0, .methodref 2 24), (0, .nameAndType 11 25), (0, u "(Ljava/lang/Object;)V"), (20, u "()Z"), (8, u "empty"), (0, u "()Ljava/util/Optional;"), (8, u "(Ljava/lang/Object;)Ljava/util/Optional;"), (2, u "isPresent"), (4, u "get"), (0, u "()Ljava/lang/Object;"), (7, u "of")] 104

def k14c0 : Code := { maxStack := 1, maxLocals := 1, code := jdk_32_method_1_code, exceptionTable := #[], attributes := #[] }
def k14m0 : Method := { name := "empty", desc := "()Ljava/util/Optional;", sig := { parameters := [], returnType := some (.object "java/util/Optional") }, accessFlags := 9, code := some k14c0 }
def k14c1 : Code := { maxStack := 2, maxLocals := 2, code := jdk_32_method_2_code, exceptionTable := #[], attributes := #[] }
def k14m1 : Method := { name := "<init>", desc := "(Ljava/lang/Object;)V", sig := { parameters := [(.object "java/lang/Object")], returnType := none }, accessFlags := 2, code := some k14c1 }
def k14c2 : Code := { maxStack := 3, maxLocals := 1, code := jdk_32_method_3_code, exceptionTable := #[], attributes := #[] }
def k14m2 : Method := { name := "of", desc := "(Ljava/lang/Object;)Ljava/util/Optional;", sig := { parameters := [(.object "java/lang/Object")], returnType := some (.object "java/util/Optional") }, accessFlags := 9, code := some k14c2 }
def k14c3 : Code := { maxStack := 3, maxLocals := 1, code := jdk_32_method_5_code, exceptionTable := #[], attributes := #[] }
def k14m3 : Method := { name := "get", desc := "()Ljava/lang/Object;", sig := { parameters := [], returnType := some (.object "java/lang/Object") }, accessFlags := 1, code := some k14c3 }
def k14c4 : Code := { maxStack := 1, maxLocals := 1, code := jdk_32_method_6_code, exceptionTable := #[], attributes := #[] }
def k14m4 : Method := { name := "isPresent", desc := "()Z", sig := { parameters := [], returnType := some .boolean }, accessFlags := 1, code := some k14c4 }
/-- java/util/Optional -/
def k14 : Class := { plain "java/util/Optional" (some 0) with
  accessFlags := 49
  interfaces := #[]
  cf := some (fileOf pool14 2 #[] #[{ accessFlags := 9, nameIndex := 55, descriptorIndex := 56, attributes := #[] }, { accessFlags := 2, nameIndex := 11, descriptorIndex := 25, attributes := #[] }, { accessFlags := 9, nameIndex := 82, descriptorIndex := 65, attributes := #[] }, { accessFlags := 1, nameIndex := 73, descriptorIndex := 74, attributes := #[] }, { accessFlags := 1, nameIndex := 68, descriptorIndex := 46, attributes := #[] }] 49 8 #[] #[{ accessFlags := 26, nameIndex := 5, descriptorIndex := 6, attributes := #[] }, { accessFlags := 18, nameIndex := 15, descriptorIndex := 16, attributes := #[] }])
  fields := #[{ name := "EMPTY", type := (.object "java/util/Optional"), accessFlags := 26, slot := 0, constantValue := 0 }, { name := "value", type := (.object "java/lang/Object"), accessFlags := 18, slot := 0, constantValue := 0 }]
  methods := #[k14m0, k14m1, k14m2, k14m3, k14m4]
  instanceTypes := #[(.object "java/lang/Object")]
  staticTypes := #[(.object "java/util/Optional")]
  resolved := Array.replicate 187 none
  statics := some 2 }

def pool15 : Array CpInfo := pool [(2, .class_ 4), (1, u "java/lang/Object"), (0, u "<init>"), (0, u "()V"), (35, .class_ 44), (1, u "java/util/Objects"), (0, u "requireNonNull"), (0, u "(Ljava/lang/Object;)Ljava/lang/Object;")] 137

def k15m0 : Method := { name := "<init>", desc := "()V", sig := { parameters := [], returnType := none }, accessFlags := 2, code := none }
def k15c1 : Code := { maxStack := 2, maxLocals := 1, code := jdk_31_method_10_code, exceptionTable := #[], attributes := #[] }
def k15m1 : Method := { name := "requireNonNull", desc := "(Ljava/lang/Object;)Ljava/lang/Object;", sig := { parameters := [(.object "java/lang/Object")], returnType := some (.object "java/lang/Object") }, accessFlags := 9, code := some k15c1 }
/-- java/util/Objects -/
def k15 : Class := { plain "java/util/Objects" (some 0) with
  accessFlags := 49
  interfaces := #[]
  cf := some (fileOf pool15 42 #[] #[{ accessFlags := 2, nameIndex := 5, descriptorIndex := 6, attributes := #[] }, { accessFlags := 9, nameIndex := 45, descriptorIndex := 46, attributes := #[] }] 49 2 #[] #[])
  fields := #[]
  methods := #[k15m0, k15m1]
  instanceTypes := #[]
  staticTypes := #[]
  resolved := Array.replicate 184 none
  statics := none }

def pool16 : Array CpInfo := pool [(2, .class_ 4), (1, u "java/lang/Object"), (0, u "<init>"), (0, u "()V"), (17, .class_ 26), (1, u "jdk/internal/util/Preconditions"), (6, u "checkIndex"), (21, .class_ 56), (0, u "jdk/internal/util/Preconditions$4"), (57, .class_ 115), (0, u "jdk/internal/util/Preconditions$1"), (7, u "SIOOBE_FORMATTER"), (0, u "Ljava/util/function/BiFunction;"), (0, .class_ 126), (0, u "jdk/internal/util/Preconditions$2"), (3, u "AIOOBE_FORMATTER"), (0, .class_ 132), (0, u "jdk/internal/util/Preconditions$3"), (3, u "IOOBE_FORMATTER"), (41, u "(IILjava/util/function/BiFunction;)I")] 15

def k16m0 : Method := { name := "<init>", desc := "()V", sig := { parameters := [], returnType := none }, accessFlags := 1, code := none }
def k16c1 : Code := { maxStack := 3, maxLocals := 3, code := jdk_41_method_11_code, exceptionTable := #[], attributes := #[] }
def k16m1 : Method := { name := "checkIndex", desc := "(IILjava/util/function/BiFunction;)I", sig := { parameters := [.int, .int, (.object "java/util/function/BiFunction")], returnType := some .int }, accessFlags := 9, code := some k16c1 }
/-- jdk/internal/util/Preconditions -/
def k16 : Class := { plain "jdk/internal/util/Preconditions" (some 0) with
  accessFlags := 33
  interfaces := #[]
  cf := some (fileOf pool16 24 #[.nestMembers #[55, 131, 125, 114]] #[{ accessFlags := 1, nameIndex := 5, descriptorIndex := 6, attributes := #[] }, { accessFlags := 9, nameIndex := 33, descriptorIndex := 178, attributes := #[] }] 33 2 #[] #[{ accessFlags := 25, nameIndex := 123, descriptorIndex := 124, attributes := #[] }, { accessFlags := 25, nameIndex := 130, descriptorIndex := 124, attributes := #[] }, { accessFlags := 25, nameIndex := 136, descriptorIndex := 124, attributes := #[] }])
  fields := #[{ name := "SIOOBE_FORMATTER", type := (.object "java/util/function/BiFunction"), accessFlags := 25, slot := 0, constantValue := 0 }, { name := "AIOOBE_FORMATTER", type := (.object "java/util/function/BiFunction"), accessFlags := 25, slot := 1, constantValue := 0 }, { name := "IOOBE_FORMATTER", type := (.object "java/util/function/BiFunction"), accessFlags := 25, slot := 2, constantValue := 0 }]
  methods := #[k16m0, k16m1]
  instanceTypes := #[]
  staticTypes := #[(.object "java/util/function/BiFunction"), (.object "java/util/function/BiFunction"), (.object "java/util/function/BiFunction")]
  resolved := Array.replicate 194 none
  statics := some 3 }

def pool17 : Array CpInfo := pool [(9, u "<init>"), (6, .class_ 18), (1, u "java/lang/Object"), (0, u "()V"), (1, .class_ 23), (1, u "jdk/internal/util/ArraysSupport"), (0, u "LOG2_ARRAY_LONG_INDEX_SCALE"), (0, u "I"), (2, u "U"), (0, u "Ljdk/internal/misc/Unsafe;"), (8, u "BIG_ENDIAN"), (0, u "Z"), (8, u "LOG2_BYTE_BIT_SIZE"), (4, u "LOG2_ARRAY_INT_INDEX_SCALE"), (54, u "JLA"), (0, u "Ljdk/internal/access/JavaLangAccess;"), (11, u "LOG2_ARRAY_BOOLEAN_INDEX_SCALE"), (9, u "LOG2_ARRAY_BYTE_INDEX_SCALE"), (5, u "LOG2_ARRAY_CHAR_INDEX_SCALE"), (5, u "LOG2_ARRAY_SHORT_INDEX_SCALE"), (18, u "LOG2_ARRAY_FLOAT_INDEX_SCALE"), (24, u "LOG2_ARRAY_DOUBLE_INDEX_SCALE"), (89, u "T_BOOLEAN"), (2, u "T_CHAR"), (1, u "T_FLOAT"), (1, u "T_DOUBLE"), (1, u "T_BYTE"), (1, u "T_SHORT"), (1, u "T_INT"), (1, u "T_LONG"), (1, u "SOFT_MAX_ARRAY_LENGTH")] 83

def k17m0 : Method := { name := "<init>", desc := "()V", sig := { parameters := [], returnType := none }, accessFlags := 2, code := none }
/-- jdk/internal/util/ArraysSupport -/
def k17 : Class := { plain "jdk/internal/util/ArraysSupport" (some 0) with
  accessFlags := 33
  interfaces := #[]
  cf := some (fileOf pool17 21 #[] #[{ accessFlags := 2, nameIndex := 9, descriptorIndex := 19, attributes := #[] }] 33 16 #[] #[{ accessFlags := 24, nameIndex := 28, descriptorIndex := 29, attributes := #[] }, { accessFlags := 26, nameIndex := 38, descriptorIndex := 39, attributes := #[] }, { accessFlags := 25, nameIndex := 121, descriptorIndex := 25, attributes := #[] }, { accessFlags := 25, nameIndex := 131, descriptorIndex := 25, attributes := #[] }, { accessFlags := 25, nameIndex := 137, descriptorIndex := 25, attributes := #[] }, { accessFlags := 25, nameIndex := 143, descriptorIndex := 25, attributes := #[] }, { accessFlags := 25, nameIndex := 53, descriptorIndex := 25, attributes := #[] }, { accessFlags := 25, nameIndex := 24, descriptorIndex := 25, attributes := #[] }, { accessFlags := 25, nameIndex := 162, descriptorIndex := 25, attributes := #[] }, { accessFlags := 25, nameIndex := 187, descriptorIndex := 25, attributes := #[] }, { accessFlags := 26, nameIndex := 48, descriptorIndex := 25, attributes := #[] }, { accessFlags := 25, nameIndex := 277, descriptorIndex := 25, attributes := #[] }, { accessFlags := 25, nameIndex := 280, descriptorIndex := 25, attributes := #[] }, { accessFlags := 25, nameIndex := 282, descriptorIndex := 25, attributes := #[] }, { accessFlags := 25, nameIndex := 284, descriptorIndex := 25, attributes := #[] }, { accessFlags := 25, nameIndex := 286, descriptorIndex := 25, attributes := #[] }, { accessFlags := 25, nameIndex := 288, descriptorIndex := 25, attributes := #[] }, { accessFlags := 25, nameIndex := 290, descriptorIndex := 25, attributes := #[] }, { accessFlags := 25, nameIndex := 292, descriptorIndex := 25, attributes := #[] }, { accessFlags := 26, nameIndex := 108, descriptorIndex := 109, attributes := #[] }, { accessFlags := 25, nameIndex := 294, descriptorIndex := 25, attributes := #[] }])
  fields := #[{ name := "U", type := (.object "jdk/internal/misc/Unsafe"), accessFlags := 24, slot := 0, constantValue := 0 }, { name := "BIG_ENDIAN", type := .boolean, accessFlags := 26, slot := 1, constantValue := 0 }, { name := "LOG2_ARRAY_BOOLEAN_INDEX_SCALE", type := .int, accessFlags := 25, slot := 2, constantValue := 0 }, { name := "LOG2_ARRAY_BYTE_INDEX_SCALE", type := .int, accessFlags := 25, slot := 3, constantValue := 0 }, { name := "LOG2_ARRAY_CHAR_INDEX_SCALE", type := .int, accessFlags := 25, slot := 4, constantValue := 0 }, { name := "LOG2_ARRAY_SHORT_INDEX_SCALE", type := .int, accessFlags := 25, slot := 5, constantValue := 0 }, { name := "LOG2_ARRAY_INT_INDEX_SCALE", type := .int, accessFlags := 25, slot := 6, constantValue := 0 }, { name := "LOG2_ARRAY_LONG_INDEX_SCALE", type := .int, accessFlags := 25, slot := 7, constantValue := 0 }, { name := "LOG2_ARRAY_FLOAT_INDEX_SCALE", type := .int, accessFlags := 25, slot := 8, constantValue := 0 }, { name := "LOG2_ARRAY_DOUBLE_INDEX_SCALE", type := .int, accessFlags := 25, slot := 9, constantValue := 0 }, { name := "LOG2_BYTE_BIT_SIZE", type := .int, accessFlags := 26, slot := 10, constantValue := 0 }, { name := "T_BOOLEAN", type := .int, accessFlags := 25, slot := 11, constantValue := 0 }, { name := "T_CHAR", type := .int, accessFlags := 25, slot := 12, constantValue := 0 }, { name := "T_FLOAT", type := .int, accessFlags := 25, slot := 13, constantValue := 0 }, { name := "T_DOUBLE", type := .int, accessFlags := 25, slot := 14, constantValue := 0 }, { name := "T_BYTE", type := .int, accessFlags := 25, slot := 15, constantValue := 0 }, { name := "T_SHORT", type := .int, accessFlags := 25, slot := 16, constantValue := 0 }, { name := "T_INT", type := .int, accessFlags := 25, slot := 17, constantValue := 0 }, { name := "T_LONG", type := .int, accessFlags := 25, slot := 18, constantValue := 0 }, { name := "JLA", type := (.object "jdk/internal/access/JavaLangAccess"), accessFlags := 26, slot := 19, constantValue := 0 }, { name := "SOFT_MAX_ARRAY_LENGTH", type := .int, accessFlags := 25, slot := 20, constantValue := 0 }]
  methods := #[k17m0]
  instanceTypes := #[]
  staticTypes := #[(.object "jdk/internal/misc/Unsafe"), .boolean, .int, .int, .int, .int, .int, .int, .int, .int, .int, .int, .int, .int, .int, .int, .int, .int, .int, (.object "jdk/internal/access/JavaLangAccess"), .int]
  resolved := Array.replicate 378 none
  statics := none }

/-- the primitive byte -/
def k18 : Class := { plain "byte" none with kind := .primitive 'B', accessFlags := 0x411 }
/-- [B -/
def k19 : Class := { plain "[B" (some 0) with kind := .array 18 .byte, interfaces := #[11, 2], accessFlags := 1041 }

/-- the primitive char -/
def k20 : Class := { plain "char" none with kind := .primitive 'C', accessFlags := 0x411 }
/-- [C -/
def k21 : Class := { plain "[C" (some 0) with kind := .array 20 .char, interfaces := #[11, 2], accessFlags := 1041 }

/-- the primitive int -/
def k22 : Class := { plain "int" none with kind := .primitive 'I', accessFlags := 0x411 }
/-- [I -/
def k23 : Class := { plain "[I" (some 0) with kind := .array 22 .int, interfaces := #[11, 2], accessFlags := 1041 }

/-- [Lcom/example/tidewall/tidewall/ledger/BusinessCalendar; -/
def k24 : Class := { plain "[Lcom/example/tidewall/tidewall/ledger/BusinessCalendar;" (some 0) with kind := .array 10 (.object "com/example/tidewall/tidewall/ledger/BusinessCalendar"), interfaces := #[11, 2], accessFlags := 1041 }

def heap : Heap := #[{ cls := 7, slots := #[.long 0, .int 1, .null, .int 0, .null, .int 0, .int 0], vm := .statics 7 },
  { cls := 10, slots := #[.ref 5, .ref 4], vm := .statics 10 },
  { cls := 14, slots := #[.ref 8], vm := .statics 14 },
  { cls := 16, slots := #[.null, .null, .null], vm := .statics 16 },
  { cls := 24, slots := #[.ref 5], vm := .none },
  { cls := 12, slots := #[.null, .int 0, .int 0, .ref 6], vm := .none },
  { cls := 7, slots := #[.ref 7, .int 0, .int 0, .int 0], vm := .none },
  { cls := 19, slots := #[.int 117, .int 115, .int 45, .int 102, .int 101, .int 100, .int 101, .int 114, .int 97, .int 108, .int 45, .int 114, .int 101, .int 115, .int 101, .int 114, .int 118, .int 101], vm := .none },
  { cls := 14, slots := #[.null], vm := .none }]
def classes : Array Class := #[k0, k1, k2, k3, k4, k5, k6, k7, k8, k9, k10, k11, k12, k13, k14, k15, k16, k17, k18, k19, k20, k21, k22, k23, k24]
def interned : List (Array UInt16 × Addr) := []
def slotsUsed : Nat := 41
def theMethod : MethodId := ⟨1, 1⟩
def args0 : Array Value := #[.int 5, .int 6, .int 7]
def aboutOver (below : List Frame) : State where
  vm := { classes := classes, interned := interned.toArray }
  heap := heap
  slotsUsed := slotsUsed
  threads := #[{ frames := .invoking theMethod args0 :: below }]
def below0 : List Frame := [.native { method := ⟨0, 0⟩, args := #[] }]
def about1 : State := aboutOver below0
def p0 : Program := .bare "" "" ""
def e0 : Env := launch0.env 0 0 0
theorem w_frames : about1.frames = Frame.invoking theMethod args0 :: below0 := rfl
set_option maxRecDepth 65536 in
theorem w_args : argsFit about1.vm theMethod args0 = true := by decide +kernel
set_option maxRecDepth 65536 in
theorem w_heap : heapFits about1 = true := by decide +kernel
set_option maxRecDepth 65536 in
theorem w_runnable : about1.curStatus? = some .runnable := by decide +kernel
set_option maxRecDepth 65536 in
theorem w_alone : about1.alone = true := by decide +kernel
set_option maxRecDepth 65536 in
theorem w_named : about1.methodNamed? x = some theMethod := by decide +kernel
set_option maxRecDepth 65536 in
theorem w_hears : about1.hears theMethod below0 = true := by decide +kernel
set_option maxRecDepth 65536 in
theorem w_ripe : about1.ripe theMethod args0 below0 = true := by decide +kernel
theorem w_running : about1.status = .running := rfl
set_option maxRecDepth 65536 in
theorem w_room : about1.hasRoom e0.platform room_1 = true :=
  launch0.hasRoom_least _ room_1 (by decide +kernel) (by decide +kernel) (by decide +kernel) (by decide +kernel) (by decide +kernel) (by decide +kernel)
theorem allAtoms_all (ts : List Jvm.Cond) (a : Array Jvm.Value) (st : Jvm.State) : (allAtoms ts).before a st = ts.all (fun c => c.before a st) := by
  induction ts with
  | nil => rfl
  | cons c t ih =>
    show (Jvm.Cond.and c (allAtoms t)).before a st = _
    rw [Jvm.Cond.before_and, ih, List.all_cons]
def words1 : List Jvm.Cond := Jvm.Cond.code x code maxLocals ret :: tables_1
/-- a 'code' word, met by the world's own term for the bytes: nothing is compared byte by byte -/
theorem code_word {y : MethodName} {bytes : ByteArray} {mx : Nat} {rt : Option FieldType} {a : Array Value} {s : State} {m : MethodId} {meth : Method} {c : Code} (h1 : s.methodNamed? y = some m) (h2 : s.vm.method? m = some meth) (h3 : meth.code = some c) (h4 : c.code = bytes)
    (h5 : (c.maxLocals == mx && c.exceptionTable.isEmpty && decide (c.maxStack ≤ mostOperands) && decide (meth.sig.returnType = rt) && !meth.locks && decide (parseMethodDescriptor y.desc = some meth.sig)) = true) : (Jvm.Cond.code y bytes mx rt).before a s = true := by
  simp only [Bool.and_eq_true, beq_iff_eq, Bool.not_eq_true', decide_eq_true_eq] at h5
  obtain ⟨⟨⟨⟨⟨g1, g2⟩, g3⟩, g4⟩, g5⟩, g6⟩ := h5
  simp [Cond.before, Cond.holds, Cond.value, h1, h2, h3, h4, g1, g2, g3, g4, g5, g6]
def isCode : Jvm.Cond → Bool
  | .code _ _ _ _ => true
  | _ => false
theorem all_split {L : List Jvm.Cond} {P : Jvm.Cond → Bool} (h1 : L.all (fun c => isCode c || P c) = true) (h2 : ∀ c ∈ L.filter isCode, P c = true) : L.all P = true := by
  refine List.all_eq_true.mpr fun c hc => ?_
  have h := List.all_eq_true.mp h1 c hc
  rcases Bool.eq_false_or_eq_true (isCode c) with hi | hi
  · exact h2 c (List.mem_filter.mpr ⟨hc, hi⟩)
  · simpa [hi] using h
set_option maxRecDepth 65536 in
theorem w_c0 : (Jvm.Cond.code x code maxLocals ret).before args0 about1 = true := code_word (m := ⟨1, 1⟩) (meth := k1m1) (c := k1c1) (by decide +kernel) rfl rfl rfl (by decide +kernel)
set_option maxRecDepth 65536 in
theorem w_c1 : (Jvm.Cond.code ({ cls := "java/lang/String", name := "<init>", desc := "([C)V" } : Jvm.MethodName) jdk_42_method_3_code (2 : Nat) (Option.none : Option Jvm.ClassFile.FieldType)).before args0 about1 = true := code_word (m := ⟨7, 1⟩) (meth := k7m1) (c := k7c1) (by decide +kernel) rfl rfl rfl (by decide +kernel)
set_option maxRecDepth 65536 in
theorem w_c2 : (Jvm.Cond.code ({ cls := "java/lang/String", name := "<init>", desc := "([CIILjava/lang/Void;)V" } : Jvm.MethodName) jdk_42_method_149_code (6 : Nat) (Option.none : Option Jvm.ClassFile.FieldType)).before args0 about1 = true := code_word (m := ⟨7, 5⟩) (meth := k7m5) (c := k7c5) (by decide +kernel) rfl rfl rfl (by decide +kernel)
set_option maxRecDepth 65536 in
theorem w_c3 : (Jvm.Cond.code ({ cls := "java/lang/Object", name := "<init>", desc := "()V" } : Jvm.MethodName) object_method_1_code (1 : Nat) (Option.none : Option Jvm.ClassFile.FieldType)).before args0 about1 = true := code_word (m := ⟨0, 0⟩) (meth := k0m0) (c := k0c0) (by decide +kernel) rfl rfl rfl (by decide +kernel)
set_option maxRecDepth 65536 in
theorem w_c4 : (Jvm.Cond.code ({ cls := "java/lang/StringUTF16", name := "compress", desc := "([CII)[B" } : Jvm.MethodName) jdk_52_method_16_code (6 : Nat) (Option.some (Jvm.ClassFile.FieldType.array Jvm.ClassFile.FieldType.byte))).before args0 about1 = true := code_word (m := ⟨8, 2⟩) (meth := k8m2) (c := k8c2) (by decide +kernel) rfl rfl rfl (by decide +kernel)
set_option maxRecDepth 65536 in
theorem w_c5 : (Jvm.Cond.code ({ cls := "java/lang/StringUTF16", name := "compress", desc := "([CI[BII)I" } : Jvm.MethodName) jdk_52_method_21_code (7 : Nat) (Option.some Jvm.ClassFile.FieldType.int)).before args0 about1 = true := code_word (m := ⟨8, 3⟩) (meth := k8m3) (c := k8c3) (by decide +kernel) rfl rfl rfl (by decide +kernel)
set_option maxRecDepth 65536 in
theorem w_c6 : (Jvm.Cond.code ({ cls := "java/lang/StringUTF16", name := "coderFromArrayLen", desc := "([BI)B" } : Jvm.MethodName) jdk_52_method_15_code (2 : Nat) (Option.some Jvm.ClassFile.FieldType.byte)).before args0 about1 = true := code_word (m := ⟨8, 1⟩) (meth := k8m1) (c := k8c1) (by decide +kernel) rfl rfl rfl (by decide +kernel)
set_option maxRecDepth 65536 in
theorem w_c7 : (Jvm.Cond.code ({ cls := "com/example/tidewall/tidewall/ledger/BusinessCalendar", name := "byId", desc := "(Ljava/lang/String;)Ljava/util/Optional;" } : Jvm.MethodName) prog_37_method_5_code (5 : Nat) (Option.some (Jvm.ClassFile.FieldType.object "java/util/Optional"))).before args0 about1 = true := code_word (m := ⟨10, 2⟩) (meth := k10m2) (c := k10c2) (by decide +kernel) rfl rfl rfl (by decide +kernel)
set_option maxRecDepth 65536 in
theorem w_c8 : (Jvm.Cond.code ({ cls := "com/example/tidewall/tidewall/ledger/BusinessCalendar", name := "values", desc := "()[Lcom/example/tidewall/tidewall/ledger/BusinessCalendar;" } : Jvm.MethodName) prog_37_method_1_code (0 : Nat) (Option.some (Jvm.ClassFile.FieldType.array (Jvm.ClassFile.FieldType.object "com/example/tidewall/tidewall/ledger/BusinessCalendar")))).before args0 about1 = true := code_word (m := ⟨10, 0⟩) (meth := k10m0) (c := k10c0) (by decide +kernel) rfl rfl rfl (by decide +kernel)
set_option maxRecDepth 65536 in
theorem w_c9 : (Jvm.Cond.code ({ cls := "java/lang/String", name := "equals", desc := "(Ljava/lang/Object;)Z" } : Jvm.MethodName) jdk_42_method_66_code (3 : Nat) (Option.some Jvm.ClassFile.FieldType.boolean)).before args0 about1 = true := code_word (m := ⟨7, 3⟩) (meth := k7m3) (c := k7c3) (by decide +kernel) rfl rfl rfl (by decide +kernel)
set_option maxRecDepth 65536 in
theorem w_c10 : (Jvm.Cond.code ({ cls := "java/lang/StringLatin1", name := "equals", desc := "([B[B)Z" } : Jvm.MethodName) jdk_43_method_13_code (3 : Nat) (Option.some Jvm.ClassFile.FieldType.boolean)).before args0 about1 = true := code_word (m := ⟨13, 3⟩) (meth := k13m3) (c := k13c3) (by decide +kernel) rfl rfl rfl (by decide +kernel)
set_option maxRecDepth 65536 in
theorem w_c11 : (Jvm.Cond.code ({ cls := "java/util/Optional", name := "of", desc := "(Ljava/lang/Object;)Ljava/util/Optional;" } : Jvm.MethodName) jdk_32_method_3_code (1 : Nat) (Option.some (Jvm.ClassFile.FieldType.object "java/util/Optional"))).before args0 about1 = true := code_word (m := ⟨14, 2⟩) (meth := k14m2) (c := k14c2) (by decide +kernel) rfl rfl rfl (by decide +kernel)
set_option maxRecDepth 65536 in
theorem w_c12 : (Jvm.Cond.code ({ cls := "java/util/Objects", name := "requireNonNull", desc := "(Ljava/lang/Object;)Ljava/lang/Object;" } : Jvm.MethodName) jdk_31_method_10_code (1 : Nat) (Option.some (Jvm.ClassFile.FieldType.object "java/lang/Object"))).before args0 about1 = true := code_word (m := ⟨15, 1⟩) (meth := k15m1) (c := k15c1) (by decide +kernel) rfl rfl rfl (by decide +kernel)
set_option maxRecDepth 65536 in
theorem w_c13 : (Jvm.Cond.code ({ cls := "java/util/Optional", name := "<init>", desc := "(Ljava/lang/Object;)V" } : Jvm.MethodName) jdk_32_method_2_code (2 : Nat) (Option.none : Option Jvm.ClassFile.FieldType)).before args0 about1 = true := code_word (m := ⟨14, 1⟩) (meth := k14m1) (c := k14c1) (by decide +kernel) rfl rfl rfl (by decide +kernel)
set_option maxRecDepth 65536 in
theorem w_c14 : (Jvm.Cond.code ({ cls := "java/util/Optional", name := "isPresent", desc := "()Z" } : Jvm.MethodName) jdk_32_method_6_code (1 : Nat) (Option.some Jvm.ClassFile.FieldType.boolean)).before args0 about1 = true := code_word (m := ⟨14, 4⟩) (meth := k14m4) (c := k14c4) (by decide +kernel) rfl rfl rfl (by decide +kernel)
set_option maxRecDepth 65536 in
theorem w_c15 : (Jvm.Cond.code ({ cls := "java/util/Optional", name := "get", desc := "()Ljava/lang/Object;" } : Jvm.MethodName) jdk_32_method_5_code (1 : Nat) (Option.some (Jvm.ClassFile.FieldType.object "java/lang/Object"))).before args0 about1 = true := code_word (m := ⟨14, 3⟩) (meth := k14m3) (c := k14c3) (by decide +kernel) rfl rfl rfl (by decide +kernel)
set_option maxRecDepth 65536 in
theorem w_c16 : (Jvm.Cond.code ({ cls := "com/example/tidewall/tidewall/ledger/BusinessCalendar", name := "id", desc := "()Ljava/lang/String;" } : Jvm.MethodName) prog_37_method_4_code (1 : Nat) (Option.some (Jvm.ClassFile.FieldType.object "java/lang/String"))).before args0 about1 = true := code_word (m := ⟨10, 1⟩) (meth := k10m1) (c := k10c1) (by decide +kernel) rfl rfl rfl (by decide +kernel)
set_option maxRecDepth 65536 in
theorem w_c17 : (Jvm.Cond.code ({ cls := "java/lang/String", name := "charAt", desc := "(I)C" } : Jvm.MethodName) jdk_42_method_56_code (2 : Nat) (Option.some Jvm.ClassFile.FieldType.char)).before args0 about1 = true := code_word (m := ⟨7, 2⟩) (meth := k7m2) (c := k7c2) (by decide +kernel) rfl rfl rfl (by decide +kernel)
set_option maxRecDepth 65536 in
theorem w_c18 : (Jvm.Cond.code ({ cls := "java/lang/String", name := "isLatin1", desc := "()Z" } : Jvm.MethodName) jdk_42_method_154_code (1 : Nat) (Option.some Jvm.ClassFile.FieldType.boolean)).before args0 about1 = true := code_word (m := ⟨7, 7⟩) (meth := k7m7) (c := k7c7) (by decide +kernel) rfl rfl rfl (by decide +kernel)
set_option maxRecDepth 65536 in
theorem w_c19 : (Jvm.Cond.code ({ cls := "java/lang/StringLatin1", name := "charAt", desc := "([BI)C" } : Jvm.MethodName) jdk_43_method_2_code (2 : Nat) (Option.some Jvm.ClassFile.FieldType.char)).before args0 about1 = true := code_word (m := ⟨13, 1⟩) (meth := k13m1) (c := k13c1) (by decide +kernel) rfl rfl rfl (by decide +kernel)
set_option maxRecDepth 65536 in
theorem w_c20 : (Jvm.Cond.code ({ cls := "java/lang/String", name := "checkIndex", desc := "(II)V" } : Jvm.MethodName) jdk_42_method_155_code (2 : Nat) (Option.none : Option Jvm.ClassFile.FieldType)).before args0 about1 = true := code_word (m := ⟨7, 8⟩) (meth := k7m8) (c := k7c8) (by decide +kernel) rfl rfl rfl (by decide +kernel)
set_option maxRecDepth 65536 in
theorem w_c21 : (Jvm.Cond.code ({ cls := "jdk/internal/util/Preconditions", name := "checkIndex", desc := "(IILjava/util/function/BiFunction;)I" } : Jvm.MethodName) jdk_41_method_11_code (3 : Nat) (Option.some Jvm.ClassFile.FieldType.int)).before args0 about1 = true := code_word (m := ⟨16, 1⟩) (meth := k16m1) (c := k16c1) (by decide +kernel) rfl rfl rfl (by decide +kernel)
set_option maxRecDepth 65536 in
theorem w_c22 : (Jvm.Cond.code ({ cls := "java/util/Optional", name := "empty", desc := "()Ljava/util/Optional;" } : Jvm.MethodName) jdk_32_method_1_code (1 : Nat) (Option.some (Jvm.ClassFile.FieldType.object "java/util/Optional"))).before args0 about1 = true := code_word (m := ⟨14, 0⟩) (meth := k14m0) (c := k14c0) (by decide +kernel) rfl rfl rfl (by decide +kernel)
set_option maxRecDepth 65536 in
theorem w_c23 : (Jvm.Cond.code ({ cls := "java/lang/String", name := "valueOf", desc := "(C)Ljava/lang/String;" } : Jvm.MethodName) jdk_42_method_139_code (1 : Nat) (Option.some (Jvm.ClassFile.FieldType.object "java/lang/String"))).before args0 about1 = true := code_word (m := ⟨7, 4⟩) (meth := k7m4) (c := k7c4) (by decide +kernel) rfl rfl rfl (by decide +kernel)
set_option maxRecDepth 65536 in
theorem w_c24 : (Jvm.Cond.code ({ cls := "java/lang/StringLatin1", name := "canEncode", desc := "(C)Z" } : Jvm.MethodName) jdk_43_method_3_code (1 : Nat) (Option.some Jvm.ClassFile.FieldType.boolean)).before args0 about1 = true := code_word (m := ⟨13, 2⟩) (meth := k13m2) (c := k13c2) (by decide +kernel) rfl rfl rfl (by decide +kernel)
set_option maxRecDepth 65536 in
theorem w_c25 : (Jvm.Cond.code ({ cls := "java/lang/StringLatin1", name := "toBytes", desc := "(C)[B" } : Jvm.MethodName) jdk_43_method_46_code (1 : Nat) (Option.some (Jvm.ClassFile.FieldType.array Jvm.ClassFile.FieldType.byte))).before args0 about1 = true := code_word (m := ⟨13, 4⟩) (meth := k13m4) (c := k13c4) (by decide +kernel) rfl rfl rfl (by decide +kernel)
set_option maxRecDepth 65536 in
theorem w_c26 : (Jvm.Cond.code ({ cls := "java/lang/String", name := "<init>", desc := "([BB)V" } : Jvm.MethodName) jdk_42_method_151_code (3 : Nat) (Option.none : Option Jvm.ClassFile.FieldType)).before args0 about1 = true := code_word (m := ⟨7, 6⟩) (meth := k7m6) (c := k7c6) (by decide +kernel) rfl rfl rfl (by decide +kernel)
def codes1 : List Jvm.Cond := [Jvm.Cond.code x code maxLocals ret, Jvm.Cond.code ({ cls := "java/lang/String", name := "<init>", desc := "([C)V" } : Jvm.MethodName) jdk_42_method_3_code (2 : Nat) (Option.none : Option Jvm.ClassFile.FieldType), Jvm.Cond.code ({ cls := "java/lang/String", name := "<init>", desc := "([CIILjava/lang/Void;)V" } : Jvm.MethodName) jdk_42_method_149_code (6 : Nat) (Option.none : Option Jvm.ClassFile.FieldType), Jvm.Cond.code ({ cls := "java/lang/Object", name := "<init>", desc := "()V" } : Jvm.MethodName) object_method_1_code (1 : Nat) (Option.none : Option Jvm.ClassFile.FieldType), Jvm.Cond.code ({ cls := "java/lang/StringUTF16", name := "compress", desc := "([CII)[B" } : Jvm.MethodName) jdk_52_method_16_code (6 : Nat) (Option.some (Jvm.ClassFile.FieldType.array Jvm.ClassFile.FieldType.byte)), Jvm.Cond.code ({ cls := "java/lang/StringUTF16", name := "compress", desc := "([CI[BII)I" } : Jvm.MethodName) jdk_52_method_21_code (7 : Nat) (Option.some Jvm.ClassFile.FieldType.int), Jvm.Cond.code ({ cls := "java/lang/StringUTF16", name := "coderFromArrayLen", desc := "([BI)B" } : Jvm.MethodName) jdk_52_method_15_code (2 : Nat) (Option.some Jvm.ClassFile.FieldType.byte), Jvm.Cond.code ({ cls := "com/example/tidewall/tidewall/ledger/BusinessCalendar", name := "byId", desc := "(Ljava/lang/String;)Ljava/util/Optional;" } : Jvm.MethodName) prog_37_method_5_code (5 : Nat) (Option.some (Jvm.ClassFile.FieldType.object "java/util/Optional")), Jvm.Cond.code ({ cls := "com/example/tidewall/tidewall/ledger/BusinessCalendar", name := "values", desc := "()[Lcom/example/tidewall/tidewall/ledger/BusinessCalendar;" } : Jvm.MethodName) prog_37_method_1_code (0 : Nat) (Option.some (Jvm.ClassFile.FieldType.array (Jvm.ClassFile.FieldType.object "com/example/tidewall/tidewall/ledger/BusinessCalendar"))), Jvm.Cond.code ({ cls := "java/lang/String", name := "equals", desc := "(Ljava/lang/Object;)Z" } : Jvm.MethodName) jdk_42_method_66_code (3 : Nat) (Option.some Jvm.ClassFile.FieldType.boolean), Jvm.Cond.code ({ cls := "java/lang/StringLatin1", name := "equals", desc := "([B[B)Z" } : Jvm.MethodName) jdk_43_method_13_code (3 : Nat) (Option.some Jvm.ClassFile.FieldType.boolean), Jvm.Cond.code ({ cls := "java/util/Optional", name := "of", desc := "(Ljava/lang/Object;)Ljava/util/Optional;" } : Jvm.MethodName) jdk_32_method_3_code (1 : Nat) (Option.some (Jvm.ClassFile.FieldType.object "java/util/Optional")), Jvm.Cond.code ({ cls := "java/util/Objects", name := "requireNonNull", desc := "(Ljava/lang/Object;)Ljava/lang/Object;" } : Jvm.MethodName) jdk_31_method_10_code (1 : Nat) (Option.some (Jvm.ClassFile.FieldType.object "java/lang/Object")), Jvm.Cond.code ({ cls := "java/util/Optional", name := "<init>", desc := "(Ljava/lang/Object;)V" } : Jvm.MethodName) jdk_32_method_2_code (2 : Nat) (Option.none : Option Jvm.ClassFile.FieldType), Jvm.Cond.code ({ cls := "java/util/Optional", name := "isPresent", desc := "()Z" } : Jvm.MethodName) jdk_32_method_6_code (1 : Nat) (Option.some Jvm.ClassFile.FieldType.boolean), Jvm.Cond.code ({ cls := "java/util/Optional", name := "get", desc := "()Ljava/lang/Object;" } : Jvm.MethodName) jdk_32_method_5_code (1 : Nat) (Option.some (Jvm.ClassFile.FieldType.object "java/lang/Object")), Jvm.Cond.code ({ cls := "com/example/tidewall/tidewall/ledger/BusinessCalendar", name := "id", desc := "()Ljava/lang/String;" } : Jvm.MethodName) prog_37_method_4_code (1 : Nat) (Option.some (Jvm.ClassFile.FieldType.object "java/lang/String")), Jvm.Cond.code ({ cls := "java/lang/String", name := "charAt", desc := "(I)C" } : Jvm.MethodName) jdk_42_method_56_code (2 : Nat) (Option.some Jvm.ClassFile.FieldType.char), Jvm.Cond.code ({ cls := "java/lang/String", name := "isLatin1", desc := "()Z" } : Jvm.MethodName) jdk_42_method_154_code (1 : Nat) (Option.some Jvm.ClassFile.FieldType.boolean), Jvm.Cond.code ({ cls := "java/lang/StringLatin1", name := "charAt", desc := "([BI)C" } : Jvm.MethodName) jdk_43_method_2_code (2 : Nat) (Option.some Jvm.ClassFile.FieldType.char), Jvm.Cond.code ({ cls := "java/lang/String", name := "checkIndex", desc := "(II)V" } : Jvm.MethodName) jdk_42_method_155_code (2 : Nat) (Option.none : Option Jvm.ClassFile.FieldType), Jvm.Cond.code ({ cls := "jdk/internal/util/Preconditions", name := "checkIndex", desc := "(IILjava/util/function/BiFunction;)I" } : Jvm.MethodName) jdk_41_method_11_code (3 : Nat) (Option.some Jvm.ClassFile.FieldType.int), Jvm.Cond.code ({ cls := "java/util/Optional", name := "empty", desc := "()Ljava/util/Optional;" } : Jvm.MethodName) jdk_32_method_1_code (1 : Nat) (Option.some (Jvm.ClassFile.FieldType.object "java/util/Optional")), Jvm.Cond.code ({ cls := "java/lang/String", name := "valueOf", desc := "(C)Ljava/lang/String;" } : Jvm.MethodName) jdk_42_method_139_code (1 : Nat) (Option.some (Jvm.ClassFile.FieldType.object "java/lang/String")), Jvm.Cond.code ({ cls := "java/lang/StringLatin1", name := "canEncode", desc := "(C)Z" } : Jvm.MethodName) jdk_43_method_3_code (1 : Nat) (Option.some Jvm.ClassFile.FieldType.boolean), Jvm.Cond.code ({ cls := "java/lang/StringLatin1", name := "toBytes", desc := "(C)[B" } : Jvm.MethodName) jdk_43_method_46_code (1 : Nat) (Option.some (Jvm.ClassFile.FieldType.array Jvm.ClassFile.FieldType.byte)), Jvm.Cond.code ({ cls := "java/lang/String", name := "<init>", desc := "([BB)V" } : Jvm.MethodName) jdk_42_method_151_code (3 : Nat) (Option.none : Option Jvm.ClassFile.FieldType)]
set_option maxRecDepth 65536 in
theorem codes_eq : words1.filter isCode = codes1 := rfl
theorem w_codes : ∀ c ∈ words1.filter isCode, c.before args0 about1 = true := by
  rw [codes_eq]
  intro c hc
  simp only [codes1, List.mem_cons, List.not_mem_nil, or_false] at hc
  rcases hc with rfl | rfl | rfl | rfl | rfl | rfl | rfl | rfl | rfl | rfl | rfl | rfl | rfl | rfl | rfl | rfl | rfl | rfl | rfl | rfl | rfl | rfl | rfl | rfl | rfl | rfl | rfl
  · exact w_c0
  · exact w_c1
  · exact w_c2
  · exact w_c3
  · exact w_c4
  · exact w_c5
  · exact w_c6
  · exact w_c7
  · exact w_c8
  · exact w_c9
  · exact w_c10
  · exact w_c11
  · exact w_c12
  · exact w_c13
  · exact w_c14
  · exact w_c15
  · exact w_c16
  · exact w_c17
  · exact w_c18
  · exact w_c19
  · exact w_c20
  · exact w_c21
  · exact w_c22
  · exact w_c23
  · exact w_c24
  · exact w_c25
  · exact w_c26
set_option maxRecDepth 65536 in
theorem w_t1 : (words1.take 24).all (fun c => isCode c || c.before args0 about1) = true := by decide +kernel
set_option maxRecDepth 65536 in
theorem w_t2 : ((words1.drop 24).take 24).all (fun c => isCode c || c.before args0 about1) = true := by decide +kernel
set_option maxRecDepth 65536 in
theorem w_t3 : (((words1.drop 24).drop 24).take 24).all (fun c => isCode c || c.before args0 about1) = true := by decide +kernel
set_option maxRecDepth 65536 in
theorem w_t4 : ((((words1.drop 24).drop 24).drop 24).take 24).all (fun c => isCode c || c.before args0 about1) = true := by decide +kernel
set_option maxRecDepth 65536 in
theorem w_t5 : (((((words1.drop 24).drop 24).drop 24).drop 24).take 24).all (fun c => isCode c || c.before args0 about1) = true := by decide +kernel
set_option maxRecDepth 65536 in
theorem w_t6 : (((((words1.drop 24).drop 24).drop 24).drop 24).drop 24).all (fun c => isCode c || c.before args0 about1) = true := by decide +kernel
theorem w_tables : (allAtoms (Jvm.Cond.code x code maxLocals ret :: tables_1)).before args0 about1 = true := by
  rw [allAtoms_all]
  show words1.all (fun c => c.before args0 about1) = true
  refine all_split ?_ w_codes
  rw [← List.take_append_drop 24 words1, List.all_append, w_t1, ← List.take_append_drop 24 (words1.drop 24), List.all_append, w_t2, ← List.take_append_drop 24 ((words1.drop 24).drop 24), List.all_append, w_t3, ← List.take_append_drop 24 (((words1.drop 24).drop 24).drop 24), List.all_append, w_t4, ← List.take_append_drop 24 ((((words1.drop 24).drop 24).drop 24).drop 24), List.all_append, w_t5, w_t6]
  rfl
set_option maxRecDepth 65536 in
theorem w_rest : rest_1_c.before args0 about1 = true := by decide +kernel
set_option maxRecDepth 65536 in
theorem w_case : (Jvm.Cond.and given_1 narrow_1).before args0 about1 = true := by decide +kernel
set_option maxRecDepth 65536 in
theorem w_consts : constsHeld consts_1 about1 := Jvm.Lit.constsHeldB_iff.mp (by decide +kernel)
theorem w_applies : (headSpec (Jvm.Cond.code x code maxLocals ret :: tables_1) room_1).applies x e0.platform about1 = true :=
  (Spec.applies_iff w_frames).mpr ⟨w_running, w_runnable, w_alone, w_named, w_hears, w_ripe, w_room, w_tables⟩
theorem atStart : AtStart classFile x code maxLocals ret World_1 tables_1 room_1 Calls_1 rest_1 Pre_1 launch0 p0 e0 about1 theMethod args0 below0 :=
  ⟨lists_1, trivial, launch0.admits_env _ _ _, launch0.least_env, fairChoices_fair.cas, fairChoices_fair.clock, w_frames, w_args, w_heap, w_applies, ⟨w_consts, trivial⟩, w_rest, w_case⟩
end start1
theorem witness_1 : WitnessClaimed_1 := ⟨start1.p0, start1.e0, start1.about1, start1.theMethod, start1.args0, start1.below0, start1.atStart⟩
end Jvm.Pilot.@@N@@
