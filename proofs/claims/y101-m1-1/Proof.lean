import JvmDerived
import JvmDerived.Pilot.@@N@@Statement
import JvmDerived.Pilot.@@N@@Code
set_option linter.unusedVariables false
set_option linter.unusedSimpArgs false
/- laws to paste: Road.backV, Road.lenW, Road.eqW, Road.chN, Road.codOf (cut by pick.py; bodies as the Statement names them) -/
namespace Jvm.Pilot.@@N@@
namespace StrChars
open Jvm Sem ClassFile Op Lib Jvm.Stand Jvm.Free.XT Jvm.Free.ALB Jvm.Free.JM Jvm.Free
open Jvm.Lib.Cold (StaticIs)
/-- a char array whose places are chars -/
def Ch (a : Addr) (A : Cell) (U : State) : Prop := Arr .char a A U ∧ Typed .char A
theorem Ch.mv {a : Addr} {A : Cell} {U U' : State} (h : Ch a A U) (hal : U.vm.Alike U'.vm) (hh : U'.heap = U.heap) : Ch a A U' := ⟨h.1.mv hal hh, h.2⟩
theorem Ch.keep {a : Addr} {A : Cell} {U U' : State} (h : Ch a A U) (hal : U.vm.Alike U'.vm) (hk : U'.heap[a]? = some A) : Ch a A U' := ⟨h.1.keep hal hk, h.2⟩
/-- what place i of a char[]'s cell holds -/
def cv (A : Cell) (i : Nat) : Int32 := match A.slots[i]? with | some (.int x) => x | _ => 0
theorem Ch.get {a : Addr} {A : Cell} {U : State} (h : Ch a A U) {i : Nat} (hi : i < A.slots.size) : A.slots[i]? = some (.int (cv A i)) := by
  have e := Array.getElem?_eq_getElem hi
  have f := h.2 i _ e
  unfold cv; rw [e]
  generalize A.slots[i] = v at f
  cases v <;> simp [fits] at f ⊢
/-- the byte that i2b leaves of a char -/
def lo8 (x : Int32) : Int32 := x.toInt8.toInt32
theorem fits_lo8 (y : Int32) : fits .byte (.int (lo8 y)) = true := by
  have h1 := y.toInt8.le_toInt
  have h2 := y.toInt8.toInt_lt
  simp only [lo8, fits, Bool.and_eq_true, decide_eq_true_eq, Int32.le_iff_toInt_le, Int8.toInt_toInt32, show (-128 : Int32).toInt = -128 from by decide, show (127 : Int32).toInt = 127 from by decide]
  omega
/-- A' is A but that each place j of lo .. hi - 1 holds f j -/
def Laid (A A' : Cell) (lo hi : Nat) (f : Nat → Value) : Prop := A'.cls = A.cls ∧ A'.vm = A.vm ∧ A'.slots.size = A.slots.size ∧ ∀ i, A'.slots[i]? = if lo ≤ i ∧ i < hi then some (f i) else A.slots[i]?
theorem Laid.zero (A : Cell) (lo : Nat) (f : Nat → Value) : Laid A A lo (lo + 0) f := ⟨rfl, rfl, rfl, fun i => by rw [if_neg (by omega)]⟩
theorem Laid.step {A Ak : Cell} {lo k : Nat} {f : Nat → Value} {v : Value} (h : Laid A Ak lo k f) (hlo : lo ≤ k) (hk : k < Ak.slots.size) (hv : v = f k) : Laid A (Ak.setSlot k v) lo (k + 1) f := by
  refine ⟨h.1, h.2.1, by simpa [Cell.setSlot] using h.2.2.1, fun i => ?_⟩
  by_cases e : k = i
  · subst e; rw [Cell.slots_setSlot_self v hk, if_pos (by omega), hv]
  · rw [Cell.slots_setSlot_ne v e, h.2.2.2 i]
    by_cases q : lo ≤ i ∧ i < k
    · rw [if_pos q, if_pos (by omega)]
    · rw [if_neg q, if_neg (by omega)]
def U16 : String := "java/lang/StringUTF16"
namespace Cmp5
def yN : MethodName := ⟨"java/lang/StringUTF16", "compress", "([CI[BII)I"⟩
abbrev yB : ByteArray := jdk_52_method_21_code
theorem d0 : decode yB 0 = .ok (.iconst 0, 1) := by decide +kernel
theorem d1 : decode yB 1 = .ok (.istore 5, 2) := by decide +kernel
theorem d3 : decode yB 3 = .ok (.iload 5, 2) := by decide +kernel
theorem d5 : decode yB 5 = .ok (.iload 4, 2) := by decide +kernel
theorem d7 : decode yB 7 = .ok (.if_icmp (.ge) 37, 3) := by decide +kernel
theorem d10 : decode yB 10 = .ok (.aload_n 0, 1) := by decide +kernel
theorem d11 : decode yB 11 = .ok (.iload_n 1, 1) := by decide +kernel
theorem d12 : decode yB 12 = .ok (.caload, 1) := by decide +kernel
theorem d13 : decode yB 13 = .ok (.istore 6, 2) := by decide +kernel
theorem d15 : decode yB 15 = .ok (.iload 6, 2) := by decide +kernel
theorem d17 : decode yB 17 = .ok (.sipush 255, 3) := by decide +kernel
theorem d20 : decode yB 20 = .ok (.if_icmp (.le) 6, 3) := by decide +kernel
theorem d26 : decode yB 26 = .ok (.aload_n 2, 1) := by decide +kernel
theorem d27 : decode yB 27 = .ok (.iload_n 3, 1) := by decide +kernel
theorem d28 : decode yB 28 = .ok (.iload 6, 2) := by decide +kernel
theorem d30 : decode yB 30 = .ok (.i2b, 1) := by decide +kernel
theorem d31 : decode yB 31 = .ok (.bastore, 1) := by decide +kernel
theorem d32 : decode yB 32 = .ok (.iinc 1 1, 3) := by decide +kernel
theorem d35 : decode yB 35 = .ok (.iinc 3 1, 3) := by decide +kernel
theorem d38 : decode yB 38 = .ok (.iinc 5 1, 3) := by decide +kernel
theorem d41 : decode yB 41 = .ok (.goto (-38), 3) := by decide +kernel
theorem d44 : decode yB 44 = .ok (.iload 4, 2) := by decide +kernel
theorem d46 : decode yB 46 = .ok (.ireturn, 1) := by decide +kernel
def site : List Cond := []
def tab : Cond := tabOf yN yB 7 (some .int) site
def P (b : Addr) (A : Cell) (d : Addr) (B : Cell) (o q len : Nat) (args : Array Value) (s : State) : Prop := args = #[.ref b, .int (Int32.ofNat o), .ref d, .int (Int32.ofNat q), .int (Int32.ofNat len)] ∧ Ch b A s ∧ Arr .byte d B s ∧ b ≠ d ∧ o + len ≤ A.slots.size ∧ q + len ≤ B.slots.size ∧ ∀ i, i < len → ¬ 255 < cv A (o + i)
def E (b : Addr) (A : Cell) (d : Addr) (B : Cell) (o q len : Nat) (r : Option Value) (s u : State) : Prop := r = some (.int (Int32.ofNat len)) ∧ ∃ B', Put d B' s u ∧ Laid B B' q (q + len) (fun j => Value.int (lo8 (cv A (o + (j - q)))))
/-- no char of the range above 255: len; the places written hold each char's low byte -/
theorem law (l : Launch) (b : Addr) (A : Cell) (d : Addr) (B : Cell) (o q len : Nat) : Law l yN 5 5 0 0 yB 7 (some .int) site (P b A d B o q len) (E b A d B o q len) (copyLocs d q len) 0 0 := by
  refine Law.of_walk (plainFor_of_name (by decide +kernel)) (by decide +kernel) (by decide +kernel) (by decide) (fun _ _ h => by rw [h.1]; rfl) (fun _ U U' hal hh h => ⟨h.1, h.2.1.mv hal hh, h.2.2.1.mv hal hh, h.2.2.2⟩) (fun r U U' V V' h1 hal h2 h => ⟨h.1, h.2.elim fun B' q => ⟨B', q.1.mv h1 h2, q.2⟩⟩) ?_
  intro p e s m args below meth c s₁ X0 hexec hbytes hml hret hlk hnm hown hh0 W hP
  obtain ⟨rfl, hA, hB, hne, l1, l2, hp⟩ := hP
  have c1 : Steps p.tables e below (s₁.setTop (entryFrame m #[.ref b, .int (Int32.ofNat o), .ref d, .int (Int32.ofNat q), .int (Int32.ofNat len)] 7)) (s₁.setTop (mkF m 0 #[.val (.ref b), .val (.int (Int32.ofNat o)), .val (.ref d), .val (.int (Int32.ofNat q)), .val (.int (Int32.ofNat len)), .unset, .unset] [])) := entry rfl
  have hA0 := hA.1.mv X0.warmed.alike hh0
  have hB0 := hB.mv X0.warmed.alike hh0
  have a31 := hA.1.2.2.2
  have c2 : Steps p.tables e below (s₁.setTop (entryFrame m #[.ref b, .int (Int32.ofNat o), .ref d, .int (Int32.ofNat q), .int (Int32.ofNat len)] 7)) (s₁.setTop (mkF m 3 #[.val (.ref b), .val (.int (Int32.ofNat o)), .val (.ref d), .val (.int (Int32.ofNat q)), .val (.int (Int32.ofNat len)), .val (.int 0), .unset] [])) := c1.trans (by
    refine iconstV X0.here hexec rfl 0 (hb hbytes d0) (by decide) ?_
    refine XS.istore X0.here hexec rfl (hb hbytes d1) rfl rfl ?_
    exact Steps.refl _)
  have loop : ∀ (r i : Nat), i + r = len → ∀ (z : Slot), (z = .unset ∨ ∃ w, z = .val w ∧ w.category = 1) → ∀ (Tl : State) (Bk : Cell), Stand p l e { frames := 0, locals := 0, cells := 0, slots := 0 } s m #[.ref b, .int (Int32.ofNat o), .ref d, .int (Int32.ofNat q), .int (Int32.ofNat len)] below meth c Tl ([] ++ copyLocs d q i) 0 0 → Put d Bk s₁ Tl → Laid B Bk q (q + i) (fun j => Value.int (lo8 (cv A (o + (j - q))))) →
      Steps p.tables e below (s₁.setTop (entryFrame m #[.ref b, .int (Int32.ofNat o), .ref d, .int (Int32.ofNat q), .int (Int32.ofNat len)] 7)) (Tl.setTop (mkF m 3 #[.val (.ref b), .val (.int (Int32.ofNat (o + i))), .val (.ref d), .val (.int (Int32.ofNat (q + i))), .val (.int (Int32.ofNat len)), .val (.int (Int32.ofNat i)), z] [])) → ∃ (T' : State) (B' : Cell) (z' : Slot), Stand p l e { frames := 0, locals := 0, cells := 0, slots := 0 } s m #[.ref b, .int (Int32.ofNat o), .ref d, .int (Int32.ofNat q), .int (Int32.ofNat len)] below meth c T' ([] ++ copyLocs d q len) 0 0 ∧ Put d B' s₁ T' ∧ Laid B B' q (q + len) (fun j => Value.int (lo8 (cv A (o + (j - q))))) ∧
      Steps p.tables e below (s₁.setTop (entryFrame m #[.ref b, .int (Int32.ofNat o), .ref d, .int (Int32.ofNat q), .int (Int32.ofNat len)] 7)) (T'.setTop (mkF m 3 #[.val (.ref b), .val (.int (Int32.ofNat (o + len))), .val (.ref d), .val (.int (Int32.ofNat (q + len))), .val (.int (Int32.ofNat len)), .val (.int (Int32.ofNat len)), z'] [])) := by
    intro r
    induction r with
    | zero =>
      intro i hi z hz Tl Bk Xl pl fl cl
      have hil : i = len := by omega
      rw [hil] at Xl fl cl
      exact ⟨Tl, Bk, z, Xl, pl, fl, cl⟩
    | succ r ih =>
      intro i hi z hz Tl Bk Xl pl fl cl
      have all := X0.warmed.alike.symm.trans Xl.warmed.alike
      have hAl := hA0.keep all (pl.other hne hA0.1)
      have hBk := hB0.like all pl.1 fl.1 fl.2.1 fl.2.2.1
      have hlt : q + i < Bk.slots.size := by rw [fl.2.2.1]; omega
      have c3 : Steps p.tables e below (s₁.setTop (entryFrame m #[.ref b, .int (Int32.ofNat o), .ref d, .int (Int32.ofNat q), .int (Int32.ofNat len)] 7)) (Tl.setTop (mkF m 12 #[.val (.ref b), .val (.int (Int32.ofNat (o + i))), .val (.ref d), .val (.int (Int32.ofNat (q + i))), .val (.int (Int32.ofNat len)), .val (.int (Int32.ofNat i)), z] [.int (Int32.ofNat (o + i)), .ref b])) := cl.trans (by
        refine XS.iload Xl.here hexec rfl (hb hbytes d3) rfl ?_
        refine XS.iload Xl.here hexec rfl (hb hbytes d5) rfl ?_
        refine XS.icmpNo Xl.here hexec rfl (hb hbytes d7) rfl (ii_ge_f (lt32 (by omega) (by omega))) ?_
        refine XS.aloadN Xl.here hexec rfl (hb hbytes d10) rfl rfl ?_
        refine XS.iloadN Xl.here hexec rfl (hb hbytes d11) rfl ?_
        exact Steps.refl _)
      have c4 : Steps p.tables e below (s₁.setTop (entryFrame m #[.ref b, .int (Int32.ofNat o), .ref d, .int (Int32.ofNat q), .int (Int32.ofNat len)] 7)) (Tl.setTop (mkF m 13 #[.val (.ref b), .val (.int (Int32.ofNat (o + i))), .val (.ref d), .val (.int (Int32.ofNat (q + i))), .val (.int (Int32.ofNat len)), .val (.int (Int32.ofNat i)), z] [.int (cv A (o + i))])) := c3.trans (by
        refine Xl.aget hexec hAl rfl (hA.get (i := o + i) (by omega)) rfl rfl (hb hbytes d12) ?_
        exact Steps.refl _)
      have c5 : Steps p.tables e below (s₁.setTop (entryFrame m #[.ref b, .int (Int32.ofNat o), .ref d, .int (Int32.ofNat q), .int (Int32.ofNat len)] 7)) (Tl.setTop (mkF m 15 #[.val (.ref b), .val (.int (Int32.ofNat (o + i))), .val (.ref d), .val (.int (Int32.ofNat (q + i))), .val (.int (Int32.ofNat len)), .val (.int (Int32.ofNat i)), .val (.int (cv A (o + i)))] [])) := c4.trans (by
        refine XS.istoreS Xl.here hexec rfl (hb hbytes d13) rfl rfl hz ?_
        exact Steps.refl _)
      have c6 : Steps p.tables e below (s₁.setTop (entryFrame m #[.ref b, .int (Int32.ofNat o), .ref d, .int (Int32.ofNat q), .int (Int32.ofNat len)] 7)) (Tl.setTop (mkF m 31 #[.val (.ref b), .val (.int (Int32.ofNat (o + i))), .val (.ref d), .val (.int (Int32.ofNat (q + i))), .val (.int (Int32.ofNat len)), .val (.int (Int32.ofNat i)), .val (.int (cv A (o + i)))] [.int (lo8 (cv A (o + i))), .int (Int32.ofNat (q + i)), .ref d])) := c5.trans (by
        refine XS.iload Xl.here hexec rfl (hb hbytes d15) rfl ?_
        refine sipushV Xl.here hexec rfl 255 (hb hbytes d17) (by decide) ?_
        refine XS.icmpYes Xl.here hexec rfl (pc0 := 20) rfl (hb hbytes d20) rfl (ii_le_t (hp i (by omega))) (by decide) rfl ?_
        refine XS.aloadN Xl.here hexec rfl (hb hbytes d26) rfl rfl ?_
        refine XS.iloadN Xl.here hexec rfl (hb hbytes d27) rfl ?_
        refine XS.iload Xl.here hexec rfl (hb hbytes d28) rfl ?_
        refine i2b Xl.here hexec rfl (hb hbytes d30) rfl ?_
        exact Steps.refl _)
      obtain ⟨T7, X7, p7, st7⟩ := Xl.aput hexec hBk rfl hlt rfl (fits_lo8 (cv A (o + i))) (g := (mkF m 31 #[.val (.ref b), .val (.int (Int32.ofNat (o + i))), .val (.ref d), .val (.int (Int32.ofNat (q + i))), .val (.int (Int32.ofNat len)), .val (.int (Int32.ofNat i)), .val (.int (cv A (o + i)))] [.int (lo8 (cv A (o + i))), .int (Int32.ofNat (q + i)), .ref d])) rfl (rest := []) rfl (hb hbytes d31)
      have c8 : Steps p.tables e below (s₁.setTop (entryFrame m #[.ref b, .int (Int32.ofNat o), .ref d, .int (Int32.ofNat q), .int (Int32.ofNat len)] 7)) (T7.setTop (mkF m 32 #[.val (.ref b), .val (.int (Int32.ofNat (o + i))), .val (.ref d), .val (.int (Int32.ofNat (q + i))), .val (.int (Int32.ofNat len)), .val (.int (Int32.ofNat i)), .val (.int (cv A (o + i)))] [])) := c6.trans (st7 _ (Steps.refl _))
      have c9 : Steps p.tables e below (s₁.setTop (entryFrame m #[.ref b, .int (Int32.ofNat o), .ref d, .int (Int32.ofNat q), .int (Int32.ofNat len)] 7)) (T7.setTop (mkF m 3 #[.val (.ref b), .val (.int (Int32.ofNat (o + i) + 1)), .val (.ref d), .val (.int (Int32.ofNat (q + i) + 1)), .val (.int (Int32.ofNat len)), .val (.int (Int32.ofNat i + 1)), .val (.int (cv A (o + i)))] [])) := c8.trans (by
        refine iincV X7.here hexec rfl 1 (hb hbytes d32) (by decide) rfl rfl ?_
        refine iincV X7.here hexec rfl 1 (hb hbytes d35) (by decide) rfl rfl ?_
        refine iincV X7.here hexec rfl 1 (hb hbytes d38) (by decide) rfl rfl ?_
        refine XS.goto X7.here hexec rfl (pc0 := 41) rfl (hb hbytes d41) (by decide) rfl ?_
        exact Steps.refl _)
      have c10 : Steps p.tables e below (s₁.setTop (entryFrame m #[.ref b, .int (Int32.ofNat o), .ref d, .int (Int32.ofNat q), .int (Int32.ofNat len)] 7)) (T7.setTop (mkF m 3 #[.val (.ref b), .val (.int (Int32.ofNat (o + (i + 1)))), .val (.ref d), .val (.int (Int32.ofNat (q + (i + 1)))), .val (.int (Int32.ofNat len)), .val (.int (Int32.ofNat (i + 1))), .val (.int (cv A (o + i)))] [])) := by
        have := c9
        rw [succ32, succ32, succ32] at this
        exact this
      exact ih (i + 1) (by omega) _ (Or.inr ⟨_, rfl, rfl⟩) T7 _ (by rw [copyLocs_step, ← List.append_assoc]; exact X7) (pl.trans p7) (fl.step (by omega) hlt (by simp)) c10
  obtain ⟨T9, B9, z9, X9, p9, f9, g9⟩ := loop len 0 (by omega) .unset (Or.inl rfl) s₁ B (by simpa [copyLocs] using X0) ⟨hB0.1, fun _ _ => rfl, rfl⟩ (Laid.zero _ _ _) c2
  have c11 : Steps p.tables e below (s₁.setTop (entryFrame m #[.ref b, .int (Int32.ofNat o), .ref d, .int (Int32.ofNat q), .int (Int32.ofNat len)] 7)) (T9.setTop (mkF m 46 #[.val (.ref b), .val (.int (Int32.ofNat (o + len))), .val (.ref d), .val (.int (Int32.ofNat (q + len))), .val (.int (Int32.ofNat len)), .val (.int (Int32.ofNat len)), z9] [.int (Int32.ofNat len)])) := g9.trans (by
    refine XS.iload X9.here hexec rfl (hb hbytes d3) rfl ?_
    refine XS.iload X9.here hexec rfl (hb hbytes d5) rfl ?_
    refine XS.icmpYes X9.here hexec rfl (pc0 := 7) rfl (hb hbytes d7) rfl (ii_ge_t (nlt32 (by omega) (Nat.le_refl _))) (by decide) rfl ?_
    refine XS.iload X9.here hexec rfl (hb hbytes d44) rfl ?_
    exact Steps.refl _)
  exact ⟨T9, some (.int (Int32.ofNat len)), _, _, _, X9, by simp, rfl, rfl, (fun h => by cases h), ⟨rfl, B9, p9.from hh0, f9⟩, fun fs hl => c11.trans (X9.ireturnOut hexec hret rfl (Or.inl rfl) (hb hbytes d46) hl)⟩
end Cmp5
namespace Cmp3
def yN : MethodName := ⟨"java/lang/StringUTF16", "compress", "([CII)[B"⟩
abbrev yB : ByteArray := jdk_52_method_16_code
theorem d0 : decode yB 0 = .ok (.iload_n 2, 1) := by decide +kernel
theorem d1 : decode yB 1 = .ok (.newarray .byte, 2) := by decide +kernel
theorem d3 : decode yB 3 = .ok (.astore_n 3, 1) := by decide +kernel
theorem d4 : decode yB 4 = .ok (.aload_n 0, 1) := by decide +kernel
theorem d5 : decode yB 5 = .ok (.iload_n 1, 1) := by decide +kernel
theorem d6 : decode yB 6 = .ok (.aload_n 3, 1) := by decide +kernel
theorem d7 : decode yB 7 = .ok (.iconst 0, 1) := by decide +kernel
theorem d8 : decode yB 8 = .ok (.iload_n 2, 1) := by decide +kernel
theorem d9 : decode yB 9 = .ok (.invokestatic 115, 3) := by decide +kernel
theorem d12 : decode yB 12 = .ok (.istore 4, 2) := by decide +kernel
theorem d14 : decode yB 14 = .ok (.iload 4, 2) := by decide +kernel
theorem d16 : decode yB 16 = .ok (.iload_n 2, 1) := by decide +kernel
theorem d17 : decode yB 17 = .ok (.if_icmp (.eq) 40, 3) := by decide +kernel
theorem d57 : decode yB 57 = .ok (.aload_n 3, 1) := by decide +kernel
theorem d58 : decode yB 58 = .ok (.areturn, 1) := by decide +kernel
def site : List Cond := [.arrayClass .byte, Cmp5.tab] ++ staticW U16 115 Cmp5.yN
def tab : Cond := tabOf yN yB 6 (some (.array .byte)) site
def P (b : Addr) (A : Cell) (o len : Nat) (args : Array Value) (s : State) : Prop := args = #[.ref b, .int (Int32.ofNat o), .int (Int32.ofNat len)] ∧ Ch b A s ∧ o + len ≤ A.slots.size ∧ len ≤ 536870912 ∧ ∀ i, i < len → ¬ 255 < cv A (o + i)
def E (b : Addr) (A : Cell) (o len : Nat) (r : Option Value) (s u : State) : Prop := NewArr .byte "[B" len (fun j => .int (lo8 (cv A (o + j)))) r s u ∧ u.heap.size = s.heap.size + 1
/-- no char of the range above 255: a new byte[] of their low bytes -/
theorem law (l : Launch) (b : Addr) (A : Cell) (o len : Nat) : Law l yN 3 3 1 18 yB 6 (some (.array .byte)) site (P b A o len) (E b A o len) [] 1 len := by
  refine Law.of_walk (plainFor_of_name (by decide +kernel)) (by decide +kernel) (by decide +kernel) (by decide) (fun _ _ h => by rw [h.1]; rfl) (fun _ U U' hal hh h => ⟨h.1, h.2.1.mv hal hh, h.2.2⟩) (fun r U U' V V' h1 hal h2 h => ⟨NewArr.mv r U U' V V' h1 hal h2 h.1, by rw [h1, h2]; exact h.2⟩) ?_
  intro p e s m args below meth c s₁ X0 hexec hbytes hml hret hlk hnm hown hh0 W hP
  obtain ⟨rfl, hA, l1, l2, hp⟩ := hP
  have a31 := hA.1.2.2.2
  have c1 : Steps p.tables e below (s₁.setTop (entryFrame m #[.ref b, .int (Int32.ofNat o), .int (Int32.ofNat len)] 6)) (s₁.setTop (mkF m 0 #[.val (.ref b), .val (.int (Int32.ofNat o)), .val (.int (Int32.ofNat len)), .unset, .unset, .unset] [])) := entry rfl
  have c2 : Steps p.tables e below (s₁.setTop (entryFrame m #[.ref b, .int (Int32.ofNat o), .int (Int32.ofNat len)] 6)) (s₁.setTop (mkF m 1 #[.val (.ref b), .val (.int (Int32.ofNat o)), .val (.int (Int32.ofNat len)), .unset, .unset, .unset] [.int (Int32.ofNat len)])) := c1.trans (by
    refine XS.iloadN X0.here hexec rfl (hb hbytes d0) rfl ?_
    exact Steps.refl _)
  obtain ⟨T3, B3, X3, ba3, bs3, bv3, bh3, bf3, st3⟩ := X0.anew hexec (atype := .byte) (wk W (.arrayClass .byte)) rfl (by show len * 1 ≤ _; omega) (by omega) (g := (mkF m 1 #[.val (.ref b), .val (.int (Int32.ofNat o)), .val (.int (Int32.ofNat len)), .unset, .unset, .unset] [.int (Int32.ofNat len)])) rfl (hb hbytes d1) (rest := []) rfl (Nat.le_refl _) (by show 0 + len ≤ len; omega)
  rw [hh0] at ba3 st3
  have kp3 : XT.Kept s T3 := (XT.Kept.of_eq hh0).push bh3
  have hA3 := hA.keep X3.warmed.alike (kp3 _ _ hA.1.1)
  have hne : b ≠ s.heap.size := hA.1.ne
  have c4 : Steps p.tables e below (s₁.setTop (entryFrame m #[.ref b, .int (Int32.ofNat o), .int (Int32.ofNat len)] 6)) (T3.setTop (mkF m 3 #[.val (.ref b), .val (.int (Int32.ofNat o)), .val (.int (Int32.ofNat len)), .unset, .unset, .unset] [.ref s.heap.size])) := c2.trans (st3 _ (Steps.refl _))
  have c5 : Steps p.tables e below (s₁.setTop (entryFrame m #[.ref b, .int (Int32.ofNat o), .int (Int32.ofNat len)] 6)) (T3.setTop (mkF m 9 #[.val (.ref b), .val (.int (Int32.ofNat o)), .val (.int (Int32.ofNat len)), .val (.ref s.heap.size), .unset, .unset] [.int (Int32.ofNat len), .int 0, .ref s.heap.size, .int (Int32.ofNat o), .ref b])) := c4.trans (by
    refine XS.astoreN X3.here hexec rfl (hb hbytes d3) rfl rfl rfl ?_
    refine XS.aloadN X3.here hexec rfl (hb hbytes d4) rfl rfl ?_
    refine XS.iloadN X3.here hexec rfl (hb hbytes d5) rfl ?_
    refine XS.aloadN X3.here hexec rfl (hb hbytes d6) rfl rfl ?_
    refine iconstV X3.here hexec rfl 0 (hb hbytes d7) (by decide) ?_
    refine XS.iloadN X3.here hexec rfl (hb hbytes d8) rfl ?_
    exact Steps.refl _)
  obtain ⟨v6, T6, X6, E6, g6⟩ := X3.callS hexec (Cmp5.law l b A s.heap.size B3 o 0 len) hown (wks W (staticW U16 115 Cmp5.yN)) (wk W Cmp5.tab) (W := 0) (Nat.le_of_ble_eq_true rfl) (Nat.le_of_ble_eq_true rfl) (Nat.le_refl _) (by show 0 + len + 0 ≤ len; omega) (g := (mkF m 9 #[.val (.ref b), .val (.int (Int32.ofNat o)), .val (.int (Int32.ofNat len)), .val (.ref s.heap.size), .unset, .unset] [.int (Int32.ofNat len), .int (Int32.ofNat 0), .ref s.heap.size, .int (Int32.ofNat o), .ref b])) rfl (by rw [hml]; rfl) c5 (argsL := [.ref b, .int (Int32.ofNat o), .ref s.heap.size, .int (Int32.ofNat 0), .int (Int32.ofNat len)]) (rest := []) rfl rfl (by show 2 * 0 + 0 ≤ _; decide) (hb hbytes d9) (⟨rfl, hA3, ba3, hne, l1, by rw [bs3]; simp, hp⟩)
  obtain ⟨rfl, B6, p6, f6⟩ := E6
  have c7 : Steps p.tables e below (s₁.setTop (entryFrame m #[.ref b, .int (Int32.ofNat o), .int (Int32.ofNat len)] 6)) (T6.setTop (mkF m 12 #[.val (.ref b), .val (.int (Int32.ofNat o)), .val (.int (Int32.ofNat len)), .val (.ref s.heap.size), .unset, .unset] [.int (Int32.ofNat len)])) := g6
  have c8 : Steps p.tables e below (s₁.setTop (entryFrame m #[.ref b, .int (Int32.ofNat o), .int (Int32.ofNat len)] 6)) (T6.setTop (mkF m 58 #[.val (.ref b), .val (.int (Int32.ofNat o)), .val (.int (Int32.ofNat len)), .val (.ref s.heap.size), .val (.int (Int32.ofNat len)), .unset] [.ref s.heap.size])) := c7.trans (by
    refine XS.istore X6.here hexec rfl (hb hbytes d12) rfl rfl ?_
    refine XS.iload X6.here hexec rfl (hb hbytes d14) rfl ?_
    refine XS.iloadN X6.here hexec rfl (hb hbytes d16) rfl ?_
    refine XS.icmpYes X6.here hexec rfl (pc0 := 17) rfl (hb hbytes d17) rfl (ii_eq_t rfl) (by decide) rfl ?_
    refine XS.aloadN X6.here hexec rfl (hb hbytes d57) rfl rfl ?_
    exact Steps.refl _)
  have X8 := X6.wide (L' := []) (cells' := 1) (slots' := len) (fun x hx hlt => by
    simp only [List.nil_append, copyLocs, List.mem_map, List.mem_range] at hx
    obtain ⟨i, -, rfl⟩ := hx
    exact absurd hlt (Nat.lt_irrefl _)) (Nat.le_refl _) (by omega)
  exact ⟨T6, some (.ref s.heap.size), _, _, _, X8, rfl, rfl, rfl, (fun h => by cases h), ⟨⟨rfl, B6, ba3.like (X3.warmed.alike.symm.trans X6.warmed.alike) p6.1 f6.1 f6.2.1 f6.2.2.1, f6.2.1.trans bv3, by rw [X6.warmed.alike.findClass, f6.1]; exact bf3, by rw [f6.2.2.1, bs3]; simp, fun j hj => by rw [f6.2.2.2 j, if_pos (by omega)]; rfl, kp3.put p6 (Nat.le_refl _)⟩, by rw [p6.2.2, bh3, hh0]; simp⟩, fun fs hl => c8.trans (X8.areturnOut hexec rfl hret rfl (hb hbytes d58) hl)⟩
end Cmp3
namespace CodL
def yN : MethodName := ⟨"java/lang/StringUTF16", "coderFromArrayLen", "([BI)B"⟩
abbrev yB : ByteArray := jdk_52_method_15_code
theorem d0 : decode yB 0 = .ok (.iload_n 1, 1) := by decide +kernel
theorem d1 : decode yB 1 = .ok (.aload_n 0, 1) := by decide +kernel
theorem d2 : decode yB 2 = .ok (.arraylength, 1) := by decide +kernel
theorem d3 : decode yB 3 = .ok (.isub, 1) := by decide +kernel
theorem d4 : decode yB 4 = .ok (.bipush 31, 2) := by decide +kernel
theorem d6 : decode yB 6 = .ok (.iushr, 1) := by decide +kernel
theorem d7 : decode yB 7 = .ok (.i2b, 1) := by decide +kernel
theorem d8 : decode yB 8 = .ok (.ireturn, 1) := by decide +kernel
def site : List Cond := []
def tab : Cond := tabOf yN yB 2 (some .byte) site
def P (d : Addr) (B : Cell) (args : Array Value) (s : State) : Prop := args = #[.ref d, .int (Int32.ofNat B.slots.size)] ∧ Arr .byte d B s
def E (r : Option Value) (s u : State) : Prop := XT.PureE (some (.int 0)) r s u
/-- an array as long as the number of chars: LATIN1 -/
theorem law (l : Launch) (d : Addr) (B : Cell) : Law l yN 2 2 0 0 yB 2 (some .byte) site (P d B) E [] 0 0 := by
  refine Law.of_walk (plainFor_of_name (by decide +kernel)) (by decide +kernel) (by decide +kernel) (by decide) (fun _ _ h => by rw [h.1]; rfl) (fun _ U U' hal hh h => ⟨h.1, h.2.mv hal hh⟩) (fun r U U' V V' h1 hal h2 h => XT.PureE.mv r U U' V V' h1 hal h2 h) ?_
  intro p e s m args below meth c s₁ X0 hexec hbytes hml hret hlk hnm hown hh0 W hP
  obtain ⟨rfl, hB⟩ := hP
  have hB0 := hB.mv X0.warmed.alike hh0
  have c1 : Steps p.tables e below (s₁.setTop (entryFrame m #[.ref d, .int (Int32.ofNat B.slots.size)] 2)) (s₁.setTop (mkF m 0 #[.val (.ref d), .val (.int (Int32.ofNat B.slots.size))] [])) := entry rfl
  have c2 : Steps p.tables e below (s₁.setTop (entryFrame m #[.ref d, .int (Int32.ofNat B.slots.size)] 2)) (s₁.setTop (mkF m 2 #[.val (.ref d), .val (.int (Int32.ofNat B.slots.size))] [.ref d, .int (Int32.ofNat B.slots.size)])) := c1.trans (by
    refine XS.iloadN X0.here hexec rfl (hb hbytes d0) rfl ?_
    refine XS.aloadN X0.here hexec rfl (hb hbytes d1) rfl rfl ?_
    exact Steps.refl _)
  have c3 : Steps p.tables e below (s₁.setTop (entryFrame m #[.ref d, .int (Int32.ofNat B.slots.size)] 2)) (s₁.setTop (mkF m 8 #[.val (.ref d), .val (.int (Int32.ofNat B.slots.size))] [.int (lo8 (ushr (Int32.ofNat B.slots.size - Int32.ofNat B.slots.size) 31))])) := c2.trans (by
    refine X0.alen hexec hB0 rfl rfl (hb hbytes d2) ?_
    refine XS.isub X0.here hexec rfl (hb hbytes d3) rfl ?_
    refine bipushV X0.here hexec rfl 31 (hb hbytes d4) (by decide) ?_
    refine iushr X0.here hexec rfl (hb hbytes d6) rfl ?_
    refine i2b X0.here hexec rfl (hb hbytes d7) rfl ?_
    exact Steps.refl _)
  have e0 : lo8 (ushr (Int32.ofNat B.slots.size - Int32.ofNat B.slots.size) 31) = 0 := by rw [Int32.sub_self]; decide
  rw [e0] at c3
  exact ⟨s₁, some (.int 0), _, _, _, X0, rfl, rfl, rfl, (fun h => by cases h), ⟨rfl, hh0⟩, fun fs hl => c3.trans (X0.ireturnOut hexec hret rfl (Or.inr (Or.inr (Or.inl rfl))) (hb hbytes d8) hl)⟩
end CodL
/-- the String at a is Latin-1 over a new byte[] (the heap's one new cell): the low bytes of the len chars of A from o on; every cell but a is kept -/
def Got (a : Addr) (D : Cell) (fV fC : Field) (A : Cell) (o len : Nat) (r : Option Value) (s u : State) : Prop := r = none ∧ ∃ D' V : Cell, Blank "java/lang/String" a D' u ∧ Same D D' [fV.slot, fC.slot] ∧ D'.slots[fV.slot]? = some (.ref s.heap.size) ∧ D'.slots[fC.slot]? = some (.int 0) ∧ Arr .byte s.heap.size V u ∧ V.vm = .none ∧ u.vm.findClass "[B" = some V.cls ∧ V.slots.size = len ∧ (∀ j, j < len → V.slots[j]? = some (.int (lo8 (cv A (o + j))))) ∧ (∀ (y : Addr) (c : Cell), y ≠ a → s.heap[y]? = some c → u.heap[y]? = some c) ∧ u.heap.size = s.heap.size + 1
theorem Got.mv {a : Addr} {D A : Cell} {fV fC : Field} {o len : Nat} : ∀ r (U U' V V' : State), U'.heap = U.heap → V.vm.Alike V'.vm → V'.heap = V.heap → Got a D fV fC A o len r U V → Got a D fV fC A o len r U' V' :=
  fun r U U' V V' h1 hal h2 ⟨e0, D', X, a1, a2, a3, a4, a5, a6, a7, a8, a9, a10, a11⟩ => ⟨e0, D', X, a1.mv hal h2, a2, by rw [h1]; exact a3, a4, by rw [h1]; exact a5.mv hal h2, a6, by rw [hal.findClass]; exact a7, a8, a9, by rw [h1, h2]; exact a10, by rw [h1, h2]; exact a11⟩
namespace New4
def yN : MethodName := ⟨"java/lang/String", "<init>", "([CIILjava/lang/Void;)V"⟩
abbrev yB : ByteArray := jdk_42_method_149_code
theorem d0 : decode yB 0 = .ok (.aload_n 0, 1) := by decide +kernel
theorem d1 : decode yB 1 = .ok (.invokespecial 1, 3) := by decide +kernel
theorem d4 : decode yB 4 = .ok (.iload_n 3, 1) := by decide +kernel
theorem d5 : decode yB 5 = .ok (.ifCond (.ne) 22, 3) := by decide +kernel
theorem d27 : decode yB 27 = .ok (.getstatic 38, 3) := by decide +kernel
theorem d30 : decode yB 30 = .ok (.ifCond (.eq) 28, 3) := by decide +kernel
theorem d33 : decode yB 33 = .ok (.aload_n 1, 1) := by decide +kernel
theorem d34 : decode yB 34 = .ok (.iload_n 2, 1) := by decide +kernel
theorem d35 : decode yB 35 = .ok (.iload_n 3, 1) := by decide +kernel
theorem d36 : decode yB 36 = .ok (.invokestatic 177, 3) := by decide +kernel
theorem d39 : decode yB 39 = .ok (.astore 5, 2) := by decide +kernel
theorem d41 : decode yB 41 = .ok (.aload_n 0, 1) := by decide +kernel
theorem d42 : decode yB 42 = .ok (.aload 5, 2) := by decide +kernel
theorem d44 : decode yB 44 = .ok (.iload_n 3, 1) := by decide +kernel
theorem d45 : decode yB 45 = .ok (.invokestatic 47, 3) := by decide +kernel
theorem d48 : decode yB 48 = .ok (.putfield 15, 3) := by decide +kernel
theorem d51 : decode yB 51 = .ok (.aload_n 0, 1) := by decide +kernel
theorem d52 : decode yB 52 = .ok (.aload 5, 2) := by decide +kernel
theorem d54 : decode yB 54 = .ok (.putfield 9, 3) := by decide +kernel
theorem d57 : decode yB 57 = .ok (.return_, 1) := by decide +kernel
def site : List Cond := [.fieldLink "java/lang/String" 38 "java/lang/String" "COMPACT_STRINGS" "Z", Cmp3.tab, CodL.tab, .laysFinal "java/lang/String" "java/lang/String" "value" "[B", .fieldLink "java/lang/String" 9 "java/lang/String" "value" "[B", .laysFinal "java/lang/String" "java/lang/String" "coder" "B", .fieldLink "java/lang/String" 15 "java/lang/String" "coder" "B"] ++ objW "java/lang/String" 1 ++ staticW "java/lang/String" 177 Cmp3.yN ++ staticW "java/lang/String" 47 CodL.yN
def tab : Cond := tabOf yN yB 6 none site
def P (a : Addr) (D : Cell) (fV fC : Field) (b : Addr) (A : Cell) (z : Int32) (o len : Nat) (args : Array Value) (s : State) : Prop := args = #[.ref a, .ref b, .int (Int32.ofNat o), .int (Int32.ofNat len), .null] ∧ Blank "java/lang/String" a D s ∧ Found "java/lang/String" "value" "[B" fV s ∧ Found "java/lang/String" "coder" "B" fC s ∧ Ch b A s ∧ StaticIs s "java/lang/String" "COMPACT_STRINGS" "Z" (.int z) ∧ ¬ z = 0 ∧ 0 < len ∧ o + len ≤ A.slots.size ∧ len ≤ 536870912 ∧ ∀ i, i < len → ¬ 255 < cv A (o + i)
def E (a : Addr) (D : Cell) (fV fC : Field) (A : Cell) (o len : Nat) (r : Option Value) (s u : State) : Prop := Got a D fV fC A o len r s u
/-- len > 0, no char of the range above 255: a Latin-1 String of their low bytes -/
theorem law (l : Launch) (a : Addr) (D : Cell) (fV fC : Field) (b : Addr) (A : Cell) (z : Int32) (o len : Nat) : Law l yN 5 4 2 35 yB 6 none site (P a D fV fC b A z o len) (E a D fV fC A o len) [⟨a, fC.slot⟩, ⟨a, fV.slot⟩] 1 len := by
  refine Law.of_walk (plainFor_of_name (by decide +kernel)) (by decide +kernel) (by decide +kernel) (by decide) (fun _ _ h => by rw [h.1]; rfl) (fun _ U U' hal hh h => ⟨h.1, h.2.1.mv hal hh, h.2.2.1.al hal, h.2.2.2.1.al hal, h.2.2.2.2.1.mv hal hh, h.2.2.2.2.2.1.there hal hh, h.2.2.2.2.2.2⟩) (fun r U U' V V' h1 hal h2 h => Got.mv r U U' V V' h1 hal h2 h) ?_
  intro p e s m args below meth c s₁ X0 hexec hbytes hml hret hlk hnm hown hh0 W hP
  obtain ⟨rfl, hB, f1, f2, hA, s1, hz, l0, l1, l2, hp⟩ := hP
  have a31 := hA.1.2.2.2
  have c1 : Steps p.tables e below (s₁.setTop (entryFrame m #[.ref a, .ref b, .int (Int32.ofNat o), .int (Int32.ofNat len), .null] 6)) (s₁.setTop (mkF m 0 #[.val (.ref a), .val (.ref b), .val (.int (Int32.ofNat o)), .val (.int (Int32.ofNat len)), .val .null, .unset] [])) := entry rfl
  have c2 : Steps p.tables e below (s₁.setTop (entryFrame m #[.ref a, .ref b, .int (Int32.ofNat o), .int (Int32.ofNat len), .null] 6)) (s₁.setTop (mkF m 1 #[.val (.ref a), .val (.ref b), .val (.int (Int32.ofNat o)), .val (.int (Int32.ofNat len)), .val .null, .unset] [.ref a])) := c1.trans (by
    refine XS.aloadN X0.here hexec rfl (hb hbytes d0) rfl rfl ?_
    exact Steps.refl _)
  obtain ⟨T3, X3, q3, st3⟩ := X0.oinit hexec hown (wks W (objW "java/lang/String" 1)) (g := (mkF m 1 #[.val (.ref a), .val (.ref b), .val (.int (Int32.ofNat o)), .val (.int (Int32.ofNat len)), .val .null, .unset] [.ref a])) rfl (by rw [hml]; rfl) (rest := []) rfl (hb hbytes d1) (W := 0) (by show 2 * 0 + 0 ≤ _; decide) (Nat.le_of_ble_eq_true rfl) (Nat.le_of_ble_eq_true rfl)
  have hh3 := q3.trans hh0
  have c4 : Steps p.tables e below (s₁.setTop (entryFrame m #[.ref a, .ref b, .int (Int32.ofNat o), .int (Int32.ofNat len), .null] 6)) (T3.setTop (mkF m 27 #[.val (.ref a), .val (.ref b), .val (.int (Int32.ofNat o)), .val (.int (Int32.ofNat len)), .val .null, .unset] [])) := (c2.trans (st3 _ (Steps.refl _))).trans (by
    refine XS.iloadN X3.here hexec rfl (hb hbytes d4) rfl ?_
    refine XS.ifYes X3.here hexec rfl (pc0 := 5) rfl (hb hbytes d5) rfl (i0_ne_t (nz32 (by omega) l0)) (by decide) rfl ?_
    exact Steps.refl _)
  obtain ⟨T5, X5, q5, st5⟩ := X3.sget hexec hown (wk W (.fieldLink "java/lang/String" 38 "java/lang/String" "COMPACT_STRINGS" "Z")) s1 (fun _ _ h => by rw [hh3]; exact h) (g := (mkF m 27 #[.val (.ref a), .val (.ref b), .val (.int (Int32.ofNat o)), .val (.int (Int32.ofNat len)), .val .null, .unset] [])) rfl (hb hbytes d27)
  have hh5 := q5.trans hh3
  have c6 : Steps p.tables e below (s₁.setTop (entryFrame m #[.ref a, .ref b, .int (Int32.ofNat o), .int (Int32.ofNat len), .null] 6)) (T5.setTop (mkF m 30 #[.val (.ref a), .val (.ref b), .val (.int (Int32.ofNat o)), .val (.int (Int32.ofNat len)), .val .null, .unset] [.int z])) := c4.trans (st5 _ (Steps.refl _))
  have c7 : Steps p.tables e below (s₁.setTop (entryFrame m #[.ref a, .ref b, .int (Int32.ofNat o), .int (Int32.ofNat len), .null] 6)) (T5.setTop (mkF m 36 #[.val (.ref a), .val (.ref b), .val (.int (Int32.ofNat o)), .val (.int (Int32.ofNat len)), .val .null, .unset] [.int (Int32.ofNat len), .int (Int32.ofNat o), .ref b])) := c6.trans (by
    refine XS.ifNo X5.here hexec rfl (hb hbytes d30) rfl (i0_eq_f hz) ?_
    refine XS.aloadN X5.here hexec rfl (hb hbytes d33) rfl rfl ?_
    refine XS.iloadN X5.here hexec rfl (hb hbytes d34) rfl ?_
    refine XS.iloadN X5.here hexec rfl (hb hbytes d35) rfl ?_
    exact Steps.refl _)
  obtain ⟨v8, T8, X8, E8, g8⟩ := X5.callS hexec (Cmp3.law l b A o len) hown (wks W (staticW "java/lang/String" 177 Cmp3.yN)) (wk W Cmp3.tab) (W := 0) (Nat.le_of_ble_eq_true rfl) (Nat.le_of_ble_eq_true rfl) (Nat.le_refl _) (by show 0 + len ≤ len; omega) (g := (mkF m 36 #[.val (.ref a), .val (.ref b), .val (.int (Int32.ofNat o)), .val (.int (Int32.ofNat len)), .val .null, .unset] [.int (Int32.ofNat len), .int (Int32.ofNat o), .ref b])) rfl (by rw [hml]; rfl) c7 (argsL := [.ref b, .int (Int32.ofNat o), .int (Int32.ofNat len)]) (rest := []) rfl rfl (by show 2 * 0 + 0 ≤ _; decide) (hb hbytes d36) (⟨rfl, hA.mv X5.warmed.alike hh5, l1, l2, hp⟩)
  obtain ⟨e8, z8⟩ := E8
  obtain ⟨rfl, N, n1, n2, n3, n4, n5, n6⟩ := NewArr.mv _ T5 s _ _ hh5.symm (Vm.Alike.refl _) rfl e8
  rw [hh5] at z8
  have hB1 := hB.keep X8.warmed.alike (n6 _ _ hB.1)
  have hne : s.heap.size ≠ a := (Nat.ne_of_lt (Array.getElem?_eq_some_iff.mp hB.1).1).symm
  have c9 : Steps p.tables e below (s₁.setTop (entryFrame m #[.ref a, .ref b, .int (Int32.ofNat o), .int (Int32.ofNat len), .null] 6)) (T8.setTop (mkF m 39 #[.val (.ref a), .val (.ref b), .val (.int (Int32.ofNat o)), .val (.int (Int32.ofNat len)), .val .null, .unset] [.ref s.heap.size])) := g8
  have c10 : Steps p.tables e below (s₁.setTop (entryFrame m #[.ref a, .ref b, .int (Int32.ofNat o), .int (Int32.ofNat len), .null] 6)) (T8.setTop (mkF m 45 #[.val (.ref a), .val (.ref b), .val (.int (Int32.ofNat o)), .val (.int (Int32.ofNat len)), .val .null, .val (.ref s.heap.size)] [.int (Int32.ofNat N.slots.size), .ref s.heap.size, .ref a])) := by
    have hc : Steps p.tables e below (s₁.setTop (entryFrame m #[.ref a, .ref b, .int (Int32.ofNat o), .int (Int32.ofNat len), .null] 6)) (T8.setTop (mkF m 45 #[.val (.ref a), .val (.ref b), .val (.int (Int32.ofNat o)), .val (.int (Int32.ofNat len)), .val .null, .val (.ref s.heap.size)] [.int (Int32.ofNat len), .ref s.heap.size, .ref a])) := c9.trans (by
      refine XS.astore X8.here hexec rfl (hb hbytes d39) rfl rfl rfl ?_
      refine XS.aloadN X8.here hexec rfl (hb hbytes d41) rfl rfl ?_
      refine XS.aload X8.here hexec rfl (hb hbytes d42) rfl rfl ?_
      refine XS.iloadN X8.here hexec rfl (hb hbytes d44) rfl ?_
      exact Steps.refl _)
    rw [n4]; exact hc
  obtain ⟨v11, T11, X11, E11, g11⟩ := X8.callS hexec (CodL.law l s.heap.size N) hown (wks W (staticW "java/lang/String" 47 CodL.yN)) (wk W CodL.tab) (W := 1) (Nat.le_of_ble_eq_true rfl) (Nat.le_of_ble_eq_true rfl) (Nat.le_refl _) (by show 0 + len + 0 ≤ len; omega) (g := (mkF m 45 #[.val (.ref a), .val (.ref b), .val (.int (Int32.ofNat o)), .val (.int (Int32.ofNat len)), .val .null, .val (.ref s.heap.size)] [.int (Int32.ofNat N.slots.size), .ref s.heap.size, .ref a])) rfl (by rw [hml]; rfl) c10 (argsL := [.ref s.heap.size, .int (Int32.ofNat N.slots.size)]) (rest := [.ref a]) rfl rfl (by show 2 * 0 + (1 + 0) ≤ _; decide) (hb hbytes d45) (⟨rfl, n1⟩)
  obtain ⟨rfl, q11⟩ := E11
  have hB11 := hB1.mv (X8.warmed.alike.symm.trans X11.warmed.alike) q11
  have c12 : Steps p.tables e below (s₁.setTop (entryFrame m #[.ref a, .ref b, .int (Int32.ofNat o), .int (Int32.ofNat len), .null] 6)) (T11.setTop (mkF m 48 #[.val (.ref a), .val (.ref b), .val (.int (Int32.ofNat o)), .val (.int (Int32.ofNat len)), .val .null, .val (.ref s.heap.size)] [.int 0, .ref a])) := g11
  obtain ⟨T13, X13, p13, bl13, sl13, st13⟩ := X11.finit hexec hown (wk W (.fieldLink "java/lang/String" 15 "java/lang/String" "coder" "B")) (Or.inr ⟨_, (wk W (.laysFinal "java/lang/String" "java/lang/String" "coder" "B"))⟩) (Or.inl ⟨rfl, hnm⟩) f2 (Or.inl rfl) hB11 (t := .byte) (by decide +kernel) rfl (g := (mkF m 48 #[.val (.ref a), .val (.ref b), .val (.int (Int32.ofNat o)), .val (.int (Int32.ofNat len)), .val .null, .val (.ref s.heap.size)] [.int 0, .ref a])) rfl (rest := []) rfl (hb hbytes d48)
  have c14 : Steps p.tables e below (s₁.setTop (entryFrame m #[.ref a, .ref b, .int (Int32.ofNat o), .int (Int32.ofNat len), .null] 6)) (T13.setTop (mkF m 54 #[.val (.ref a), .val (.ref b), .val (.int (Int32.ofNat o)), .val (.int (Int32.ofNat len)), .val .null, .val (.ref s.heap.size)] [.ref s.heap.size, .ref a])) := (c12.trans (st13 _ (Steps.refl _))).trans (by
    refine XS.aloadN X13.here hexec rfl (hb hbytes d51) rfl rfl ?_
    refine XS.aload X13.here hexec rfl (hb hbytes d52) rfl rfl ?_
    exact Steps.refl _)
  obtain ⟨T15, X15, p15, bl15, sl15, st15⟩ := X13.finit hexec hown (wk W (.fieldLink "java/lang/String" 9 "java/lang/String" "value" "[B")) (Or.inr ⟨_, (wk W (.laysFinal "java/lang/String" "java/lang/String" "value" "[B"))⟩) (Or.inl ⟨rfl, hnm⟩) f1 (Or.inl rfl) bl13 (t := (.array .byte)) (by decide +kernel) rfl (g := (mkF m 54 #[.val (.ref a), .val (.ref b), .val (.int (Int32.ofNat o)), .val (.int (Int32.ofNat len)), .val .null, .val (.ref s.heap.size)] [.ref s.heap.size, .ref a])) rfl (rest := []) rfl (hb hbytes d54)
  have c16 : Steps p.tables e below (s₁.setTop (entryFrame m #[.ref a, .ref b, .int (Int32.ofNat o), .int (Int32.ofNat len), .null] 6)) (T15.setTop (mkF m 57 #[.val (.ref a), .val (.ref b), .val (.int (Int32.ofNat o)), .val (.int (Int32.ofNat len)), .val .null, .val (.ref s.heap.size)] [])) := c14.trans (st15 _ (Steps.refl _))
  have ap := apart (Or.inr ⟨_, (wk W (.laysFinal "java/lang/String" "java/lang/String" "value" "[B"))⟩) (Or.inr ⟨_, (wk W (.laysFinal "java/lang/String" "java/lang/String" "coder" "B"))⟩) f1 f2 (t₁ := .array .byte) (t₂ := .byte) (by decide +kernel) (by decide +kernel) (by decide)
  have al := X8.warmed.alike.symm.trans X15.warmed.alike
  have n7 : T11.heap[s.heap.size]? = some N := by rw [q11]; exact n1.1
  exact ⟨T15, none, _, _, _, X15, by simp, rfl, by omega, (fun _ => rfl), ⟨rfl, _, N, bl15, ((Same.refl D _).set _ (by simp)).set _ (by simp), sl15, (Cell.slots_setSlot_ne _ ap).trans sl13, n1.keep al (p15.other hne (p13.other hne n7)), n2, by rw [al.findClass]; exact n3, n4, n5, fun y c h1 h2 => p15.other h1 (p13.other h1 (by rw [q11]; exact n6 y c h2)), by rw [p15.2.2, p13.2.2, q11]; exact z8⟩, fun fs hl => c16.trans (X15.returnOut hexec hret (hb hbytes d57) hl)⟩
end New4
namespace New1
def yN : MethodName := ⟨"java/lang/String", "<init>", "([C)V"⟩
abbrev yB : ByteArray := jdk_42_method_3_code
theorem d0 : decode yB 0 = .ok (.aload_n 0, 1) := by decide +kernel
theorem d1 : decode yB 1 = .ok (.aload_n 1, 1) := by decide +kernel
theorem d2 : decode yB 2 = .ok (.iconst 0, 1) := by decide +kernel
theorem d3 : decode yB 3 = .ok (.aload_n 1, 1) := by decide +kernel
theorem d4 : decode yB 4 = .ok (.arraylength, 1) := by decide +kernel
theorem d5 : decode yB 5 = .ok (.aconst_null, 1) := by decide +kernel
theorem d6 : decode yB 6 = .ok (.invokespecial 27, 3) := by decide +kernel
theorem d9 : decode yB 9 = .ok (.return_, 1) := by decide +kernel
def site : List Cond := [New4.tab] ++ initW "java/lang/String" 27 New4.yN
def tab : Cond := tabOf yN yB 2 none site
def P (a : Addr) (D : Cell) (fV fC : Field) (b : Addr) (A : Cell) (z : Int32) (args : Array Value) (s : State) : Prop := args = #[.ref a, .ref b] ∧ Blank "java/lang/String" a D s ∧ Found "java/lang/String" "value" "[B" fV s ∧ Found "java/lang/String" "coder" "B" fC s ∧ Ch b A s ∧ StaticIs s "java/lang/String" "COMPACT_STRINGS" "Z" (.int z) ∧ ¬ z = 0 ∧ 0 < A.slots.size ∧ A.slots.size ≤ 536870912 ∧ ∀ i, i < A.slots.size → ¬ 255 < cv A i
def E (a : Addr) (D : Cell) (fV fC : Field) (A : Cell) (r : Option Value) (s u : State) : Prop := Got a D fV fC A 0 A.slots.size r s u
/-- new String(chars), not empty, no char above 255: a Latin-1 String of their low bytes -/
theorem law (l : Launch) (a : Addr) (D : Cell) (fV fC : Field) (b : Addr) (A : Cell) (z : Int32) : Law l yN 2 1 3 52 yB 2 none site (P a D fV fC b A z) (E a D fV fC A) [⟨a, fC.slot⟩, ⟨a, fV.slot⟩] 1 A.slots.size := by
  refine Law.of_walk (plainFor_of_name (by decide +kernel)) (by decide +kernel) (by decide +kernel) (by decide) (fun _ _ h => by rw [h.1]; rfl) (fun _ U U' hal hh h => ⟨h.1, h.2.1.mv hal hh, h.2.2.1.al hal, h.2.2.2.1.al hal, h.2.2.2.2.1.mv hal hh, h.2.2.2.2.2.1.there hal hh, h.2.2.2.2.2.2⟩) (fun r U U' V V' h1 hal h2 h => Got.mv r U U' V V' h1 hal h2 h) ?_
  intro p e s m args below meth c s₁ X0 hexec hbytes hml hret hlk hnm hown hh0 W hP
  obtain ⟨rfl, hB, f1, f2, hA, s1, hz, l0, l2, hp⟩ := hP
  have c1 : Steps p.tables e below (s₁.setTop (entryFrame m #[.ref a, .ref b] 2)) (s₁.setTop (mkF m 0 #[.val (.ref a), .val (.ref b)] [])) := entry rfl
  have c2 : Steps p.tables e below (s₁.setTop (entryFrame m #[.ref a, .ref b] 2)) (s₁.setTop (mkF m 6 #[.val (.ref a), .val (.ref b)] [.null, .int (Int32.ofNat A.slots.size), .int 0, .ref b, .ref a])) := c1.trans (by
    refine XS.aloadN X0.here hexec rfl (hb hbytes d0) rfl rfl ?_
    refine XS.aloadN X0.here hexec rfl (hb hbytes d1) rfl rfl ?_
    refine iconstV X0.here hexec rfl 0 (hb hbytes d2) (by decide) ?_
    refine XS.aloadN X0.here hexec rfl (hb hbytes d3) rfl rfl ?_
    refine X0.alen hexec (hA.1.mv X0.warmed.alike hh0) rfl rfl (hb hbytes d4) ?_
    refine XS.aconstNull X0.here hexec rfl (hb hbytes d5) ?_
    exact Steps.refl _)
  obtain ⟨v3, T3, X3, E3, g3⟩ := X0.callN hexec (New4.law l a D fV fC b A z 0 A.slots.size) rfl hown (wks W (initW "java/lang/String" 27 New4.yN)) (W New4.tab (by simp only [site, List.mem_cons, List.mem_append, true_or, or_true])) (W := 0) (Nat.le_of_ble_eq_true rfl) (Nat.le_of_ble_eq_true rfl) (Nat.le_refl _) (by show 0 + A.slots.size ≤ A.slots.size; omega) (g := (mkF m 6 #[.val (.ref a), .val (.ref b)] [.null, .int (Int32.ofNat A.slots.size), .int (Int32.ofNat 0), .ref b, .ref a])) rfl (by rw [hml]; rfl) c2 (argsL := [.ref b, .int (Int32.ofNat 0), .int (Int32.ofNat A.slots.size), .null]) (rest := []) rfl rfl (by show 2 * 0 + 0 ≤ _; decide) (hb hbytes d6) (⟨rfl, hB.mv X0.warmed.alike hh0, f1.al X0.warmed.alike, f2.al X0.warmed.alike, hA.mv X0.warmed.alike hh0, s1.there X0.warmed.alike hh0, hz, l0, by omega, l2, fun i hi => by rw [Nat.zero_add]; exact hp i hi⟩)
  have e0 := Got.mv _ s₁ s _ _ hh0.symm (Vm.Alike.refl _) rfl E3
  obtain rfl := e0.1
  have c4 : Steps p.tables e below (s₁.setTop (entryFrame m #[.ref a, .ref b] 2)) (T3.setTop (mkF m 9 #[.val (.ref a), .val (.ref b)] [])) := g3
  exact ⟨T3, none, _, _, _, X3, by simp, rfl, by omega, (fun _ => rfl), e0, fun fs hl => c4.trans (X3.returnOut hexec hret (hb hbytes d9) hl)⟩
theorem pays {l : Launch} {R : Room} {p : Program} {e : Env} {below : List Frame} {s : State} {sargs : Array Value} {len W : Nat} (a : Addr) (D : Cell) (fV fC : Field) (b : Addr) (A : Cell) (z : Int32) (htab : tab.before sargs s = true) (hfr : 4 ≤ R.frames) (hlo : W + 65 ≤ R.locals) :
    Back l R p e below s sargs yN len W (fun A₁ a₁ => A₁.cells + 1 ≤ R.cells ∧ A₁.slots + A.slots.size ≤ R.slots ∧ P a D fV fC b A z a₁ A₁.U) (fun A₁ _ v₁ B₁ => E a D fV fC A v₁ A₁.U B₁.U ∧ B₁.locs = A₁.locs ++ [⟨a, fC.slot⟩, ⟨a, fV.slot⟩] ∧ B₁.cells = A₁.cells + 1 ∧ B₁.slots = A₁.slots + A.slots.size) :=
  (law l a D fV fC b A z).pays htab hfr (by omega)
end New1
/-- the byte, read back as charAt reads it, is the char -/
theorem lo8_mask {x : Int32} (h0 : ¬ x < 0) (h1 : ¬ 255 < x) : lo8 x &&& 255 = x := by
  have t : ∀ k : Fin 256, lo8 (Int32.ofNat k.val) &&& 255 = Int32.ofNat k.val := by decide +kernel
  rw [Int32.lt_iff_toInt_lt] at h0 h1
  have e0 : (0 : Int32).toInt = 0 := rfl
  have e1 : (255 : Int32).toInt = 255 := rfl
  obtain ⟨k, hk⟩ : ∃ k : Nat, x.toInt = k := ⟨x.toInt.toNat, by omega⟩
  have hx : x = Int32.ofNat k := Int32.toInt_inj.mp (by rw [hk, Int32.toInt_ofNat_small (by omega)])
  rw [hx]
  exact t ⟨k, by omega⟩
end StrChars
namespace StrChars.Road
open Jvm Sem ClassFile Op Lib Jvm.Stand Jvm.Free Jvm.Free.XT
open Jvm.Lib.Cold (StaticIs)
abbrev ST : String := "java/lang/String"
/-- every table word that New1's law asks, flat -/
abbrev words : List Jvm.Cond := [.code New1.yN New1.yB 2 none, .initialized ST, .methodLink ST 27 New4.yN, .instanceMethod New4.yN,
  .code New4.yN New4.yB 6 none, .fieldLink ST 38 ST "COMPACT_STRINGS" "Z", .laysFinal ST ST "value" "[B", .fieldLink ST 9 ST "value" "[B", .laysFinal ST ST "coder" "B", .fieldLink ST 15 ST "coder" "B",
  .methodLink ST 1 Lib.objectInit, .instanceMethod Lib.objectInit, .code Lib.objectInit ⟨#[0xb1]⟩ 1 none, .methodLink ST 177 Cmp3.yN, .static Cmp3.yN, .methodLink ST 47 CodL.yN, .static CodL.yN,
  .code Cmp3.yN Cmp3.yB 6 (some (.array .byte)), .initialized U16, .arrayClass .byte, .methodLink U16 115 Cmp5.yN, .static Cmp5.yN, .code Cmp5.yN Cmp5.yB 7 (some .int), .code CodL.yN CodL.yB 2 (some .byte)]
theorem tab_of {a : Array Value} {s : State} (h : ∀ w ∈ words, w.before a s = true) : New1.tab.before a s = true := by
  have h5 : Cmp5.tab.before a s = true := unparts (wk h (.code Cmp5.yN Cmp5.yB 7 (some .int))) (wks h (.initialized Cmp5.yN.cls :: Cmp5.site))
  have hc : CodL.tab.before a s = true := unparts (wk h (.code CodL.yN CodL.yB 2 (some .byte))) (wks h (.initialized CodL.yN.cls :: CodL.site))
  have q5 : ∀ w ∈ Cmp5.tab :: words, w.before a s = true := fun w hw => (List.mem_cons.mp hw).elim (fun e => e ▸ h5) (h w)
  have h3 : Cmp3.tab.before a s = true := unparts (wk q5 (.code Cmp3.yN Cmp3.yB 6 (some (.array .byte)))) (wks q5 (.initialized Cmp3.yN.cls :: Cmp3.site))
  have q3 : ∀ w ∈ Cmp3.tab :: CodL.tab :: words, w.before a s = true := fun w hw => (List.mem_cons.mp hw).elim (fun e => e ▸ h3) fun hw => (List.mem_cons.mp hw).elim (fun e => e ▸ hc) (h w)
  have h4 : New4.tab.before a s = true := unparts (wk q3 (.code New4.yN New4.yB 6 none)) (wks q3 (.initialized New4.yN.cls :: New4.site))
  have q4 : ∀ w ∈ New4.tab :: words, w.before a s = true := fun w hw => (List.mem_cons.mp hw).elim (fun e => e ▸ h4) (h w)
  exact unparts (wk q4 (.code New1.yN New1.yB 2 none)) (wks q4 (.initialized New1.yN.cls :: New1.site))
/-- the words ride from the start Z to the walk's own state -/
theorem moved {Z s : State} {a0 args : Array Value} (hZ : Z.Warmed39 s.vm) (hw : ∀ d ∈ words, d.before a0 Z = true) : ∀ d ∈ words, d.before args s = true := fun d hd => by
  have q := hw d hd
  have t : ∀ d ∈ words, d = .arrayClass .byte ∨ (d.onTables && d.keepsFace) = true := by decide +kernel
  rcases t d hd with rfl | t
  · exact RoadKit.mvA hZ q
  · exact RoadKit.mv hZ q t
/-- WHAT COMES BACK, over the tables of the start Z: h the heap at the call, h' behind it -/
def Q (Z : State) (x : Addr) (A : Cell) (h : Heap) (v : Option Value) (h' : Heap) (L : List Loc) : Prop := v = none ∧ (∀ y ∈ L, y.base = x) ∧ RoadKit.Keep h h' [x] ∧ h'.size = h.size + 1 ∧ RoadKit.Exa Z h' x ST ∧ RoadKit.Fld Z h' x ST "value" "[B" (.ref h.size) ∧ RoadKit.Fld Z h' x ST "coder" "B" (.int 0) ∧
  (∃ V : Cell, RoadKit.Arr Z h' h.size V .byte ∧ V.vm = .none ∧ Z.vm.findClass "[B" = some V.cls ∧ V.slots.size = A.slots.size ∧ ∀ j, j < A.slots.size → V.slots[j]? = some (.int (lo8 (cv A j)))) ∧
  ∀ (O n d : String) (w : Value), RoadKit.Fld Z h x O n d w → RoadKit.slotOf Z O n d ≠ RoadKit.slotOf Z ST "value" "[B" → RoadKit.slotOf Z O n d ≠ RoadKit.slotOf Z ST "coder" "B" → RoadKit.Fld Z h' x O n d w
/-- **new String(chars) AT A CALL, IN THE ROAD'S FORM**: for specialBack behind newO: x the fresh String, b the char[] with the cell A -/
theorem back {p : Program} {l : Launch} {e : Env} {R : Room} {s : State} {args : Array Value} {below : List Frame} {len W : Nat} {Z : State} {a0 : Array Value} {h : Heap} (hZ : Z.Warmed39 s.vm) (hw : ∀ d ∈ words, d.before a0 Z = true) {kI : Nat} (wi : (Jvm.Cond.instantiable ST kI).before a0 Z = true)
    {x b : Addr} {A : Cell} {z : Int32} {v0 c0 : Value} (E : RoadKit.Exa Z h x ST) (V : RoadKit.Fld Z h x ST "value" "[B" v0) (C : RoadKit.Fld Z h x ST "coder" "B" c0) (K : RoadKit.Arr Z h b A .char) (hty : Typed .char A) (S : RoadKit.Sta Z h ST "COMPACT_STRINGS" "Z" (.int z)) (hz : ¬ z = 0)
    (l0 : 0 < A.slots.size) (l2 : A.slots.size ≤ 536870912) (hp : ∀ i, i < A.slots.size → ¬ 255 < cv A i) (hfr : 4 ≤ R.frames) (hlo : W + 65 ≤ R.locals) :
    Back l R p e below s args New1.yN len W (fun P a => a = #[.ref x, .ref b] ∧ P.U.heap = h ∧ P.cells + 1 ≤ R.cells ∧ P.slots + A.slots.size ≤ R.slots)
      (fun P _ v B => ∃ L, Q Z x A h v B.U.heap L ∧ B.locs = P.locs ++ L ∧ B.cells = P.cells + 1 ∧ B.slots = P.slots + A.slots.size) := by
  intro m meth c P g ig mk a X hg hsize hdg hW hn hp'
  obtain ⟨rfl, rfl, r1, r2⟩ := hp'
  have al : Z.vm.Alike P.U.vm := hZ.alike.trans X.warmed.alike
  obtain ⟨D, cfV, kV, iV, fV, hD, gV, stV, knV, obV, asV, slV⟩ := id V
  obtain ⟨D', cfC, kC, iC, fC, hD', gC, stC, -, -, asC, slC⟩ := id C
  cases hD.symm.trans hD'
  obtain ⟨D2, kD, e1, e2, e3, e4, e5⟩ := id E
  cases hD.symm.trans e1
  obtain ⟨c2, k2, i1, i2, i3, -⟩ := Cond.instantiable_spec wi
  cases e2.symm.trans i1
  cases e3.symm.trans i2
  obtain ⟨kU, u1, u2⟩ := al.2.2 _ _ e3
  have hB : Blank ST x D P.U := ⟨hD, ⟨knV, fun q hq => by rw [hq] at obV; cases obV⟩, by rw [al.findClass]; exact e2, kU, u1, by rw [u2]; exact i3, by rw [u2]; exact e5 i3⟩
  have F1 : Found ST "value" "[B" fV P.U := ⟨SBG.found_only al ⟨cfV, kV, iV, gV⟩, stV⟩
  have F2 : Found ST "coder" "B" fC P.U := ⟨SBG.found_only al ⟨cfC, kC, iC, gC⟩, stC⟩
  have hA : Ch b A P.U := ⟨⟨K.1, State.isArrayOf_alike al K.2.1, K.2.2, by omega⟩, hty⟩
  have hS : StaticIs P.U ST "COMPACT_STRINGS" "Z" (.int z) := by
    obtain ⟨cfS, iS, kS, fS, st, cS, t1, t2, t3, t4, t5, t6, t7⟩ := S
    exact StaticIs.there (s := { Z with heap := P.U.heap }) ⟨cfS, iS, kS, fS, st, cS, t1, t2, t3, t4, t5, (fun q => by rw [q] at t6; cases t6), t7⟩ al rfl
  obtain ⟨v, B, X', ⟨⟨hv, E', V', q1, q2, q3, q4, q5, q6, q7, q8, q9, q10, q11⟩, hl, hc, hs⟩, st⟩ := New1.pays x D fV fC b A z (tab_of (moved hZ hw)) hfr hlo m meth c P g ig mk _ X hg hsize hdg hW hn ⟨r1, r2, rfl, hB, F1, F2, hA, hS, hz, l0, l2, hp⟩
  have al' : Z.vm.Alike B.U.vm := hZ.alike.trans X'.warmed.alike
  have hsz : E'.slots.size = D.slots.size := by
    obtain ⟨-, -, -, kB, w1, w2, w3⟩ := q1
    obtain ⟨kB', y1, y2⟩ := al'.2.2 _ _ e3
    rw [q2.2.1] at w1
    cases w1.symm.trans y1
    rw [w3, e5 i3, y2]
  refine ⟨v, B, X', ⟨_, ⟨hv, ?_, ⟨by omega, fun y cy hy hn' => q10 y cy (by simpa using hn') hy, fun y cy hy => ?_⟩, q11, ⟨E', _, q1.1, by rw [q2.2.1]; exact e2, by rw [q2.2.1]; exact e3, by rw [q2.1]; exact obV, fun _ => by rw [hsz]; exact e5 i3⟩,
    ⟨E', cfV, kV, iV, fV, q1.1, gV, stV, by rw [q2.1]; exact knV, by rw [q2.1]; exact obV, by rw [q2.2.1]; exact asV, q3⟩, ⟨E', cfC, kC, iC, fC, q1.1, gC, stC, by rw [q2.1]; exact knV, by rw [q2.1]; exact obV, by rw [q2.2.1]; exact asC, q4⟩,
    ⟨V', ⟨q5.1, State.isArrayOf_alike al'.symm q5.2.1, q5.2.2.1⟩, q6, by rw [← al'.findClass]; exact q7, q8, fun j hj => by have := q9 j hj; rwa [Nat.zero_add] at this⟩, fun O n d w F n1 n2 => ?_⟩, hl, hc, hs⟩, st⟩
  · intro y hy
    simp only [List.mem_cons, List.not_mem_nil, or_false] at hy
    rcases hy with rfl | rfl <;> rfl
  · by_cases q : y = x
    · subst q
      cases hD.symm.trans hy
      exact ⟨E', q1.1, q2.2.1, q2.1, hsz⟩
    · exact ⟨cy, q10 y cy q hy, rfl, rfl, rfl⟩
  · obtain ⟨D3, cf, k, i, f, g1, g2, g3, g4, g5, g6, g7⟩ := F
    cases hD.symm.trans g1
    simp only [RoadKit.slotOf, g2, gV, gC, Option.map_some, Option.getD_some] at n1 n2
    exact ⟨E', cf, k, i, f, q1.1, g2, g3, by rw [q2.1]; exact g4, by rw [q2.1]; exact g5, by rw [q2.2.1]; exact g6, by rw [q2.2.2 f.slot (by simp [n1, n2])]; exact g7⟩
end StrChars.Road
namespace StrChars.Road
open Jvm Sem ClassFile Op Lib Jvm.Stand Jvm.Free Jvm.Free.XT
/-- WHAT COMES BACK, the byte[] as a list of values -/
def QA (Z : State) (x : Addr) (zn : Int32) (cs : List Int32) (h : Heap) (v : Option Value) (h' : Heap) (L : List Loc) : Prop := v = none ∧ (∀ y ∈ L, y.base = x) ∧ RoadKit.Keep h h' [x] ∧ h'.size = h.size + 1 ∧ RoadKit.Exa Z h' x ST ∧ RoadKit.Fld Z h' x ST "value" "[B" (.ref h.size) ∧ RoadKit.Fld Z h' x ST "coder" "B" (.int 0) ∧
  (∃ kb, Z.vm.findClass "[B" = some kb ∧ RoadKit.Arv Z h' h.size kb .byte zn (cs.map fun c => .int (lo8 c)) (.int 0)) ∧
  ∀ (O n d : String) (w : Value), RoadKit.Fld Z h x O n d w → RoadKit.slotOf Z O n d ≠ RoadKit.slotOf Z ST "value" "[B" → RoadKit.slotOf Z O n d ≠ RoadKit.slotOf Z ST "coder" "B" → RoadKit.Fld Z h' x O n d w
/-- **new String(chars) AT A CALL, THE ARRAYS AS LISTS**: the char[] at b holds cs, not empty, no char above 255 -/
theorem backArv {p : Program} {l : Launch} {e : Env} {R : Room} {s : State} {args : Array Value} {below : List Frame} {len W : Nat} {Z : State} {a0 : Array Value} {h : Heap} (hZ : Z.Warmed39 s.vm) (hw : ∀ d ∈ words, d.before a0 Z = true) {kI : Nat} (wi : (Jvm.Cond.instantiable ST kI).before a0 Z = true)
    {x b : Addr} {k : ClassId} {zn z : Int32} {cs : List Int32} {dv v0 c0 : Value} (E : RoadKit.Exa Z h x ST) (V : RoadKit.Fld Z h x ST "value" "[B" v0) (C : RoadKit.Fld Z h x ST "coder" "B" c0) (K : RoadKit.Arv Z h b k .char zn (cs.map Value.int) dv) (S : RoadKit.Sta Z h ST "COMPACT_STRINGS" "Z" (.int z)) (hz : ¬ z = 0)
    (hlen : zn.toNatClampNeg = cs.length) (h0 : 0 < cs.length) (hbig : cs.length ≤ 536870912) (hall : ∀ c ∈ cs, ¬ 255 < c) (hfr : 4 ≤ R.frames) (hlo : W + 65 ≤ R.locals) :
    Back l R p e below s args New1.yN len W (fun P a => a = #[.ref x, .ref b] ∧ P.U.heap = h ∧ P.cells + 1 ≤ R.cells ∧ P.slots + cs.length ≤ R.slots)
      (fun P _ v B => ∃ L, QA Z x zn cs h v B.U.heap L ∧ B.locs = P.locs ++ L ∧ B.cells = P.cells + 1 ∧ B.slots = P.slots + cs.length) := by
  obtain ⟨A, K1, K2, K3, K4, K5, K6⟩ := K
  have e : A.slots.size = cs.length := K3.trans hlen
  have hat : ∀ (i : Nat) (hi : i < cs.length), A.slots[i]? = some (.int cs[i]) := fun i hi => by rw [K5 i (by omega)]; simp [List.getD_eq_getElem?_getD, hi]
  have hcv : ∀ (i : Nat) (hi : i < cs.length), cv A i = cs[i] := fun i hi => by unfold cv; rw [hat i hi]
  have hty : Typed .char A := fun i v hv => by
    have hi : i < A.slots.size := (Array.getElem?_eq_some_iff.mp hv).1
    have q := K5 i hi
    rw [hv] at q
    rw [Option.some.inj q]
    exact K6 i hi
  refine Back.mono (back hZ hw wi E V C K1 hty S hz (by omega) (by omega) (fun i hi => by rw [hcv i (by omega)]; exact hall _ (List.getElem_mem _)) hfr hlo) (fun P a hp => ⟨hp.1, hp.2.1, hp.2.2.1, by rw [e]; exact hp.2.2.2⟩) (fun P a v B hp hq => ?_)
  obtain ⟨L, ⟨q1, q2, q3, q4, q5, q6, q7, ⟨V', v1, v2, v3, v4, v5⟩, q9⟩, hl, hc, hs⟩ := hq
  refine ⟨L, ⟨q1, q2, q3, q4, q5, q6, q7, ⟨V'.cls, v3, V', v1, rfl, by rw [v4, e, hlen], K4, fun i hi => ?_, fun i hi => ?_⟩, q9⟩, hl, hc, by rw [hs, e]⟩
  · have hi' : i < cs.length := by omega
    rw [v5 i (by omega), hcv i hi']; simp [List.getD_eq_getElem?_getD, hi']
  · have hi' : i < cs.length := by omega
    simp only [List.getD_eq_getElem?_getD, List.getElem?_map, List.getElem?_eq_getElem hi', Option.map_some, Option.getD_some]
    exact fits_lo8 _
end StrChars.Road
namespace StrChars.Road
open Jvm Sem ClassFile Op Lib Jvm.Stand Jvm.Free Jvm.Free.XT
/-- WHAT COMES BACK, in the writer's own shape -/
def QV (Z : State) (x : Addr) (N : Int32) (bs : List Int32) (h : Heap) (n0 : Nat) (v : Option Value) (h' : Heap) (L : List Loc) : Prop := v = none ∧ RoadKit.Fr n0 L ∧ RoadKit.Keep h h' [x] ∧ RoadKit.Exa Z h' x ST ∧ RoadKit.Fld Z h' x ST "coder" "B" (.int 0) ∧
  ∃ (t : Addr) (kb : ClassId), n0 ≤ t ∧ h.size ≤ t ∧ ¬ t = x ∧ RoadKit.Fld Z h' x ST "value" "[B" (.ref t) ∧ RoadKit.Arv Z h' t kb .byte N (bs.map Value.int) (.int 0)
/-- **new String(chars) AT A CALL, FOR THE WRITER**: a char[] of n known ints, each 0 to 255 -/
theorem backV {p : Program} {l : Launch} {e : Env} {R : Room} {s : State} {args : Array Value} {below : List Frame} {len W : Nat} {Z : State} {a0 : Array Value} {h : Heap} (hZ : Z.Warmed39 s.vm) (hw : ∀ d ∈ words, d.before a0 Z = true) {kI : Nat} (wi : (Jvm.Cond.instantiable ST kI).before a0 Z = true)
    {x b : Addr} {kC : ClassId} {cs bs : List Int32} {d v0 c0 : Value} {z N : Int32} {n n0 : Nat} (hx0 : n0 ≤ x) (hh0 : n0 ≤ h.size) (E : RoadKit.Exa Z h x ST) (V : RoadKit.Fld Z h x ST "value" "[B" v0) (C : RoadKit.Fld Z h x ST "coder" "B" c0) (K : RoadKit.Arv Z h b kC .char N (cs.map Value.int) d) (S : RoadKit.Sta Z h ST "COMPACT_STRINGS" "Z" (.int z)) (hz : ¬ z = 0)
    (hn : cs.length = n) (hN : N = Int32.ofNat n) (l0 : 0 < n) (l2 : n ≤ 4000) (hp : ∀ c ∈ cs, ¬ c < 0 ∧ ¬ (255 : Int32) < c) (hb : bs = cs.map (fun c => c.toInt8.toInt32)) (hfr : 4 ≤ R.frames) (hlo : W + 65 ≤ R.locals) :
    Back l R p e below s args (⟨"java/lang/String", "<init>", "([C)V"⟩ : MethodName) len W (fun P a => a = #[.ref x, .ref b] ∧ P.U.heap = h ∧ P.cells + 1 ≤ R.cells ∧ P.slots + n ≤ R.slots)
      (fun P _ v B => ∃ L, QV Z x N bs h n0 v B.U.heap L ∧ B.locs = P.locs ++ L ∧ B.cells = P.cells + 1 ∧ B.slots = P.slots + n) := by
  subst hn hN hb
  refine Back.mono (backArv hZ hw wi E V C K S hz (n32 (by omega)) l0 (by omega) (fun c hc => (hp c hc).2) hfr hlo) (fun P a hp => hp) (fun P a v B hp hq => ?_)
  obtain ⟨L, ⟨q1, q2, q3, q4, q5, q6, q7, ⟨kb, v1, v2⟩, q9⟩, hl, hc, hs⟩ := hq
  exact ⟨L, ⟨q1, fun y hy => by rw [q2 y hy]; exact hx0, q3, q5, q7, h.size, kb, hh0, Nat.le_refl _, Nat.ne_of_gt E.lt, q6, by rw [List.map_map]; exact v2⟩, hl, hc, hs⟩
end StrChars.Road
namespace StrChars
open Jvm Sem ClassFile Op Lib Jvm.Stand Jvm.Free.XT Jvm.Free.ALB Jvm.Free.JM Jvm.Free
open Jvm.Lib.Cold (StaticIs)
def hi8 (x : Int32) : Int32 := lo8 (x >>> ((8 : Int32) &&& 31))
/-- what StringUTF16.getChar makes of two bytes -/
def pairCh (u v : Int32) : Int32 := (((u &&& 255) <<< ((0 : Int32) &&& 31)) ||| ((v &&& 255) <<< ((8 : Int32) &&& 31))).toUInt32.toUInt16.toUInt32.toInt32
theorem shr0 (c : Int32) : c >>> ((0 : Int32) &&& 31) = c := by
  have e : ((0 : Int32) &&& 31) = 0 := by decide
  rw [e]
  apply Int32.toBitVec_inj.mp
  rw [Int32.toBitVec_shiftRight]
  have e1 : ((0 : Int32).toBitVec.smod 32) = 0#32 := by decide
  rw [e1, BitVec.sshiftRight_eq']
  exact BitVec.sshiftRight_zero
theorem lo8_and (x : Int32) : (lo8 x &&& 255).toBitVec.toNat = x.toBitVec.toNat % 256 := by
  have h : (lo8 x).toBitVec = (x.toBitVec.signExtend 8).signExtend 32 := by rw [lo8, Int8.toBitVec_toInt32, Int32.toBitVec_toInt8]
  rw [Int32.toBitVec_and, BitVec.toNat_and, h]
  have e : ((x.toBitVec.signExtend 8).signExtend 32).toNat % 256 = x.toBitVec.toNat % 256 := by
    rw [BitVec.toNat_signExtend]
    have hlt := x.toBitVec.isLt
    simp only [BitVec.toNat_setWidth, BitVec.toNat_signExtend]
    split <;> split <;> omega
  rw [← e]
  exact Nat.and_two_pow_sub_one_eq_mod _ 8
theorem pair_says {c : Int32} (h0 : ¬ c < 0) (h1 : ¬ 65535 < c) : pairCh (lo8 c) (hi8 c) = c := by
  rw [Int32.lt_iff_toInt_lt] at h0 h1
  have e0 : (0 : Int32).toInt = 0 := rfl
  have e1 : (65535 : Int32).toInt = 65535 := rfl
  have hc : c.toInt = c.toBitVec.toNat := by
    have := c.toBitVec.isLt
    have e : c.toInt = c.toBitVec.toInt := rfl
    rw [e] at h0 h1
    rw [e]
    rw [BitVec.toInt_eq_toNat_cond] at h0 h1 ⊢
    split at h0 <;> split <;> omega
  have hn : c.toBitVec.toNat < 65536 := by omega
  have a1 := lo8_and c
  have a2 : (hi8 c &&& 255).toBitVec.toNat = c.toBitVec.toNat / 256 := by
    rw [hi8, lo8_and]
    have e : ((8 : Int32) &&& 31) = 8 := by decide
    rw [e, Int32.toBitVec_shiftRight]
    have e2 : ((8 : Int32).toBitVec.smod 32) = 8#32 := by decide
    rw [e2, BitVec.sshiftRight_eq', BitVec.toNat_sshiftRight_of_msb_false (by rw [BitVec.msb_eq_false_iff_two_mul_lt]; omega)]
    show c.toBitVec.toNat >>> 8 % 256 = _
    rw [Nat.shiftRight_eq_div_pow]
    omega
  unfold pairCh
  apply Int32.toBitVec_inj.mp
  apply BitVec.eq_of_toNat_eq
  have f0 : ((0 : Int32) &&& 31) = 0 := by decide
  have f8 : ((8 : Int32) &&& 31) = 8 := by decide
  rw [f0, f8]
  have g : (((lo8 c &&& 255) <<< (0 : Int32)) ||| ((hi8 c &&& 255) <<< (8 : Int32))).toBitVec.toNat = c.toBitVec.toNat := by
    rw [Int32.toBitVec_or, Int32.toBitVec_shiftLeft, Int32.toBitVec_shiftLeft]
    have s0 : ((0 : Int32).toBitVec.smod 32) = 0#32 := by decide
    have s8 : ((8 : Int32).toBitVec.smod 32) = 8#32 := by decide
    rw [s0, s8, BitVec.toNat_or]
    simp only [BitVec.shiftLeft_eq', BitVec.toNat_shiftLeft, a1, a2]
    show (c.toBitVec.toNat % 256) <<< 0 % 2 ^ 32 ||| (c.toBitVec.toNat / 256) <<< 8 % 2 ^ 32 = _
    rw [Nat.shiftLeft_zero, Nat.mod_eq_of_lt (show c.toBitVec.toNat % 256 < 2 ^ 32 by omega), Nat.mod_eq_of_lt (show (c.toBitVec.toNat / 256) <<< 8 < 2 ^ 32 by rw [Nat.shiftLeft_eq]; omega), Nat.or_comm, ← Nat.shiftLeft_add_eq_or_of_lt (by omega), Nat.shiftLeft_eq]
    omega
  show BitVec.toNat (((((lo8 c &&& 255) <<< (0 : Int32)) ||| ((hi8 c &&& 255) <<< (8 : Int32))).toBitVec.setWidth 16).setWidth 32) = _
  rw [BitVec.toNat_setWidth, BitVec.toNat_setWidth, g]
  omega
end StrChars
namespace StrChars
open Jvm Sem ClassFile Op Lib Jvm.Stand Jvm.Free.XT Jvm.Free.ALB Jvm.Free.JM Jvm.Free
open Jvm.Lib.Cold (StaticIs)
theorem shr1 {n : Nat} (h : 2 * n < 2 ^ 31) : Int32.ofNat (2 * n) >>> ((1 : Int32) &&& 31) = Int32.ofNat n := by
  have e : ((1 : Int32) &&& 31) = 1 := by decide
  rw [e]
  apply Int32.toBitVec_inj.mp
  rw [Int32.toBitVec_shiftRight]
  have e1 : ((1 : Int32).toBitVec.smod 32) = 1#32 := by decide
  have hm : (BitVec.ofNat 32 (2 * n)).toNat = 2 * n := by rw [BitVec.toNat_ofNat, Nat.mod_eq_of_lt (by omega)]
  rw [e1, BitVec.sshiftRight_eq']
  apply BitVec.eq_of_toNat_eq
  show ((BitVec.ofNat 32 (2 * n)).sshiftRight 1).toNat = (BitVec.ofNat 32 n).toNat
  rw [BitVec.toNat_sshiftRight_of_msb_false (by rw [BitVec.msb_eq_false_iff_two_mul_lt, hm]; omega), hm, BitVec.toNat_ofNat, Nat.shiftRight_eq_div_pow]
  omega
/-- charAt's cast of a byte read back -/
def chr8 (u : Int32) : Int32 := (u &&& 255).toUInt32.toUInt16.toUInt32.toInt32
theorem chr8_lo8 {c : Int32} (h0 : ¬ c < 0) (h1 : ¬ 255 < c) : chr8 (lo8 c) = c := by
  have t : ∀ k : Fin 256, (Int32.ofNat k.val).toUInt32.toUInt16.toUInt32.toInt32 = Int32.ofNat k.val := by decide +kernel
  unfold chr8
  rw [lo8_mask h0 h1]
  rw [Int32.lt_iff_toInt_lt] at h0 h1
  have e0 : (0 : Int32).toInt = 0 := rfl
  have e1 : (255 : Int32).toInt = 255 := rfl
  obtain ⟨k, hk⟩ : ∃ k : Nat, c.toInt = k := ⟨c.toInt.toNat, by omega⟩
  have hx : c = Int32.ofNat k := Int32.toInt_inj.mp (by rw [hk, Int32.toInt_ofNat_small (by omega)])
  rw [hx]
  exact t ⟨k, by omega⟩
theorem narrow_ch {c : Int32} (h0 : ¬ c < 0) (h1 : ¬ 65535 < c) : narrow .char (.int c) = .int c := by
  have q : narrow .char (.int (pairCh (lo8 c) (hi8 c))) = .int (pairCh (lo8 c) (hi8 c)) := narrow_c _
  rwa [pair_says h0 h1] at q
/-- the array's cell V codes the n chars f 0 .. f (n - 1) by the coder cd, as the JDK does: coder 1 just where some char is above 255 -/
def Cod (cd : Int32) (n : Nat) (f : Nat → Int32) (V : Cell) : Prop := (cd = 0 ∧ V.slots.size = n ∧ ∀ j, j < n → V.slots[j]? = some (.int (lo8 (f j))) ∧ ¬ 255 < f j) ∨ (cd = 1 ∧ V.slots.size = 2 * n ∧ (∀ j, j < n → V.slots[2 * j]? = some (.int (lo8 (f j))) ∧ V.slots[2 * j + 1]? = some (.int (hi8 (f j)))) ∧ ∃ j, j < n ∧ 255 < f j)
theorem Cod.cd {cd : Int32} {n : Nat} {f : Nat → Int32} {V : Cell} (h : Cod cd n f V) : cd = 0 ∨ cd = 1 := h.imp (fun q => q.1) fun q => q.1
theorem Cod.len {cd : Int32} {n : Nat} {f : Nat → Int32} {V : Cell} (h : Cod cd n f V) (hs : V.slots.size < 2 ^ 31) : Int32.ofNat V.slots.size >>> (cd &&& 31) = Int32.ofNat n := by
  rcases h with ⟨rfl, h, -⟩ | ⟨rfl, h, -⟩
  · rw [shr0, h]
  · rw [h, shr1 (by omega)]
/-- **x is a String of the n chars f 0 .. f (n - 1)**, Latin-1 or UTF-16; its array at t has the cell V -/
def Txt (x t : Addr) (V : Cell) (cd : Int32) (n : Nat) (f : Nat → Int32) (U : State) : Prop := Exact "java/lang/String" x U ∧ Has x "java/lang/String" "value" "[B" (.ref t) U ∧ Has x "java/lang/String" "coder" "B" (.int cd) U ∧ XT.Arr .byte t V U ∧ Cod cd n f V ∧ ∀ j, j < n → ¬ f j < 0 ∧ ¬ 65535 < f j
theorem Txt.mv {x t : Addr} {V : Cell} {cd : Int32} {n : Nat} {f : Nat → Int32} {U U' : State} (h : Txt x t V cd n f U) (hal : U.vm.Alike U'.vm) (hh : U'.heap = U.heap) : Txt x t V cd n f U' := ⟨h.1.mv hal hh, h.2.1.mv hal hh, h.2.2.1.mv hal hh, h.2.2.2.1.mv hal hh, h.2.2.2.2⟩
namespace Cdr
def yN : MethodName := ⟨"java/lang/String", "coder", "()B"⟩
abbrev yB : ByteArray := jdk_42_method_152_code
theorem d0 : decode yB 0 = .ok (.getstatic 38, 3) := by decide +kernel
theorem d3 : decode yB 3 = .ok (.ifCond (.eq) 10, 3) := by decide +kernel
theorem d6 : decode yB 6 = .ok (.aload_n 0, 1) := by decide +kernel
theorem d7 : decode yB 7 = .ok (.getfield 15, 3) := by decide +kernel
theorem d10 : decode yB 10 = .ok (.goto 4, 3) := by decide +kernel
theorem d14 : decode yB 14 = .ok (.ireturn, 1) := by decide +kernel
def site : List Cond := [.fieldLink "java/lang/String" 38 "java/lang/String" "COMPACT_STRINGS" "Z", .fieldLink "java/lang/String" 15 "java/lang/String" "coder" "B"]
def tab : Cond := tabOf yN yB 1 (some .byte) site
def P (x : Addr) (cd z : Int32) (args : Array Value) (s : State) : Prop := args = #[.ref x] ∧ Has x "java/lang/String" "coder" "B" (.int cd) s ∧ (cd = 0 ∨ cd = 1) ∧ StaticIs s "java/lang/String" "COMPACT_STRINGS" "Z" (.int z) ∧ ¬ z = 0
def E (cd : Int32) (r : Option Value) (s u : State) : Prop := XT.PureE (some (.int cd)) r s u
theorem law (l : Launch) (x : Addr) (cd z : Int32) : Law l yN 1 0 0 0 yB 1 (some .byte) site (P x cd z) (E cd) [] 0 0 := by
  refine Law.of_walk (plainFor_of_name (by decide +kernel)) (by decide +kernel) (by decide +kernel) (by decide) (fun _ _ h => by rw [h.1]; rfl) (fun _ U U' hal hh h => ⟨h.1, h.2.1.mv hal hh, h.2.2.1, h.2.2.2.1.there hal hh, h.2.2.2.2⟩) (fun r U U' V V' h1 hal h2 h => XT.PureE.mv r U U' V V' h1 hal h2 h) ?_
  intro p e s m args below meth c s₁ X0 hexec hbytes hml hret hlk hnm hown hh0 W hP
  obtain ⟨rfl, hx, hc, s1, hz⟩ := hP
  have c1 : Steps p.tables e below (s₁.setTop (entryFrame m #[.ref x] 1)) (s₁.setTop (mkF m 0 #[.val (.ref x)] [])) := entry rfl
  obtain ⟨T2, X2, q2, st2⟩ := X0.sget hexec hown (wk W (.fieldLink "java/lang/String" 38 "java/lang/String" "COMPACT_STRINGS" "Z")) s1 (fun _ _ h => by rw [hh0]; exact h) (g := (mkF m 0 #[.val (.ref x)] [])) rfl (hb hbytes d0)
  have hh2 := q2.trans hh0
  have c3 : Steps p.tables e below (s₁.setTop (entryFrame m #[.ref x] 1)) (T2.setTop (mkF m 7 #[.val (.ref x)] [.ref x])) := (c1.trans (st2 _ (Steps.refl _))).trans (by
    refine XS.ifNo X2.here hexec rfl (hb hbytes d3) rfl (i0_eq_f hz) ?_
    refine XS.aloadN X2.here hexec rfl (hb hbytes d6) rfl rfl ?_
    exact Steps.refl _)
  obtain ⟨T4, X4, q4, st4⟩ := X2.hget hexec hown (wk W (.fieldLink "java/lang/String" 15 "java/lang/String" "coder" "B")) (hx.mv X2.warmed.alike hh2) (g := (mkF m 7 #[.val (.ref x)] [.ref x])) rfl (rest := []) rfl (hb hbytes d7)
  have c5 : Steps p.tables e below (s₁.setTop (entryFrame m #[.ref x] 1)) (T4.setTop (mkF m 14 #[.val (.ref x)] [.int cd])) := (c3.trans (st4 _ (Steps.refl _))).trans (by
    refine XS.goto X4.here hexec rfl (pc0 := 10) rfl (hb hbytes d10) (by decide) rfl ?_
    exact Steps.refl _)
  exact ⟨T4, some (.int cd), _, _, _, X4, rfl, rfl, rfl, (fun h => by cases h), ⟨rfl, q4.trans hh2⟩, fun fs hl => c5.trans (X4.ireturnOut hexec hret (by rcases hc with rfl | rfl <;> rfl) (Or.inr (Or.inr (Or.inl rfl))) (hb hbytes d14) hl)⟩
end Cdr
namespace Len
def yN : MethodName := ⟨"java/lang/String", "length", "()I"⟩
abbrev yB : ByteArray := jdk_42_method_54_code
theorem d0 : decode yB 0 = .ok (.aload_n 0, 1) := by decide +kernel
theorem d1 : decode yB 1 = .ok (.getfield 9, 3) := by decide +kernel
theorem d4 : decode yB 4 = .ok (.arraylength, 1) := by decide +kernel
theorem d5 : decode yB 5 = .ok (.aload_n 0, 1) := by decide +kernel
theorem d6 : decode yB 6 = .ok (.invokevirtual 335, 3) := by decide +kernel
theorem d9 : decode yB 9 = .ok (.ishr, 1) := by decide +kernel
theorem d10 : decode yB 10 = .ok (.ireturn, 1) := by decide +kernel
def site : List Cond := [.fieldLink "java/lang/String" 9 "java/lang/String" "value" "[B", Cdr.tab] ++ virtW "java/lang/String" 335 "java/lang/String" Cdr.yN Cdr.yN
def tab : Cond := tabOf yN yB 1 (some .int) site
def P (x t : Addr) (V : Cell) (cd : Int32) (n : Nat) (f : Nat → Int32) (z : Int32) (args : Array Value) (s : State) : Prop := args = #[.ref x] ∧ Txt x t V cd n f s ∧ StaticIs s "java/lang/String" "COMPACT_STRINGS" "Z" (.int z) ∧ ¬ z = 0
def E (n : Nat) (r : Option Value) (s u : State) : Prop := XT.PureE (some (.int (Int32.ofNat n))) r s u
/-- length() of a String of n chars, in either coding -/
theorem law (l : Launch) (x t : Addr) (V : Cell) (cd : Int32) (n : Nat) (f : Nat → Int32) (z : Int32) : Law l yN 1 0 1 13 yB 1 (some .int) site (P x t V cd n f z) (E n) [] 0 0 := by
  refine Law.of_walk (plainFor_of_name (by decide +kernel)) (by decide +kernel) (by decide +kernel) (by decide) (fun _ _ h => by rw [h.1]; rfl) (fun _ U U' hal hh h => ⟨h.1, h.2.1.mv hal hh, h.2.2.1.there hal hh, h.2.2.2⟩) (fun r U U' V V' h1 hal h2 h => XT.PureE.mv r U U' V V' h1 hal h2 h) ?_
  intro p e s m args below meth c s₁ X0 hexec hbytes hml hret hlk hnm hown hh0 W hP
  obtain ⟨rfl, hx, s1, hz⟩ := hP
  have v31 := hx.2.2.2.1.2.2.2
  have c1 : Steps p.tables e below (s₁.setTop (entryFrame m #[.ref x] 1)) (s₁.setTop (mkF m 1 #[.val (.ref x)] [.ref x])) := Steps.trans (entry rfl) (by
    show Steps p.tables e below (s₁.setTop (mkF m 0 #[.val (.ref x)] [])) _
    refine XS.aloadN X0.here hexec rfl (hb hbytes d0) rfl rfl ?_
    exact Steps.refl _)
  obtain ⟨T2, X2, q2, st2⟩ := X0.hget hexec hown (wk W (.fieldLink "java/lang/String" 9 "java/lang/String" "value" "[B")) (hx.mv X0.warmed.alike hh0).2.1 (g := (mkF m 1 #[.val (.ref x)] [.ref x])) rfl (rest := []) rfl (hb hbytes d1)
  have hh2 := q2.trans hh0
  have hx2 := hx.mv X2.warmed.alike hh2
  have c3 : Steps p.tables e below (s₁.setTop (entryFrame m #[.ref x] 1)) (T2.setTop (mkF m 6 #[.val (.ref x)] [.ref x, .int (Int32.ofNat V.slots.size)])) := (c1.trans (st2 _ (Steps.refl _))).trans (by
    refine X2.alen hexec hx2.2.2.2.1 rfl rfl (hb hbytes d4) ?_
    refine XS.aloadN X2.here hexec rfl (hb hbytes d5) rfl rfl ?_
    exact Steps.refl _)
  obtain ⟨v4, T4, X4, E4, g4⟩ := X2.callV hexec (Cdr.law l x cd z) hown (wks W (virtW "java/lang/String" 335 "java/lang/String" Cdr.yN Cdr.yN)) rfl (by decide) (wk W Cdr.tab) (W := 1) (Nat.le_of_ble_eq_true rfl) (Nat.le_of_ble_eq_true rfl) (Nat.le_refl _) (Nat.le_refl _) (hx2.1.fc X2.warmed.alike) hx2.1.is (g := (mkF m 6 #[.val (.ref x)] [.ref x, .int (Int32.ofNat V.slots.size)])) rfl (by rw [hml]; rfl) c3 (argsL := []) (rest := [.int (Int32.ofNat V.slots.size)]) rfl rfl (by show 2 * 0 + (1 + 0) ≤ _; decide) (hb hbytes d6) (⟨rfl, hx2.2.2.1, hx.2.2.2.2.1.cd, s1.there X2.warmed.alike hh2, hz⟩)
  obtain ⟨rfl, q4⟩ := E4
  have c5 : Steps p.tables e below (s₁.setTop (entryFrame m #[.ref x] 1)) (T4.setTop (mkF m 10 #[.val (.ref x)] [.int (Int32.ofNat V.slots.size >>> (cd &&& 31))])) := Steps.trans g4 (by
    refine ishr X4.here hexec rfl (hb hbytes d9) rfl ?_
    exact Steps.refl _)
  rw [hx.2.2.2.2.1.len v31] at c5
  exact ⟨T4, some (.int (Int32.ofNat n)), _, _, _, X4, rfl, rfl, rfl, (fun h => by cases h), ⟨rfl, q4.trans hh2⟩, fun fs hl => c5.trans (X4.ireturnOut hexec hret rfl (Or.inl rfl) (hb hbytes d10) hl)⟩
theorem pays {l : Launch} {R : Room} {p : Program} {e : Env} {below : List Frame} {s : State} {sargs : Array Value} {len W : Nat} (x t : Addr) (V : Cell) (cd : Int32) (n : Nat) (f : Nat → Int32) (z : Int32) (htab : tab.before sargs s = true) (hfr : 2 ≤ R.frames) (hlo : W + 25 ≤ R.locals) :
    Back l R p e below s sargs yN len W (fun A₁ a₁ => A₁.cells + 0 ≤ R.cells ∧ A₁.slots + 0 ≤ R.slots ∧ P x t V cd n f z a₁ A₁.U) (fun A₁ _ v₁ B₁ => E n v₁ A₁.U B₁.U ∧ B₁.locs = A₁.locs ++ [] ∧ B₁.cells = A₁.cells + 0 ∧ B₁.slots = A₁.slots + 0) :=
  (law l x t V cd n f z).pays htab hfr (by omega)
end Len
namespace IsL
def yN : MethodName := ⟨"java/lang/String", "isLatin1", "()Z"⟩
abbrev yB : ByteArray := jdk_42_method_154_code
theorem d0 : decode yB 0 = .ok (.getstatic 38, 3) := by decide +kernel
theorem d3 : decode yB 3 = .ok (.ifCond (.eq) 14, 3) := by decide +kernel
theorem d6 : decode yB 6 = .ok (.aload_n 0, 1) := by decide +kernel
theorem d7 : decode yB 7 = .ok (.getfield 15, 3) := by decide +kernel
theorem d10 : decode yB 10 = .ok (.ifCond (.ne) 7, 3) := by decide +kernel
theorem d13 : decode yB 13 = .ok (.iconst 1, 1) := by decide +kernel
theorem d14 : decode yB 14 = .ok (.goto 4, 3) := by decide +kernel
theorem d17 : decode yB 17 = .ok (.iconst 0, 1) := by decide +kernel
theorem d18 : decode yB 18 = .ok (.ireturn, 1) := by decide +kernel
def site : List Cond := [.fieldLink "java/lang/String" 38 "java/lang/String" "COMPACT_STRINGS" "Z", .fieldLink "java/lang/String" 15 "java/lang/String" "coder" "B"]
def tab : Cond := tabOf yN yB 1 (some .boolean) site
def P (x : Addr) (cd z : Int32) (args : Array Value) (s : State) : Prop := args = #[.ref x] ∧ Has x "java/lang/String" "coder" "B" (.int cd) s ∧ (cd = 0 ∨ cd = 1) ∧ StaticIs s "java/lang/String" "COMPACT_STRINGS" "Z" (.int z) ∧ ¬ z = 0
def E (cd : Int32) (r : Option Value) (s u : State) : Prop := XT.PureE (some (.int (1 - cd))) r s u
theorem law (l : Launch) (x : Addr) (cd z : Int32) : Law l yN 1 0 0 0 yB 1 (some .boolean) site (P x cd z) (E cd) [] 0 0 := by
  refine Law.of_walk (plainFor_of_name (by decide +kernel)) (by decide +kernel) (by decide +kernel) (by decide) (fun _ _ h => by rw [h.1]; rfl) (fun _ U U' hal hh h => ⟨h.1, h.2.1.mv hal hh, h.2.2.1, h.2.2.2.1.there hal hh, h.2.2.2.2⟩) (fun r U U' V V' h1 hal h2 h => XT.PureE.mv r U U' V V' h1 hal h2 h) ?_
  intro p e s m args below meth c s₁ X0 hexec hbytes hml hret hlk hnm hown hh0 W hP
  obtain ⟨rfl, hx, hc, s1, hz⟩ := hP
  have c1 : Steps p.tables e below (s₁.setTop (entryFrame m #[.ref x] 1)) (s₁.setTop (mkF m 0 #[.val (.ref x)] [])) := entry rfl
  obtain ⟨T2, X2, q2, st2⟩ := X0.sget hexec hown (wk W (.fieldLink "java/lang/String" 38 "java/lang/String" "COMPACT_STRINGS" "Z")) s1 (fun _ _ h => by rw [hh0]; exact h) (g := (mkF m 0 #[.val (.ref x)] [])) rfl (hb hbytes d0)
  have hh2 := q2.trans hh0
  have c3 : Steps p.tables e below (s₁.setTop (entryFrame m #[.ref x] 1)) (T2.setTop (mkF m 7 #[.val (.ref x)] [.ref x])) := (c1.trans (st2 _ (Steps.refl _))).trans (by
    refine XS.ifNo X2.here hexec rfl (hb hbytes d3) rfl (i0_eq_f hz) ?_
    refine XS.aloadN X2.here hexec rfl (hb hbytes d6) rfl rfl ?_
    exact Steps.refl _)
  obtain ⟨T4, X4, q4, st4⟩ := X2.hget hexec hown (wk W (.fieldLink "java/lang/String" 15 "java/lang/String" "coder" "B")) (hx.mv X2.warmed.alike hh2) (g := (mkF m 7 #[.val (.ref x)] [.ref x])) rfl (rest := []) rfl (hb hbytes d7)
  have c5 : Steps p.tables e below (s₁.setTop (entryFrame m #[.ref x] 1)) (T4.setTop (mkF m 10 #[.val (.ref x)] [.int cd])) := c3.trans (st4 _ (Steps.refl _))
  have c6 : Steps p.tables e below (s₁.setTop (entryFrame m #[.ref x] 1)) (T4.setTop (mkF m 18 #[.val (.ref x)] [.int (1 - cd)])) := by
    rcases hc with rfl | rfl
    · exact c5.trans (by
        refine XS.ifNo X4.here hexec rfl (hb hbytes d10) rfl (i0_ne_f rfl) ?_
        refine iconstV X4.here hexec rfl 1 (hb hbytes d13) (by decide) ?_
        refine XS.goto X4.here hexec rfl (pc0 := 14) rfl (hb hbytes d14) (by decide) rfl ?_
        exact Steps.refl _)
    · exact c5.trans (by
        refine XS.ifYes X4.here hexec rfl (pc0 := 10) rfl (hb hbytes d10) rfl (i0_ne_t (by decide)) (by decide) rfl ?_
        refine iconstV X4.here hexec rfl 0 (hb hbytes d17) (by decide) ?_
        exact Steps.refl _)
  exact ⟨T4, some (.int (1 - cd)), _, _, _, X4, rfl, rfl, rfl, (fun h => by cases h), ⟨rfl, q4.trans hh2⟩, fun fs hl => c6.trans (X4.ireturnOut hexec hret (by rcases hc with rfl | rfl <;> rfl) (Or.inr (Or.inl rfl)) (hb hbytes d18) hl)⟩
end IsL
namespace LChA
def yN : MethodName := ⟨"java/lang/StringLatin1", "charAt", "([BI)C"⟩
abbrev yB : ByteArray := jdk_43_method_2_code
theorem d0 : decode yB 0 = .ok (.iload_n 1, 1) := by decide +kernel
theorem d1 : decode yB 1 = .ok (.aload_n 0, 1) := by decide +kernel
theorem d2 : decode yB 2 = .ok (.arraylength, 1) := by decide +kernel
theorem d3 : decode yB 3 = .ok (.invokestatic 9, 3) := by decide +kernel
theorem d6 : decode yB 6 = .ok (.aload_n 0, 1) := by decide +kernel
theorem d7 : decode yB 7 = .ok (.iload_n 1, 1) := by decide +kernel
theorem d8 : decode yB 8 = .ok (.baload, 1) := by decide +kernel
theorem d9 : decode yB 9 = .ok (.sipush 255, 3) := by decide +kernel
theorem d12 : decode yB 12 = .ok (.iand, 1) := by decide +kernel
theorem d13 : decode yB 13 = .ok (.i2c, 1) := by decide +kernel
theorem d14 : decode yB 14 = .ok (.ireturn, 1) := by decide +kernel
def site : List Cond := [JO.Str_checkIndex.tab] ++ staticW "java/lang/StringLatin1" 9 JO.Str_checkIndex.yN
def tab : Cond := tabOf yN yB 2 (some .char) site
def P (t : Addr) (V : Cell) (i : Nat) (u : Int32) (fm : Value) (args : Array Value) (s : State) : Prop := args = #[.ref t, .int (Int32.ofNat i)] ∧ XT.Arr .byte t V s ∧ V.slots[i]? = some (.int u) ∧ (StaticIs s "jdk/internal/util/Preconditions" "SIOOBE_FORMATTER" "Ljava/util/function/BiFunction;" fm ∧ fm.isRef = true)
def E (u : Int32) (r : Option Value) (s w : State) : Prop := XT.PureE (some (.int (chr8 u))) r s w
theorem law (l : Launch) (t : Addr) (V : Cell) (i : Nat) (u : Int32) (fm : Value) : Law l yN 2 2 2 27 yB 2 (some .char) site (P t V i u fm) (E u) [] 0 0 := by
  refine Law.of_walk (plainFor_of_name (by decide +kernel)) (by decide +kernel) (by decide +kernel) (by decide) (fun _ _ h => by rw [h.1]; rfl) (fun _ U U' hal hh h => ⟨h.1, h.2.1.mv hal hh, h.2.2.1, h.2.2.2.1.there hal hh, h.2.2.2.2⟩) (fun r U U' V V' h1 hal h2 h => XT.PureE.mv r U U' V V' h1 hal h2 h) ?_
  intro p e s m args below meth c s₁ X0 hexec hbytes hml hret hlk hnm hown hh0 W hP
  obtain ⟨rfl, hV, hu, s1, rf⟩ := hP
  have v31 := hV.2.2.2
  have hi : i < V.slots.size := (Array.getElem?_eq_some_iff.mp hu).1
  have c1 : Steps p.tables e below (s₁.setTop (entryFrame m #[.ref t, .int (Int32.ofNat i)] 2)) (s₁.setTop (mkF m 0 #[.val (.ref t), .val (.int (Int32.ofNat i))] [])) := entry rfl
  have c2 : Steps p.tables e below (s₁.setTop (entryFrame m #[.ref t, .int (Int32.ofNat i)] 2)) (s₁.setTop (mkF m 3 #[.val (.ref t), .val (.int (Int32.ofNat i))] [.int (Int32.ofNat V.slots.size), .int (Int32.ofNat i)])) := c1.trans (by
    refine XS.iloadN X0.here hexec rfl (hb hbytes d0) rfl ?_
    refine XS.aloadN X0.here hexec rfl (hb hbytes d1) rfl rfl ?_
    refine X0.alen hexec (hV.mv X0.warmed.alike hh0) rfl rfl (hb hbytes d2) ?_
    exact Steps.refl _)
  obtain ⟨v3, T3, X3, E3, g3⟩ := X0.callS hexec (JO.Str_checkIndex.law l (Int32.ofNat i) (Int32.ofNat V.slots.size) fm) hown (wks W (staticW "java/lang/StringLatin1" 9 JO.Str_checkIndex.yN)) (wk W JO.Str_checkIndex.tab) (W := 0) (Nat.le_of_ble_eq_true rfl) (Nat.le_of_ble_eq_true rfl) (Nat.le_refl _) (Nat.le_refl _) (g := (mkF m 3 #[.val (.ref t), .val (.int (Int32.ofNat i))] [.int (Int32.ofNat V.slots.size), .int (Int32.ofNat i)])) rfl (by rw [hml]; rfl) c2 (argsL := [.int (Int32.ofNat i), .int (Int32.ofNat V.slots.size)]) (rest := []) rfl rfl (by show 2 * 0 + 0 ≤ _; decide) (hb hbytes d3) (⟨rfl, rf, s1.there X0.warmed.alike hh0, Int32.ofNat_not_neg (by omega), lt32 v31 hi⟩)
  obtain ⟨rfl, q3⟩ := E3
  have hh3 := q3.trans hh0
  have c4 : Steps p.tables e below (s₁.setTop (entryFrame m #[.ref t, .int (Int32.ofNat i)] 2)) (T3.setTop (mkF m 14 #[.val (.ref t), .val (.int (Int32.ofNat i))] [.int (chr8 u)])) := Steps.trans g3 (by
    refine XS.aloadN X3.here hexec rfl (hb hbytes d6) rfl rfl ?_
    refine XS.iloadN X3.here hexec rfl (hb hbytes d7) rfl ?_
    refine X3.aget hexec (hV.mv X3.warmed.alike hh3) rfl hu rfl rfl (hb hbytes d8) ?_
    refine sipushV X3.here hexec rfl 255 (hb hbytes d9) (by decide) ?_
    refine XS.iand X3.here hexec rfl (hb hbytes d12) rfl ?_
    refine i2c X3.here hexec rfl (hb hbytes d13) rfl ?_
    exact Steps.refl _)
  exact ⟨T3, some (.int (chr8 u)), _, _, _, X3, rfl, rfl, rfl, (fun h => by cases h), ⟨rfl, hh3⟩, fun fs hl => c4.trans (X3.ireturnOut hexec hret (narrow_c _) (Or.inr (Or.inr (Or.inr (Or.inl rfl)))) (hb hbytes d14) hl)⟩
end LChA
end StrChars
namespace StrChars.Road
open Jvm Sem ClassFile Op Lib Jvm.Stand Jvm.Free Jvm.Free.XT
open Jvm.Lib.Cold (StaticIs)
theorem consq {a : Array Value} {s : State} {c : Jvm.Cond} {L : List Jvm.Cond} (h0 : c.before a s = true) (h : ∀ w ∈ L, w.before a s = true) : ∀ w ∈ c :: L, w.before a s = true := fun w hw => (List.mem_cons.mp hw).elim (fun e => e ▸ h0) (h w)
/-- the words of String.length(), either coding -/
abbrev wordsLen : List Jvm.Cond := [.code Len.yN Len.yB 1 (some .int), .initialized ST, .fieldLink ST 9 ST "value" "[B", .fieldLink ST 38 ST "COMPACT_STRINGS" "Z", .fieldLink ST 15 ST "coder" "B", .code Cdr.yN Cdr.yB 1 (some .byte), .methodLink ST 335 Cdr.yN, .declares Cdr.yN, .selects ST Cdr.yN Cdr.yN, .instanceMethod Cdr.yN]
theorem tabLen_of {a : Array Value} {s : State} (h : ∀ w ∈ wordsLen, w.before a s = true) : Len.tab.before a s = true := by
  have hc : Cdr.tab.before a s = true := unparts (wk h (.code Cdr.yN Cdr.yB 1 (some .byte))) (wks h (.initialized Cdr.yN.cls :: Cdr.site))
  have q := consq hc h
  exact unparts (wk q (.code Len.yN Len.yB 1 (some .int))) (wks q (.initialized Len.yN.cls :: Len.site))
theorem movedLen {Z s : State} {a0 args : Array Value} (hZ : Z.Warmed39 s.vm) (hw : ∀ d ∈ wordsLen, d.before a0 Z = true) : ∀ d ∈ wordsLen, d.before args s = true := fun d hd => by
  have q := hw d hd
  have t : ∀ d ∈ wordsLen, d = .arrayClass .byte ∨ (d.onTables && d.keepsFace) = true := by decide +kernel
  rcases t d hd with rfl | t
  · exact RoadKit.mvA hZ q
  · exact RoadKit.mv hZ q t
/-- the bytes of the chars cs, low before high -/
def wideBytes : List Int32 → List Value
  | [] => []
  | c :: cs => .int (lo8 c) :: .int (hi8 c) :: wideBytes cs
theorem wide_lo (d : Value) : ∀ (cs : List Int32) (j : Nat), j < cs.length → (wideBytes cs).getD (2 * j) d = .int (lo8 (cs.getD j 0))
  | [], j, h => absurd h (Nat.not_lt_zero j)
  | c :: cs, 0, _ => rfl
  | c :: cs, j + 1, h => by
    have q := wide_lo d cs j (by simpa using h)
    rw [show 2 * (j + 1) = 2 * j + 1 + 1 from by omega]
    simpa [wideBytes] using q
theorem wide_hi (d : Value) : ∀ (cs : List Int32) (j : Nat), j < cs.length → (wideBytes cs).getD (2 * j + 1) d = .int (hi8 (cs.getD j 0))
  | [], j, h => absurd h (Nat.not_lt_zero j)
  | c :: cs, 0, _ => rfl
  | c :: cs, j + 1, h => by
    have q := wide_hi d cs j (by simpa using h)
    rw [show 2 * (j + 1) + 1 = 2 * j + 1 + 1 + 1 from by omega]
    simpa [wideBytes] using q
theorem low_at (d : Value) (cs : List Int32) (j : Nat) (h : j < cs.length) : (cs.map fun c => Value.int (lo8 c)).getD j d = .int (lo8 (cs.getD j 0)) := by
  simp [List.getD_eq_getElem?_getD, h]
/-- an array of N2 bytes vs codes the chars cs by the coder cd -/
def CodA (cs : List Int32) (cd N2 : Int32) (vs : List Value) : Prop := (cd = 0 ∧ N2 = Int32.ofNat cs.length ∧ vs = (cs.map fun c => Value.int (lo8 c)) ∧ ∀ c ∈ cs, ¬ 255 < c) ∨ (cd = 1 ∧ N2 = Int32.ofNat (2 * cs.length) ∧ vs = wideBytes cs ∧ ∃ c ∈ cs, 255 < c)
theorem CodA.cod {cs : List Int32} {cd N2 : Int32} {vs : List Value} {V : Cell} (h : CodA cs cd N2 vs) (hn : 2 * cs.length < 2 ^ 31) (hs : V.slots.size = N2.toNatClampNeg) (hv : RoadKit.Has V vs (.int 0)) : Cod cd cs.length (fun j => cs.getD j 0) V := by
  rcases h with ⟨rfl, rfl, rfl, h⟩ | ⟨rfl, rfl, rfl, c, hc, hw⟩
  · rw [n32 (by omega)] at hs
    exact Or.inl ⟨rfl, hs, fun j hj => ⟨by rw [hv j (by omega), low_at _ _ _ hj], by
      have e : cs.getD j 0 = cs[j] := by simp [List.getD_eq_getElem?_getD, hj]
      show ¬ 255 < cs.getD j 0
      rw [e]; exact h _ (List.getElem_mem _)⟩⟩
  · rw [n32 (by omega)] at hs
    obtain ⟨j, hj, rfl⟩ := List.getElem_of_mem hc
    exact Or.inr ⟨rfl, hs, fun j hj => ⟨by rw [hv _ (by omega), wide_lo _ _ _ hj], by rw [hv _ (by omega), wide_hi _ _ _ hj]⟩, j, hj, by
      have e : cs.getD j 0 = cs[j] := by simp [List.getD_eq_getElem?_getD, hj]
      show 255 < cs.getD j 0
      rw [e]; exact hw⟩
/-- an object of exactly java/lang/String, its two fields found: as the laws ask it -/
theorem strObj {Z U : State} {a0 : Array Value} {kI : Nat} (wi : (Jvm.Cond.instantiable ST kI).before a0 Z = true) (al : Z.vm.Alike U.vm) {x : Addr} {v0 c0 : Value} (E : RoadKit.Exa Z U.heap x ST) (V : RoadKit.Fld Z U.heap x ST "value" "[B" v0) (C : RoadKit.Fld Z U.heap x ST "coder" "B" c0) :
    ∃ (D : Cell) (fV fC : Field), Blank ST x D U ∧ Found ST "value" "[B" fV U ∧ Found ST "coder" "B" fC U ∧ D.slots[fV.slot]? = some v0 ∧ D.slots[fC.slot]? = some c0 ∧ RoadKit.slotOf Z ST "value" "[B" = fV.slot ∧ RoadKit.slotOf Z ST "coder" "B" = fC.slot := by
  obtain ⟨D, cfV, kV, iV, fV, hD, gV, stV, knV, obV, asV, slV⟩ := V
  obtain ⟨D', cfC, kC, iC, fC, hD', gC, stC, -, -, asC, slC⟩ := C
  cases hD.symm.trans hD'
  obtain ⟨D2, kD, e1, e2, e3, e4, e5⟩ := E
  cases hD.symm.trans e1
  obtain ⟨c2, k2, i1, i2, i3, -⟩ := Cond.instantiable_spec wi
  cases e2.symm.trans i1
  cases e3.symm.trans i2
  obtain ⟨kU, u1, u2⟩ := al.2.2 _ _ e3
  exact ⟨D, fV, fC, ⟨hD, ⟨knV, fun q hq => by rw [hq] at obV; cases obV⟩, by rw [al.findClass]; exact e2, kU, u1, by rw [u2]; exact i3, by rw [u2]; exact e5 i3⟩, ⟨SBG.found_only al ⟨cfV, kV, iV, gV⟩, stV⟩, ⟨SBG.found_only al ⟨cfC, kC, iC, gC⟩, stC⟩, slV, slC, by simp [RoadKit.slotOf, gV], by simp [RoadKit.slotOf, gC]⟩
theorem sta_is {Z U : State} (al : Z.vm.Alike U.vm) {C n d : String} {v : Value} (S : RoadKit.Sta Z U.heap C n d v) : StaticIs U C n d v := by
  obtain ⟨cfS, iS, kS, fS, st, cS, t1, t2, t3, t4, t5, t6, t7⟩ := S
  exact StaticIs.there (s := { Z with heap := U.heap }) ⟨cfS, iS, kS, fS, st, cS, t1, t2, t3, t4, t5, (fun q => by rw [q] at t6; cases t6), t7⟩ al rfl
/-- **length() OF SUCH A STRING** -/
theorem lenW {p : Program} {l : Launch} {e : Env} {R : Room} {s : State} {args : Array Value} {below : List Frame} {len W : Nat} {Z : State} {a0 : Array Value} {h : Heap} (hZ : Z.Warmed39 s.vm) (hw : ∀ d ∈ wordsLen, d.before a0 Z = true) {kI : Nat} (wi : (Jvm.Cond.instantiable ST kI).before a0 Z = true)
    {x t : Addr} {kb : ClassId} {cs : List Int32} {cd N2 z : Int32} {vs : List Value} (E : RoadKit.Exa Z h x ST) (V : RoadKit.Fld Z h x ST "value" "[B" (.ref t)) (C : RoadKit.Fld Z h x ST "coder" "B" (.int cd)) (K : RoadKit.Arv Z h t kb .byte N2 vs (.int 0)) (hc : CodA cs cd N2 vs) (hb : ∀ c ∈ cs, ¬ c < 0 ∧ ¬ (65535 : Int32) < c)
    (S : RoadKit.Sta Z h ST "COMPACT_STRINGS" "Z" (.int z)) (hz : ¬ z = 0) (l2 : cs.length ≤ 4000) (hfr : 2 ≤ R.frames) (hlo : W + 25 ≤ R.locals) :
    Back l R p e below s args (⟨"java/lang/String", "length", "()I"⟩ : MethodName) len W (fun P a => a = #[.ref x] ∧ P.U.heap = h ∧ P.cells + 0 ≤ R.cells ∧ P.slots + 0 ≤ R.slots)
      (fun P _ v B => ∃ L, (v = some (.int (Int32.ofNat cs.length)) ∧ L = [] ∧ B.U.heap = h) ∧ B.locs = P.locs ++ L ∧ B.cells = P.cells + 0 ∧ B.slots = P.slots + 0) := by
  obtain ⟨A, K1, K2, K3, K4, K5, K6⟩ := K
  have hcod := hc.cod (by omega) K3 K5
  intro m meth c P g ig mk a X hg hsize hdg hW hn hp'
  obtain ⟨rfl, rfl, r1, r2⟩ := hp'
  have al : Z.vm.Alike P.U.vm := hZ.alike.trans X.warmed.alike
  obtain ⟨D, fV, fC, hB, F1, F2, g1, g2, -, -⟩ := strObj wi al E V C
  have hx : Txt x t A cd cs.length (fun j => cs.getD j 0) P.U := ⟨⟨_, hB.2.2.1, D, hB.1, rfl, by cases q : D.vm <;> first | rfl | exact absurd q (hB.2.1.2 _)⟩, Has.of hB F1 g1, Has.of hB F2 g2, ⟨K1.1, State.isArrayOf_alike al K1.2.1, K1.2.2, by rcases hcod with ⟨-, q, -⟩ | ⟨-, q, -⟩ <;> omega⟩, hcod, fun j hj => by
    have e : cs.getD j 0 = cs[j] := by simp [List.getD_eq_getElem?_getD, hj]
    show ¬ cs.getD j 0 < 0 ∧ ¬ 65535 < cs.getD j 0
    rw [e]; exact hb _ (List.getElem_mem _)⟩
  obtain ⟨v, B, X', ⟨⟨hv, hh⟩, hl, hk, hs⟩, st⟩ := Len.pays x t A cd cs.length (fun j => cs.getD j 0) z (tabLen_of (movedLen hZ hw)) hfr hlo m meth c P g ig mk _ X hg hsize hdg hW hn ⟨r1, r2, rfl, hx, sta_is al S, hz⟩
  exact ⟨v, B, X', ⟨[], ⟨hv, rfl, hh⟩, hl, hk, hs⟩, st⟩
end StrChars.Road
namespace StrChars
open Jvm Sem ClassFile Op Lib Jvm.Stand Jvm.Free.XT Jvm.Free.ALB Jvm.Free.JM Jvm.Free
open Jvm.Lib.Cold (StaticIs)
/-- what place i of a byte[]'s cell holds -/
def yv (A : Cell) (i : Nat) : Int32 := match A.slots[i]? with | some (.int x) => x | _ => 0
theorem yv_get {a : Addr} {A : Cell} {U : State} (h : XT.Arr .byte a A U) (ht : Typed .byte A) {i : Nat} (hi : i < A.slots.size) : A.slots[i]? = some (.int (yv A i)) := by
  have e := Array.getElem?_eq_getElem hi
  have f := ht i _ e
  unfold yv; rw [e]
  generalize A.slots[i] = v at f
  cases v <;> simp [fits] at f ⊢
/-- the two arrays are equal, place for place -/
def EqC (A B : Cell) : Prop := A.slots.size = B.slots.size ∧ ∀ i, i < A.slots.size → yv A i = yv B i
/-- a boolean that says whether p -/
def Says01 (q : Prop) (r : Option Value) (s u : State) : Prop := ∃ v : Int32, r = some (.int v) ∧ u.heap = s.heap ∧ ((v = 1 ∧ q) ∨ (v = 0 ∧ ¬ q))
theorem Says01.mv {q : Prop} : ∀ r (U U' V V' : State), U'.heap = U.heap → V.vm.Alike V'.vm → V'.heap = V.heap → Says01 q r U V → Says01 q r U' V' :=
  fun r U U' V V' h1 _ h2 ⟨v, a, b, c⟩ => ⟨v, a, by rw [h1, h2]; exact b, c⟩
namespace LEq
def yN : MethodName := ⟨"java/lang/StringLatin1", "equals", "([B[B)Z"⟩
abbrev yB : ByteArray := jdk_43_method_13_code
theorem d0 : decode yB 0 = .ok (.aload_n 0, 1) := by decide +kernel
theorem d1 : decode yB 1 = .ok (.arraylength, 1) := by decide +kernel
theorem d2 : decode yB 2 = .ok (.aload_n 1, 1) := by decide +kernel
theorem d3 : decode yB 3 = .ok (.arraylength, 1) := by decide +kernel
theorem d4 : decode yB 4 = .ok (.if_icmp (.ne) 30, 3) := by decide +kernel
theorem d7 : decode yB 7 = .ok (.iconst 0, 1) := by decide +kernel
theorem d8 : decode yB 8 = .ok (.istore_n 2, 1) := by decide +kernel
theorem d9 : decode yB 9 = .ok (.iload_n 2, 1) := by decide +kernel
theorem d10 : decode yB 10 = .ok (.aload_n 0, 1) := by decide +kernel
theorem d11 : decode yB 11 = .ok (.arraylength, 1) := by decide +kernel
theorem d12 : decode yB 12 = .ok (.if_icmp (.ge) 20, 3) := by decide +kernel
theorem d15 : decode yB 15 = .ok (.aload_n 0, 1) := by decide +kernel
theorem d16 : decode yB 16 = .ok (.iload_n 2, 1) := by decide +kernel
theorem d17 : decode yB 17 = .ok (.baload, 1) := by decide +kernel
theorem d18 : decode yB 18 = .ok (.aload_n 1, 1) := by decide +kernel
theorem d19 : decode yB 19 = .ok (.iload_n 2, 1) := by decide +kernel
theorem d20 : decode yB 20 = .ok (.baload, 1) := by decide +kernel
theorem d21 : decode yB 21 = .ok (.if_icmp (.eq) 5, 3) := by decide +kernel
theorem d24 : decode yB 24 = .ok (.iconst 0, 1) := by decide +kernel
theorem d25 : decode yB 25 = .ok (.ireturn, 1) := by decide +kernel
theorem d26 : decode yB 26 = .ok (.iinc 2 1, 3) := by decide +kernel
theorem d29 : decode yB 29 = .ok (.goto (-20), 3) := by decide +kernel
theorem d32 : decode yB 32 = .ok (.iconst 1, 1) := by decide +kernel
theorem d33 : decode yB 33 = .ok (.ireturn, 1) := by decide +kernel
theorem d34 : decode yB 34 = .ok (.iconst 0, 1) := by decide +kernel
theorem d35 : decode yB 35 = .ok (.ireturn, 1) := by decide +kernel
def site : List Cond := []
def tab : Cond := tabOf yN yB 3 (some .boolean) site
def P (a : Addr) (A : Cell) (b : Addr) (B : Cell) (args : Array Value) (s : State) : Prop := args = #[.ref a, .ref b] ∧ XT.Arr .byte a A s ∧ Typed .byte A ∧ XT.Arr .byte b B s ∧ Typed .byte B
/-- whether two byte[] are equal, place for place -/
theorem law (l : Launch) (a : Addr) (A : Cell) (b : Addr) (B : Cell) : Law l yN 2 2 0 0 yB 3 (some .boolean) site (P a A b B) (Says01 (EqC A B)) [] 0 0 := by
  refine Law.of_walk (plainFor_of_name (by decide +kernel)) (by decide +kernel) (by decide +kernel) (by decide) (fun _ _ h => by rw [h.1]; rfl) (fun _ U U' hal hh h => ⟨h.1, h.2.1.mv hal hh, h.2.2.1, h.2.2.2.1.mv hal hh, h.2.2.2.2⟩) (fun r U U' V V' h1 hal h2 h => Says01.mv r U U' V V' h1 hal h2 h) ?_
  intro p e s m args below meth c s₁ X0 hexec hbytes hml hret hlk hnm hown hh0 W hP
  obtain ⟨rfl, hA, tA, hB, tB⟩ := hP
  have a31 := hA.2.2.2
  have b31 := hB.2.2.2
  have hA0 := hA.mv X0.warmed.alike hh0
  have hB0 := hB.mv X0.warmed.alike hh0
  have c1 : Steps p.tables e below (s₁.setTop (entryFrame m #[.ref a, .ref b] 3)) (s₁.setTop (mkF m 0 #[.val (.ref a), .val (.ref b), .unset] [])) := entry rfl
  have c2 : Steps p.tables e below (s₁.setTop (entryFrame m #[.ref a, .ref b] 3)) (s₁.setTop (mkF m 4 #[.val (.ref a), .val (.ref b), .unset] [.int (Int32.ofNat B.slots.size), .int (Int32.ofNat A.slots.size)])) := c1.trans (by
    refine XS.aloadN X0.here hexec rfl (hb hbytes d0) rfl rfl ?_
    refine X0.alen hexec hA0 rfl rfl (hb hbytes d1) ?_
    refine XS.aloadN X0.here hexec rfl (hb hbytes d2) rfl rfl ?_
    refine X0.alen hexec hB0 rfl rfl (hb hbytes d3) ?_
    exact Steps.refl _)
  by_cases hs : A.slots.size = B.slots.size
  · have c3 : Steps p.tables e below (s₁.setTop (entryFrame m #[.ref a, .ref b] 3)) (s₁.setTop (mkF m 9 #[.val (.ref a), .val (.ref b), .val (.int 0)] [])) := c2.trans (by
      refine XS.icmpNo X0.here hexec rfl (hb hbytes d4) rfl (ii_ne_f (by rw [hs])) ?_
      refine iconstV X0.here hexec rfl 0 (hb hbytes d7) (by decide) ?_
      refine XS.istoreN X0.here hexec rfl (hb hbytes d8) rfl rfl ?_
      exact Steps.refl _)
    have loop : ∀ (r i : Nat), i + r = A.slots.size → (∀ j, j < i → yv A j = yv B j) → Steps p.tables e below (s₁.setTop (entryFrame m #[.ref a, .ref b] 3)) (s₁.setTop (mkF m 9 #[.val (.ref a), .val (.ref b), .val (.int (Int32.ofNat i))] [])) → ∃ (pc : Nat) (Ls : Array Slot) (v : Int32), (pc = 25 ∨ pc = 33) ∧ ((v = 1 ∧ EqC A B) ∨ (v = 0 ∧ ¬ EqC A B)) ∧ Steps p.tables e below (s₁.setTop (entryFrame m #[.ref a, .ref b] 3)) (s₁.setTop (mkF m pc Ls [.int v])) := by
      intro r
      induction r with
      | zero =>
        intro i hi he cl
        exact ⟨33, _, 1, Or.inr rfl, Or.inl ⟨rfl, hs, fun j hj => he j (by omega)⟩, cl.trans (by
          refine XS.iloadN X0.here hexec rfl (hb hbytes d9) rfl ?_
          refine XS.aloadN X0.here hexec rfl (hb hbytes d10) rfl rfl ?_
          refine X0.alen hexec hA0 rfl rfl (hb hbytes d11) ?_
          refine XS.icmpYes X0.here hexec rfl (pc0 := 12) rfl (hb hbytes d12) rfl (ii_ge_t (nlt32 (by omega) (by omega))) (by decide) rfl ?_
          refine iconstV X0.here hexec rfl 1 (hb hbytes d32) (by decide) ?_
          exact Steps.refl _)⟩
      | succ r ih =>
        intro i hi he cl
        have c4 : Steps p.tables e below (s₁.setTop (entryFrame m #[.ref a, .ref b] 3)) (s₁.setTop (mkF m 21 #[.val (.ref a), .val (.ref b), .val (.int (Int32.ofNat i))] [.int (yv B i), .int (yv A i)])) := cl.trans (by
          refine XS.iloadN X0.here hexec rfl (hb hbytes d9) rfl ?_
          refine XS.aloadN X0.here hexec rfl (hb hbytes d10) rfl rfl ?_
          refine X0.alen hexec hA0 rfl rfl (hb hbytes d11) ?_
          refine XS.icmpNo X0.here hexec rfl (hb hbytes d12) rfl (ii_ge_f (lt32 (by omega) (by omega))) ?_
          refine XS.aloadN X0.here hexec rfl (hb hbytes d15) rfl rfl ?_
          refine XS.iloadN X0.here hexec rfl (hb hbytes d16) rfl ?_
          refine X0.aget hexec hA0 rfl (yv_get hA tA (i := i) (by omega)) rfl rfl (hb hbytes d17) ?_
          refine XS.aloadN X0.here hexec rfl (hb hbytes d18) rfl rfl ?_
          refine XS.iloadN X0.here hexec rfl (hb hbytes d19) rfl ?_
          refine X0.aget hexec hB0 rfl (yv_get hB tB (i := i) (by omega)) rfl rfl (hb hbytes d20) ?_
          exact Steps.refl _)
        by_cases hv : yv A i = yv B i
        · have c5 : Steps p.tables e below (s₁.setTop (entryFrame m #[.ref a, .ref b] 3)) (s₁.setTop (mkF m 9 #[.val (.ref a), .val (.ref b), .val (.int (Int32.ofNat i + 1))] [])) := c4.trans (by
            refine XS.icmpYes X0.here hexec rfl (pc0 := 21) rfl (hb hbytes d21) rfl (ii_eq_t hv) (by decide) rfl ?_
            refine iincV X0.here hexec rfl 1 (hb hbytes d26) (by decide) rfl rfl ?_
            refine XS.goto X0.here hexec rfl (pc0 := 29) rfl (hb hbytes d29) (by decide) rfl ?_
            exact Steps.refl _)
          rw [succ32] at c5
          exact ih (i + 1) (by omega) (fun j hj => by
            by_cases e : j = i
            · rw [e]; exact hv
            · exact he j (by omega)) c5
        · exact ⟨25, _, 0, Or.inl rfl, Or.inr ⟨rfl, fun q => hv (q.2 i (by omega))⟩, c4.trans (by
            refine XS.icmpNo X0.here hexec rfl (hb hbytes d21) rfl (ii_eq_f hv) ?_
            refine iconstV X0.here hexec rfl 0 (hb hbytes d24) (by decide) ?_
            exact Steps.refl _)⟩
    obtain ⟨pc, Ls, v, hpc, hv, cz⟩ := loop A.slots.size 0 (by omega) (fun j hj => absurd hj (Nat.not_lt_zero j)) c3
    have nv : narrow .boolean (.int v) = .int v := by rcases hv with ⟨rfl, -⟩ | ⟨rfl, -⟩ <;> rfl
    rcases hpc with rfl | rfl
    · exact ⟨s₁, some (.int v), _, _, _, X0, rfl, rfl, rfl, (fun h => by cases h), ⟨v, rfl, hh0, hv⟩, fun fs hl => cz.trans (X0.ireturnOut hexec hret nv (Or.inr (Or.inl rfl)) (hb hbytes d25) hl)⟩
    · exact ⟨s₁, some (.int v), _, _, _, X0, rfl, rfl, rfl, (fun h => by cases h), ⟨v, rfl, hh0, hv⟩, fun fs hl => cz.trans (X0.ireturnOut hexec hret nv (Or.inr (Or.inl rfl)) (hb hbytes d33) hl)⟩
  · have c3 : Steps p.tables e below (s₁.setTop (entryFrame m #[.ref a, .ref b] 3)) (s₁.setTop (mkF m 35 #[.val (.ref a), .val (.ref b), .unset] [.int 0])) := c2.trans (by
      refine XS.icmpYes X0.here hexec rfl (pc0 := 4) rfl (hb hbytes d4) rfl (ii_ne_t (ne32 a31 b31 hs)) (by decide) rfl ?_
      refine iconstV X0.here hexec rfl 0 (hb hbytes d34) (by decide) ?_
      exact Steps.refl _)
    exact ⟨s₁, some (.int 0), _, _, _, X0, rfl, rfl, rfl, (fun h => by cases h), ⟨0, rfl, hh0, Or.inr ⟨rfl, fun q => hs q.1⟩⟩, fun fs hl => c3.trans (X0.ireturnOut hexec hret rfl (Or.inr (Or.inl rfl)) (hb hbytes d35) hl)⟩
end LEq
theorem Cod.ty {cd : Int32} {n : Nat} {f : Nat → Int32} {V : Cell} (h : Cod cd n f V) : Typed .byte V := fun i v hv => by
  have hi : i < V.slots.size := (Array.getElem?_eq_some_iff.mp hv).1
  rcases h with ⟨-, k1, k2⟩ | ⟨-, k1, k2, -⟩
  · rw [(k2 i (by omega)).1] at hv; cases hv; exact fits_lo8 _
  · rcases Nat.mod_two_eq_zero_or_one i with e | e
    · obtain ⟨j, rfl⟩ : ∃ j, i = 2 * j := ⟨i / 2, by omega⟩
      rw [(k2 j (by omega)).1] at hv; cases hv; exact fits_lo8 _
    · obtain ⟨j, rfl⟩ : ∃ j, i = 2 * j + 1 := ⟨i / 2, by omega⟩
      rw [(k2 j (by omega)).2] at hv; cases hv; exact fits_lo8 _
/-- the same text -/
def SameT (n : Nat) (f : Nat → Int32) (k : Nat) (g : Nat → Int32) : Prop := n = k ∧ ∀ j, j < n → f j = g j
theorem lo8_inj {x y : Int32} (h0 : ¬ x < 0) (h1 : ¬ 255 < x) (k0 : ¬ y < 0) (k1 : ¬ 255 < y) (h : lo8 x = lo8 y) : x = y := by
  rw [← lo8_mask h0 h1, ← lo8_mask k0 k1, h]
/-- arrays coded by one coder are equal just where the texts are -/
theorem Cod.eqv {cd : Int32} {n k : Nat} {f g : Nat → Int32} {V V' : Cell} (h : Cod cd n f V) (h' : Cod cd k g V') (hf : ∀ j, j < n → ¬ f j < 0 ∧ ¬ 65535 < f j) (hg : ∀ j, j < k → ¬ g j < 0 ∧ ¬ 65535 < g j) : EqC V V' ↔ SameT n f k g := by
  have yvv : ∀ {W : Cell} {i : Nat} {x : Int32}, W.slots[i]? = some (.int x) → yv W i = x := fun q => by unfold yv; rw [q]
  rcases h with ⟨rfl, k1, k2⟩ | ⟨rfl, k1, k2, -⟩
  · rcases h' with ⟨-, m1, m2⟩ | ⟨e, -⟩
    · constructor
      · rintro ⟨e1, e2⟩
        refine ⟨by omega, fun j hj => ?_⟩
        have q := e2 j (by omega)
        rw [yvv (k2 j hj).1, yvv (m2 j (by omega)).1] at q
        exact lo8_inj (hf j hj).1 (k2 j hj).2 (hg j (by omega)).1 (m2 j (by omega)).2 q
      · rintro ⟨rfl, e2⟩
        refine ⟨by omega, fun j hj => ?_⟩
        rw [yvv (k2 j (by omega)).1, yvv (m2 j (by omega)).1, e2 j (by omega)]
    · exact absurd e (by decide)
  · rcases h' with ⟨e, -⟩ | ⟨-, m1, m2, -⟩
    · exact absurd e (by decide)
    · constructor
      · rintro ⟨e1, e2⟩
        refine ⟨by omega, fun j hj => ?_⟩
        have q1 := e2 (2 * j) (by omega)
        have q2 := e2 (2 * j + 1) (by omega)
        rw [yvv (k2 j hj).1, yvv (m2 j (by omega)).1] at q1
        rw [yvv (k2 j hj).2, yvv (m2 j (by omega)).2] at q2
        rw [← pair_says (hf j hj).1 (hf j hj).2, ← pair_says (hg j (by omega)).1 (hg j (by omega)).2, q1, q2]
      · rintro ⟨rfl, e2⟩
        refine ⟨by omega, fun i hi => ?_⟩
        rcases Nat.mod_two_eq_zero_or_one i with e | e
        · obtain ⟨j, rfl⟩ : ∃ j, i = 2 * j := ⟨i / 2, by omega⟩
          rw [yvv (k2 j (by omega)).1, yvv (m2 j (by omega)).1, e2 j (by omega)]
        · obtain ⟨j, rfl⟩ : ∃ j, i = 2 * j + 1 := ⟨i / 2, by omega⟩
          rw [yvv (k2 j (by omega)).2, yvv (m2 j (by omega)).2, e2 j (by omega)]
/-- two codings differ: so do the texts -/
theorem Cod.dif {cd cd' : Int32} {n k : Nat} {f g : Nat → Int32} {V V' : Cell} (h : Cod cd n f V) (h' : Cod cd' k g V') (hne : ¬ cd = cd') : ¬ SameT n f k g := by
  rintro ⟨rfl, e⟩
  rcases h with ⟨rfl, -, k2⟩ | ⟨rfl, -, -, j, hj, hw⟩
  · rcases h' with ⟨rfl, -⟩ | ⟨-, -, -, j, hj, hw⟩
    · exact hne rfl
    · exact (k2 j hj).2 (by rw [e j hj]; exact hw)
  · rcases h' with ⟨-, -, m2⟩ | ⟨rfl, -⟩
    · exact (m2 j hj).2 (by rw [← e j hj]; exact hw)
    · exact hne rfl
/-- an object of exactly C is an instance of C -/
theorem cinst {p : Program} {l : Launch} {e : Env} {R : Room} {s : State} {m : MethodId} {args : Array Value} {below : List Frame} {meth : Method} {c : Code} {T : State} {locs : List Loc} {cells slots : Nat} (X : Stand p l e R s m args below meth c T locs cells slots) (hexec : p.tables.exec = Jvm.exec) {own C : String} {index : Nat} (hown : s.vm.findClass own = some m.cls) (hlink : (Cond.classLink own index C).before args s = true) {a : Addr} (hE : Exact C a T)
    {g : JFrame} (hg : g.method = m) {rest : List Value} (hstack : g.stack = .ref a :: rest) (hdg : decode c.code g.pc = .ok (.instanceof index, 3)) :
    ∃ T', Stand p l e R s m args below meth c T' locs cells slots ∧ T'.heap = T.heap ∧ ∀ target, Steps p.tables e below (T'.setTop { g with pc := g.pc + 3, stack := .int 1 :: rest }) target → Steps p.tables e below (T.setTop g) target := by
  obtain ⟨cB, h1, D, h2, h3, h4⟩ := hE
  have h1' : s.vm.findClass C = some cB := by rw [← X.warmed.alike.findClass]; exact h1
  obtain ⟨vm', X', st⟩ := X.instanceofYes hexec hown hlink h2 h4 h1' (by rw [h3]; exact Jvm.Free.SB.assignable_self _ _) hg hstack hdg
  exact ⟨_, X', rfl, st⟩
theorem cself {p : Program} {l : Launch} {e : Env} {R : Room} {s : State} {m : MethodId} {args : Array Value} {below : List Frame} {meth : Method} {c : Code} {T : State} {locs : List Loc} {cells slots : Nat} (X : Stand p l e R s m args below meth c T locs cells slots) (hexec : p.tables.exec = Jvm.exec) {own C : String} {index : Nat} (hown : s.vm.findClass own = some m.cls) (hlink : (Cond.classLink own index C).before args s = true) {a : Addr} (hE : Exact C a T)
    {g : JFrame} (hg : g.method = m) {rest : List Value} (hstack : g.stack = .ref a :: rest) (hdg : decode c.code g.pc = .ok (.checkcast index, 3)) :
    ∃ T', Stand p l e R s m args below meth c T' locs cells slots ∧ T'.heap = T.heap ∧ ∀ target, Steps p.tables e below (T'.setTop { g with pc := g.pc + 3, stack := .ref a :: rest }) target → Steps p.tables e below (T.setTop g) target := by
  obtain ⟨cB, h1, D, h2, h3, h4⟩ := hE
  have h1' : s.vm.findClass C = some cB := by rw [← X.warmed.alike.findClass]; exact h1
  obtain ⟨vm', X', st⟩ := X.checkcastYes hexec hown hlink h2 h4 h1' (by rw [h3]; exact Jvm.Free.SB.assignable_self _ _) hg hstack hdg
  exact ⟨_, X', rfl, fun t h => st t (by rw [← hstack] at h; exact h)⟩
namespace SEq
def yN : MethodName := ⟨"java/lang/String", "equals", "(Ljava/lang/Object;)Z"⟩
abbrev yB : ByteArray := jdk_42_method_66_code
theorem d0 : decode yB 0 = .ok (.aload_n 0, 1) := by decide +kernel
theorem d1 : decode yB 1 = .ok (.aload_n 1, 1) := by decide +kernel
theorem d2 : decode yB 2 = .ok (.if_acmp (.ne) 5, 3) := by decide +kernel
theorem d5 : decode yB 5 = .ok (.iconst 1, 1) := by decide +kernel
theorem d6 : decode yB 6 = .ok (.ireturn, 1) := by decide +kernel
theorem d7 : decode yB 7 = .ok (.aload_n 1, 1) := by decide +kernel
theorem d8 : decode yB 8 = .ok (.instanceof 10, 3) := by decide +kernel
theorem d11 : decode yB 11 = .ok (.ifCond (.eq) 43, 3) := by decide +kernel
theorem d14 : decode yB 14 = .ok (.aload_n 1, 1) := by decide +kernel
theorem d15 : decode yB 15 = .ok (.checkcast 10, 3) := by decide +kernel
theorem d18 : decode yB 18 = .ok (.astore_n 2, 1) := by decide +kernel
theorem d19 : decode yB 19 = .ok (.getstatic 38, 3) := by decide +kernel
theorem d22 : decode yB 22 = .ok (.ifCond (.eq) 14, 3) := by decide +kernel
theorem d25 : decode yB 25 = .ok (.aload_n 0, 1) := by decide +kernel
theorem d26 : decode yB 26 = .ok (.getfield 15, 3) := by decide +kernel
theorem d29 : decode yB 29 = .ok (.aload_n 2, 1) := by decide +kernel
theorem d30 : decode yB 30 = .ok (.getfield 15, 3) := by decide +kernel
theorem d33 : decode yB 33 = .ok (.if_icmp (.ne) 21, 3) := by decide +kernel
theorem d36 : decode yB 36 = .ok (.aload_n 0, 1) := by decide +kernel
theorem d37 : decode yB 37 = .ok (.getfield 9, 3) := by decide +kernel
theorem d40 : decode yB 40 = .ok (.aload_n 2, 1) := by decide +kernel
theorem d41 : decode yB 41 = .ok (.getfield 9, 3) := by decide +kernel
theorem d44 : decode yB 44 = .ok (.invokestatic 541, 3) := by decide +kernel
theorem d47 : decode yB 47 = .ok (.ifCond (.eq) 7, 3) := by decide +kernel
theorem d50 : decode yB 50 = .ok (.iconst 1, 1) := by decide +kernel
theorem d51 : decode yB 51 = .ok (.goto 4, 3) := by decide +kernel
theorem d54 : decode yB 54 = .ok (.iconst 0, 1) := by decide +kernel
theorem d55 : decode yB 55 = .ok (.ireturn, 1) := by decide +kernel
def site : List Cond := [.classLink "java/lang/String" 10 "java/lang/String", .fieldLink "java/lang/String" 38 "java/lang/String" "COMPACT_STRINGS" "Z", .fieldLink "java/lang/String" 15 "java/lang/String" "coder" "B", .fieldLink "java/lang/String" 9 "java/lang/String" "value" "[B", LEq.tab] ++ staticW "java/lang/String" 541 LEq.yN
def tab : Cond := tabOf yN yB 3 (some .boolean) site
def P (x t : Addr) (V : Cell) (cd : Int32) (n : Nat) (f : Nat → Int32) (y t' : Addr) (V' : Cell) (cd' : Int32) (k : Nat) (g : Nat → Int32) (z : Int32) (args : Array Value) (s : State) : Prop := args = #[.ref x, .ref y] ∧ Txt x t V cd n f s ∧ Txt y t' V' cd' k g s ∧ StaticIs s "java/lang/String" "COMPACT_STRINGS" "Z" (.int z) ∧ ¬ z = 0
/-- equals(Object) of two Strings: whether the texts are the same -/
theorem law (l : Launch) (x t : Addr) (V : Cell) (cd : Int32) (n : Nat) (f : Nat → Int32) (y t' : Addr) (V' : Cell) (cd' : Int32) (k : Nat) (g : Nat → Int32) (z : Int32) : Law l yN 2 1 1 14 yB 3 (some .boolean) site (P x t V cd n f y t' V' cd' k g z) (Says01 (SameT n f k g)) [] 0 0 := by
  refine Law.of_walk (plainFor_of_name (by decide +kernel)) (by decide +kernel) (by decide +kernel) (by decide) (fun _ _ h => by rw [h.1]; rfl) (fun _ U U' hal hh h => ⟨h.1, h.2.1.mv hal hh, h.2.2.1.mv hal hh, h.2.2.2.1.there hal hh, h.2.2.2.2⟩) (fun r U U' V V' h1 hal h2 h => Says01.mv r U U' V V' h1 hal h2 h) ?_
  intro p e s m args below meth c s₁ X0 hexec hbytes hml hret hlk hnm hown hh0 W hP
  obtain ⟨rfl, hx, hy, s1, hz⟩ := hP
  have c1 : Steps p.tables e below (s₁.setTop (entryFrame m #[.ref x, .ref y] 3)) (s₁.setTop (mkF m 2 #[.val (.ref x), .val (.ref y), .unset] [.ref y, .ref x])) := Steps.trans (entry rfl) (by
    show Steps p.tables e below (s₁.setTop (mkF m 0 #[.val (.ref x), .val (.ref y), .unset] [])) _
    refine XS.aloadN X0.here hexec rfl (hb hbytes d0) rfl rfl ?_
    refine XS.aloadN X0.here hexec rfl (hb hbytes d1) rfl rfl ?_
    exact Steps.refl _)
  by_cases hxy : x = y
  · have c2 : Steps p.tables e below (s₁.setTop (entryFrame m #[.ref x, .ref y] 3)) (s₁.setTop (mkF m 6 #[.val (.ref x), .val (.ref y), .unset] [.int 1])) := c1.trans (by
      refine acmpNo X0.here hexec rfl (hb hbytes d2) rfl rfl rfl (by simp [acmp, hxy]) ?_
      refine iconstV X0.here hexec rfl 1 (hb hbytes d5) (by decide) ?_
      exact Steps.refl _)
    subst hxy
    have ec : cd = cd' := by
      obtain ⟨D, fd, a1, a2, a3⟩ := hx.2.2.1
      obtain ⟨D', fd', b1, b2, b3⟩ := hy.2.2.1
      cases a1.symm.trans b1
      obtain ⟨q1, q2, q3, q4⟩ := a2.1
      obtain ⟨r1, r2, r3, r4⟩ := b2.1
      cases q4.symm.trans r4
      cases a3.symm.trans b3; rfl
    have et : t = t' := by
      obtain ⟨D, fd, a1, a2, a3⟩ := hx.2.1
      obtain ⟨D', fd', b1, b2, b3⟩ := hy.2.1
      cases a1.symm.trans b1
      obtain ⟨q1, q2, q3, q4⟩ := a2.1
      obtain ⟨r1, r2, r3, r4⟩ := b2.1
      cases q4.symm.trans r4
      cases a3.symm.trans b3; rfl
    subst ec et
    have ev : V = V' := by cases hx.2.2.2.1.1.symm.trans hy.2.2.2.1.1; rfl
    subst ev
    have hs : SameT n f k g := (Cod.eqv hx.2.2.2.2.1 hy.2.2.2.2.1 hx.2.2.2.2.2 hy.2.2.2.2.2).mp ⟨rfl, fun _ _ => rfl⟩
    exact ⟨s₁, some (.int 1), _, _, _, X0, rfl, rfl, rfl, (fun h => by cases h), ⟨1, rfl, hh0, Or.inl ⟨rfl, hs⟩⟩, fun fs hl => c2.trans (X0.ireturnOut hexec hret rfl (Or.inr (Or.inl rfl)) (hb hbytes d6) hl)⟩
  · have c2 : Steps p.tables e below (s₁.setTop (entryFrame m #[.ref x, .ref y] 3)) (s₁.setTop (mkF m 8 #[.val (.ref x), .val (.ref y), .unset] [.ref y])) := c1.trans (by
      refine acmpYes X0.here hexec rfl (pc0 := 2) rfl (hb hbytes d2) rfl rfl rfl (by simp [acmp, hxy]) (by decide) rfl ?_
      refine XS.aloadN X0.here hexec rfl (hb hbytes d7) rfl rfl ?_
      exact Steps.refl _)
    obtain ⟨T3, X3, q3, st3⟩ := cinst X0 hexec hown (wk W (.classLink "java/lang/String" 10 "java/lang/String")) (hy.mv X0.warmed.alike hh0).1 (g := (mkF m 8 #[.val (.ref x), .val (.ref y), .unset] [.ref y])) rfl (rest := []) rfl (hb hbytes d8)
    have hh3 := q3.trans hh0
    have c4 : Steps p.tables e below (s₁.setTop (entryFrame m #[.ref x, .ref y] 3)) (T3.setTop (mkF m 15 #[.val (.ref x), .val (.ref y), .unset] [.ref y])) := (c2.trans (st3 _ (Steps.refl _))).trans (by
      refine XS.ifNo X3.here hexec rfl (hb hbytes d11) rfl (i0_eq_f (by decide)) ?_
      refine XS.aloadN X3.here hexec rfl (hb hbytes d14) rfl rfl ?_
      exact Steps.refl _)
    obtain ⟨T5, X5, q5, st5⟩ := cself X3 hexec hown (wk W (.classLink "java/lang/String" 10 "java/lang/String")) (hy.mv X3.warmed.alike hh3).1 (g := (mkF m 15 #[.val (.ref x), .val (.ref y), .unset] [.ref y])) rfl (rest := []) rfl (hb hbytes d15)
    have hh5 := q5.trans hh3
    have c6 : Steps p.tables e below (s₁.setTop (entryFrame m #[.ref x, .ref y] 3)) (T5.setTop (mkF m 19 #[.val (.ref x), .val (.ref y), .val (.ref y)] [])) := (c4.trans (st5 _ (Steps.refl _))).trans (by
      refine XS.astoreN X5.here hexec rfl (hb hbytes d18) rfl rfl rfl ?_
      exact Steps.refl _)
    obtain ⟨T7, X7, q7, st7⟩ := X5.sget hexec hown (wk W (.fieldLink "java/lang/String" 38 "java/lang/String" "COMPACT_STRINGS" "Z")) s1 (fun _ _ h => by rw [hh5]; exact h) (g := (mkF m 19 #[.val (.ref x), .val (.ref y), .val (.ref y)] [])) rfl (hb hbytes d19)
    have hh7 := q7.trans hh5
    have c8 : Steps p.tables e below (s₁.setTop (entryFrame m #[.ref x, .ref y] 3)) (T7.setTop (mkF m 26 #[.val (.ref x), .val (.ref y), .val (.ref y)] [.ref x])) := (c6.trans (st7 _ (Steps.refl _))).trans (by
      refine XS.ifNo X7.here hexec rfl (hb hbytes d22) rfl (i0_eq_f hz) ?_
      refine XS.aloadN X7.here hexec rfl (hb hbytes d25) rfl rfl ?_
      exact Steps.refl _)
    obtain ⟨T9, X9, q9, st9⟩ := X7.hget hexec hown (wk W (.fieldLink "java/lang/String" 15 "java/lang/String" "coder" "B")) (hx.mv X7.warmed.alike hh7).2.2.1 (g := (mkF m 26 #[.val (.ref x), .val (.ref y), .val (.ref y)] [.ref x])) rfl (rest := []) rfl (hb hbytes d26)
    have hh9 := q9.trans hh7
    have c10 : Steps p.tables e below (s₁.setTop (entryFrame m #[.ref x, .ref y] 3)) (T9.setTop (mkF m 30 #[.val (.ref x), .val (.ref y), .val (.ref y)] [.ref y, .int cd])) := (c8.trans (st9 _ (Steps.refl _))).trans (by
      refine XS.aloadN X9.here hexec rfl (hb hbytes d29) rfl rfl ?_
      exact Steps.refl _)
    obtain ⟨T11, X11, q11, st11⟩ := X9.hget hexec hown (wk W (.fieldLink "java/lang/String" 15 "java/lang/String" "coder" "B")) (hy.mv X9.warmed.alike hh9).2.2.1 (g := (mkF m 30 #[.val (.ref x), .val (.ref y), .val (.ref y)] [.ref y, .int cd])) rfl (rest := [.int cd]) rfl (hb hbytes d30)
    have hh11 := q11.trans hh9
    have c12 : Steps p.tables e below (s₁.setTop (entryFrame m #[.ref x, .ref y] 3)) (T11.setTop (mkF m 33 #[.val (.ref x), .val (.ref y), .val (.ref y)] [.int cd', .int cd])) := c10.trans (st11 _ (Steps.refl _))
    by_cases hcd : cd = cd'
    · subst hcd
      have c13 : Steps p.tables e below (s₁.setTop (entryFrame m #[.ref x, .ref y] 3)) (T11.setTop (mkF m 37 #[.val (.ref x), .val (.ref y), .val (.ref y)] [.ref x])) := c12.trans (by
        refine XS.icmpNo X11.here hexec rfl (hb hbytes d33) rfl (ii_ne_f rfl) ?_
        refine XS.aloadN X11.here hexec rfl (hb hbytes d36) rfl rfl ?_
        exact Steps.refl _)
      obtain ⟨T14, X14, q14, st14⟩ := X11.hget hexec hown (wk W (.fieldLink "java/lang/String" 9 "java/lang/String" "value" "[B")) (hx.mv X11.warmed.alike hh11).2.1 (g := (mkF m 37 #[.val (.ref x), .val (.ref y), .val (.ref y)] [.ref x])) rfl (rest := []) rfl (hb hbytes d37)
      have hh14 := q14.trans hh11
      have c15 : Steps p.tables e below (s₁.setTop (entryFrame m #[.ref x, .ref y] 3)) (T14.setTop (mkF m 41 #[.val (.ref x), .val (.ref y), .val (.ref y)] [.ref y, .ref t])) := (c13.trans (st14 _ (Steps.refl _))).trans (by
        refine XS.aloadN X14.here hexec rfl (hb hbytes d40) rfl rfl ?_
        exact Steps.refl _)
      obtain ⟨T16, X16, q16, st16⟩ := X14.hget hexec hown (wk W (.fieldLink "java/lang/String" 9 "java/lang/String" "value" "[B")) (hy.mv X14.warmed.alike hh14).2.1 (g := (mkF m 41 #[.val (.ref x), .val (.ref y), .val (.ref y)] [.ref y, .ref t])) rfl (rest := [.ref t]) rfl (hb hbytes d41)
      have hh16 := q16.trans hh14
      have c17 : Steps p.tables e below (s₁.setTop (entryFrame m #[.ref x, .ref y] 3)) (T16.setTop (mkF m 44 #[.val (.ref x), .val (.ref y), .val (.ref y)] [.ref t', .ref t])) := c15.trans (st16 _ (Steps.refl _))
      obtain ⟨v18, T18, X18, E18, g18⟩ := X16.callS hexec (LEq.law l t V t' V') hown (wks W (staticW "java/lang/String" 541 LEq.yN)) (wk W LEq.tab) (W := 0) (Nat.le_of_ble_eq_true rfl) (Nat.le_of_ble_eq_true rfl) (Nat.le_refl _) (Nat.le_refl _) (g := (mkF m 44 #[.val (.ref x), .val (.ref y), .val (.ref y)] [.ref t', .ref t])) rfl (by rw [hml]; rfl) c17 (argsL := [.ref t, .ref t']) (rest := []) rfl rfl (by show 2 * 0 + 0 ≤ _; decide) (hb hbytes d44) (⟨rfl, hx.2.2.2.1.mv X16.warmed.alike hh16, hx.2.2.2.2.1.ty, hy.2.2.2.1.mv X16.warmed.alike hh16, hy.2.2.2.2.1.ty⟩)
      obtain ⟨v, rfl, q18, hv⟩ := E18
      have iff := Cod.eqv hx.2.2.2.2.1 hy.2.2.2.2.1 hx.2.2.2.2.2 hy.2.2.2.2.2
      rcases hv with ⟨rfl, he⟩ | ⟨rfl, he⟩
      · have c19 : Steps p.tables e below (s₁.setTop (entryFrame m #[.ref x, .ref y] 3)) (T18.setTop (mkF m 55 #[.val (.ref x), .val (.ref y), .val (.ref y)] [.int 1])) := Steps.trans g18 (by
          refine XS.ifNo X18.here hexec rfl (hb hbytes d47) rfl (i0_eq_f (by decide)) ?_
          refine iconstV X18.here hexec rfl 1 (hb hbytes d50) (by decide) ?_
          refine XS.goto X18.here hexec rfl (pc0 := 51) rfl (hb hbytes d51) (by decide) rfl ?_
          exact Steps.refl _)
        exact ⟨T18, some (.int 1), _, _, _, X18, rfl, rfl, rfl, (fun h => by cases h), ⟨1, rfl, q18.trans hh16, Or.inl ⟨rfl, iff.mp he⟩⟩, fun fs hl => c19.trans (X18.ireturnOut hexec hret rfl (Or.inr (Or.inl rfl)) (hb hbytes d55) hl)⟩
      · have c19 : Steps p.tables e below (s₁.setTop (entryFrame m #[.ref x, .ref y] 3)) (T18.setTop (mkF m 55 #[.val (.ref x), .val (.ref y), .val (.ref y)] [.int 0])) := Steps.trans g18 (by
          refine XS.ifYes X18.here hexec rfl (pc0 := 47) rfl (hb hbytes d47) rfl (i0_eq_t rfl) (by decide) rfl ?_
          refine iconstV X18.here hexec rfl 0 (hb hbytes d54) (by decide) ?_
          exact Steps.refl _)
        exact ⟨T18, some (.int 0), _, _, _, X18, rfl, rfl, rfl, (fun h => by cases h), ⟨0, rfl, q18.trans hh16, Or.inr ⟨rfl, fun q => he (iff.mpr q)⟩⟩, fun fs hl => c19.trans (X18.ireturnOut hexec hret rfl (Or.inr (Or.inl rfl)) (hb hbytes d55) hl)⟩
    · have c13 : Steps p.tables e below (s₁.setTop (entryFrame m #[.ref x, .ref y] 3)) (T11.setTop (mkF m 55 #[.val (.ref x), .val (.ref y), .val (.ref y)] [.int 0])) := c12.trans (by
        refine XS.icmpYes X11.here hexec rfl (pc0 := 33) rfl (hb hbytes d33) rfl (ii_ne_t hcd) (by decide) rfl ?_
        refine iconstV X11.here hexec rfl 0 (hb hbytes d54) (by decide) ?_
        exact Steps.refl _)
      exact ⟨T11, some (.int 0), _, _, _, X11, rfl, rfl, rfl, (fun h => by cases h), ⟨0, rfl, hh11, Or.inr ⟨rfl, Cod.dif hx.2.2.2.2.1 hy.2.2.2.2.1 hcd⟩⟩, fun fs hl => c13.trans (X11.ireturnOut hexec hret rfl (Or.inr (Or.inl rfl)) (hb hbytes d55) hl)⟩
theorem pays {l : Launch} {R : Room} {p : Program} {e : Env} {below : List Frame} {s : State} {sargs : Array Value} {len W : Nat} (x t : Addr) (V : Cell) (cd : Int32) (n : Nat) (f : Nat → Int32) (y t' : Addr) (V' : Cell) (cd' : Int32) (k : Nat) (g : Nat → Int32) (z : Int32) (htab : tab.before sargs s = true) (hfr : 2 ≤ R.frames) (hlo : W + 28 ≤ R.locals) :
    Back l R p e below s sargs yN len W (fun A₁ a₁ => A₁.cells + 0 ≤ R.cells ∧ A₁.slots + 0 ≤ R.slots ∧ P x t V cd n f y t' V' cd' k g z a₁ A₁.U) (fun A₁ _ v₁ B₁ => Says01 (SameT n f k g) v₁ A₁.U B₁.U ∧ B₁.locs = A₁.locs ++ [] ∧ B₁.cells = A₁.cells + 0 ∧ B₁.slots = A₁.slots + 0) :=
  (law l x t V cd n f y t' V' cd' k g z).pays htab hfr (by omega)
end SEq
end StrChars
namespace StrChars.Road
open Jvm Sem ClassFile Op Lib Jvm.Stand Jvm.Free Jvm.Free.XT
open Jvm.Lib.Cold (StaticIs)
/-- the words of String.equals(Object) -/
abbrev wordsEq : List Jvm.Cond := [.code SEq.yN SEq.yB 3 (some .boolean), .initialized ST, .classLink ST 10 ST, .fieldLink ST 38 ST "COMPACT_STRINGS" "Z", .fieldLink ST 15 ST "coder" "B", .fieldLink ST 9 ST "value" "[B", .methodLink ST 541 LEq.yN, .static LEq.yN, .code LEq.yN LEq.yB 3 (some .boolean), .initialized "java/lang/StringLatin1"]
theorem tabEq_of {a : Array Value} {s : State} (h : ∀ w ∈ wordsEq, w.before a s = true) : SEq.tab.before a s = true := by
  have hl : LEq.tab.before a s = true := unparts (wk h (.code LEq.yN LEq.yB 3 (some .boolean))) (wks h (.initialized LEq.yN.cls :: LEq.site))
  have q := consq hl h
  exact unparts (wk q (.code SEq.yN SEq.yB 3 (some .boolean))) (wks q (.initialized SEq.yN.cls :: SEq.site))
theorem movedEq {Z s : State} {a0 args : Array Value} (hZ : Z.Warmed39 s.vm) (hw : ∀ d ∈ wordsEq, d.before a0 Z = true) : ∀ d ∈ wordsEq, d.before args s = true := fun d hd => by
  have t : ∀ d ∈ wordsEq, (d.onTables && d.keepsFace) = true := by decide +kernel
  exact RoadKit.mv hZ (hw d hd) (t d hd)
/-- the road's facts of a String, as the laws ask it -/
theorem txt_of {Z U : State} {a0 : Array Value} {kI : Nat} (wi : (Jvm.Cond.instantiable ST kI).before a0 Z = true) (al : Z.vm.Alike U.vm) {x t : Addr} {kb : ClassId} {cs : List Int32} {cd N2 : Int32} {vs : List Value} (E : RoadKit.Exa Z U.heap x ST) (V : RoadKit.Fld Z U.heap x ST "value" "[B" (.ref t)) (C : RoadKit.Fld Z U.heap x ST "coder" "B" (.int cd)) (K : RoadKit.Arv Z U.heap t kb .byte N2 vs (.int 0)) (hc : CodA cs cd N2 vs) (hb : ∀ c ∈ cs, ¬ c < 0 ∧ ¬ (65535 : Int32) < c) (l2 : cs.length ≤ 4000) :
    ∃ A, Txt x t A cd cs.length (fun j => cs.getD j 0) U := by
  obtain ⟨A, K1, K2, K3, K4, K5, K6⟩ := K
  have hcod := hc.cod (by omega) K3 K5
  obtain ⟨D, fV, fC, hB, F1, F2, g1, g2, -, -⟩ := strObj wi al E V C
  exact ⟨A, ⟨_, hB.2.2.1, D, hB.1, rfl, by cases q : D.vm <;> first | rfl | exact absurd q (hB.2.1.2 _)⟩, Has.of hB F1 g1, Has.of hB F2 g2, ⟨K1.1, State.isArrayOf_alike al K1.2.1, K1.2.2, by rcases hcod with ⟨-, q, -⟩ | ⟨-, q, -⟩ <;> omega⟩, hcod, fun j hj => by
    have e : cs.getD j 0 = cs[j] := by simp [List.getD_eq_getElem?_getD, hj]
    show ¬ cs.getD j 0 < 0 ∧ ¬ 65535 < cs.getD j 0
    rw [e]; exact hb _ (List.getElem_mem _)⟩
theorem same_list (cs ds : List Int32) : SameT cs.length (fun j => cs.getD j 0) ds.length (fun j => ds.getD j 0) ↔ cs = ds := by
  constructor
  · rintro ⟨e, q⟩
    refine List.ext_getElem e fun j h1 h2 => ?_
    have := q j h1
    simpa [List.getD_eq_getElem?_getD, h1, h2] using this
  · rintro rfl
    exact ⟨rfl, fun _ _ => rfl⟩
/-- **equals(Object) OF TWO SUCH STRINGS**: 1 just where the chars are the same -/
theorem eqW {p : Program} {l : Launch} {e : Env} {R : Room} {s : State} {args : Array Value} {below : List Frame} {len W : Nat} {Z : State} {a0 : Array Value} {h : Heap} (hZ : Z.Warmed39 s.vm) (hw : ∀ d ∈ wordsEq, d.before a0 Z = true) {kI : Nat} (wi : (Jvm.Cond.instantiable ST kI).before a0 Z = true)
    {x t : Addr} {kb : ClassId} {cs : List Int32} {cd N2 : Int32} {vs : List Value} (E : RoadKit.Exa Z h x ST) (V : RoadKit.Fld Z h x ST "value" "[B" (.ref t)) (C : RoadKit.Fld Z h x ST "coder" "B" (.int cd)) (K : RoadKit.Arv Z h t kb .byte N2 vs (.int 0)) (hc : CodA cs cd N2 vs) (hb : ∀ c ∈ cs, ¬ c < 0 ∧ ¬ (65535 : Int32) < c) (l2 : cs.length ≤ 4000)
    {y t' : Addr} {kb' : ClassId} {ds : List Int32} {cd' N2' : Int32} {vs' : List Value} (E' : RoadKit.Exa Z h y ST) (V' : RoadKit.Fld Z h y ST "value" "[B" (.ref t')) (C' : RoadKit.Fld Z h y ST "coder" "B" (.int cd')) (K' : RoadKit.Arv Z h t' kb' .byte N2' vs' (.int 0)) (hc' : CodA ds cd' N2' vs') (hb' : ∀ c ∈ ds, ¬ c < 0 ∧ ¬ (65535 : Int32) < c) (l2' : ds.length ≤ 4000)
    {z : Int32} (S : RoadKit.Sta Z h ST "COMPACT_STRINGS" "Z" (.int z)) (hz : ¬ z = 0) (hfr : 2 ≤ R.frames) (hlo : W + 28 ≤ R.locals) :
    Back l R p e below s args (⟨"java/lang/String", "equals", "(Ljava/lang/Object;)Z"⟩ : MethodName) len W (fun P a => a = #[.ref x, .ref y] ∧ P.U.heap = h ∧ P.cells + 0 ≤ R.cells ∧ P.slots + 0 ≤ R.slots)
      (fun P _ v B => ∃ L, (((v = some (.int 1) ∧ cs = ds) ∨ (v = some (.int 0) ∧ ¬ cs = ds)) ∧ L = [] ∧ B.U.heap = h) ∧ B.locs = P.locs ++ L ∧ B.cells = P.cells + 0 ∧ B.slots = P.slots + 0) := by
  intro m meth c P g ig mk a X hg hsize hdg hW hn hp'
  obtain ⟨rfl, rfl, r1, r2⟩ := hp'
  have al : Z.vm.Alike P.U.vm := hZ.alike.trans X.warmed.alike
  obtain ⟨A, hx⟩ := txt_of wi al E V C K hc hb l2
  obtain ⟨A', hy⟩ := txt_of wi al E' V' C' K' hc' hb' l2'
  obtain ⟨v, B, X', ⟨⟨w, hv, hh, hq⟩, hl, hk, hs⟩, st⟩ := SEq.pays x t A cd cs.length (fun j => cs.getD j 0) y t' A' cd' ds.length (fun j => ds.getD j 0) z (tabEq_of (movedEq hZ hw)) hfr hlo m meth c P g ig mk _ X hg hsize hdg hW hn ⟨r1, r2, rfl, hx, hy, sta_is al S, hz⟩
  refine ⟨v, B, X', ⟨[], ⟨?_, rfl, hh⟩, hl, hk, hs⟩, st⟩
  rcases hq with ⟨rfl, q⟩ | ⟨rfl, q⟩
  · exact Or.inl ⟨hv, (same_list cs ds).mp q⟩
  · exact Or.inr ⟨hv, fun e => q ((same_list cs ds).mpr e)⟩
end StrChars.Road
namespace StrChars
open Jvm Sem ClassFile Op Lib Jvm.Stand Jvm.Free.XT Jvm.Free.ALB Jvm.Free.JM Jvm.Free
open Jvm.Lib.Cold (StaticIs)
namespace ChN
def yN : MethodName := ⟨"java/lang/String", "charAt", "(I)C"⟩
abbrev yB : ByteArray := jdk_42_method_56_code
theorem d0 : decode yB 0 = .ok (.aload_n 0, 1) := by decide +kernel
theorem d1 : decode yB 1 = .ok (.invokevirtual 492, 3) := by decide +kernel
theorem d4 : decode yB 4 = .ok (.ifCond (.eq) 12, 3) := by decide +kernel
theorem d7 : decode yB 7 = .ok (.aload_n 0, 1) := by decide +kernel
theorem d8 : decode yB 8 = .ok (.getfield 9, 3) := by decide +kernel
theorem d11 : decode yB 11 = .ok (.iload_n 1, 1) := by decide +kernel
theorem d12 : decode yB 12 = .ok (.invokestatic 495, 3) := by decide +kernel
theorem d15 : decode yB 15 = .ok (.ireturn, 1) := by decide +kernel
def site : List Cond := [.fieldLink "java/lang/String" 9 "java/lang/String" "value" "[B", IsL.tab, LChA.tab] ++ virtW "java/lang/String" 492 "java/lang/String" IsL.yN IsL.yN ++ staticW "java/lang/String" 495 LChA.yN
def tab : Cond := tabOf yN yB 2 (some .char) site
def P (x t : Addr) (V : Cell) (n : Nat) (f : Nat → Int32) (z : Int32) (fm : Value) (i : Nat) (args : Array Value) (s : State) : Prop := args = #[.ref x, .int (Int32.ofNat i)] ∧ Txt x t V 0 n f s ∧ i < n ∧ StaticIs s "java/lang/String" "COMPACT_STRINGS" "Z" (.int z) ∧ ¬ z = 0 ∧ StaticIs s "jdk/internal/util/Preconditions" "SIOOBE_FORMATTER" "Ljava/util/function/BiFunction;" fm ∧ fm.isRef = true
def E (f : Nat → Int32) (i : Nat) (r : Option Value) (s u : State) : Prop := XT.PureE (some (.int (f i))) r s u
/-- charAt(i) of a Latin-1 String of n chars, i < n: f i -/
theorem law (l : Launch) (x t : Addr) (V : Cell) (n : Nat) (f : Nat → Int32) (z : Int32) (fm : Value) (i : Nat) : Law l yN 2 1 3 40 yB 2 (some .char) site (P x t V n f z fm i) (E f i) [] 0 0 := by
  refine Law.of_walk (plainFor_of_name (by decide +kernel)) (by decide +kernel) (by decide +kernel) (by decide) (fun _ _ h => by rw [h.1]; rfl) (fun _ U U' hal hh h => ⟨h.1, h.2.1.mv hal hh, h.2.2.1, h.2.2.2.1.there hal hh, h.2.2.2.2.1, h.2.2.2.2.2.1.there hal hh, h.2.2.2.2.2.2⟩) (fun r U U' V V' h1 hal h2 h => XT.PureE.mv r U U' V V' h1 hal h2 h) ?_
  intro p e s m args below meth c s₁ X0 hexec hbytes hml hret hlk hnm hown hh0 W hP
  obtain ⟨rfl, hx, hi, s1, hz, s3, rf⟩ := hP
  have v31 := hx.2.2.2.1.2.2.2
  have hr := hx.2.2.2.2.2 i hi
  have hx0 := hx.mv X0.warmed.alike hh0
  have c1 : Steps p.tables e below (s₁.setTop (entryFrame m #[.ref x, .int (Int32.ofNat i)] 2)) (s₁.setTop (mkF m 1 #[.val (.ref x), .val (.int (Int32.ofNat i))] [.ref x])) := Steps.trans (entry rfl) (by
    show Steps p.tables e below (s₁.setTop (mkF m 0 #[.val (.ref x), .val (.int (Int32.ofNat i))] [])) _
    refine XS.aloadN X0.here hexec rfl (hb hbytes d0) rfl rfl ?_
    exact Steps.refl _)
  obtain ⟨v2, T2, X2, E2, g2⟩ := X0.callV hexec (IsL.law l x 0 z) hown (wks W (virtW "java/lang/String" 492 "java/lang/String" IsL.yN IsL.yN)) rfl (by decide) (wk W IsL.tab) (W := 0) (Nat.le_of_ble_eq_true rfl) (Nat.le_of_ble_eq_true rfl) (Nat.le_refl _) (Nat.le_refl _) (hx0.1.fc X0.warmed.alike) hx0.1.is (g := (mkF m 1 #[.val (.ref x), .val (.int (Int32.ofNat i))] [.ref x])) rfl (by rw [hml]; rfl) c1 (argsL := []) (rest := []) rfl rfl (by show 2 * 0 + 0 ≤ _; decide) (hb hbytes d1) (⟨rfl, hx0.2.2.1, hx.2.2.2.2.1.cd, s1.there X0.warmed.alike hh0, hz⟩)
  obtain ⟨rfl, q2⟩ := E2
  have hh2 := q2.trans hh0
  have hx2 := hx.mv X2.warmed.alike hh2
  obtain ⟨-, k1, k2⟩ | ⟨k0, -⟩ := hx.2.2.2.2.1
  · have c3 : Steps p.tables e below (s₁.setTop (entryFrame m #[.ref x, .int (Int32.ofNat i)] 2)) (T2.setTop (mkF m 8 #[.val (.ref x), .val (.int (Int32.ofNat i))] [.ref x])) := Steps.trans g2 (by
      refine XS.ifNo X2.here hexec rfl (hb hbytes d4) rfl (i0_eq_f (by decide)) ?_
      refine XS.aloadN X2.here hexec rfl (hb hbytes d7) rfl rfl ?_
      exact Steps.refl _)
    obtain ⟨T4, X4, q4, st4⟩ := X2.hget hexec hown (wk W (.fieldLink "java/lang/String" 9 "java/lang/String" "value" "[B")) hx2.2.1 (g := (mkF m 8 #[.val (.ref x), .val (.int (Int32.ofNat i))] [.ref x])) rfl (rest := []) rfl (hb hbytes d8)
    have hh4 := q4.trans hh2
    have c5 : Steps p.tables e below (s₁.setTop (entryFrame m #[.ref x, .int (Int32.ofNat i)] 2)) (T4.setTop (mkF m 12 #[.val (.ref x), .val (.int (Int32.ofNat i))] [.int (Int32.ofNat i), .ref t])) := (c3.trans (st4 _ (Steps.refl _))).trans (by
      refine XS.iloadN X4.here hexec rfl (hb hbytes d11) rfl ?_
      exact Steps.refl _)
    obtain ⟨v6, T6, X6, E6, g6⟩ := X4.callS hexec (LChA.law l t V i (lo8 (f i)) fm) hown (wks W (staticW "java/lang/String" 495 LChA.yN)) (wk W LChA.tab) (W := 0) (Nat.le_of_ble_eq_true rfl) (Nat.le_of_ble_eq_true rfl) (Nat.le_refl _) (Nat.le_refl _) (g := (mkF m 12 #[.val (.ref x), .val (.int (Int32.ofNat i))] [.int (Int32.ofNat i), .ref t])) rfl (by rw [hml]; rfl) c5 (argsL := [.ref t, .int (Int32.ofNat i)]) (rest := []) rfl rfl (by show 2 * 0 + 0 ≤ _; decide) (hb hbytes d12) (⟨rfl, hx.2.2.2.1.mv X4.warmed.alike hh4, (k2 i hi).1, s3.there X4.warmed.alike hh4, rf⟩)
    obtain ⟨rfl, q6⟩ := E6
    rw [chr8_lo8 hr.1 (k2 i hi).2] at g6
    exact ⟨T6, some (.int (f i)), _, _, _, X6, rfl, rfl, rfl, (fun h => by cases h), ⟨rfl, q6.trans hh4⟩, fun fs hl => Steps.trans g6 (X6.ireturnOut hexec hret (narrow_ch hr.1 hr.2) (Or.inr (Or.inr (Or.inr (Or.inl rfl)))) (hb hbytes d15) hl)⟩
  · exact absurd k0 (by decide)
theorem pays {l : Launch} {R : Room} {p : Program} {e : Env} {below : List Frame} {s : State} {sargs : Array Value} {len W : Nat} (x t : Addr) (V : Cell) (n : Nat) (f : Nat → Int32) (z : Int32) (fm : Value) (i : Nat) (htab : tab.before sargs s = true) (hfr : 4 ≤ R.frames) (hlo : W + 53 ≤ R.locals) :
    Back l R p e below s sargs yN len W (fun A₁ a₁ => A₁.cells + 0 ≤ R.cells ∧ A₁.slots + 0 ≤ R.slots ∧ P x t V n f z fm i a₁ A₁.U) (fun A₁ _ v₁ B₁ => E f i v₁ A₁.U B₁.U ∧ B₁.locs = A₁.locs ++ [] ∧ B₁.cells = A₁.cells + 0 ∧ B₁.slots = A₁.slots + 0) :=
  (law l x t V n f z fm i).pays htab hfr (by omega)
end ChN
end StrChars
namespace StrChars.Road
open Jvm Sem ClassFile Op Lib Jvm.Stand Jvm.Free Jvm.Free.XT
open Jvm.Lib.Cold (StaticIs)
/-- the words of String.charAt(int), the Latin-1 road alone -/
abbrev wordsChN : List Jvm.Cond := [.code ChN.yN ChN.yB 2 (some .char), .initialized ST, .fieldLink ST 9 ST "value" "[B", .fieldLink ST 38 ST "COMPACT_STRINGS" "Z", .fieldLink ST 15 ST "coder" "B", .code IsL.yN IsL.yB 1 (some .boolean), .methodLink ST 492 IsL.yN, .declares IsL.yN, .selects ST IsL.yN IsL.yN, .instanceMethod IsL.yN,
  .methodLink ST 495 LChA.yN, .static LChA.yN, .code LChA.yN LChA.yB 2 (some .char), .initialized "java/lang/StringLatin1", .methodLink "java/lang/StringLatin1" 9 JO.Str_checkIndex.yN, .static JO.Str_checkIndex.yN, .code JO.Str_checkIndex.yN JO.Str_checkIndex.yB 2 none,
  .fieldLink ST 1053 "jdk/internal/util/Preconditions" "SIOOBE_FORMATTER" "Ljava/util/function/BiFunction;", .methodLink ST 1059 JC.PreCheck.yN, .static JC.PreCheck.yN, .code JC.PreCheck.yN JC.PreCheck.yB 3 (some .int), .initialized "jdk/internal/util/Preconditions"]
theorem tabChN_of {a : Array Value} {s : State} (h : ∀ w ∈ wordsChN, w.before a s = true) : ChN.tab.before a s = true := by
  have hp : JC.PreCheck.tab.before a s = true := unparts (wk h (.code JC.PreCheck.yN JC.PreCheck.yB 3 (some .int))) (wks h (.initialized JC.PreCheck.yN.cls :: JC.PreCheck.site))
  have qk := consq hp h
  have hk : JO.Str_checkIndex.tab.before a s = true := unparts (wk qk (.code JO.Str_checkIndex.yN JO.Str_checkIndex.yB 2 none)) (wks qk (.initialized JO.Str_checkIndex.yN.cls :: JO.Str_checkIndex.site))
  have ql := consq hk h
  have hl : LChA.tab.before a s = true := unparts (wk ql (.code LChA.yN LChA.yB 2 (some .char))) (wks ql (.initialized LChA.yN.cls :: LChA.site))
  have hi : IsL.tab.before a s = true := unparts (wk h (.code IsL.yN IsL.yB 1 (some .boolean))) (wks h (.initialized IsL.yN.cls :: IsL.site))
  have q := consq hi (consq hl h)
  exact unparts (wk q (.code ChN.yN ChN.yB 2 (some .char))) (wks q (.initialized ChN.yN.cls :: ChN.site))
theorem movedChN {Z s : State} {a0 args : Array Value} (hZ : Z.Warmed39 s.vm) (hw : ∀ d ∈ wordsChN, d.before a0 Z = true) : ∀ d ∈ wordsChN, d.before args s = true := fun d hd => by
  have t : ∀ d ∈ wordsChN, (d.onTables && d.keepsFace) = true := by decide +kernel
  exact RoadKit.mv hZ (hw d hd) (t d hd)
/-- **charAt(i) OF A LATIN-1 STRING**, i < n: the char -/
theorem chN {p : Program} {l : Launch} {e : Env} {R : Room} {s : State} {args : Array Value} {below : List Frame} {len W : Nat} {Z : State} {a0 : Array Value} {h : Heap} (hZ : Z.Warmed39 s.vm) (hw : ∀ d ∈ wordsChN, d.before a0 Z = true) {kI : Nat} (wi : (Jvm.Cond.instantiable ST kI).before a0 Z = true)
    {x t : Addr} {kb : ClassId} {cs : List Int32} {N2 z : Int32} {vs : List Value} {fm : Value} {i : Nat} {j : Int32} (E : RoadKit.Exa Z h x ST) (V : RoadKit.Fld Z h x ST "value" "[B" (.ref t)) (C : RoadKit.Fld Z h x ST "coder" "B" (.int 0)) (K : RoadKit.Arv Z h t kb .byte N2 vs (.int 0)) (hc : CodA cs 0 N2 vs) (hb : ∀ c ∈ cs, ¬ c < 0 ∧ ¬ (65535 : Int32) < c)
    (S : RoadKit.Sta Z h ST "COMPACT_STRINGS" "Z" (.int z)) (hz : ¬ z = 0) (F : RoadKit.Sta Z h "jdk/internal/util/Preconditions" "SIOOBE_FORMATTER" "Ljava/util/function/BiFunction;" fm) (rf : fm.isRef = true) (l2 : cs.length ≤ 4000) (hi : i < cs.length) (hj : j = Int32.ofNat i) (hfr : 4 ≤ R.frames) (hlo : W + 53 ≤ R.locals) :
    Back l R p e below s args (⟨"java/lang/String", "charAt", "(I)C"⟩ : MethodName) len W (fun P a => a = #[.ref x, .int j] ∧ P.U.heap = h ∧ P.cells + 0 ≤ R.cells ∧ P.slots + 0 ≤ R.slots)
      (fun P _ v B => ∃ L, (v = some (.int (cs.getD i 0)) ∧ L = [] ∧ B.U.heap = h) ∧ B.locs = P.locs ++ L ∧ B.cells = P.cells + 0 ∧ B.slots = P.slots + 0) := by
  subst hj
  intro m meth c P g ig mk a X hg hsize hdg hW hn hp'
  obtain ⟨rfl, rfl, r1, r2⟩ := hp'
  have al : Z.vm.Alike P.U.vm := hZ.alike.trans X.warmed.alike
  obtain ⟨A, hx⟩ := txt_of wi al E V C K hc hb l2
  obtain ⟨v, B, X', ⟨⟨hv, hh⟩, hl, hk, hs⟩, st⟩ := ChN.pays x t A cs.length (fun j => cs.getD j 0) z fm i (tabChN_of (movedChN hZ hw)) hfr hlo m meth c P g ig mk _ X hg hsize hdg hW hn ⟨r1, r2, rfl, hx, hi, sta_is al S, hz, sta_is al F, rf⟩
  exact ⟨v, B, X', ⟨[], ⟨hv, rfl, hh⟩, hl, hk, hs⟩, st⟩
/-- what backV says of its String, as the contracts of this text ask it: cs's low bytes, coder 0 -/
theorem codOf {cs : List Int32} {n : Nat} (hn : cs.length = n) (hb : ∀ c ∈ cs, ¬ 255 < c) : CodA cs 0 (Int32.ofNat n) ((cs.map lo8).map Value.int) := Or.inl ⟨rfl, by rw [hn], by simp [List.map_map, Function.comp_def], hb⟩
end StrChars.Road
end Jvm.Pilot.@@N@@
namespace Jvm.Pilot.@@N@@
open Jvm Jvm.ClassFile Sem Op Lib Jvm.Free Jvm.Stand Jvm.LawKit Jvm.RoadKit Bundle Jvm.Pilot.@@N@@.Jvm.D
/-! 0. own tools: the goal that a walk carries; an array's store and load by what is known of it -/
def Go (tb : Tables) (e : Env) (below : List Frame) (P : State → Prop) (s : State) : Prop := ∃ s₂, Steps tb e below s s₂ ∧ P s₂
section OwnTools
variable {tb : Tables} {e : Env} {below : List Frame} {P : State → Prop} {A B : State}
theorem Go.st (h : ∀ t, Steps tb e below A t → Steps tb e below B t) (g : Go tb e below P A) : Go tb e below P B := by
  obtain ⟨s₂, h1, h2⟩ := g
  exact ⟨s₂, h _ h1, h2⟩
theorem Go.tr (h : Steps tb e below B A) (g : Go tb e below P A) : Go tb e below P B := by
  obtain ⟨s₂, h1, h2⟩ := g
  exact ⟨s₂, h.trans h1, h2⟩
theorem Go.start {Q : Outcome → State → Prop} (h : ∀ P : State → Prop, (∀ s₂ o, s₂.status = .running → Ended s₂ below o → Q o s₂ → P s₂) → Go tb e below P A) : ∃ s₂ o, Steps tb e below A s₂ ∧ s₂.status = .running ∧ Ended s₂ below o ∧ Q o s₂ := by
  obtain ⟨s₂, h1, o, h2, h3, h4⟩ := h (fun s₂ => ∃ o, s₂.status = .running ∧ Ended s₂ below o ∧ Q o s₂) (fun s₂ o a b c => ⟨o, a, b, c⟩)
  exact ⟨s₂, o, h1, h2, h3, h4⟩
abbrev lR (a : Addr) : Slot := .val (.ref a)
abbrev lI (x : Int32) : Slot := .val (.int x)
abbrev lJ (x : Int64) : Slot := .val (.long x)
abbrev lD (x : UInt64) : Slot := .val (.double x)
abbrev lN : Slot := .val .null
abbrev lU : Slot := .unset
abbrev lS : Slot := .second
theorem ow {a0 : Array Value} {Z : State} (hw : ∀ d ∈ tables_1, d.before a0 Z = true) (i : Nat) {d : Jvm.Cond} (h : tables_1[i]? = some d) : d.before a0 Z = true := hw d (List.mem_of_getElem? h)
theorem own_oldsz {Z : State} {n0 : Nat} {h : Heap} (X : Old Z n0 h) : n0 ≤ h.size := by have := X.1; have := X.2.1; omega
theorem own_cat {v : Value} (h : v.isRef = true) : v.category = 1 := by cases v <;> first | rfl | simp [Value.isRef] at h
theorem own_refcase {v : Value} (h : v.isRef = true) : v = .null ∨ ∃ a, v = .ref a := by cases v <;> first | (left; rfl) | (right; exact ⟨_, rfl⟩) | (simp [Value.isRef] at h)
theorem own_nar_ref {v : Value} {t : FieldType} (h : v.isRef = true) : narrow t v = v := by cases v <;> first | (simp [Value.isRef] at h; done) | (cases t <;> rfl)
theorem own_fits_ref {v : Value} {t : FieldType} (h : v.isRef = true) (ht : t.isReference = true := by rfl) : fits t v = true := by cases v <;> first | (simp [Value.isRef] at h; done) | (cases t <;> first | rfl | (simp [FieldType.isReference] at ht))
theorem own_eq_ref {args : Array Value} {first s : State} {o : Option Outcome} {idx : List Nat} {a b : Term} {w : Addr} (hb : b.eval args first o idx s = some (.ref w)) (h : (Cond.eq a b).value args first o s idx = some true) : a.eval args first o idx s = some (.ref w) := by
  cases ha : a.eval args first o idx s with
  | none => simp [Cond.value, ha] at h
  | some x => cases x <;> simp [Cond.value, ha, hb] at h ⊢; exact h
theorem own_len_start {args : Array Value} {s : State} {t : Term} {n : Int32} {a : Addr} {cl : Cell} (h : (Term.length t).eval args s none [] s = some (.int n)) (ht : t.eval args s none [] s = some (.ref a)) (hc : s.heap[a]? = some cl) : cl.slots.size < 2 ^ 31 ∧ cl.slots.size.toInt32 = n := by
  simp only [Term.eval, ht, Option.bind_eq_bind, Option.bind_some] at h
  cases hq : s.arrayAt? a with
  | none => simp [hq] at h
  | some c2 =>
    have e := (State.arrayAt?_spec hq).1
    cases hc.symm.trans e
    simp only [hq, Option.bind_some] at h
    split at h
    · rename_i hlt; exact ⟨hlt, by simpa using h⟩
    · cases h
theorem own_since (s : State) : s.Since s.vm 0 := (State.WarmedH.refl s).since 0
theorem own_and255 (x : Int32) : ¬ (x &&& 255) < 0 ∧ ¬ (255 : Int32) < (x &&& 255) := by
  have h := c_and x 255 (by decide)
  have e0 : (0 : Int32).toInt = 0 := rfl
  have e1 : (255 : Int32).toInt = 255 := rfl
  rw [Int32.lt_iff_toInt_lt, Int32.lt_iff_toInt_lt]
  omega
theorem own_nar_i2c (x : Int32) : nar .char (x.toUInt32.toUInt16.toUInt32.toInt32) = x.toUInt32.toUInt16.toUInt32.toInt32 := by
  show (x.toUInt32.toUInt16.toUInt32.toInt32).toUInt32.toUInt16.toUInt32.toInt32 = _
  rw [UInt32.toUInt32_toInt32, UInt16.toUInt16_toUInt32]
theorem own_nar_i2b (x : Int32) : nar .byte (x.toInt8.toInt32) = x.toInt8.toInt32 := by
  show (x.toInt8.toInt32).toInt8.toInt32 = _
  simp
theorem own_narZ {x : Int32} (h : x = 0 ∨ x = 1) : nar .boolean x = x := by rcases h with rfl | rfl <;> rfl
theorem own_up (cs : List Int32) (h : ∀ c ∈ cs, ¬ c < 0 ∧ ¬ (255 : Int32) < c) : ∀ c ∈ cs, ¬ c < 0 ∧ ¬ (65535 : Int32) < c := fun c hc => ⟨(h c hc).1, fun q => (h c hc).2 (by rw [Int32.lt_iff_toInt_lt] at q ⊢; have e1 : (65535 : Int32).toInt = 65535 := rfl; have e2 : (255 : Int32).toInt = 255 := rfl; omega)⟩
theorem own_narC {x : Int32} (h : ¬ x < 0 ∧ ¬ (255 : Int32) < x) : nar .char x = x := by
  have e0 : (0 : Int32).toInt = 0 := rfl
  have e1 : (255 : Int32).toInt = 255 := rfl
  have a := h.1
  have b := h.2
  rw [Int32.lt_iff_toInt_lt, e0] at a
  rw [Int32.lt_iff_toInt_lt, e1] at b
  have c := c_i2c x
  exact Int32.toInt_inj.mp (show x.toUInt32.toUInt16.toUInt32.toInt32.toInt = x.toInt by omega)
theorem own_int {r : Int32} {k : Int} (h : r.toInt = k) {q : Int32} (hq : q.toInt = k) : r = q := Int32.toInt_inj.mp (by rw [h, hq])
end OwnTools
section OwnArrays
variable {p : Program} {l : Launch} {e : Env} {R : Room} {s : State} {m : MethodId} {args : Array Value} {below : List Frame} {meth : Method} {c : Code} {T : State} {locs : List Loc} {cells slots : Nat} {Z : State} {h : Heap} {a : Addr} {k : ClassId} {z : Int32} {vs : List Value} {dv : Value}
theorem own_stC (X : Stand p l e R s m args below meth c T locs cells slots) (hx : p.tables.exec = Jvm.exec) (hZ : Z.Warmed39 s.vm) (eT : T.heap = h) (V : Arv Z h a k .char z vs dv) {j x : Int32} {i : Nat} (hj : ¬ j < 0 ∧ j < z) (hji : j.toNatClampNeg = i) (hi : i < vs.length) {g : JFrame} (hg : g.method = m) {rest : List Value} (hs : g.stack = .int x :: .int j :: .ref a :: rest) (hd : decode c.code g.pc = .ok (.castore, 1)) :
    ∃ T' h', Stand p l e R s m args below meth c T' (locs ++ [⟨a, j.toNatClampNeg⟩]) cells slots ∧ T'.heap = h' ∧ Wr h h' a j.toNatClampNeg (.int (nar .char x)) ∧ Arv Z h' a k .char z (vs.set i (.int (nar .char x))) dv ∧ ∀ target, Steps p.tables e below (T'.setTop { g with pc := g.pc + 1, stack := rest }) target → Steps p.tables e below (T.setTop g) target := by
  obtain ⟨cl, A, q1, S, q3, H, G⟩ := V
  obtain ⟨T', h', X', e', W, st⟩ := stC X hx hZ eT A (inb_of S hj) hg hs hd
  exact ⟨T', h', X', e', W, Arv.set A q1 S q3 H G (fits_nar_char x) W i hji hi, st⟩
theorem own_stI (X : Stand p l e R s m args below meth c T locs cells slots) (hx : p.tables.exec = Jvm.exec) (hZ : Z.Warmed39 s.vm) (eT : T.heap = h) (V : Arv Z h a k .int z vs dv) {j x : Int32} {i : Nat} (hj : ¬ j < 0 ∧ j < z) (hji : j.toNatClampNeg = i) (hi : i < vs.length) {g : JFrame} (hg : g.method = m) {rest : List Value} (hs : g.stack = .int x :: .int j :: .ref a :: rest) (hd : decode c.code g.pc = .ok (.iastore, 1)) :
    ∃ T' h', Stand p l e R s m args below meth c T' (locs ++ [⟨a, j.toNatClampNeg⟩]) cells slots ∧ T'.heap = h' ∧ Wr h h' a j.toNatClampNeg (.int x) ∧ Arv Z h' a k .int z (vs.set i (.int x)) dv ∧ ∀ target, Steps p.tables e below (T'.setTop { g with pc := g.pc + 1, stack := rest }) target → Steps p.tables e below (T.setTop g) target := by
  obtain ⟨cl, A, q1, S, q3, H, G⟩ := V
  obtain ⟨T', h', X', e', W, st⟩ := stI X hx hZ eT A (inb_of S hj) hg hs hd
  exact ⟨T', h', X', e', W, Arv.set A q1 S q3 H G rfl W i hji hi, st⟩
theorem own_stZ (X : Stand p l e R s m args below meth c T locs cells slots) (hx : p.tables.exec = Jvm.exec) (hZ : Z.Warmed39 s.vm) (eT : T.heap = h) (V : Arv Z h a k .boolean z vs dv) {j x : Int32} {i : Nat} (hj : ¬ j < 0 ∧ j < z) (hji : j.toNatClampNeg = i) (hi : i < vs.length) {g : JFrame} (hg : g.method = m) {rest : List Value} (hs : g.stack = .int x :: .int j :: .ref a :: rest) (hd : decode c.code g.pc = .ok (.bastore, 1)) :
    ∃ T' h', Stand p l e R s m args below meth c T' (locs ++ [⟨a, j.toNatClampNeg⟩]) cells slots ∧ T'.heap = h' ∧ Wr h h' a j.toNatClampNeg (.int (nar .boolean x)) ∧ Arv Z h' a k .boolean z (vs.set i (.int (nar .boolean x))) dv ∧ ∀ target, Steps p.tables e below (T'.setTop { g with pc := g.pc + 1, stack := rest }) target → Steps p.tables e below (T.setTop g) target := by
  obtain ⟨cl, A, q1, S, q3, H, G⟩ := V
  obtain ⟨T', h', X', e', W, st⟩ := stZ X hx hZ eT A (inb_of S hj) hg hs hd
  exact ⟨T', h', X', e', W, Arv.set A q1 S q3 H G (fits_nar_bool x) W i hji hi, st⟩
theorem own_stB (X : Stand p l e R s m args below meth c T locs cells slots) (hx : p.tables.exec = Jvm.exec) (hZ : Z.Warmed39 s.vm) (eT : T.heap = h) (V : Arv Z h a k .byte z vs dv) {j x : Int32} {i : Nat} (hj : ¬ j < 0 ∧ j < z) (hji : j.toNatClampNeg = i) (hi : i < vs.length) {g : JFrame} (hg : g.method = m) {rest : List Value} (hs : g.stack = .int x :: .int j :: .ref a :: rest) (hd : decode c.code g.pc = .ok (.bastore, 1)) :
    ∃ T' h', Stand p l e R s m args below meth c T' (locs ++ [⟨a, j.toNatClampNeg⟩]) cells slots ∧ T'.heap = h' ∧ Wr h h' a j.toNatClampNeg (.int (nar .byte x)) ∧ Arv Z h' a k .byte z (vs.set i (.int (nar .byte x))) dv ∧ ∀ target, Steps p.tables e below (T'.setTop { g with pc := g.pc + 1, stack := rest }) target → Steps p.tables e below (T.setTop g) target := by
  obtain ⟨cl, A, q1, S, q3, H, G⟩ := V
  obtain ⟨T', h', X', e', W, st⟩ := stB X hx hZ eT A (inb_of S hj) hg hs hd
  exact ⟨T', h', X', e', W, Arv.set A q1 S q3 H G (fits_nar_byte x) W i hji hi, st⟩
theorem own_stD (X : Stand p l e R s m args below meth c T locs cells slots) (hx : p.tables.exec = Jvm.exec) (hZ : Z.Warmed39 s.vm) (eT : T.heap = h) (V : Arv Z h a k .double z vs dv) {j : Int32} {x : UInt64} {i : Nat} (hj : ¬ j < 0 ∧ j < z) (hji : j.toNatClampNeg = i) (hi : i < vs.length) {g : JFrame} (hg : g.method = m) {rest : List Value} (hs : g.stack = .double x :: .int j :: .ref a :: rest) (hd : decode c.code g.pc = .ok (.dastore, 1)) :
    ∃ T' h', Stand p l e R s m args below meth c T' (locs ++ [⟨a, j.toNatClampNeg⟩]) cells slots ∧ T'.heap = h' ∧ Wr h h' a j.toNatClampNeg (.double x) ∧ Arv Z h' a k .double z (vs.set i (.double x)) dv ∧ ∀ target, Steps p.tables e below (T'.setTop { g with pc := g.pc + 1, stack := rest }) target → Steps p.tables e below (T.setTop g) target := by
  obtain ⟨cl, A, q1, S, q3, H, G⟩ := V
  obtain ⟨T', h', X', e', W, st⟩ := stD X hx hZ eT A (inb_of S hj) hg hs hd
  exact ⟨T', h', X', e', W, Arv.set A q1 S q3 H G rfl W i hji hi, st⟩
theorem own_at {ty : FieldType} (V : Arv Z h a k ty z vs dv) {j : Int32} {i : Nat} {v : Value} (hj : ¬ j < 0 ∧ j < z) (hji : j.toNatClampNeg = i) (hv : vs.getD i dv = v) : ∃ cl : Cell, Arr Z h a cl ty ∧ ¬ (j < 0 ∨ cl.slots.size ≤ j.toNatClampNeg) ∧ cl.slots[j.toNatClampNeg]? = some v := by
  obtain ⟨cl, A, q1, S, q3, H, G⟩ := V
  exact ⟨cl, A, inb_of S hj, Has.at H (inb_of S hj) (by rw [hji]; exact hv)⟩
theorem own_ldI (X : Stand p l e R s m args below meth c T locs cells slots) (hx : p.tables.exec = Jvm.exec) (hZ : Z.Warmed39 s.vm) (eT : T.heap = h) (V : Arv Z h a k .int z vs dv) {j : Int32} {i : Nat} {v : Value} (hj : ¬ j < 0 ∧ j < z) (hji : j.toNatClampNeg = i) (hv : vs.getD i dv = v) {g : JFrame} (hg : g.method = m) {rest : List Value} (hs : g.stack = .int j :: .ref a :: rest) (hd : decode c.code g.pc = .ok (.iaload, 1)) (target : State) :
    Steps p.tables e below (T.setTop { g with pc := g.pc + 1, stack := v :: rest }) target → Steps p.tables e below (T.setTop g) target := by
  obtain ⟨cl, A, hin, hat⟩ := own_at V hj hji hv
  exact X.iaload hx (by rw [eT]; exact A.1) (State.isArrayOf_alike hZ.alike A.2.1) A.2.2 hin hat hg hs hd target
theorem own_ldC (X : Stand p l e R s m args below meth c T locs cells slots) (hx : p.tables.exec = Jvm.exec) (hZ : Z.Warmed39 s.vm) (eT : T.heap = h) (V : Arv Z h a k .char z vs dv) {j : Int32} {i : Nat} {v : Value} (hj : ¬ j < 0 ∧ j < z) (hji : j.toNatClampNeg = i) (hv : vs.getD i dv = v) {g : JFrame} (hg : g.method = m) {rest : List Value} (hs : g.stack = .int j :: .ref a :: rest) (hd : decode c.code g.pc = .ok (.caload, 1)) (target : State) :
    Steps p.tables e below (T.setTop { g with pc := g.pc + 1, stack := v :: rest }) target → Steps p.tables e below (T.setTop g) target := by
  obtain ⟨cl, A, hin, hat⟩ := own_at V hj hji hv
  exact X.caload hx (by rw [eT]; exact A.1) (State.isArrayOf_alike hZ.alike A.2.1) A.2.2 hin hat hg hs hd target
theorem own_ldZ (X : Stand p l e R s m args below meth c T locs cells slots) (hx : p.tables.exec = Jvm.exec) (hZ : Z.Warmed39 s.vm) (eT : T.heap = h) (V : Arv Z h a k .boolean z vs dv) {j : Int32} {i : Nat} {v : Value} (hj : ¬ j < 0 ∧ j < z) (hji : j.toNatClampNeg = i) (hv : vs.getD i dv = v) {g : JFrame} (hg : g.method = m) {rest : List Value} (hs : g.stack = .int j :: .ref a :: rest) (hd : decode c.code g.pc = .ok (.baload, 1)) (target : State) :
    Steps p.tables e below (T.setTop { g with pc := g.pc + 1, stack := v :: rest }) target → Steps p.tables e below (T.setTop g) target := by
  obtain ⟨cl, A, hin, hat⟩ := own_at V hj hji hv
  exact X.baloadBooleans hx (by rw [eT]; exact A.1) (State.isArrayOf_alike hZ.alike A.2.1) A.2.2 hin hat hg hs hd target
theorem own_ldB (X : Stand p l e R s m args below meth c T locs cells slots) (hx : p.tables.exec = Jvm.exec) (hZ : Z.Warmed39 s.vm) (eT : T.heap = h) (V : Arv Z h a k .byte z vs dv) {j : Int32} {i : Nat} {v : Value} (hj : ¬ j < 0 ∧ j < z) (hji : j.toNatClampNeg = i) (hv : vs.getD i dv = v) {g : JFrame} (hg : g.method = m) {rest : List Value} (hs : g.stack = .int j :: .ref a :: rest) (hd : decode c.code g.pc = .ok (.baload, 1)) (target : State) :
    Steps p.tables e below (T.setTop { g with pc := g.pc + 1, stack := v :: rest }) target → Steps p.tables e below (T.setTop g) target := by
  obtain ⟨cl, A, hin, hat⟩ := own_at V hj hji hv
  exact X.baloadBytes hx (by rw [eT]; exact A.1) (State.isArrayOf_alike hZ.alike A.2.1) A.2.2 hin hat hg hs hd target
theorem own_ldD (X : Stand p l e R s m args below meth c T locs cells slots) (hx : p.tables.exec = Jvm.exec) (hZ : Z.Warmed39 s.vm) (eT : T.heap = h) (V : Arv Z h a k .double z vs dv) {j : Int32} {i : Nat} {v : Value} (hj : ¬ j < 0 ∧ j < z) (hji : j.toNatClampNeg = i) (hv : vs.getD i dv = v) {g : JFrame} (hg : g.method = m) {rest : List Value} (hs : g.stack = .int j :: .ref a :: rest) (hd : decode c.code g.pc = .ok (.daload, 1)) (target : State) :
    Steps p.tables e below (T.setTop { g with pc := g.pc + 1, stack := v :: rest }) target → Steps p.tables e below (T.setTop g) target := by
  obtain ⟨cl, A, hin, hat⟩ := own_at V hj hji hv
  exact X.daload hx (by rw [eT]; exact A.1) (State.isArrayOf_alike hZ.alike A.2.1) A.2.2 hin hat hg hs hd target
theorem own_ldR {C : String} (X : Stand p l e R s m args below meth c T locs cells slots) (hx : p.tables.exec = Jvm.exec) (hZ : Z.Warmed39 s.vm) (eT : T.heap = h) (V : Arv Z h a k (.object C) z vs dv) {j : Int32} {i : Nat} {v : Value} (hj : ¬ j < 0 ∧ j < z) (hji : j.toNatClampNeg = i) (hv : vs.getD i dv = v) {g : JFrame} (hg : g.method = m) {rest : List Value} (hs : g.stack = .int j :: .ref a :: rest) (hd : decode c.code g.pc = .ok (.aaload, 1)) (target : State) :
    Steps p.tables e below (T.setTop { g with pc := g.pc + 1, stack := v :: rest }) target → Steps p.tables e below (T.setTop g) target := by
  obtain ⟨cl, A, hin, hat⟩ := own_at V hj hji hv
  exact X.aaload hx (by rw [eT]; exact A.1) (State.isArrayOf_alike hZ.alike A.2.1) rfl A.2.2 hin hat hg hs hd target
theorem own_len {ty : FieldType} (X : Stand p l e R s m args below meth c T locs cells slots) (hx : p.tables.exec = Jvm.exec) (hZ : Z.Warmed39 s.vm) (eT : T.heap = h) (V : Arv Z h a k ty z vs dv) {g : JFrame} (hg : g.method = m) {rest : List Value} (hs : g.stack = .ref a :: rest) (hd : decode c.code g.pc = .ok (.arraylength, 1)) (target : State) :
    Steps p.tables e below (T.setTop { g with pc := g.pc + 1, stack := .int z :: rest }) target → Steps p.tables e below (T.setTop g) target := by
  obtain ⟨cl, A, q1, S, q3, H, G⟩ := V
  have q := X.arraylength hx (by rw [eT]; exact A.1) (State.isArrayOf_alike hZ.alike A.2.1) hg hs hd target
  rw [len_of S q3] at q
  exact q
theorem own_getD_int (xs : List Int32) (i : Nat) : (xs.map Value.int).getD i (.int 0) = .int (xs.getD i 0) := by
  simp only [List.getD_eq_getElem?_getD, List.getElem?_map]
  cases xs[i]? <;> rfl
theorem own_arv_set {ty : FieldType} {xs : List Int32} {i : Nat} {v : Int32} (V : Arv Z h a k ty z ((xs.map Value.int).set i (.int v)) dv) : Arv Z h a k ty z ((xs.set i v).map Value.int) dv := by rw [List.map_set]; exact V
end OwnArrays

theorem own_strAtoms : ∀ a ∈ Bundle.stringAtoms, a ∈ tables_1 := by decide +kernel
theorem own_wNew : ∀ d ∈ StrChars.Road.words, d ∈ tables_1 := by decide +kernel
theorem own_wLen : ∀ d ∈ StrChars.Road.wordsLen, d ∈ tables_1 := by decide +kernel
theorem own_wEq : ∀ d ∈ StrChars.Road.wordsEq, d ∈ tables_1 := by decide +kernel
theorem own_wCh : ∀ d ∈ StrChars.Road.wordsChN, d ∈ tables_1 := by decide +kernel
theorem own_safe_null {Z : State} {EL : List (String × Nat)} {vm : Vm} {h : Heap} {x : Addr} (hal : Z.vm.Alike vm) (E : Exa Z h x "java/lang/String") (V : Fld Z h x "java/lang/String" "value" "[B" .null) : Safe Z EL vm h x := fun B => by
  obtain ⟨p, hp, u, a, hb, q, hqa, F, hy⟩ := B
  obtain ⟨cS, ⟨⟨s1, s2, s3, ⟨cv, kv, iv, s4, s4'⟩, s5, s6, s7, s8, s9, s10, srest⟩, hfS, hcS⟩, k1, hB, hbyt⟩ := F
  rcases hy with rfl | rfl
  · obtain ⟨cell, cf, k, i, f, h1, h2, h3, h4, h5, h6, h7⟩ := V
    have e1 : h[q.sa]? = some q.sC := s1
    cases h1.symm.trans e1
    obtain ⟨kv', z4⟩ := ff_back (U := Wst Z vm h) hal s4
    have z5 := h2.symm.trans z4
    simp only [Option.some.injEq, Prod.mk.injEq] at z5
    rw [z5.2.2.2, s8] at h7
    cases h7
  · obtain ⟨cell, k, h1, h2, h3, h4, h5⟩ := E
    have e1 : h[q.sd]? = some q.SA := s10
    cases h1.symm.trans e1
    have hB' : vm.findClass "[B" = some q.SA.cls := hB
    rw [hal.findClass] at hB'
    obtain ⟨ka, a1, a2⟩ := Vm.findClass_spec h2
    obtain ⟨kb, b1, b2⟩ := Vm.findClass_spec hB'
    cases a1.symm.trans b1
    exact absurd (a2.symm.trans b2) (by decide)
theorem own_arvN {Z : State} {h : Heap} {t : Addr} {k : ClassId} {cs : List Int32} {n : Nat} {vs : List Value} {dv : Value} (hn : cs.length = n) (A : Arv Z h t k .byte (Int32.ofNat n) vs dv) : Arv Z h t k .byte (Int32.ofNat cs.length) vs dv := by rw [hn]; exact A
theorem own_set_small {xs : List Int32} {i : Nat} {v : Int32} (h : ∀ c ∈ xs, ¬ c < 0 ∧ ¬ (255 : Int32) < c) (hv : ¬ v < 0 ∧ ¬ (255 : Int32) < v) : ∀ c ∈ xs.set i v, ¬ c < 0 ∧ ¬ (255 : Int32) < c := fun c hc => by
  rcases List.mem_or_eq_of_mem_set hc with q | q
  · exact h c q
  · rw [q]; exact hv
theorem own_set_eq {xs : List Int32} {i : Nat} {v : Int32} (hi : i < xs.length) : xs.set i v = xs ↔ v = xs.getD i 0 := by
  constructor
  · intro q
    have e := congrArg (fun l : List Int32 => l.getD i 0) q
    simp only [List.getD_eq_getElem?_getD, List.getElem?_set_self hi] at e
    simpa [List.getD_eq_getElem?_getD] using e
  · intro q
    apply List.ext_getElem?
    intro j
    rw [List.getElem?_set]
    split
    · rename_i e; subst e; rw [q, List.getD_eq_getElem?_getD, List.getElem?_eq_getElem hi]; simp [hi]
    · rfl
theorem own_natback {j : Int32} (h : ¬ j < 0) : j = Int32.ofNat j.toNatClampNeg := (back32 h).1.symm
theorem own_EW (Z : State) (a0 : Array Value) (hw : ∀ d ∈ tables_1, d.before a0 Z = true) : EW Z a0 consts_1 := (EW.cons (ow hw 0 rfl) (by decide) (EW.cons (ow hw 85 rfl) (by decide) (EW.cons (ow hw 120 rfl) (by decide) (EW.cons (ow hw 93 rfl) (by decide) (EW.cons (ow hw 119 rfl) (by decide) EW.nil)))))
theorem own_ef_rm_emp2 (m : MethodId) (x0 : Addr) (x1 : Addr) (x2 : Int32) (x3 : Int32) : entryFrame m #[(.ref x0), (.ref x1), (.int x2), (.int x3), .null] 6 = mkF m 0 #[.val (.ref x0), .val (.ref x1), .val (.int x2), .val (.int x3), .val .null, .unset] [] := by first | (simp [entryFrame, mkF, argsToLocals, Value.category]; done) | rfl
theorem own_pn0 : plainName "java/lang/String" = true := by first | (simp [plainName, overriddenIn]; done) | decide +kernel
theorem own_d_jdk_42_method_149_code_0 : decode jdk_42_method_149_code 0 = .ok (.aload_n 0, 1) := by decide +kernel
theorem own_d_jdk_42_method_149_code_1 : decode jdk_42_method_149_code 1 = .ok (.invokespecial 1, 3) := by decide +kernel
theorem own_d_jdk_42_method_149_code_4 : decode jdk_42_method_149_code 4 = .ok (.iload_n 3, 1) := by decide +kernel
theorem own_d_jdk_42_method_149_code_5 : decode jdk_42_method_149_code 5 = .ok (.ifCond .ne 22, 3) := by decide +kernel
theorem own_d_jdk_42_method_149_code_8 : decode jdk_42_method_149_code 8 = .ok (.aload_n 0, 1) := by decide +kernel
theorem own_d_jdk_42_method_149_code_9 : decode jdk_42_method_149_code 9 = .ok (.ldc 7, 2) := by decide +kernel
theorem own_d_jdk_42_method_149_code_11 : decode jdk_42_method_149_code 11 = .ok (.getfield 9, 3) := by decide +kernel
theorem own_d_jdk_42_method_149_code_14 : decode jdk_42_method_149_code 14 = .ok (.putfield 9, 3) := by decide +kernel
theorem own_d_jdk_42_method_149_code_17 : decode jdk_42_method_149_code 17 = .ok (.aload_n 0, 1) := by decide +kernel
theorem own_d_jdk_42_method_149_code_18 : decode jdk_42_method_149_code 18 = .ok (.ldc 7, 2) := by decide +kernel
theorem own_d_jdk_42_method_149_code_20 : decode jdk_42_method_149_code 20 = .ok (.getfield 15, 3) := by decide +kernel
theorem own_d_jdk_42_method_149_code_23 : decode jdk_42_method_149_code 23 = .ok (.putfield 15, 3) := by decide +kernel
theorem own_d_jdk_42_method_149_code_26 : decode jdk_42_method_149_code 26 = .ok (.return_, 1) := by decide +kernel
def Q_rm_emp2 (Z : State) (w_N : Addr) (w_K : Addr) (w_V : Addr) (k_V : ClassId) (w_NS : Addr) (w_NB : Addr) (k_NB : ClassId) (w_KS : Addr) (w_KB : Addr) (k_KB : ClassId) (w_OE : Addr) (g_CS : Int32) (g_SF : Value) (p0 : Addr) (p1 : Addr) (h0 : Heap) (n0 : Nat) (v : Option Value) (h : Heap) (L : List Loc) : Prop := ∃ (vb : Addr) (kb : ClassId), v = none ∧ Fr n0 L ∧ Keep h0 h [p0] ∧ Exa Z h p0 "java/lang/String" ∧ Fld Z h p0 "java/lang/String" "coder" "B" (.int (0 : Int32)) ∧ Fld Z h p0 "java/lang/String" "value" "[B" (.ref vb) ∧ Arv Z h vb kb .byte (0 : Int32) [] (.int (0 : Int32))
set_option maxRecDepth 65536 in
set_option maxHeartbeats 40000000 in
theorem rm_emp2 (l : Launch) (Z : State) (a0 : Array Value) (hw : ∀ d ∈ tables_1, d.before a0 Z = true) (ws : List Jvm.Cond) (w_N : Addr) (S_N : Sta Z Z.heap "com/example/vacuum/vacuum/model/PrunePolicy$Method" "NUMBER_OF_TAGS" "Lcom/example/vacuum/vacuum/model/PrunePolicy$Method;" (.ref w_N)) (X_N : Exa Z Z.heap w_N "com/example/vacuum/vacuum/model/PrunePolicy$Method") (w_K : Addr) (S_K : Sta Z Z.heap "com/example/vacuum/vacuum/model/PrunePolicy$Method" "CREATION_DATE" "Lcom/example/vacuum/vacuum/model/PrunePolicy$Method;" (.ref w_K)) (X_K : Exa Z Z.heap w_K "com/example/vacuum/vacuum/model/PrunePolicy$Method") (w_V : Addr) (k_V : ClassId) (S_V : Sta Z Z.heap "com/example/vacuum/vacuum/model/PrunePolicy$Method" "$VALUES" "[Lcom/example/vacuum/vacuum/model/PrunePolicy$Method;" (.ref w_V)) (X_V : Exa Z Z.heap w_V "[Lcom/example/vacuum/vacuum/model/PrunePolicy$Method;") (V_V : Arv Z Z.heap w_V k_V (.object "com/example/vacuum/vacuum/model/PrunePolicy$Method") (2 : Int32) [(.ref w_N), (.ref w_K)] .null) (w_NS : Addr) (F_NS : Fld Z Z.heap w_N "com/example/vacuum/vacuum/model/PrunePolicy$Method" "wireName" "Ljava/lang/String;" (.ref w_NS)) (X_NS : Exa Z Z.heap w_NS "java/lang/String") (I_NS_coder : Fld Z Z.heap w_NS "java/lang/String" "coder" "B" (.int (0 : Int32))) (w_NB : Addr) (k_NB : ClassId) (F_NB : Fld Z Z.heap w_NS "java/lang/String" "value" "[B" (.ref w_NB)) (V_NB : Arv Z Z.heap w_NB k_NB .byte (14 : Int32) [(.int (110 : Int32)), (.int (117 : Int32)), (.int (109 : Int32)), (.int (98 : Int32)), (.int (101 : Int32)), (.int (114 : Int32)), (.int (95 : Int32)), (.int (111 : Int32)), (.int (102 : Int32)), (.int (95 : Int32)), (.int (116 : Int32)), (.int (97 : Int32)), (.int (103 : Int32)), (.int (115 : Int32))] (.int (0 : Int32))) (w_KS : Addr) (F_KS : Fld Z Z.heap w_K "com/example/vacuum/vacuum/model/PrunePolicy$Method" "wireName" "Ljava/lang/String;" (.ref w_KS)) (X_KS : Exa Z Z.heap w_KS "java/lang/String") (I_KS_coder : Fld Z Z.heap w_KS "java/lang/String" "coder" "B" (.int (0 : Int32))) (w_KB : Addr) (k_KB : ClassId) (F_KB : Fld Z Z.heap w_KS "java/lang/String" "value" "[B" (.ref w_KB)) (V_KB : Arv Z Z.heap w_KB k_KB .byte (13 : Int32) [(.int (99 : Int32)), (.int (114 : Int32)), (.int (101 : Int32)), (.int (97 : Int32)), (.int (116 : Int32)), (.int (105 : Int32)), (.int (111 : Int32)), (.int (110 : Int32)), (.int (95 : Int32)), (.int (100 : Int32)), (.int (97 : Int32)), (.int (116 : Int32)), (.int (101 : Int32))] (.int (0 : Int32))) (w_OE : Addr) (S_OE : Sta Z Z.heap "java/util/Optional" "EMPTY" "Ljava/util/Optional;" (.ref w_OE)) (X_OE : Exa Z Z.heap w_OE "java/util/Optional") (I_OE_value : Fld Z Z.heap w_OE "java/util/Optional" "value" "Ljava/lang/Object;" .null) (g_CS : Int32) (S_CS : Sta Z Z.heap "java/lang/String" "COMPACT_STRINGS" "Z" (.int g_CS)) (nz_CS : ¬ (g_CS = (0 : Int32))) (g_SF : Value) (S_SF : Sta Z Z.heap "jdk/internal/util/Preconditions" "SIOOBE_FORMATTER" "Ljava/util/function/BiFunction;" g_SF) (r_SF : g_SF.isRef = true) (p0 : Addr) (p1 : Addr) (h0 : Heap) (n0 : Nat) (X00 : Old Z n0 h0) (hp0 : Exa Z h0 p0 "java/lang/String") (hp1 : Fld Z h0 p0 "java/lang/String" "value" "[B" .null) (hp2 : Fld Z h0 p0 "java/lang/String" "coder" "B" (.int (0 : Int32))) (hp3 : n0 ≤ p0) :
    MetFree l (⟨"java/lang/String", "<init>", "([CIILjava/lang/Void;)V"⟩ : MethodName) (head1 (Jvm.Cond.code (⟨"java/lang/String", "<init>", "([CIILjava/lang/Void;)V"⟩ : MethodName) jdk_42_method_149_code 6 none :: ws) ({ frames := 1, cells := 4, slots := 8, locals := 12 } : Room)) (fun a U => a = #[(.ref p0), (.ref p1), (.int (0 : Int32)), (.int (0 : Int32)), .null] ∧ Z.Warmed39 U.vm ∧ U.heap = h0 ∧ CHv Z consts_1 U.vm h0) (fun _ _ _ _ _ => True) (fun _ U o U' => ∃ v L, o = .returned v ∧ Q_rm_emp2 Z w_N w_K w_V k_V w_NS w_NB k_NB w_KS w_KB k_KB w_OE g_CS g_SF p0 p1 h0 n0 v U'.heap L ∧ CHr Z consts_1 U.vm U.heap U'.vm U'.heap ∧ ReturnedEndW U o U' L ({ frames := 1, cells := 4, slots := 8, locals := 12 } : Room).cells ({ frames := 1, cells := 4, slots := 8, locals := 12 } : Room).slots) := by
  refine MetFree.of_bodySF (plainFor_of_name own_pn0) hisR ?_
  intro p e s m args below meth c s₁ Bd hml0 hP hK
  obtain ⟨rfl, hZ, hh, hCH⟩ := hP
  have hEL := own_EW Z a0 hw
  have CR0 : CHr Z consts_1 s.vm h0 s.vm h0 := CHr.refl hCH
  have hx := Bd.exec
  have hby := Bd.bytes
  have hml : c.maxLocals = 6 := hml0
  have hown : s.vm.findClass "java/lang/String" = some m.cls := findClass_of_methodNamed Bd.named
  have hnm := (name_of_methodNamed Bd.named Bd.method).1
  have X0 : Stand p l e ({ frames := 1, cells := 4, slots := 8, locals := 12 } : Room) (s.setVm s.vm) m #[(.ref p0), (.ref p1), (.int (0 : Int32)), (.int (0 : Int32)), .null] below meth c s₁ [] 0 0 := Stand.of_body Bd
  have e0 : s₁.heap = h0 := by rw [← hh, Bd.state]; rfl
  have N0 := Fr.nil n0
  have hS0 : s.Since s.vm 0 := own_since s
  have hk0 : 0 ≤ h0.size := Nat.zero_le _
  have hZ : Z.Warmed39 (s.setVm s.vm).vm := hZ
  have hown : (s.setVm s.vm).vm.findClass "java/lang/String" = some m.cls := hown
  refine Go.start fun P hPend => ?_
  refine Go.st (fun _ k => castTop (own_ef_rm_emp2 m p0 p1 ((0 : Int32)) ((0 : Int32))) k) ?_
  show Go p.tables e below P (s₁.setTop (mkF m 0 #[lR p0, lR p1, lI (0 : Int32), lI (0 : Int32), lN, lU] []))
  refine Go.st (fun _ => XS.aloadN X0.here hx rfl (hb hby own_d_jdk_42_method_149_code_0) rfl rfl) ?_
  show Go p.tables e below P (s₁.setTop (mkF m 1 #[lR p0, lR p1, lI (0 : Int32), lI (0 : Int32), lN, lU] [(.ref p0)]))
  obtain ⟨T1, X1, e1, st1⟩ := initO X0 hx hZ hown (ow hw 102 rfl) (ow hw 103 rfl) (ow hw 104 rfl) e0 (g := (mkF m 1 #[.val (.ref p0), .val (.ref p1), .val (.int (0 : Int32)), .val (.int (0 : Int32)), .val .null, .unset] [(.ref p0)])) rfl (by rw [hml]; rfl) rfl (hb hby own_d_jdk_42_method_149_code_1) (by decide) (W := 0) (by show 2 * 0 + _ ≤ _; exact Nat.le_of_eq rfl) (by decide)
  refine Go.st st1 ?_
  show Go p.tables e below P (T1.setTop (mkF m 4 #[lR p0, lR p1, lI (0 : Int32), lI (0 : Int32), lN, lU] []))
  refine Go.st (fun _ => XS.iloadN X1.here hx rfl (hb hby own_d_jdk_42_method_149_code_4) rfl) ?_
  show Go p.tables e below P (T1.setTop (mkF m 5 #[lR p0, lR p1, lI (0 : Int32), lI (0 : Int32), lN, lU] [(.int (0 : Int32))]))
  refine Go.st (fun _ => XS.ifNo X1.here hx rfl (hb hby own_d_jdk_42_method_149_code_5) rfl ((if0 _ _).trans (teq (by decide)).2)) ?_
  show Go p.tables e below P (T1.setTop (mkF m 8 #[lR p0, lR p1, lI (0 : Int32), lI (0 : Int32), lN, lU] []))
  refine Go.st (fun _ => XS.aloadN X1.here hx rfl (hb hby own_d_jdk_42_method_149_code_8) rfl rfl) ?_
  show Go p.tables e below P (T1.setTop (mkF m 9 #[lR p0, lR p1, lI (0 : Int32), lI (0 : Int32), lN, lU] [(.ref p0)]))
  obtain ⟨a2, T2, h2, kk2, b2, kb2, X2, e2, E2, hS2, hk2, hZ2, hown2, Ea2, Ca2, Va2, Ab2, alt2, blt2, hCR2, Li2, hne2, st2⟩ := ldcCH X1 hx hZ hown (ow hw 119 rfl) (fun a ha => hw a (own_strAtoms a ha)) e1 hS0 hk0 hEL (by decide +kernel) CR0.1 (vs := []) (z := (0 : Int32)) (by decide +kernel) (by decide) rfl (g := (mkF m 9 #[.val (.ref p0), .val (.ref p1), .val (.int (0 : Int32)), .val (.int (0 : Int32)), .val .null, .unset] [(.ref p0)])) rfl (hb hby own_d_jdk_42_method_149_code_9) (n := 0) (by decide +kernel) (by decide) (by decide) (by decide)
  refine Go.st st2 ?_
  have K2 : Keep h0 h2 [p0] := (Keep.refl h0 [p0]).ext E2
  have O2 := X00.ext E2
  have CR2 := CR0.trans hCR2
  have c3 := (hp0.ext E2)
  have c4 := (hp1.ext E2)
  have ne5 := hne2 p0 (own_safe_null hZ2.alike c3 c4)
  show Go p.tables e below P (T2.setTop (mkF m 11 #[lR p0, lR p1, lI (0 : Int32), lI (0 : Int32), lN, lU] [(.ref a2), (.ref p0)]))
  obtain ⟨T6, X6, e6, st6⟩ := getF X2 hx hZ2 hown2 (host := "") (Or.inl (ow hw 21 rfl)) Via.refl e2 Va2 (g := (mkF m 11 #[.val (.ref p0), .val (.ref p1), .val (.int (0 : Int32)), .val (.int (0 : Int32)), .val .null, .unset] [(.ref a2), (.ref p0)])) rfl rfl (hb hby own_d_jdk_42_method_149_code_11)
  refine Go.st st6 ?_
  show Go p.tables e below P (T6.setTop (mkF m 14 #[lR p0, lR p1, lI (0 : Int32), lI (0 : Int32), lN, lU] [(.ref b2), (.ref p0)]))
  have sf7 : Safe Z consts_1 T2.vm h2 p0 := (own_safe_null hZ2.alike c3 c4)
  obtain ⟨T8, h8, X8, e8, W8, st8⟩ := putF X6 hx hZ2 hown2 (host := "") (Or.inl (ow hw 21 rfl)) Via.refl e6 c4 c3 (Or.inr ⟨(ow hw 4 rfl), rfl, hnm⟩) (ow hw 2 rfl) (ty := (.array .byte)) (by decide) rfl rfl (g := (mkF m 14 #[.val (.ref p0), .val (.ref p1), .val (.int (0 : Int32)), .val (.int (0 : Int32)), .val .null, .unset] [(.ref b2), (.ref p0)])) rfl rfl (hb hby own_d_jdk_42_method_149_code_14)
  refine Go.st st8 ?_
  have sf9 := Safe.wr W8 sf7 CR2.1 sf7
  have CR8 := CR2.trans (CHr.wr W8 sf7 CR2.1)
  have K8 : Keep h0 h8 [p0] := K2.wr W8 (Or.inl (List.mem_of_getElem? (i := 0) rfl))
  have O8 := O2.wr W8 hp3
  have N8 := Fr.snoc X8 N0 hp3
  have F8 := c4.same W8
  show Go p.tables e below P (T8.setTop (mkF m 17 #[lR p0, lR p1, lI (0 : Int32), lI (0 : Int32), lN, lU] []))
  refine Go.st (fun _ => XS.aloadN X8.here hx rfl (hb hby own_d_jdk_42_method_149_code_17) rfl rfl) ?_
  show Go p.tables e below P (T8.setTop (mkF m 18 #[lR p0, lR p1, lI (0 : Int32), lI (0 : Int32), lN, lU] [(.ref p0)]))
  have c11 := (c3.wr W8)
  have c12 := (Ea2.wr W8)
  have c13 := (Ab2.other W8 (Ne.symm ne5.2))
  obtain ⟨a10, T10, h10, kk10, b10, kb10, X10, e10, E10, hS10, hk10, hZ10, hown10, Ea10, Ca10, Va10, Ab10, alt10, blt10, hCR10, Li10, hne10, st10⟩ := ldcCH X8 hx hZ2 hown2 (ow hw 119 rfl) (fun a ha => hw a (own_strAtoms a ha)) e8 hS2 (Nat.le_trans hk2 (Keep.of_wr W8).1) hEL (by decide +kernel) CR8.1 (vs := []) (z := (0 : Int32)) (by decide +kernel) (by decide) rfl (g := (mkF m 18 #[.val (.ref p0), .val (.ref p1), .val (.int (0 : Int32)), .val (.int (0 : Int32)), .val .null, .unset] [(.ref p0)])) rfl (hb hby own_d_jdk_42_method_149_code_18) (n := 0) (by decide +kernel) (by decide) (by decide) (by decide)
  refine Go.st st10 ?_
  have K10 : Keep h0 h10 [p0] := K8.ext E10
  have O10 := O8.ext E10
  have sf14 := hCR10.safe c11.lt sf9
  have CR10 := CR8.trans hCR10
  have ne15 := hne10 p0 sf14
  show Go p.tables e below P (T10.setTop (mkF m 20 #[lR p0, lR p1, lI (0 : Int32), lI (0 : Int32), lN, lU] [(.ref a10), (.ref p0)]))
  obtain ⟨T16, X16, e16, st16⟩ := getF X10 hx hZ10 hown10 (host := "") (Or.inl (ow hw 28 rfl)) Via.refl e10 Ca10 (g := (mkF m 20 #[.val (.ref p0), .val (.ref p1), .val (.int (0 : Int32)), .val (.int (0 : Int32)), .val .null, .unset] [(.ref a10), (.ref p0)])) rfl rfl (hb hby own_d_jdk_42_method_149_code_20)
  refine Go.st st16 ?_
  show Go p.tables e below P (T16.setTop (mkF m 23 #[lR p0, lR p1, lI (0 : Int32), lI (0 : Int32), lN, lU] [(.int (0 : Int32)), (.ref p0)]))
  have c17 := (((hp2.ext E2).other W8 (Or.inr (slot_ne (Or.inr (ow hw 5 rfl)) (Or.inr (ow hw 4 rfl)) (by decide) (t := .byte) (t' := (.array .byte)) (by decide) (by decide)))).ext E10)
  have c18 := (c11.ext E10)
  obtain ⟨T19, h19, X19, e19, W19, st19⟩ := putF X16 hx hZ10 hown10 (host := "") (Or.inl (ow hw 28 rfl)) Via.refl e16 c17 c18 (Or.inr ⟨(ow hw 5 rfl), rfl, hnm⟩) (ow hw 2 rfl) (ty := .byte) (by decide) rfl rfl (g := (mkF m 23 #[.val (.ref p0), .val (.ref p1), .val (.int (0 : Int32)), .val (.int (0 : Int32)), .val .null, .unset] [(.int (0 : Int32)), (.ref p0)])) rfl rfl (hb hby own_d_jdk_42_method_149_code_23)
  refine Go.st st19 ?_
  have sf20 := Safe.wr W19 sf14 CR10.1 sf14
  have CR19 := CR10.trans (CHr.wr W19 sf14 CR10.1)
  have K19 : Keep h0 h19 [p0] := K10.wr W19 (Or.inl (List.mem_of_getElem? (i := 0) rfl))
  have O19 := O10.wr W19 hp3
  have N19 := Fr.snoc X19 N8 hp3
  have F19 := c17.same W19
  show Go p.tables e below P (T19.setTop (mkF m 26 #[lR p0, lR p1, lI (0 : Int32), lI (0 : Int32), lN, lU] []))
  obtain ⟨fs, hr, hrun, hended, -, hW, hpair, hsame⟩ := X19.leaveW hS10 (by rw [e19]; exact (Nat.le_trans hk10 (Keep.of_wr W19).1)) (v := none) (fun _ => rfl)
  have hCRe := CR19.trans (CHv.at X19 hZ10 hEL CR19.1)
  refine ⟨_, ?_, hPend _ _ hrun hended ⟨_, _, rfl, ?_, ?_, ⟨_, rfl⟩, hW, hpair, hsame.mono (by decide) (by decide)⟩⟩
  · exact X19.returnOut hx Bd.returns (hb hby own_d_jdk_42_method_149_code_26) hr
  · show Q_rm_emp2 Z _ _ _ _ _ _ _ _ _ _ _ _ _ _ _ h0 n0 _ T19.heap _
    rw [e19]
    have c21 := (c18.wr W19)
    have c22 := ((F8.ext E10).other W19 (Or.inr (slot_ne (Or.inr (ow hw 4 rfl)) (Or.inr (ow hw 5 rfl)) (by decide) (t := (.array .byte)) (t' := .byte) (by decide) (by decide))))
    have c23 := ((c13.ext E10).other W19 (Ne.symm ne5.2))
    exact ⟨b2, kb2, rfl, N19, K19, c21, F19, c22, c23⟩
  · show CHr Z consts_1 s.vm s.heap T19.vm T19.heap
    rw [hh, e19]
    exact hCRe
theorem own_ef_rm_emp1 (m : MethodId) (x0 : Addr) (x1 : Addr) : entryFrame m #[(.ref x0), (.ref x1)] 2 = mkF m 0 #[.val (.ref x0), .val (.ref x1)] [] := by first | (simp [entryFrame, mkF, argsToLocals, Value.category]; done) | rfl
theorem own_d_jdk_42_method_3_code_0 : decode jdk_42_method_3_code 0 = .ok (.aload_n 0, 1) := by decide +kernel
theorem own_d_jdk_42_method_3_code_1 : decode jdk_42_method_3_code 1 = .ok (.aload_n 1, 1) := by decide +kernel
theorem own_d_jdk_42_method_3_code_2 : decode jdk_42_method_3_code 2 = .ok (.iconst 0, 1) := by decide +kernel
theorem own_d_jdk_42_method_3_code_3 : decode jdk_42_method_3_code 3 = .ok (.aload_n 1, 1) := by decide +kernel
theorem own_d_jdk_42_method_3_code_4 : decode jdk_42_method_3_code 4 = .ok (.arraylength, 1) := by decide +kernel
theorem own_d_jdk_42_method_3_code_5 : decode jdk_42_method_3_code 5 = .ok (.aconst_null, 1) := by decide +kernel
theorem own_d_jdk_42_method_3_code_6 : decode jdk_42_method_3_code 6 = .ok (.invokespecial 27, 3) := by decide +kernel
theorem own_pd0 : parseMethodDescriptor "([CIILjava/lang/Void;)V" = some ⟨[(.array .char), .int, .int, (.object "java/lang/Void")], none⟩ := by decide +kernel
theorem own_d_jdk_42_method_3_code_9 : decode jdk_42_method_3_code 9 = .ok (.return_, 1) := by decide +kernel
def Q_rm_emp1 (Z : State) (w_N : Addr) (w_K : Addr) (w_V : Addr) (k_V : ClassId) (w_NS : Addr) (w_NB : Addr) (k_NB : ClassId) (w_KS : Addr) (w_KB : Addr) (k_KB : ClassId) (w_OE : Addr) (g_CS : Int32) (g_SF : Value) (p0 : Addr) (p1 : Addr) (ka : ClassId) (h0 : Heap) (n0 : Nat) (v : Option Value) (h : Heap) (L : List Loc) : Prop := ∃ (vb : Addr) (kb : ClassId), v = none ∧ Fr n0 L ∧ Keep h0 h [p0] ∧ Exa Z h p0 "java/lang/String" ∧ Fld Z h p0 "java/lang/String" "coder" "B" (.int (0 : Int32)) ∧ Fld Z h p0 "java/lang/String" "value" "[B" (.ref vb) ∧ Arv Z h vb kb .byte (0 : Int32) [] (.int (0 : Int32))
set_option maxRecDepth 65536 in
set_option maxHeartbeats 40000000 in
theorem rm_emp1 (l : Launch) (Z : State) (a0 : Array Value) (hw : ∀ d ∈ tables_1, d.before a0 Z = true) (ws : List Jvm.Cond) (w_N : Addr) (S_N : Sta Z Z.heap "com/example/vacuum/vacuum/model/PrunePolicy$Method" "NUMBER_OF_TAGS" "Lcom/example/vacuum/vacuum/model/PrunePolicy$Method;" (.ref w_N)) (X_N : Exa Z Z.heap w_N "com/example/vacuum/vacuum/model/PrunePolicy$Method") (w_K : Addr) (S_K : Sta Z Z.heap "com/example/vacuum/vacuum/model/PrunePolicy$Method" "CREATION_DATE" "Lcom/example/vacuum/vacuum/model/PrunePolicy$Method;" (.ref w_K)) (X_K : Exa Z Z.heap w_K "com/example/vacuum/vacuum/model/PrunePolicy$Method") (w_V : Addr) (k_V : ClassId) (S_V : Sta Z Z.heap "com/example/vacuum/vacuum/model/PrunePolicy$Method" "$VALUES" "[Lcom/example/vacuum/vacuum/model/PrunePolicy$Method;" (.ref w_V)) (X_V : Exa Z Z.heap w_V "[Lcom/example/vacuum/vacuum/model/PrunePolicy$Method;") (V_V : Arv Z Z.heap w_V k_V (.object "com/example/vacuum/vacuum/model/PrunePolicy$Method") (2 : Int32) [(.ref w_N), (.ref w_K)] .null) (w_NS : Addr) (F_NS : Fld Z Z.heap w_N "com/example/vacuum/vacuum/model/PrunePolicy$Method" "wireName" "Ljava/lang/String;" (.ref w_NS)) (X_NS : Exa Z Z.heap w_NS "java/lang/String") (I_NS_coder : Fld Z Z.heap w_NS "java/lang/String" "coder" "B" (.int (0 : Int32))) (w_NB : Addr) (k_NB : ClassId) (F_NB : Fld Z Z.heap w_NS "java/lang/String" "value" "[B" (.ref w_NB)) (V_NB : Arv Z Z.heap w_NB k_NB .byte (14 : Int32) [(.int (110 : Int32)), (.int (117 : Int32)), (.int (109 : Int32)), (.int (98 : Int32)), (.int (101 : Int32)), (.int (114 : Int32)), (.int (95 : Int32)), (.int (111 : Int32)), (.int (102 : Int32)), (.int (95 : Int32)), (.int (116 : Int32)), (.int (97 : Int32)), (.int (103 : Int32)), (.int (115 : Int32))] (.int (0 : Int32))) (w_KS : Addr) (F_KS : Fld Z Z.heap w_K "com/example/vacuum/vacuum/model/PrunePolicy$Method" "wireName" "Ljava/lang/String;" (.ref w_KS)) (X_KS : Exa Z Z.heap w_KS "java/lang/String") (I_KS_coder : Fld Z Z.heap w_KS "java/lang/String" "coder" "B" (.int (0 : Int32))) (w_KB : Addr) (k_KB : ClassId) (F_KB : Fld Z Z.heap w_KS "java/lang/String" "value" "[B" (.ref w_KB)) (V_KB : Arv Z Z.heap w_KB k_KB .byte (13 : Int32) [(.int (99 : Int32)), (.int (114 : Int32)), (.int (101 : Int32)), (.int (97 : Int32)), (.int (116 : Int32)), (.int (105 : Int32)), (.int (111 : Int32)), (.int (110 : Int32)), (.int (95 : Int32)), (.int (100 : Int32)), (.int (97 : Int32)), (.int (116 : Int32)), (.int (101 : Int32))] (.int (0 : Int32))) (w_OE : Addr) (S_OE : Sta Z Z.heap "java/util/Optional" "EMPTY" "Ljava/util/Optional;" (.ref w_OE)) (X_OE : Exa Z Z.heap w_OE "java/util/Optional") (I_OE_value : Fld Z Z.heap w_OE "java/util/Optional" "value" "Ljava/lang/Object;" .null) (g_CS : Int32) (S_CS : Sta Z Z.heap "java/lang/String" "COMPACT_STRINGS" "Z" (.int g_CS)) (nz_CS : ¬ (g_CS = (0 : Int32))) (g_SF : Value) (S_SF : Sta Z Z.heap "jdk/internal/util/Preconditions" "SIOOBE_FORMATTER" "Ljava/util/function/BiFunction;" g_SF) (r_SF : g_SF.isRef = true) (p0 : Addr) (p1 : Addr) (ka : ClassId) (h0 : Heap) (n0 : Nat) (X00 : Old Z n0 h0) (hp0 : Exa Z h0 p0 "java/lang/String") (hp1 : Fld Z h0 p0 "java/lang/String" "value" "[B" .null) (hp2 : Fld Z h0 p0 "java/lang/String" "coder" "B" (.int (0 : Int32))) (hp3 : n0 ≤ p0) (hp4 : Arv Z h0 p1 ka .char (0 : Int32) [] (.int (0 : Int32))) :
    MetFree l (⟨"java/lang/String", "<init>", "([C)V"⟩ : MethodName) (head1 (Jvm.Cond.code (⟨"java/lang/String", "<init>", "([C)V"⟩ : MethodName) jdk_42_method_3_code 2 none :: ws) ({ frames := 2, cells := 4, slots := 8, locals := 29 } : Room)) (fun a U => a = #[(.ref p0), (.ref p1)] ∧ Z.Warmed39 U.vm ∧ U.heap = h0 ∧ CHv Z consts_1 U.vm h0) (fun _ _ _ _ _ => True) (fun _ U o U' => ∃ v L, o = .returned v ∧ Q_rm_emp1 Z w_N w_K w_V k_V w_NS w_NB k_NB w_KS w_KB k_KB w_OE g_CS g_SF p0 p1 ka h0 n0 v U'.heap L ∧ CHr Z consts_1 U.vm U.heap U'.vm U'.heap ∧ ReturnedEndW U o U' L ({ frames := 2, cells := 4, slots := 8, locals := 29 } : Room).cells ({ frames := 2, cells := 4, slots := 8, locals := 29 } : Room).slots) := by
  refine MetFree.of_bodySF (plainFor_of_name own_pn0) hisR ?_
  intro p e s m args below meth c s₁ Bd hml0 hP hK
  obtain ⟨rfl, hZ, hh, hCH⟩ := hP
  have hEL := own_EW Z a0 hw
  have CR0 : CHr Z consts_1 s.vm h0 s.vm h0 := CHr.refl hCH
  have hx := Bd.exec
  have hby := Bd.bytes
  have hml : c.maxLocals = 2 := hml0
  have hown : s.vm.findClass "java/lang/String" = some m.cls := findClass_of_methodNamed Bd.named
  have hnm := (name_of_methodNamed Bd.named Bd.method).1
  have X0 : Stand p l e ({ frames := 2, cells := 4, slots := 8, locals := 29 } : Room) (s.setVm s.vm) m #[(.ref p0), (.ref p1)] below meth c s₁ [] 0 0 := Stand.of_body Bd
  have e0 : s₁.heap = h0 := by rw [← hh, Bd.state]; rfl
  have N0 := Fr.nil n0
  have hS0 : s.Since s.vm 0 := own_since s
  have hk0 : 0 ≤ h0.size := Nat.zero_le _
  have hZ : Z.Warmed39 (s.setVm s.vm).vm := hZ
  have hown : (s.setVm s.vm).vm.findClass "java/lang/String" = some m.cls := hown
  refine Go.start fun P hPend => ?_
  refine Go.st (fun _ k => castTop (own_ef_rm_emp1 m p0 p1) k) ?_
  show Go p.tables e below P (s₁.setTop (mkF m 0 #[lR p0, lR p1] []))
  refine Go.st (fun _ => XS.aloadN X0.here hx rfl (hb hby own_d_jdk_42_method_3_code_0) rfl rfl) ?_
  show Go p.tables e below P (s₁.setTop (mkF m 1 #[lR p0, lR p1] [(.ref p0)]))
  refine Go.st (fun _ => XS.aloadN X0.here hx rfl (hb hby own_d_jdk_42_method_3_code_1) rfl rfl) ?_
  show Go p.tables e below P (s₁.setTop (mkF m 2 #[lR p0, lR p1] [(.ref p1), (.ref p0)]))
  refine Go.st (fun _ => XS.iconst X0.here hx rfl (hb hby own_d_jdk_42_method_3_code_2)) ?_
  show Go p.tables e below P (s₁.setTop (mkF m 3 #[lR p0, lR p1] [(.int (0 : Int32)), (.ref p1), (.ref p0)]))
  refine Go.st (fun _ => XS.aloadN X0.here hx rfl (hb hby own_d_jdk_42_method_3_code_3) rfl rfl) ?_
  show Go p.tables e below P (s₁.setTop (mkF m 4 #[lR p0, lR p1] [(.ref p1), (.int (0 : Int32)), (.ref p1), (.ref p0)]))
  refine Go.st (fun _ => own_len X0 hx hZ e0 hp4 (g := (mkF m 4 #[.val (.ref p0), .val (.ref p1)] [(.ref p1), (.int (0 : Int32)), (.ref p1), (.ref p0)])) rfl rfl (hb hby own_d_jdk_42_method_3_code_4) _) ?_
  show Go p.tables e below P (s₁.setTop (mkF m 5 #[lR p0, lR p1] [(.int (0 : Int32)), (.int (0 : Int32)), (.ref p1), (.ref p0)]))
  refine Go.st (fun _ => XS.aconstNull X0.here hx rfl (hb hby own_d_jdk_42_method_3_code_5)) ?_
  show Go p.tables e below P (s₁.setTop (mkF m 6 #[lR p0, lR p1] [.null, (.int (0 : Int32)), (.int (0 : Int32)), (.ref p1), (.ref p0)]))
  obtain ⟨_, _, ⟨T1, L1, k1, n1⟩, -, X1, hS1, hg1, ⟨Lc1, hQ1, l1, y1, z1, hCR1⟩, st1⟩ := X0.specialBackS hx (y := (⟨"java/lang/String", "<init>", "([CIILjava/lang/Void;)V"⟩ : MethodName)) rfl hown (mvT hZ (ow hw 98 rfl)) (mvT hZ (ow hw 99 rfl)) (mvT hZ (ow hw 101 rfl)) (by decide) (backOfSH (W := 0) (rm_emp2 l Z a0 hw [] w_N S_N X_N w_K S_K X_K w_V k_V S_V X_V V_V w_NS F_NS X_NS I_NS_coder w_NB k_NB F_NB V_NB w_KS F_KS X_KS I_KS_coder w_KB k_KB F_KB V_KB w_OE S_OE X_OE I_OE_value g_CS S_CS nz_CS g_SF S_SF r_SF p0 p1 h0 n0 X00 hp0 hp1 hp2 hp3) hZ (ow hw 101 rfl) (ow hw 1 rfl) (by decide) (by decide) hEL CR0.1) (g := (mkF m 6 #[.val (.ref p0), .val (.ref p1)] [.null, (.int (0 : Int32)), (.int (0 : Int32)), (.ref p1), (.ref p0)])) rfl (by rw [hml]; rfl) (Steps.refl _) (a := p0) (argsL := [(.ref p1), (.int (0 : Int32)), (.int (0 : Int32)), .null]) (rest := []) (lenOf own_pd0 rfl) rfl (by show 2 * 0 + _ ≤ _; exact Nat.le_of_eq rfl) (hb hby own_d_jdk_42_method_3_code_6) (fun _ _ => ⟨rfl, e0, (by decide : 0 + 4 ≤ _), (by decide : 0 + 8 ≤ _)⟩)
  dsimp only [Pt.U, Pt.locs, Pt.cells, Pt.slots] at X1 l1 y1 z1 st1 hQ1 hS1 hg1 hCR1
  subst y1 z1
  refine Go.tr st1 ?_
  obtain ⟨XX1, hSS1, hZ1, hown1⟩ := rebS hS0 (by rw [e0]; exact hk0) X1 hS1 hg1 hZ hown
  obtain ⟨vb_2, kb_3, rfl, N1q, K1q, q1_0, q1_1, q1_2, q1_3⟩ := hQ1
  have N1 : Fr n0 L1 := by rw [l1]; exact Fr.app N0 N1q
  have CR1 := CR0.trans hCR1
  have O1 := X00.keep K1q (allS hp3 all0)
  have K1 : Keep h0 T1.heap [p0] := (Keep.refl h0 [p0]).trans K1q (allS (Or.inl (List.mem_of_getElem? (i := 0) rfl)) all0)
  show Go p.tables e below P (T1.setTop (mkF m 9 #[lR p0, lR p1] []))
  obtain ⟨fs, hr, hrun, hended, -, hW, hpair, hsame⟩ := XX1.leaveW hSS1 (Nat.le_refl _) (v := none) (fun _ => rfl)
  have hCRe := CR1.trans (CHv.at XX1 hZ1 hEL CR1.1)
  refine ⟨_, ?_, hPend _ _ hrun hended ⟨_, _, rfl, ?_, ?_, ⟨_, rfl⟩, hW, hpair, hsame.mono (by decide) (by decide)⟩⟩
  · exact XX1.returnOut hx Bd.returns (hb hby own_d_jdk_42_method_3_code_9) hr
  · show Q_rm_emp1 Z _ _ _ _ _ _ _ _ _ _ _ _ _ _ _ _ h0 n0 _ T1.heap _
    exact ⟨vb_2, kb_3, rfl, N1, K1, q1_0, q1_1, q1_2, q1_3⟩
  · show CHr Z consts_1 s.vm s.heap T1.vm T1.heap
    rw [hh]
    exact hCRe
theorem own_ef_rm_rn1 (m : MethodId) (x0 : Addr) : entryFrame m #[(.ref x0)] 1 = mkF m 0 #[.val (.ref x0)] [] := by first | (simp [entryFrame, mkF, argsToLocals, Value.category]; done) | rfl
theorem own_pn1 : plainName "java/util/Objects" = true := by first | (simp [plainName, overriddenIn]; done) | decide +kernel
theorem own_d_jdk_31_method_10_code_0 : decode jdk_31_method_10_code 0 = .ok (.aload_n 0, 1) := by decide +kernel
theorem own_d_jdk_31_method_10_code_1 : decode jdk_31_method_10_code 1 = .ok (.ifnonnull 11, 3) := by decide +kernel
theorem own_d_jdk_31_method_10_code_12 : decode jdk_31_method_10_code 12 = .ok (.aload_n 0, 1) := by decide +kernel
theorem own_d_jdk_31_method_10_code_13 : decode jdk_31_method_10_code 13 = .ok (.areturn, 1) := by decide +kernel
def Q_rm_rn1 (Z : State) (w_N : Addr) (w_K : Addr) (w_V : Addr) (k_V : ClassId) (w_NS : Addr) (w_NB : Addr) (k_NB : ClassId) (w_KS : Addr) (w_KB : Addr) (k_KB : ClassId) (w_OE : Addr) (g_CS : Int32) (g_SF : Value) (p0 : Addr) (h0 : Heap) (n0 : Nat) (v : Option Value) (h : Heap) (L : List Loc) : Prop := v = some (.ref p0) ∧ Fr n0 L ∧ h = h0
set_option maxRecDepth 65536 in
set_option maxHeartbeats 40000000 in
theorem rm_rn1 (l : Launch) (Z : State) (a0 : Array Value) (hw : ∀ d ∈ tables_1, d.before a0 Z = true) (ws : List Jvm.Cond) (w_N : Addr) (S_N : Sta Z Z.heap "com/example/vacuum/vacuum/model/PrunePolicy$Method" "NUMBER_OF_TAGS" "Lcom/example/vacuum/vacuum/model/PrunePolicy$Method;" (.ref w_N)) (X_N : Exa Z Z.heap w_N "com/example/vacuum/vacuum/model/PrunePolicy$Method") (w_K : Addr) (S_K : Sta Z Z.heap "com/example/vacuum/vacuum/model/PrunePolicy$Method" "CREATION_DATE" "Lcom/example/vacuum/vacuum/model/PrunePolicy$Method;" (.ref w_K)) (X_K : Exa Z Z.heap w_K "com/example/vacuum/vacuum/model/PrunePolicy$Method") (w_V : Addr) (k_V : ClassId) (S_V : Sta Z Z.heap "com/example/vacuum/vacuum/model/PrunePolicy$Method" "$VALUES" "[Lcom/example/vacuum/vacuum/model/PrunePolicy$Method;" (.ref w_V)) (X_V : Exa Z Z.heap w_V "[Lcom/example/vacuum/vacuum/model/PrunePolicy$Method;") (V_V : Arv Z Z.heap w_V k_V (.object "com/example/vacuum/vacuum/model/PrunePolicy$Method") (2 : Int32) [(.ref w_N), (.ref w_K)] .null) (w_NS : Addr) (F_NS : Fld Z Z.heap w_N "com/example/vacuum/vacuum/model/PrunePolicy$Method" "wireName" "Ljava/lang/String;" (.ref w_NS)) (X_NS : Exa Z Z.heap w_NS "java/lang/String") (I_NS_coder : Fld Z Z.heap w_NS "java/lang/String" "coder" "B" (.int (0 : Int32))) (w_NB : Addr) (k_NB : ClassId) (F_NB : Fld Z Z.heap w_NS "java/lang/String" "value" "[B" (.ref w_NB)) (V_NB : Arv Z Z.heap w_NB k_NB .byte (14 : Int32) [(.int (110 : Int32)), (.int (117 : Int32)), (.int (109 : Int32)), (.int (98 : Int32)), (.int (101 : Int32)), (.int (114 : Int32)), (.int (95 : Int32)), (.int (111 : Int32)), (.int (102 : Int32)), (.int (95 : Int32)), (.int (116 : Int32)), (.int (97 : Int32)), (.int (103 : Int32)), (.int (115 : Int32))] (.int (0 : Int32))) (w_KS : Addr) (F_KS : Fld Z Z.heap w_K "com/example/vacuum/vacuum/model/PrunePolicy$Method" "wireName" "Ljava/lang/String;" (.ref w_KS)) (X_KS : Exa Z Z.heap w_KS "java/lang/String") (I_KS_coder : Fld Z Z.heap w_KS "java/lang/String" "coder" "B" (.int (0 : Int32))) (w_KB : Addr) (k_KB : ClassId) (F_KB : Fld Z Z.heap w_KS "java/lang/String" "value" "[B" (.ref w_KB)) (V_KB : Arv Z Z.heap w_KB k_KB .byte (13 : Int32) [(.int (99 : Int32)), (.int (114 : Int32)), (.int (101 : Int32)), (.int (97 : Int32)), (.int (116 : Int32)), (.int (105 : Int32)), (.int (111 : Int32)), (.int (110 : Int32)), (.int (95 : Int32)), (.int (100 : Int32)), (.int (97 : Int32)), (.int (116 : Int32)), (.int (101 : Int32))] (.int (0 : Int32))) (w_OE : Addr) (S_OE : Sta Z Z.heap "java/util/Optional" "EMPTY" "Ljava/util/Optional;" (.ref w_OE)) (X_OE : Exa Z Z.heap w_OE "java/util/Optional") (I_OE_value : Fld Z Z.heap w_OE "java/util/Optional" "value" "Ljava/lang/Object;" .null) (g_CS : Int32) (S_CS : Sta Z Z.heap "java/lang/String" "COMPACT_STRINGS" "Z" (.int g_CS)) (nz_CS : ¬ (g_CS = (0 : Int32))) (g_SF : Value) (S_SF : Sta Z Z.heap "jdk/internal/util/Preconditions" "SIOOBE_FORMATTER" "Ljava/util/function/BiFunction;" g_SF) (r_SF : g_SF.isRef = true) (p0 : Addr) (h0 : Heap) (n0 : Nat) (X00 : Old Z n0 h0)  :
    MetFree l (⟨"java/util/Objects", "requireNonNull", "(Ljava/lang/Object;)Ljava/lang/Object;"⟩ : MethodName) (head1 (Jvm.Cond.code (⟨"java/util/Objects", "requireNonNull", "(Ljava/lang/Object;)Ljava/lang/Object;"⟩ : MethodName) jdk_31_method_10_code 1 (some (.object "java/lang/Object")) :: ws) ({ frames := 0, cells := 0, slots := 0, locals := 0 } : Room)) (fun a U => a = #[(.ref p0)] ∧ Z.Warmed39 U.vm ∧ U.heap = h0) (fun _ _ _ _ _ => True) (fun _ U o U' => ∃ v L, o = .returned v ∧ Q_rm_rn1 Z w_N w_K w_V k_V w_NS w_NB k_NB w_KS w_KB k_KB w_OE g_CS g_SF p0 h0 n0 v U'.heap L ∧ FrameEnd U o U' L ({ frames := 0, cells := 0, slots := 0, locals := 0 } : Room).cells ({ frames := 0, cells := 0, slots := 0, locals := 0 } : Room).slots) := by
  refine MetFree.of_bodySF (plainFor_of_name own_pn1) hisR ?_
  intro p e s m args below meth c s₁ Bd hml0 hP hK
  obtain ⟨rfl, hZ, hh⟩ := hP
  have hx := Bd.exec
  have hby := Bd.bytes
  have hml : c.maxLocals = 1 := hml0
  have hown : s.vm.findClass "java/util/Objects" = some m.cls := findClass_of_methodNamed Bd.named
  have hnm := (name_of_methodNamed Bd.named Bd.method).1
  have X0 : Stand p l e ({ frames := 0, cells := 0, slots := 0, locals := 0 } : Room) s m #[(.ref p0)] below meth c s₁ [] 0 0 := Stand.of_body Bd
  have e0 : s₁.heap = h0 := by rw [← hh, Bd.state]; rfl
  have N0 := Fr.nil n0
  refine Go.start fun P hPend => ?_
  refine Go.st (fun _ k => castTop (own_ef_rm_rn1 m p0) k) ?_
  show Go p.tables e below P (s₁.setTop (mkF m 0 #[lR p0] []))
  refine Go.st (fun _ => XS.aloadN X0.here hx rfl (hb hby own_d_jdk_31_method_10_code_0) rfl rfl) ?_
  show Go p.tables e below P (s₁.setTop (mkF m 1 #[lR p0] [(.ref p0)]))
  refine Go.st (fun _ => XS.ifnonnullYes X0.here hx rfl (pc0 := 1) (pc' := 12) rfl (hb hby own_d_jdk_31_method_10_code_1) rfl (by decide) (by decide)) ?_
  show Go p.tables e below P (s₁.setTop (mkF m 12 #[lR p0] []))
  refine Go.st (fun _ => XS.aloadN X0.here hx rfl (hb hby own_d_jdk_31_method_10_code_12) rfl rfl) ?_
  show Go p.tables e below P (s₁.setTop (mkF m 13 #[lR p0] [(.ref p0)]))
  obtain ⟨fs, hr, hrun, hended, hW, hsame⟩ := X0.leave (v := some (.ref p0)) (fun h => by rw [Bd.returns] at h; cases h)
  refine ⟨_, ?_, hPend _ _ hrun hended ⟨_, _, rfl, ?_, ⟨_, rfl⟩, hW, hsame.mono (by decide) (by decide)⟩⟩
  · exact retOut X0 hx (t := (.object "java/lang/Object")) Bd.returns rfl (Or.inr (Or.inr (Or.inr (Or.inr ⟨rfl, rfl, rfl⟩)))) (hb hby own_d_jdk_31_method_10_code_13) hr
  · show Q_rm_rn1 Z _ _ _ _ _ _ _ _ _ _ _ _ _ _ h0 n0 _ s₁.heap _
    rw [e0]
    exact ⟨rfl, N0, rfl⟩
theorem own_ef_rm_oin (m : MethodId) (x0 : Addr) (x1 : Addr) : entryFrame m #[(.ref x0), (.ref x1)] 2 = mkF m 0 #[.val (.ref x0), .val (.ref x1)] [] := by first | (simp [entryFrame, mkF, argsToLocals, Value.category]; done) | rfl
theorem own_pn2 : plainName "java/util/Optional" = true := by first | (simp [plainName, overriddenIn]; done) | decide +kernel
theorem own_d_jdk_32_method_2_code_0 : decode jdk_32_method_2_code 0 = .ok (.aload_n 0, 1) := by decide +kernel
theorem own_d_jdk_32_method_2_code_1 : decode jdk_32_method_2_code 1 = .ok (.invokespecial 7, 3) := by decide +kernel
theorem own_d_jdk_32_method_2_code_4 : decode jdk_32_method_2_code 4 = .ok (.aload_n 0, 1) := by decide +kernel
theorem own_d_jdk_32_method_2_code_5 : decode jdk_32_method_2_code 5 = .ok (.aload_n 1, 1) := by decide +kernel
theorem own_d_jdk_32_method_2_code_6 : decode jdk_32_method_2_code 6 = .ok (.putfield 13, 3) := by decide +kernel
theorem own_d_jdk_32_method_2_code_9 : decode jdk_32_method_2_code 9 = .ok (.return_, 1) := by decide +kernel
def Q_rm_oin (Z : State) (w_N : Addr) (w_K : Addr) (w_V : Addr) (k_V : ClassId) (w_NS : Addr) (w_NB : Addr) (k_NB : ClassId) (w_KS : Addr) (w_KB : Addr) (k_KB : ClassId) (w_OE : Addr) (g_CS : Int32) (g_SF : Value) (p0 : Addr) (p1 : Addr) (h0 : Heap) (n0 : Nat) (v : Option Value) (h : Heap) (L : List Loc) : Prop := v = none ∧ Fr n0 L ∧ Keep h0 h [p0] ∧ Exa Z h p0 "java/util/Optional" ∧ Fld Z h p0 "java/util/Optional" "value" "Ljava/lang/Object;" (.ref p1)
set_option maxRecDepth 65536 in
set_option maxHeartbeats 40000000 in
theorem rm_oin (l : Launch) (Z : State) (a0 : Array Value) (hw : ∀ d ∈ tables_1, d.before a0 Z = true) (ws : List Jvm.Cond) (w_N : Addr) (S_N : Sta Z Z.heap "com/example/vacuum/vacuum/model/PrunePolicy$Method" "NUMBER_OF_TAGS" "Lcom/example/vacuum/vacuum/model/PrunePolicy$Method;" (.ref w_N)) (X_N : Exa Z Z.heap w_N "com/example/vacuum/vacuum/model/PrunePolicy$Method") (w_K : Addr) (S_K : Sta Z Z.heap "com/example/vacuum/vacuum/model/PrunePolicy$Method" "CREATION_DATE" "Lcom/example/vacuum/vacuum/model/PrunePolicy$Method;" (.ref w_K)) (X_K : Exa Z Z.heap w_K "com/example/vacuum/vacuum/model/PrunePolicy$Method") (w_V : Addr) (k_V : ClassId) (S_V : Sta Z Z.heap "com/example/vacuum/vacuum/model/PrunePolicy$Method" "$VALUES" "[Lcom/example/vacuum/vacuum/model/PrunePolicy$Method;" (.ref w_V)) (X_V : Exa Z Z.heap w_V "[Lcom/example/vacuum/vacuum/model/PrunePolicy$Method;") (V_V : Arv Z Z.heap w_V k_V (.object "com/example/vacuum/vacuum/model/PrunePolicy$Method") (2 : Int32) [(.ref w_N), (.ref w_K)] .null) (w_NS : Addr) (F_NS : Fld Z Z.heap w_N "com/example/vacuum/vacuum/model/PrunePolicy$Method" "wireName" "Ljava/lang/String;" (.ref w_NS)) (X_NS : Exa Z Z.heap w_NS "java/lang/String") (I_NS_coder : Fld Z Z.heap w_NS "java/lang/String" "coder" "B" (.int (0 : Int32))) (w_NB : Addr) (k_NB : ClassId) (F_NB : Fld Z Z.heap w_NS "java/lang/String" "value" "[B" (.ref w_NB)) (V_NB : Arv Z Z.heap w_NB k_NB .byte (14 : Int32) [(.int (110 : Int32)), (.int (117 : Int32)), (.int (109 : Int32)), (.int (98 : Int32)), (.int (101 : Int32)), (.int (114 : Int32)), (.int (95 : Int32)), (.int (111 : Int32)), (.int (102 : Int32)), (.int (95 : Int32)), (.int (116 : Int32)), (.int (97 : Int32)), (.int (103 : Int32)), (.int (115 : Int32))] (.int (0 : Int32))) (w_KS : Addr) (F_KS : Fld Z Z.heap w_K "com/example/vacuum/vacuum/model/PrunePolicy$Method" "wireName" "Ljava/lang/String;" (.ref w_KS)) (X_KS : Exa Z Z.heap w_KS "java/lang/String") (I_KS_coder : Fld Z Z.heap w_KS "java/lang/String" "coder" "B" (.int (0 : Int32))) (w_KB : Addr) (k_KB : ClassId) (F_KB : Fld Z Z.heap w_KS "java/lang/String" "value" "[B" (.ref w_KB)) (V_KB : Arv Z Z.heap w_KB k_KB .byte (13 : Int32) [(.int (99 : Int32)), (.int (114 : Int32)), (.int (101 : Int32)), (.int (97 : Int32)), (.int (116 : Int32)), (.int (105 : Int32)), (.int (111 : Int32)), (.int (110 : Int32)), (.int (95 : Int32)), (.int (100 : Int32)), (.int (97 : Int32)), (.int (116 : Int32)), (.int (101 : Int32))] (.int (0 : Int32))) (w_OE : Addr) (S_OE : Sta Z Z.heap "java/util/Optional" "EMPTY" "Ljava/util/Optional;" (.ref w_OE)) (X_OE : Exa Z Z.heap w_OE "java/util/Optional") (I_OE_value : Fld Z Z.heap w_OE "java/util/Optional" "value" "Ljava/lang/Object;" .null) (g_CS : Int32) (S_CS : Sta Z Z.heap "java/lang/String" "COMPACT_STRINGS" "Z" (.int g_CS)) (nz_CS : ¬ (g_CS = (0 : Int32))) (g_SF : Value) (S_SF : Sta Z Z.heap "jdk/internal/util/Preconditions" "SIOOBE_FORMATTER" "Ljava/util/function/BiFunction;" g_SF) (r_SF : g_SF.isRef = true) (p0 : Addr) (p1 : Addr) (h0 : Heap) (n0 : Nat) (X00 : Old Z n0 h0) (hp0 : Exa Z h0 p0 "java/util/Optional") (hp1 : Fld Z h0 p0 "java/util/Optional" "value" "Ljava/lang/Object;" .null) (hp2 : n0 ≤ p0) :
    MetFree l (⟨"java/util/Optional", "<init>", "(Ljava/lang/Object;)V"⟩ : MethodName) (head1 (Jvm.Cond.code (⟨"java/util/Optional", "<init>", "(Ljava/lang/Object;)V"⟩ : MethodName) jdk_32_method_2_code 2 none :: ws) ({ frames := 1, cells := 0, slots := 0, locals := 12 } : Room)) (fun a U => a = #[(.ref p0), (.ref p1)] ∧ Z.Warmed39 U.vm ∧ U.heap = h0) (fun _ _ _ _ _ => True) (fun _ U o U' => ∃ v L, o = .returned v ∧ Q_rm_oin Z w_N w_K w_V k_V w_NS w_NB k_NB w_KS w_KB k_KB w_OE g_CS g_SF p0 p1 h0 n0 v U'.heap L ∧ FrameEnd U o U' L ({ frames := 1, cells := 0, slots := 0, locals := 12 } : Room).cells ({ frames := 1, cells := 0, slots := 0, locals := 12 } : Room).slots) := by
  refine MetFree.of_bodySF (plainFor_of_name own_pn2) hisR ?_
  intro p e s m args below meth c s₁ Bd hml0 hP hK
  obtain ⟨rfl, hZ, hh⟩ := hP
  have hx := Bd.exec
  have hby := Bd.bytes
  have hml : c.maxLocals = 2 := hml0
  have hown : s.vm.findClass "java/util/Optional" = some m.cls := findClass_of_methodNamed Bd.named
  have hnm := (name_of_methodNamed Bd.named Bd.method).1
  have X0 : Stand p l e ({ frames := 1, cells := 0, slots := 0, locals := 12 } : Room) s m #[(.ref p0), (.ref p1)] below meth c s₁ [] 0 0 := Stand.of_body Bd
  have e0 : s₁.heap = h0 := by rw [← hh, Bd.state]; rfl
  have N0 := Fr.nil n0
  refine Go.start fun P hPend => ?_
  refine Go.st (fun _ k => castTop (own_ef_rm_oin m p0 p1) k) ?_
  show Go p.tables e below P (s₁.setTop (mkF m 0 #[lR p0, lR p1] []))
  refine Go.st (fun _ => XS.aloadN X0.here hx rfl (hb hby own_d_jdk_32_method_2_code_0) rfl rfl) ?_
  show Go p.tables e below P (s₁.setTop (mkF m 1 #[lR p0, lR p1] [(.ref p0)]))
  obtain ⟨T1, X1, e1, st1⟩ := initO X0 hx hZ hown (ow hw 134 rfl) (ow hw 103 rfl) (ow hw 104 rfl) e0 (g := (mkF m 1 #[.val (.ref p0), .val (.ref p1)] [(.ref p0)])) rfl (by rw [hml]; rfl) rfl (hb hby own_d_jdk_32_method_2_code_1) (by decide) (W := 0) (by show 2 * 0 + _ ≤ _; exact Nat.le_of_eq rfl) (by decide)
  refine Go.st st1 ?_
  show Go p.tables e below P (T1.setTop (mkF m 4 #[lR p0, lR p1] []))
  refine Go.st (fun _ => XS.aloadN X1.here hx rfl (hb hby own_d_jdk_32_method_2_code_4) rfl rfl) ?_
  show Go p.tables e below P (T1.setTop (mkF m 5 #[lR p0, lR p1] [(.ref p0)]))
  refine Go.st (fun _ => XS.aloadN X1.here hx rfl (hb hby own_d_jdk_32_method_2_code_5) rfl rfl) ?_
  show Go p.tables e below P (T1.setTop (mkF m 6 #[lR p0, lR p1] [(.ref p1), (.ref p0)]))
  obtain ⟨T2, h2, X2, e2, W2, st2⟩ := putF X1 hx hZ hown (host := "") (Or.inl (ow hw 91 rfl)) Via.refl e1 hp1 hp0 (Or.inr ⟨(ow hw 92 rfl), rfl, hnm⟩) (ow hw 125 rfl) (ty := (.object "java/lang/Object")) (by decide) rfl rfl (g := (mkF m 6 #[.val (.ref p0), .val (.ref p1)] [(.ref p1), (.ref p0)])) rfl rfl (hb hby own_d_jdk_32_method_2_code_6)
  refine Go.st st2 ?_
  have K2 : Keep h0 h2 [p0] := (Keep.refl h0 [p0]).wr W2 (Or.inl (List.mem_of_getElem? (i := 0) rfl))
  have O2 := X00.wr W2 hp2
  have N2 := Fr.snoc X2 N0 hp2
  have F2 := hp1.same W2
  show Go p.tables e below P (T2.setTop (mkF m 9 #[lR p0, lR p1] []))
  obtain ⟨fs, hr, hrun, hended, hW, hsame⟩ := X2.leave (v := none) (fun _ => rfl)
  refine ⟨_, ?_, hPend _ _ hrun hended ⟨_, _, rfl, ?_, ⟨_, rfl⟩, hW, hsame.mono (by decide) (by decide)⟩⟩
  · exact X2.returnOut hx Bd.returns (hb hby own_d_jdk_32_method_2_code_9) hr
  · show Q_rm_oin Z _ _ _ _ _ _ _ _ _ _ _ _ _ _ _ h0 n0 _ T2.heap _
    rw [e2]
    have c3 := (hp0.wr W2)
    exact ⟨rfl, N2, K2, c3, F2⟩
theorem own_ef_rm_oof (m : MethodId) (x0 : Addr) : entryFrame m #[(.ref x0)] 1 = mkF m 0 #[.val (.ref x0)] [] := by first | (simp [entryFrame, mkF, argsToLocals, Value.category]; done) | rfl
theorem own_d_jdk_32_method_3_code_0 : decode jdk_32_method_3_code 0 = .ok (.new 2, 3) := by decide +kernel
theorem own_d_jdk_32_method_3_code_3 : decode jdk_32_method_3_code 3 = .ok (.dup, 1) := by decide +kernel
theorem own_d_jdk_32_method_3_code_4 : decode jdk_32_method_3_code 4 = .ok (.aload_n 0, 1) := by decide +kernel
theorem own_d_jdk_32_method_3_code_5 : decode jdk_32_method_3_code 5 = .ok (.invokestatic 17, 3) := by decide +kernel
theorem own_pd1 : parseMethodDescriptor "(Ljava/lang/Object;)Ljava/lang/Object;" = some ⟨[(.object "java/lang/Object")], some (.object "java/lang/Object")⟩ := by decide +kernel
theorem own_d_jdk_32_method_3_code_8 : decode jdk_32_method_3_code 8 = .ok (.invokespecial 23, 3) := by decide +kernel
theorem own_pd2 : parseMethodDescriptor "(Ljava/lang/Object;)V" = some ⟨[(.object "java/lang/Object")], none⟩ := by decide +kernel
theorem own_d_jdk_32_method_3_code_11 : decode jdk_32_method_3_code 11 = .ok (.areturn, 1) := by decide +kernel
def Q_rm_oof (Z : State) (w_N : Addr) (w_K : Addr) (w_V : Addr) (k_V : ClassId) (w_NS : Addr) (w_NB : Addr) (k_NB : ClassId) (w_KS : Addr) (w_KB : Addr) (k_KB : ClassId) (w_OE : Addr) (g_CS : Int32) (g_SF : Value) (p0 : Addr) (h0 : Heap) (n0 : Nat) (v : Option Value) (h : Heap) (L : List Loc) : Prop := ∃ (ob : Addr), v = some (.ref ob) ∧ Fr n0 L ∧ Keep h0 h [] ∧ h0.size ≤ ob ∧ Exa Z h ob "java/util/Optional" ∧ Fld Z h ob "java/util/Optional" "value" "Ljava/lang/Object;" (.ref p0)
set_option maxRecDepth 65536 in
set_option maxHeartbeats 40000000 in
theorem rm_oof (l : Launch) (Z : State) (a0 : Array Value) (hw : ∀ d ∈ tables_1, d.before a0 Z = true) (ws : List Jvm.Cond) (w_N : Addr) (S_N : Sta Z Z.heap "com/example/vacuum/vacuum/model/PrunePolicy$Method" "NUMBER_OF_TAGS" "Lcom/example/vacuum/vacuum/model/PrunePolicy$Method;" (.ref w_N)) (X_N : Exa Z Z.heap w_N "com/example/vacuum/vacuum/model/PrunePolicy$Method") (w_K : Addr) (S_K : Sta Z Z.heap "com/example/vacuum/vacuum/model/PrunePolicy$Method" "CREATION_DATE" "Lcom/example/vacuum/vacuum/model/PrunePolicy$Method;" (.ref w_K)) (X_K : Exa Z Z.heap w_K "com/example/vacuum/vacuum/model/PrunePolicy$Method") (w_V : Addr) (k_V : ClassId) (S_V : Sta Z Z.heap "com/example/vacuum/vacuum/model/PrunePolicy$Method" "$VALUES" "[Lcom/example/vacuum/vacuum/model/PrunePolicy$Method;" (.ref w_V)) (X_V : Exa Z Z.heap w_V "[Lcom/example/vacuum/vacuum/model/PrunePolicy$Method;") (V_V : Arv Z Z.heap w_V k_V (.object "com/example/vacuum/vacuum/model/PrunePolicy$Method") (2 : Int32) [(.ref w_N), (.ref w_K)] .null) (w_NS : Addr) (F_NS : Fld Z Z.heap w_N "com/example/vacuum/vacuum/model/PrunePolicy$Method" "wireName" "Ljava/lang/String;" (.ref w_NS)) (X_NS : Exa Z Z.heap w_NS "java/lang/String") (I_NS_coder : Fld Z Z.heap w_NS "java/lang/String" "coder" "B" (.int (0 : Int32))) (w_NB : Addr) (k_NB : ClassId) (F_NB : Fld Z Z.heap w_NS "java/lang/String" "value" "[B" (.ref w_NB)) (V_NB : Arv Z Z.heap w_NB k_NB .byte (14 : Int32) [(.int (110 : Int32)), (.int (117 : Int32)), (.int (109 : Int32)), (.int (98 : Int32)), (.int (101 : Int32)), (.int (114 : Int32)), (.int (95 : Int32)), (.int (111 : Int32)), (.int (102 : Int32)), (.int (95 : Int32)), (.int (116 : Int32)), (.int (97 : Int32)), (.int (103 : Int32)), (.int (115 : Int32))] (.int (0 : Int32))) (w_KS : Addr) (F_KS : Fld Z Z.heap w_K "com/example/vacuum/vacuum/model/PrunePolicy$Method" "wireName" "Ljava/lang/String;" (.ref w_KS)) (X_KS : Exa Z Z.heap w_KS "java/lang/String") (I_KS_coder : Fld Z Z.heap w_KS "java/lang/String" "coder" "B" (.int (0 : Int32))) (w_KB : Addr) (k_KB : ClassId) (F_KB : Fld Z Z.heap w_KS "java/lang/String" "value" "[B" (.ref w_KB)) (V_KB : Arv Z Z.heap w_KB k_KB .byte (13 : Int32) [(.int (99 : Int32)), (.int (114 : Int32)), (.int (101 : Int32)), (.int (97 : Int32)), (.int (116 : Int32)), (.int (105 : Int32)), (.int (111 : Int32)), (.int (110 : Int32)), (.int (95 : Int32)), (.int (100 : Int32)), (.int (97 : Int32)), (.int (116 : Int32)), (.int (101 : Int32))] (.int (0 : Int32))) (w_OE : Addr) (S_OE : Sta Z Z.heap "java/util/Optional" "EMPTY" "Ljava/util/Optional;" (.ref w_OE)) (X_OE : Exa Z Z.heap w_OE "java/util/Optional") (I_OE_value : Fld Z Z.heap w_OE "java/util/Optional" "value" "Ljava/lang/Object;" .null) (g_CS : Int32) (S_CS : Sta Z Z.heap "java/lang/String" "COMPACT_STRINGS" "Z" (.int g_CS)) (nz_CS : ¬ (g_CS = (0 : Int32))) (g_SF : Value) (S_SF : Sta Z Z.heap "jdk/internal/util/Preconditions" "SIOOBE_FORMATTER" "Ljava/util/function/BiFunction;" g_SF) (r_SF : g_SF.isRef = true) (p0 : Addr) (h0 : Heap) (n0 : Nat) (X00 : Old Z n0 h0)  :
    MetFree l (⟨"java/util/Optional", "of", "(Ljava/lang/Object;)Ljava/util/Optional;"⟩ : MethodName) (head1 (Jvm.Cond.code (⟨"java/util/Optional", "of", "(Ljava/lang/Object;)Ljava/util/Optional;"⟩ : MethodName) jdk_32_method_3_code 1 (some (.object "java/util/Optional")) :: ws) ({ frames := 2, cells := 1, slots := 1, locals := 26 } : Room)) (fun a U => a = #[(.ref p0)] ∧ Z.Warmed39 U.vm ∧ U.heap = h0) (fun _ _ _ _ _ => True) (fun _ U o U' => ∃ v L, o = .returned v ∧ Q_rm_oof Z w_N w_K w_V k_V w_NS w_NB k_NB w_KS w_KB k_KB w_OE g_CS g_SF p0 h0 n0 v U'.heap L ∧ FrameEnd U o U' L ({ frames := 2, cells := 1, slots := 1, locals := 26 } : Room).cells ({ frames := 2, cells := 1, slots := 1, locals := 26 } : Room).slots) := by
  refine MetFree.of_bodySF (plainFor_of_name own_pn2) hisR ?_
  intro p e s m args below meth c s₁ Bd hml0 hP hK
  obtain ⟨rfl, hZ, hh⟩ := hP
  have hx := Bd.exec
  have hby := Bd.bytes
  have hml : c.maxLocals = 1 := hml0
  have hown : s.vm.findClass "java/util/Optional" = some m.cls := findClass_of_methodNamed Bd.named
  have hnm := (name_of_methodNamed Bd.named Bd.method).1
  have X0 : Stand p l e ({ frames := 2, cells := 1, slots := 1, locals := 26 } : Room) s m #[(.ref p0)] below meth c s₁ [] 0 0 := Stand.of_body Bd
  have e0 : s₁.heap = h0 := by rw [← hh, Bd.state]; rfl
  have N0 := Fr.nil n0
  refine Go.start fun P hPend => ?_
  refine Go.st (fun _ k => castTop (own_ef_rm_oof m p0) k) ?_
  show Go p.tables e below P (s₁.setTop (mkF m 0 #[lR p0] []))
  obtain ⟨T1, h1, X1, e1, E1, A1, D1, -, st1⟩ := newO X0 hx hZ hown (ow hw 124 rfl) (ow hw 125 rfl) (ow hw 81 rfl) e0 (g := (mkF m 0 #[.val (.ref p0)] [])) rfl (hb hby own_d_jdk_32_method_3_code_0) (by decide) (by decide)
  obtain ⟨b1, g1⟩ : ∃ z, z = h0.size := ⟨_, rfl⟩
  rw [← g1] at A1 D1 st1
  refine Go.st st1 ?_
  have g_b1 : n0 ≤ b1 := Nat.le_trans (own_oldsz X00) (Nat.le_of_eq g1.symm)
  have sz_b1 : h0.size ≤ b1 := Nat.le_trans (Keep.refl h0 []).1 (Nat.le_of_eq g1.symm)
  have K1 : Keep h0 h1 [] := (Keep.refl h0 []).ext E1
  have O1 := X00.ext E1
  have F2 : Fld Z h1 b1 "java/util/Optional" "value" "Ljava/lang/Object;" .null := D1 (Or.inr (ow hw 92 rfl)) (ty := (.object "java/lang/Object")) (by decide)
  show Go p.tables e below P (T1.setTop (mkF m 3 #[lR p0] [(.ref b1)]))
  refine Go.st (fun _ => XS.dup X1.here hx rfl (hb hby own_d_jdk_32_method_3_code_3) rfl rfl) ?_
  show Go p.tables e below P (T1.setTop (mkF m 4 #[lR p0] [(.ref b1), (.ref b1)]))
  refine Go.st (fun _ => XS.aloadN X1.here hx rfl (hb hby own_d_jdk_32_method_3_code_4) rfl rfl) ?_
  show Go p.tables e below P (T1.setTop (mkF m 5 #[lR p0] [(.ref p0), (.ref b1), (.ref b1)]))
  obtain ⟨_, _, ⟨T3, L3, k3, n3⟩, -, X3, ⟨Lc3, hQ3, l3, y3, z3⟩, st3⟩ := Jvm.LawKit.callS X1 hx (y := (⟨"java/util/Objects", "requireNonNull", "(Ljava/lang/Object;)Ljava/lang/Object;"⟩ : MethodName)) hown (mvT hZ (ow hw 126 rfl)) (mvT hZ (ow hw 127 rfl)) (mvT hZ (ow hw 128 rfl)) (mvT hZ (ow hw 129 rfl)) (by decide) (backOf (W := 2) (rm_rn1 l Z a0 hw [] w_N S_N X_N w_K S_K X_K w_V k_V S_V X_V V_V w_NS F_NS X_NS I_NS_coder w_NB k_NB F_NB V_NB w_KS F_KS X_KS I_KS_coder w_KB k_KB F_KB V_KB w_OE S_OE X_OE I_OE_value g_CS S_CS nz_CS g_SF S_SF r_SF p0 h1 n0 O1 ) hZ (ow hw 129 rfl) (ow hw 128 rfl) (by decide) (by decide)) (g := (mkF m 5 #[.val (.ref p0)] [(.ref p0), (.ref b1), (.ref b1)])) rfl (by rw [hml]; rfl) (argsL := [(.ref p0)]) (rest := [(.ref b1), (.ref b1)]) (lenOf own_pd1 rfl) rfl (by show 2 * 0 + _ ≤ _; exact Nat.le_of_eq rfl) (hb hby own_d_jdk_32_method_3_code_5) (fun _ _ => ⟨rfl, e1, (by decide : 1 + 0 ≤ _), (by decide : 1 + 0 ≤ _)⟩)
  dsimp only [Pt.U, Pt.locs, Pt.cells, Pt.slots] at X3 l3 y3 z3 st3 hQ3
  subst y3 z3
  refine Go.st st3 ?_
  obtain ⟨rfl, N3q, e3⟩ := hQ3
  have N3 : Fr n0 L3 := by rw [l3]; exact Fr.app N0 N3q
  show Go p.tables e below P (T3.setTop (mkF m 8 #[lR p0] [(.ref p0), (.ref b1), (.ref b1)]))
  obtain ⟨_, _, ⟨T4, L4, k4, n4⟩, -, X4, ⟨Lc4, hQ4, l4, y4, z4⟩, st4⟩ := X3.specialBack hx (y := (⟨"java/util/Optional", "<init>", "(Ljava/lang/Object;)V"⟩ : MethodName)) rfl hown (mvT hZ (ow hw 130 rfl)) (mvT hZ (ow hw 131 rfl)) (mvT hZ (ow hw 133 rfl)) (by decide) (backOf (W := 1) (rm_oin l Z a0 hw [] w_N S_N X_N w_K S_K X_K w_V k_V S_V X_V V_V w_NS F_NS X_NS I_NS_coder w_NB k_NB F_NB V_NB w_KS F_KS X_KS I_KS_coder w_KB k_KB F_KB V_KB w_OE S_OE X_OE I_OE_value g_CS S_CS nz_CS g_SF S_SF r_SF b1 p0 h1 n0 O1 A1 F2 g_b1) hZ (ow hw 133 rfl) (ow hw 81 rfl) (by decide) (by decide)) (g := (mkF m 8 #[.val (.ref p0)] [(.ref p0), (.ref b1), (.ref b1)])) rfl (by rw [hml]; rfl) (Steps.refl _) (a := b1) (argsL := [(.ref p0)]) (rest := [(.ref b1)]) (lenOf own_pd2 rfl) rfl (by show 2 * 0 + _ ≤ _; exact Nat.le_of_eq rfl) (hb hby own_d_jdk_32_method_3_code_8) (fun _ _ => ⟨rfl, e3, (by decide : 1 + 0 ≤ _), (by decide : 1 + 0 ≤ _)⟩)
  dsimp only [Pt.U, Pt.locs, Pt.cells, Pt.slots] at X4 l4 y4 z4 st4 hQ4
  subst y4 z4
  refine Go.tr st4 ?_
  obtain ⟨rfl, N4q, K4q, q4_0, q4_1⟩ := hQ4
  have N4 : Fr n0 L4 := by rw [l4]; exact Fr.app N3 N4q
  have O4 := O1.keep K4q (allS g_b1 all0)
  have K4 : Keep h0 T4.heap [] := K1.trans K4q (allS (Or.inr sz_b1) all0)
  show Go p.tables e below P (T4.setTop (mkF m 11 #[lR p0] [(.ref b1)]))
  obtain ⟨fs, hr, hrun, hended, hW, hsame⟩ := X4.leave (v := some (.ref b1)) (fun h => by rw [Bd.returns] at h; cases h)
  refine ⟨_, ?_, hPend _ _ hrun hended ⟨_, _, rfl, ?_, ⟨_, rfl⟩, hW, hsame.mono (by decide) (by decide)⟩⟩
  · exact retOut X4 hx (t := (.object "java/util/Optional")) Bd.returns rfl (Or.inr (Or.inr (Or.inr (Or.inr ⟨rfl, rfl, rfl⟩)))) (hb hby own_d_jdk_32_method_3_code_11) hr
  · show Q_rm_oof Z _ _ _ _ _ _ _ _ _ _ _ _ _ _ h0 n0 _ T4.heap _
    exact ⟨b1, rfl, N4, K4, sz_b1, q4_0, q4_1⟩
theorem own_ef_rm_oem (m : MethodId)  : entryFrame m #[] 1 = mkF m 0 #[.unset] [] := by first | (simp [entryFrame, mkF, argsToLocals, Value.category]; done) | rfl
theorem own_d_jdk_32_method_1_code_0 : decode jdk_32_method_1_code 0 = .ok (.getstatic 1, 3) := by decide +kernel
theorem own_d_jdk_32_method_1_code_3 : decode jdk_32_method_1_code 3 = .ok (.astore_n 0, 1) := by decide +kernel
theorem own_d_jdk_32_method_1_code_4 : decode jdk_32_method_1_code 4 = .ok (.aload_n 0, 1) := by decide +kernel
theorem own_d_jdk_32_method_1_code_5 : decode jdk_32_method_1_code 5 = .ok (.areturn, 1) := by decide +kernel
def Q_rm_oem (Z : State) (w_N : Addr) (w_K : Addr) (w_V : Addr) (k_V : ClassId) (w_NS : Addr) (w_NB : Addr) (k_NB : ClassId) (w_KS : Addr) (w_KB : Addr) (k_KB : ClassId) (w_OE : Addr) (g_CS : Int32) (g_SF : Value) (h0 : Heap) (n0 : Nat) (v : Option Value) (h : Heap) (L : List Loc) : Prop := v = some (.ref w_OE) ∧ Fr n0 L ∧ h = h0
set_option maxRecDepth 65536 in
set_option maxHeartbeats 40000000 in
theorem rm_oem (l : Launch) (Z : State) (a0 : Array Value) (hw : ∀ d ∈ tables_1, d.before a0 Z = true) (ws : List Jvm.Cond) (w_N : Addr) (S_N : Sta Z Z.heap "com/example/vacuum/vacuum/model/PrunePolicy$Method" "NUMBER_OF_TAGS" "Lcom/example/vacuum/vacuum/model/PrunePolicy$Method;" (.ref w_N)) (X_N : Exa Z Z.heap w_N "com/example/vacuum/vacuum/model/PrunePolicy$Method") (w_K : Addr) (S_K : Sta Z Z.heap "com/example/vacuum/vacuum/model/PrunePolicy$Method" "CREATION_DATE" "Lcom/example/vacuum/vacuum/model/PrunePolicy$Method;" (.ref w_K)) (X_K : Exa Z Z.heap w_K "com/example/vacuum/vacuum/model/PrunePolicy$Method") (w_V : Addr) (k_V : ClassId) (S_V : Sta Z Z.heap "com/example/vacuum/vacuum/model/PrunePolicy$Method" "$VALUES" "[Lcom/example/vacuum/vacuum/model/PrunePolicy$Method;" (.ref w_V)) (X_V : Exa Z Z.heap w_V "[Lcom/example/vacuum/vacuum/model/PrunePolicy$Method;") (V_V : Arv Z Z.heap w_V k_V (.object "com/example/vacuum/vacuum/model/PrunePolicy$Method") (2 : Int32) [(.ref w_N), (.ref w_K)] .null) (w_NS : Addr) (F_NS : Fld Z Z.heap w_N "com/example/vacuum/vacuum/model/PrunePolicy$Method" "wireName" "Ljava/lang/String;" (.ref w_NS)) (X_NS : Exa Z Z.heap w_NS "java/lang/String") (I_NS_coder : Fld Z Z.heap w_NS "java/lang/String" "coder" "B" (.int (0 : Int32))) (w_NB : Addr) (k_NB : ClassId) (F_NB : Fld Z Z.heap w_NS "java/lang/String" "value" "[B" (.ref w_NB)) (V_NB : Arv Z Z.heap w_NB k_NB .byte (14 : Int32) [(.int (110 : Int32)), (.int (117 : Int32)), (.int (109 : Int32)), (.int (98 : Int32)), (.int (101 : Int32)), (.int (114 : Int32)), (.int (95 : Int32)), (.int (111 : Int32)), (.int (102 : Int32)), (.int (95 : Int32)), (.int (116 : Int32)), (.int (97 : Int32)), (.int (103 : Int32)), (.int (115 : Int32))] (.int (0 : Int32))) (w_KS : Addr) (F_KS : Fld Z Z.heap w_K "com/example/vacuum/vacuum/model/PrunePolicy$Method" "wireName" "Ljava/lang/String;" (.ref w_KS)) (X_KS : Exa Z Z.heap w_KS "java/lang/String") (I_KS_coder : Fld Z Z.heap w_KS "java/lang/String" "coder" "B" (.int (0 : Int32))) (w_KB : Addr) (k_KB : ClassId) (F_KB : Fld Z Z.heap w_KS "java/lang/String" "value" "[B" (.ref w_KB)) (V_KB : Arv Z Z.heap w_KB k_KB .byte (13 : Int32) [(.int (99 : Int32)), (.int (114 : Int32)), (.int (101 : Int32)), (.int (97 : Int32)), (.int (116 : Int32)), (.int (105 : Int32)), (.int (111 : Int32)), (.int (110 : Int32)), (.int (95 : Int32)), (.int (100 : Int32)), (.int (97 : Int32)), (.int (116 : Int32)), (.int (101 : Int32))] (.int (0 : Int32))) (w_OE : Addr) (S_OE : Sta Z Z.heap "java/util/Optional" "EMPTY" "Ljava/util/Optional;" (.ref w_OE)) (X_OE : Exa Z Z.heap w_OE "java/util/Optional") (I_OE_value : Fld Z Z.heap w_OE "java/util/Optional" "value" "Ljava/lang/Object;" .null) (g_CS : Int32) (S_CS : Sta Z Z.heap "java/lang/String" "COMPACT_STRINGS" "Z" (.int g_CS)) (nz_CS : ¬ (g_CS = (0 : Int32))) (g_SF : Value) (S_SF : Sta Z Z.heap "jdk/internal/util/Preconditions" "SIOOBE_FORMATTER" "Ljava/util/function/BiFunction;" g_SF) (r_SF : g_SF.isRef = true) (h0 : Heap) (n0 : Nat) (X00 : Old Z n0 h0)  :
    MetFree l (⟨"java/util/Optional", "empty", "()Ljava/util/Optional;"⟩ : MethodName) (head1 (Jvm.Cond.code (⟨"java/util/Optional", "empty", "()Ljava/util/Optional;"⟩ : MethodName) jdk_32_method_1_code 1 (some (.object "java/util/Optional")) :: ws) ({ frames := 0, cells := 0, slots := 0, locals := 0 } : Room)) (fun a U => a = #[] ∧ Z.Warmed39 U.vm ∧ U.heap = h0) (fun _ _ _ _ _ => True) (fun _ U o U' => ∃ v L, o = .returned v ∧ Q_rm_oem Z w_N w_K w_V k_V w_NS w_NB k_NB w_KS w_KB k_KB w_OE g_CS g_SF h0 n0 v U'.heap L ∧ FrameEnd U o U' L ({ frames := 0, cells := 0, slots := 0, locals := 0 } : Room).cells ({ frames := 0, cells := 0, slots := 0, locals := 0 } : Room).slots) := by
  refine MetFree.of_bodySF (plainFor_of_name own_pn2) hisR ?_
  intro p e s m args below meth c s₁ Bd hml0 hP hK
  obtain ⟨rfl, hZ, hh⟩ := hP
  have hx := Bd.exec
  have hby := Bd.bytes
  have hml : c.maxLocals = 1 := hml0
  have hown : s.vm.findClass "java/util/Optional" = some m.cls := findClass_of_methodNamed Bd.named
  have hnm := (name_of_methodNamed Bd.named Bd.method).1
  have X0 : Stand p l e ({ frames := 0, cells := 0, slots := 0, locals := 0 } : Room) s m #[] below meth c s₁ [] 0 0 := Stand.of_body Bd
  have e0 : s₁.heap = h0 := by rw [← hh, Bd.state]; rfl
  have N0 := Fr.nil n0
  refine Go.start fun P hPend => ?_
  refine Go.st (fun _ k => castTop (own_ef_rm_oem m ) k) ?_
  show Go p.tables e below P (s₁.setTop (mkF m 0 #[lU] []))
  obtain ⟨T1, X1, e1, st1⟩ := getS2 X0 hx hZ hown (host := "") (Or.inl (ow hw 83 rfl)) Via.refl e0 (S_OE.ext X00.2) (g := (mkF m 0 #[.unset] [])) rfl (hb hby own_d_jdk_32_method_1_code_0)
  refine Go.st st1 ?_
  show Go p.tables e below P (T1.setTop (mkF m 3 #[lU] [(.ref w_OE)]))
  refine Go.st (fun _ => XS.astoreN X1.here hx rfl (hb hby own_d_jdk_32_method_1_code_3) rfl rfl (l' := #[.val (.ref w_OE)]) rfl) ?_
  show Go p.tables e below P (T1.setTop (mkF m 4 #[lR w_OE] []))
  refine Go.st (fun _ => XS.aloadN X1.here hx rfl (hb hby own_d_jdk_32_method_1_code_4) rfl rfl) ?_
  show Go p.tables e below P (T1.setTop (mkF m 5 #[lR w_OE] [(.ref w_OE)]))
  obtain ⟨fs, hr, hrun, hended, hW, hsame⟩ := X1.leave (v := some (.ref w_OE)) (fun h => by rw [Bd.returns] at h; cases h)
  refine ⟨_, ?_, hPend _ _ hrun hended ⟨_, _, rfl, ?_, ⟨_, rfl⟩, hW, hsame.mono (by decide) (by decide)⟩⟩
  · exact retOut X1 hx (t := (.object "java/util/Optional")) Bd.returns rfl (Or.inr (Or.inr (Or.inr (Or.inr ⟨rfl, rfl, rfl⟩)))) (hb hby own_d_jdk_32_method_1_code_5) hr
  · show Q_rm_oem Z _ _ _ _ _ _ _ _ _ _ _ _ _ h0 n0 _ T1.heap _
    rw [e1]
    exact ⟨rfl, N0, rfl⟩
theorem own_ef_rm_eqn (m : MethodId) (x0 : Addr) : entryFrame m #[(.ref x0), .null] 3 = mkF m 0 #[.val (.ref x0), .val .null, .unset] [] := by first | (simp [entryFrame, mkF, argsToLocals, Value.category]; done) | rfl
theorem own_d_jdk_42_method_66_code_0 : decode jdk_42_method_66_code 0 = .ok (.aload_n 0, 1) := by decide +kernel
theorem own_d_jdk_42_method_66_code_1 : decode jdk_42_method_66_code 1 = .ok (.aload_n 1, 1) := by decide +kernel
theorem own_d_jdk_42_method_66_code_2 : decode jdk_42_method_66_code 2 = .ok (.if_acmp .ne 5, 3) := by decide +kernel
theorem own_d_jdk_42_method_66_code_7 : decode jdk_42_method_66_code 7 = .ok (.aload_n 1, 1) := by decide +kernel
theorem own_d_jdk_42_method_66_code_8 : decode jdk_42_method_66_code 8 = .ok (.instanceof 10, 3) := by decide +kernel
theorem own_d_jdk_42_method_66_code_11 : decode jdk_42_method_66_code 11 = .ok (.ifCond .eq 43, 3) := by decide +kernel
theorem own_d_jdk_42_method_66_code_54 : decode jdk_42_method_66_code 54 = .ok (.iconst 0, 1) := by decide +kernel
theorem own_d_jdk_42_method_66_code_55 : decode jdk_42_method_66_code 55 = .ok (.ireturn, 1) := by decide +kernel
def Q_rm_eqn (Z : State) (w_N : Addr) (w_K : Addr) (w_V : Addr) (k_V : ClassId) (w_NS : Addr) (w_NB : Addr) (k_NB : ClassId) (w_KS : Addr) (w_KB : Addr) (k_KB : ClassId) (w_OE : Addr) (g_CS : Int32) (g_SF : Value) (p0 : Addr) (h0 : Heap) (n0 : Nat) (v : Option Value) (h : Heap) (L : List Loc) : Prop := v = some (.int (0 : Int32)) ∧ Fr n0 L ∧ h = h0
set_option maxRecDepth 65536 in
set_option maxHeartbeats 40000000 in
theorem rm_eqn (l : Launch) (Z : State) (a0 : Array Value) (hw : ∀ d ∈ tables_1, d.before a0 Z = true) (ws : List Jvm.Cond) (w_N : Addr) (S_N : Sta Z Z.heap "com/example/vacuum/vacuum/model/PrunePolicy$Method" "NUMBER_OF_TAGS" "Lcom/example/vacuum/vacuum/model/PrunePolicy$Method;" (.ref w_N)) (X_N : Exa Z Z.heap w_N "com/example/vacuum/vacuum/model/PrunePolicy$Method") (w_K : Addr) (S_K : Sta Z Z.heap "com/example/vacuum/vacuum/model/PrunePolicy$Method" "CREATION_DATE" "Lcom/example/vacuum/vacuum/model/PrunePolicy$Method;" (.ref w_K)) (X_K : Exa Z Z.heap w_K "com/example/vacuum/vacuum/model/PrunePolicy$Method") (w_V : Addr) (k_V : ClassId) (S_V : Sta Z Z.heap "com/example/vacuum/vacuum/model/PrunePolicy$Method" "$VALUES" "[Lcom/example/vacuum/vacuum/model/PrunePolicy$Method;" (.ref w_V)) (X_V : Exa Z Z.heap w_V "[Lcom/example/vacuum/vacuum/model/PrunePolicy$Method;") (V_V : Arv Z Z.heap w_V k_V (.object "com/example/vacuum/vacuum/model/PrunePolicy$Method") (2 : Int32) [(.ref w_N), (.ref w_K)] .null) (w_NS : Addr) (F_NS : Fld Z Z.heap w_N "com/example/vacuum/vacuum/model/PrunePolicy$Method" "wireName" "Ljava/lang/String;" (.ref w_NS)) (X_NS : Exa Z Z.heap w_NS "java/lang/String") (I_NS_coder : Fld Z Z.heap w_NS "java/lang/String" "coder" "B" (.int (0 : Int32))) (w_NB : Addr) (k_NB : ClassId) (F_NB : Fld Z Z.heap w_NS "java/lang/String" "value" "[B" (.ref w_NB)) (V_NB : Arv Z Z.heap w_NB k_NB .byte (14 : Int32) [(.int (110 : Int32)), (.int (117 : Int32)), (.int (109 : Int32)), (.int (98 : Int32)), (.int (101 : Int32)), (.int (114 : Int32)), (.int (95 : Int32)), (.int (111 : Int32)), (.int (102 : Int32)), (.int (95 : Int32)), (.int (116 : Int32)), (.int (97 : Int32)), (.int (103 : Int32)), (.int (115 : Int32))] (.int (0 : Int32))) (w_KS : Addr) (F_KS : Fld Z Z.heap w_K "com/example/vacuum/vacuum/model/PrunePolicy$Method" "wireName" "Ljava/lang/String;" (.ref w_KS)) (X_KS : Exa Z Z.heap w_KS "java/lang/String") (I_KS_coder : Fld Z Z.heap w_KS "java/lang/String" "coder" "B" (.int (0 : Int32))) (w_KB : Addr) (k_KB : ClassId) (F_KB : Fld Z Z.heap w_KS "java/lang/String" "value" "[B" (.ref w_KB)) (V_KB : Arv Z Z.heap w_KB k_KB .byte (13 : Int32) [(.int (99 : Int32)), (.int (114 : Int32)), (.int (101 : Int32)), (.int (97 : Int32)), (.int (116 : Int32)), (.int (105 : Int32)), (.int (111 : Int32)), (.int (110 : Int32)), (.int (95 : Int32)), (.int (100 : Int32)), (.int (97 : Int32)), (.int (116 : Int32)), (.int (101 : Int32))] (.int (0 : Int32))) (w_OE : Addr) (S_OE : Sta Z Z.heap "java/util/Optional" "EMPTY" "Ljava/util/Optional;" (.ref w_OE)) (X_OE : Exa Z Z.heap w_OE "java/util/Optional") (I_OE_value : Fld Z Z.heap w_OE "java/util/Optional" "value" "Ljava/lang/Object;" .null) (g_CS : Int32) (S_CS : Sta Z Z.heap "java/lang/String" "COMPACT_STRINGS" "Z" (.int g_CS)) (nz_CS : ¬ (g_CS = (0 : Int32))) (g_SF : Value) (S_SF : Sta Z Z.heap "jdk/internal/util/Preconditions" "SIOOBE_FORMATTER" "Ljava/util/function/BiFunction;" g_SF) (r_SF : g_SF.isRef = true) (p0 : Addr) (h0 : Heap) (n0 : Nat) (X00 : Old Z n0 h0)  :
    MetFree l (⟨"java/lang/String", "equals", "(Ljava/lang/Object;)Z"⟩ : MethodName) (head1 (Jvm.Cond.code (⟨"java/lang/String", "equals", "(Ljava/lang/Object;)Z"⟩ : MethodName) jdk_42_method_66_code 3 (some .boolean) :: ws) ({ frames := 0, cells := 0, slots := 0, locals := 0 } : Room)) (fun a U => a = #[(.ref p0), .null] ∧ Z.Warmed39 U.vm ∧ U.heap = h0) (fun _ _ _ _ _ => True) (fun _ U o U' => ∃ v L, o = .returned v ∧ Q_rm_eqn Z w_N w_K w_V k_V w_NS w_NB k_NB w_KS w_KB k_KB w_OE g_CS g_SF p0 h0 n0 v U'.heap L ∧ FrameEnd U o U' L ({ frames := 0, cells := 0, slots := 0, locals := 0 } : Room).cells ({ frames := 0, cells := 0, slots := 0, locals := 0 } : Room).slots) := by
  refine MetFree.of_bodySF (plainFor_of_name own_pn0) hisR ?_
  intro p e s m args below meth c s₁ Bd hml0 hP hK
  obtain ⟨rfl, hZ, hh⟩ := hP
  have hx := Bd.exec
  have hby := Bd.bytes
  have hml : c.maxLocals = 3 := hml0
  have hown : s.vm.findClass "java/lang/String" = some m.cls := findClass_of_methodNamed Bd.named
  have hnm := (name_of_methodNamed Bd.named Bd.method).1
  have X0 : Stand p l e ({ frames := 0, cells := 0, slots := 0, locals := 0 } : Room) s m #[(.ref p0), .null] below meth c s₁ [] 0 0 := Stand.of_body Bd
  have e0 : s₁.heap = h0 := by rw [← hh, Bd.state]; rfl
  have N0 := Fr.nil n0
  refine Go.start fun P hPend => ?_
  refine Go.st (fun _ k => castTop (own_ef_rm_eqn m p0) k) ?_
  show Go p.tables e below P (s₁.setTop (mkF m 0 #[lR p0, lN, lU] []))
  refine Go.st (fun _ => XS.aloadN X0.here hx rfl (hb hby own_d_jdk_42_method_66_code_0) rfl rfl) ?_
  show Go p.tables e below P (s₁.setTop (mkF m 1 #[lR p0, lN, lU] [(.ref p0)]))
  refine Go.st (fun _ => XS.aloadN X0.here hx rfl (hb hby own_d_jdk_42_method_66_code_1) rfl rfl) ?_
  show Go p.tables e below P (s₁.setTop (mkF m 2 #[lR p0, lN, lU] [.null, (.ref p0)]))
  refine Go.st (fun _ => Jvm.RoadKit.acmp (g := (mkF m 2 #[.val (.ref p0), .val .null, .unset] [.null, (.ref p0)])) X0 hx rfl rfl rfl (pc0 := 2) (pc' := 7) (same := false) rfl (hb hby own_d_jdk_42_method_66_code_2) rfl (decide_eq_false nofun) (by decide) (by decide)) ?_
  show Go p.tables e below P (s₁.setTop (mkF m 7 #[lR p0, lN, lU] []))
  refine Go.st (fun _ => XS.aloadN X0.here hx rfl (hb hby own_d_jdk_42_method_66_code_7) rfl rfl) ?_
  show Go p.tables e below P (s₁.setTop (mkF m 8 #[lR p0, lN, lU] [.null]))
  refine Go.st (fun _ => X0.instanceofNull hx (g := (mkF m 8 #[.val (.ref p0), .val .null, .unset] [.null])) rfl rfl (hb hby own_d_jdk_42_method_66_code_8) _) ?_
  show Go p.tables e below P (s₁.setTop (mkF m 11 #[lR p0, lN, lU] [(.int (0 : Int32))]))
  refine Go.st (fun _ => XS.ifYes X0.here hx rfl (pc0 := 11) (pc' := 54) rfl (hb hby own_d_jdk_42_method_66_code_11) rfl ((if0 _ _).trans (teq (by decide)).1) (by decide) (by decide)) ?_
  show Go p.tables e below P (s₁.setTop (mkF m 54 #[lR p0, lN, lU] []))
  refine Go.st (fun _ => XS.iconst X0.here hx rfl (hb hby own_d_jdk_42_method_66_code_54)) ?_
  show Go p.tables e below P (s₁.setTop (mkF m 55 #[lR p0, lN, lU] [(.int (0 : Int32))]))
  obtain ⟨fs, hr, hrun, hended, hW, hsame⟩ := X0.leave (v := some (.int (0 : Int32))) (fun h => by rw [Bd.returns] at h; cases h)
  refine ⟨_, ?_, hPend _ _ hrun hended ⟨_, _, rfl, ?_, ⟨_, rfl⟩, hW, hsame.mono (by decide) (by decide)⟩⟩
  · exact retN X0 hx (t := .boolean) Bd.returns (by simp) (hb hby own_d_jdk_42_method_66_code_55) hr
  · show Q_rm_eqn Z _ _ _ _ _ _ _ _ _ _ _ _ _ _ h0 n0 _ s₁.heap _
    rw [e0]
    exact ⟨rfl, N0, rfl⟩
theorem own_ef_rm_ore (m : MethodId) (x0 : Addr) : entryFrame m #[(.ref x0), .null] 2 = mkF m 0 #[.val (.ref x0), .val .null] [] := by first | (simp [entryFrame, mkF, argsToLocals, Value.category]; done) | rfl
theorem own_d_jdk_32_method_15_code_0 : decode jdk_32_method_15_code 0 = .ok (.aload_n 0, 1) := by decide +kernel
theorem own_d_jdk_32_method_15_code_1 : decode jdk_32_method_15_code 1 = .ok (.getfield 13, 3) := by decide +kernel
theorem own_d_jdk_32_method_15_code_4 : decode jdk_32_method_15_code 4 = .ok (.ifnull 10, 3) := by decide +kernel
theorem own_d_jdk_32_method_15_code_7 : decode jdk_32_method_15_code 7 = .ok (.aload_n 0, 1) := by decide +kernel
theorem own_d_jdk_32_method_15_code_8 : decode jdk_32_method_15_code 8 = .ok (.getfield 13, 3) := by decide +kernel
theorem own_d_jdk_32_method_15_code_11 : decode jdk_32_method_15_code 11 = .ok (.goto 4, 3) := by decide +kernel
theorem own_d_jdk_32_method_15_code_15 : decode jdk_32_method_15_code 15 = .ok (.areturn, 1) := by decide +kernel
def Q_rm_ore (Z : State) (w_N : Addr) (w_K : Addr) (w_V : Addr) (k_V : ClassId) (w_NS : Addr) (w_NB : Addr) (k_NB : ClassId) (w_KS : Addr) (w_KB : Addr) (k_KB : ClassId) (w_OE : Addr) (g_CS : Int32) (g_SF : Value) (p0 : Addr) (pv : Addr) (h0 : Heap) (n0 : Nat) (v : Option Value) (h : Heap) (L : List Loc) : Prop := v = some (.ref pv) ∧ Fr n0 L ∧ h = h0
set_option maxRecDepth 65536 in
set_option maxHeartbeats 40000000 in
theorem rm_ore (l : Launch) (Z : State) (a0 : Array Value) (hw : ∀ d ∈ tables_1, d.before a0 Z = true) (ws : List Jvm.Cond) (w_N : Addr) (S_N : Sta Z Z.heap "com/example/vacuum/vacuum/model/PrunePolicy$Method" "NUMBER_OF_TAGS" "Lcom/example/vacuum/vacuum/model/PrunePolicy$Method;" (.ref w_N)) (X_N : Exa Z Z.heap w_N "com/example/vacuum/vacuum/model/PrunePolicy$Method") (w_K : Addr) (S_K : Sta Z Z.heap "com/example/vacuum/vacuum/model/PrunePolicy$Method" "CREATION_DATE" "Lcom/example/vacuum/vacuum/model/PrunePolicy$Method;" (.ref w_K)) (X_K : Exa Z Z.heap w_K "com/example/vacuum/vacuum/model/PrunePolicy$Method") (w_V : Addr) (k_V : ClassId) (S_V : Sta Z Z.heap "com/example/vacuum/vacuum/model/PrunePolicy$Method" "$VALUES" "[Lcom/example/vacuum/vacuum/model/PrunePolicy$Method;" (.ref w_V)) (X_V : Exa Z Z.heap w_V "[Lcom/example/vacuum/vacuum/model/PrunePolicy$Method;") (V_V : Arv Z Z.heap w_V k_V (.object "com/example/vacuum/vacuum/model/PrunePolicy$Method") (2 : Int32) [(.ref w_N), (.ref w_K)] .null) (w_NS : Addr) (F_NS : Fld Z Z.heap w_N "com/example/vacuum/vacuum/model/PrunePolicy$Method" "wireName" "Ljava/lang/String;" (.ref w_NS)) (X_NS : Exa Z Z.heap w_NS "java/lang/String") (I_NS_coder : Fld Z Z.heap w_NS "java/lang/String" "coder" "B" (.int (0 : Int32))) (w_NB : Addr) (k_NB : ClassId) (F_NB : Fld Z Z.heap w_NS "java/lang/String" "value" "[B" (.ref w_NB)) (V_NB : Arv Z Z.heap w_NB k_NB .byte (14 : Int32) [(.int (110 : Int32)), (.int (117 : Int32)), (.int (109 : Int32)), (.int (98 : Int32)), (.int (101 : Int32)), (.int (114 : Int32)), (.int (95 : Int32)), (.int (111 : Int32)), (.int (102 : Int32)), (.int (95 : Int32)), (.int (116 : Int32)), (.int (97 : Int32)), (.int (103 : Int32)), (.int (115 : Int32))] (.int (0 : Int32))) (w_KS : Addr) (F_KS : Fld Z Z.heap w_K "com/example/vacuum/vacuum/model/PrunePolicy$Method" "wireName" "Ljava/lang/String;" (.ref w_KS)) (X_KS : Exa Z Z.heap w_KS "java/lang/String") (I_KS_coder : Fld Z Z.heap w_KS "java/lang/String" "coder" "B" (.int (0 : Int32))) (w_KB : Addr) (k_KB : ClassId) (F_KB : Fld Z Z.heap w_KS "java/lang/String" "value" "[B" (.ref w_KB)) (V_KB : Arv Z Z.heap w_KB k_KB .byte (13 : Int32) [(.int (99 : Int32)), (.int (114 : Int32)), (.int (101 : Int32)), (.int (97 : Int32)), (.int (116 : Int32)), (.int (105 : Int32)), (.int (111 : Int32)), (.int (110 : Int32)), (.int (95 : Int32)), (.int (100 : Int32)), (.int (97 : Int32)), (.int (116 : Int32)), (.int (101 : Int32))] (.int (0 : Int32))) (w_OE : Addr) (S_OE : Sta Z Z.heap "java/util/Optional" "EMPTY" "Ljava/util/Optional;" (.ref w_OE)) (X_OE : Exa Z Z.heap w_OE "java/util/Optional") (I_OE_value : Fld Z Z.heap w_OE "java/util/Optional" "value" "Ljava/lang/Object;" .null) (g_CS : Int32) (S_CS : Sta Z Z.heap "java/lang/String" "COMPACT_STRINGS" "Z" (.int g_CS)) (nz_CS : ¬ (g_CS = (0 : Int32))) (g_SF : Value) (S_SF : Sta Z Z.heap "jdk/internal/util/Preconditions" "SIOOBE_FORMATTER" "Ljava/util/function/BiFunction;" g_SF) (r_SF : g_SF.isRef = true) (p0 : Addr) (pv : Addr) (h0 : Heap) (n0 : Nat) (X00 : Old Z n0 h0) (hp0 : Fld Z h0 p0 "java/util/Optional" "value" "Ljava/lang/Object;" (.ref pv)) :
    MetFree l (⟨"java/util/Optional", "orElse", "(Ljava/lang/Object;)Ljava/lang/Object;"⟩ : MethodName) (head1 (Jvm.Cond.code (⟨"java/util/Optional", "orElse", "(Ljava/lang/Object;)Ljava/lang/Object;"⟩ : MethodName) jdk_32_method_15_code 2 (some (.object "java/lang/Object")) :: ws) ({ frames := 0, cells := 0, slots := 0, locals := 0 } : Room)) (fun a U => a = #[(.ref p0), .null] ∧ Z.Warmed39 U.vm ∧ U.heap = h0) (fun _ _ _ _ _ => True) (fun _ U o U' => ∃ v L, o = .returned v ∧ Q_rm_ore Z w_N w_K w_V k_V w_NS w_NB k_NB w_KS w_KB k_KB w_OE g_CS g_SF p0 pv h0 n0 v U'.heap L ∧ FrameEnd U o U' L ({ frames := 0, cells := 0, slots := 0, locals := 0 } : Room).cells ({ frames := 0, cells := 0, slots := 0, locals := 0 } : Room).slots) := by
  refine MetFree.of_bodySF (plainFor_of_name own_pn2) hisR ?_
  intro p e s m args below meth c s₁ Bd hml0 hP hK
  obtain ⟨rfl, hZ, hh⟩ := hP
  have hx := Bd.exec
  have hby := Bd.bytes
  have hml : c.maxLocals = 2 := hml0
  have hown : s.vm.findClass "java/util/Optional" = some m.cls := findClass_of_methodNamed Bd.named
  have hnm := (name_of_methodNamed Bd.named Bd.method).1
  have X0 : Stand p l e ({ frames := 0, cells := 0, slots := 0, locals := 0 } : Room) s m #[(.ref p0), .null] below meth c s₁ [] 0 0 := Stand.of_body Bd
  have e0 : s₁.heap = h0 := by rw [← hh, Bd.state]; rfl
  have N0 := Fr.nil n0
  refine Go.start fun P hPend => ?_
  refine Go.st (fun _ k => castTop (own_ef_rm_ore m p0) k) ?_
  show Go p.tables e below P (s₁.setTop (mkF m 0 #[lR p0, lN] []))
  refine Go.st (fun _ => XS.aloadN X0.here hx rfl (hb hby own_d_jdk_32_method_15_code_0) rfl rfl) ?_
  show Go p.tables e below P (s₁.setTop (mkF m 1 #[lR p0, lN] [(.ref p0)]))
  obtain ⟨T1, X1, e1, st1⟩ := getF X0 hx hZ hown (host := "") (Or.inl (ow hw 91 rfl)) Via.refl e0 hp0 (g := (mkF m 1 #[.val (.ref p0), .val .null] [(.ref p0)])) rfl rfl (hb hby own_d_jdk_32_method_15_code_1)
  refine Go.st st1 ?_
  show Go p.tables e below P (T1.setTop (mkF m 4 #[lR p0, lN] [(.ref pv)]))
  refine Go.st (fun _ => XS.ifnullNo X1.here hx rfl (hb hby own_d_jdk_32_method_15_code_4) rfl) ?_
  show Go p.tables e below P (T1.setTop (mkF m 7 #[lR p0, lN] []))
  refine Go.st (fun _ => XS.aloadN X1.here hx rfl (hb hby own_d_jdk_32_method_15_code_7) rfl rfl) ?_
  show Go p.tables e below P (T1.setTop (mkF m 8 #[lR p0, lN] [(.ref p0)]))
  obtain ⟨T2, X2, e2, st2⟩ := getF X1 hx hZ hown (host := "") (Or.inl (ow hw 91 rfl)) Via.refl e1 hp0 (g := (mkF m 8 #[.val (.ref p0), .val .null] [(.ref p0)])) rfl rfl (hb hby own_d_jdk_32_method_15_code_8)
  refine Go.st st2 ?_
  show Go p.tables e below P (T2.setTop (mkF m 11 #[lR p0, lN] [(.ref pv)]))
  refine Go.st (fun _ => XS.goto X2.here hx rfl (pc0 := 11) (pc' := 15) rfl (hb hby own_d_jdk_32_method_15_code_11) (by decide) (by decide)) ?_
  show Go p.tables e below P (T2.setTop (mkF m 15 #[lR p0, lN] [(.ref pv)]))
  obtain ⟨fs, hr, hrun, hended, hW, hsame⟩ := X2.leave (v := some (.ref pv)) (fun h => by rw [Bd.returns] at h; cases h)
  refine ⟨_, ?_, hPend _ _ hrun hended ⟨_, _, rfl, ?_, ⟨_, rfl⟩, hW, hsame.mono (by decide) (by decide)⟩⟩
  · exact retOut X2 hx (t := (.object "java/lang/Object")) Bd.returns rfl (Or.inr (Or.inr (Or.inr (Or.inr ⟨rfl, rfl, rfl⟩)))) (hb hby own_d_jdk_32_method_15_code_15) hr
  · show Q_rm_ore Z _ _ _ _ _ _ _ _ _ _ _ _ _ _ _ h0 n0 _ T2.heap _
    rw [e2]
    exact ⟨rfl, N0, rfl⟩
theorem own_ef_rm_oie (m : MethodId) (x0 : Addr) : entryFrame m #[(.ref x0)] 1 = mkF m 0 #[.val (.ref x0)] [] := by first | (simp [entryFrame, mkF, argsToLocals, Value.category]; done) | rfl
theorem own_d_jdk_32_method_7_code_0 : decode jdk_32_method_7_code 0 = .ok (.aload_n 0, 1) := by decide +kernel
theorem own_d_jdk_32_method_7_code_1 : decode jdk_32_method_7_code 1 = .ok (.getfield 13, 3) := by decide +kernel
theorem own_d_jdk_32_method_7_code_4 : decode jdk_32_method_7_code 4 = .ok (.ifnonnull 7, 3) := by decide +kernel
theorem own_d_jdk_32_method_7_code_7 : decode jdk_32_method_7_code 7 = .ok (.iconst 1, 1) := by decide +kernel
theorem own_d_jdk_32_method_7_code_8 : decode jdk_32_method_7_code 8 = .ok (.goto 4, 3) := by decide +kernel
theorem own_d_jdk_32_method_7_code_12 : decode jdk_32_method_7_code 12 = .ok (.ireturn, 1) := by decide +kernel
def Q_rm_oie (Z : State) (w_N : Addr) (w_K : Addr) (w_V : Addr) (k_V : ClassId) (w_NS : Addr) (w_NB : Addr) (k_NB : ClassId) (w_KS : Addr) (w_KB : Addr) (k_KB : ClassId) (w_OE : Addr) (g_CS : Int32) (g_SF : Value) (p0 : Addr) (h0 : Heap) (n0 : Nat) (v : Option Value) (h : Heap) (L : List Loc) : Prop := v = some (.int (1 : Int32)) ∧ Fr n0 L ∧ h = h0
set_option maxRecDepth 65536 in
set_option maxHeartbeats 40000000 in
theorem rm_oie (l : Launch) (Z : State) (a0 : Array Value) (hw : ∀ d ∈ tables_1, d.before a0 Z = true) (ws : List Jvm.Cond) (w_N : Addr) (S_N : Sta Z Z.heap "com/example/vacuum/vacuum/model/PrunePolicy$Method" "NUMBER_OF_TAGS" "Lcom/example/vacuum/vacuum/model/PrunePolicy$Method;" (.ref w_N)) (X_N : Exa Z Z.heap w_N "com/example/vacuum/vacuum/model/PrunePolicy$Method") (w_K : Addr) (S_K : Sta Z Z.heap "com/example/vacuum/vacuum/model/PrunePolicy$Method" "CREATION_DATE" "Lcom/example/vacuum/vacuum/model/PrunePolicy$Method;" (.ref w_K)) (X_K : Exa Z Z.heap w_K "com/example/vacuum/vacuum/model/PrunePolicy$Method") (w_V : Addr) (k_V : ClassId) (S_V : Sta Z Z.heap "com/example/vacuum/vacuum/model/PrunePolicy$Method" "$VALUES" "[Lcom/example/vacuum/vacuum/model/PrunePolicy$Method;" (.ref w_V)) (X_V : Exa Z Z.heap w_V "[Lcom/example/vacuum/vacuum/model/PrunePolicy$Method;") (V_V : Arv Z Z.heap w_V k_V (.object "com/example/vacuum/vacuum/model/PrunePolicy$Method") (2 : Int32) [(.ref w_N), (.ref w_K)] .null) (w_NS : Addr) (F_NS : Fld Z Z.heap w_N "com/example/vacuum/vacuum/model/PrunePolicy$Method" "wireName" "Ljava/lang/String;" (.ref w_NS)) (X_NS : Exa Z Z.heap w_NS "java/lang/String") (I_NS_coder : Fld Z Z.heap w_NS "java/lang/String" "coder" "B" (.int (0 : Int32))) (w_NB : Addr) (k_NB : ClassId) (F_NB : Fld Z Z.heap w_NS "java/lang/String" "value" "[B" (.ref w_NB)) (V_NB : Arv Z Z.heap w_NB k_NB .byte (14 : Int32) [(.int (110 : Int32)), (.int (117 : Int32)), (.int (109 : Int32)), (.int (98 : Int32)), (.int (101 : Int32)), (.int (114 : Int32)), (.int (95 : Int32)), (.int (111 : Int32)), (.int (102 : Int32)), (.int (95 : Int32)), (.int (116 : Int32)), (.int (97 : Int32)), (.int (103 : Int32)), (.int (115 : Int32))] (.int (0 : Int32))) (w_KS : Addr) (F_KS : Fld Z Z.heap w_K "com/example/vacuum/vacuum/model/PrunePolicy$Method" "wireName" "Ljava/lang/String;" (.ref w_KS)) (X_KS : Exa Z Z.heap w_KS "java/lang/String") (I_KS_coder : Fld Z Z.heap w_KS "java/lang/String" "coder" "B" (.int (0 : Int32))) (w_KB : Addr) (k_KB : ClassId) (F_KB : Fld Z Z.heap w_KS "java/lang/String" "value" "[B" (.ref w_KB)) (V_KB : Arv Z Z.heap w_KB k_KB .byte (13 : Int32) [(.int (99 : Int32)), (.int (114 : Int32)), (.int (101 : Int32)), (.int (97 : Int32)), (.int (116 : Int32)), (.int (105 : Int32)), (.int (111 : Int32)), (.int (110 : Int32)), (.int (95 : Int32)), (.int (100 : Int32)), (.int (97 : Int32)), (.int (116 : Int32)), (.int (101 : Int32))] (.int (0 : Int32))) (w_OE : Addr) (S_OE : Sta Z Z.heap "java/util/Optional" "EMPTY" "Ljava/util/Optional;" (.ref w_OE)) (X_OE : Exa Z Z.heap w_OE "java/util/Optional") (I_OE_value : Fld Z Z.heap w_OE "java/util/Optional" "value" "Ljava/lang/Object;" .null) (g_CS : Int32) (S_CS : Sta Z Z.heap "java/lang/String" "COMPACT_STRINGS" "Z" (.int g_CS)) (nz_CS : ¬ (g_CS = (0 : Int32))) (g_SF : Value) (S_SF : Sta Z Z.heap "jdk/internal/util/Preconditions" "SIOOBE_FORMATTER" "Ljava/util/function/BiFunction;" g_SF) (r_SF : g_SF.isRef = true) (p0 : Addr) (h0 : Heap) (n0 : Nat) (X00 : Old Z n0 h0) (hp0 : Fld Z h0 p0 "java/util/Optional" "value" "Ljava/lang/Object;" .null) :
    MetFree l (⟨"java/util/Optional", "isEmpty", "()Z"⟩ : MethodName) (head1 (Jvm.Cond.code (⟨"java/util/Optional", "isEmpty", "()Z"⟩ : MethodName) jdk_32_method_7_code 1 (some .boolean) :: ws) ({ frames := 0, cells := 0, slots := 0, locals := 0 } : Room)) (fun a U => a = #[(.ref p0)] ∧ Z.Warmed39 U.vm ∧ U.heap = h0) (fun _ _ _ _ _ => True) (fun _ U o U' => ∃ v L, o = .returned v ∧ Q_rm_oie Z w_N w_K w_V k_V w_NS w_NB k_NB w_KS w_KB k_KB w_OE g_CS g_SF p0 h0 n0 v U'.heap L ∧ FrameEnd U o U' L ({ frames := 0, cells := 0, slots := 0, locals := 0 } : Room).cells ({ frames := 0, cells := 0, slots := 0, locals := 0 } : Room).slots) := by
  refine MetFree.of_bodySF (plainFor_of_name own_pn2) hisR ?_
  intro p e s m args below meth c s₁ Bd hml0 hP hK
  obtain ⟨rfl, hZ, hh⟩ := hP
  have hx := Bd.exec
  have hby := Bd.bytes
  have hml : c.maxLocals = 1 := hml0
  have hown : s.vm.findClass "java/util/Optional" = some m.cls := findClass_of_methodNamed Bd.named
  have hnm := (name_of_methodNamed Bd.named Bd.method).1
  have X0 : Stand p l e ({ frames := 0, cells := 0, slots := 0, locals := 0 } : Room) s m #[(.ref p0)] below meth c s₁ [] 0 0 := Stand.of_body Bd
  have e0 : s₁.heap = h0 := by rw [← hh, Bd.state]; rfl
  have N0 := Fr.nil n0
  refine Go.start fun P hPend => ?_
  refine Go.st (fun _ k => castTop (own_ef_rm_oie m p0) k) ?_
  show Go p.tables e below P (s₁.setTop (mkF m 0 #[lR p0] []))
  refine Go.st (fun _ => XS.aloadN X0.here hx rfl (hb hby own_d_jdk_32_method_7_code_0) rfl rfl) ?_
  show Go p.tables e below P (s₁.setTop (mkF m 1 #[lR p0] [(.ref p0)]))
  obtain ⟨T1, X1, e1, st1⟩ := getF X0 hx hZ hown (host := "") (Or.inl (ow hw 91 rfl)) Via.refl e0 hp0 (g := (mkF m 1 #[.val (.ref p0)] [(.ref p0)])) rfl rfl (hb hby own_d_jdk_32_method_7_code_1)
  refine Go.st st1 ?_
  show Go p.tables e below P (T1.setTop (mkF m 4 #[lR p0] [.null]))
  refine Go.st (fun _ => XS.ifnonnullNo X1.here hx rfl (hb hby own_d_jdk_32_method_7_code_4) rfl) ?_
  show Go p.tables e below P (T1.setTop (mkF m 7 #[lR p0] []))
  refine Go.st (fun _ => XS.iconst X1.here hx rfl (hb hby own_d_jdk_32_method_7_code_7)) ?_
  show Go p.tables e below P (T1.setTop (mkF m 8 #[lR p0] [(.int (1 : Int32))]))
  refine Go.st (fun _ => XS.goto X1.here hx rfl (pc0 := 8) (pc' := 12) rfl (hb hby own_d_jdk_32_method_7_code_8) (by decide) (by decide)) ?_
  show Go p.tables e below P (T1.setTop (mkF m 12 #[lR p0] [(.int (1 : Int32))]))
  obtain ⟨fs, hr, hrun, hended, hW, hsame⟩ := X1.leave (v := some (.int (1 : Int32))) (fun h => by rw [Bd.returns] at h; cases h)
  refine ⟨_, ?_, hPend _ _ hrun hended ⟨_, _, rfl, ?_, ⟨_, rfl⟩, hW, hsame.mono (by decide) (by decide)⟩⟩
  · exact retN X1 hx (t := .boolean) Bd.returns (by simp) (hb hby own_d_jdk_32_method_7_code_12) hr
  · show Q_rm_oie Z _ _ _ _ _ _ _ _ _ _ _ _ _ _ h0 n0 _ T1.heap _
    rw [e1]
    exact ⟨rfl, N0, rfl⟩
theorem own_ef_rm_vals (m : MethodId)  : entryFrame m #[] 0 = mkF m 0 #[] [] := by first | (simp [entryFrame, mkF, argsToLocals, Value.category]; done) | rfl
theorem own_pn3 : plainName "com/example/vacuum/vacuum/model/PrunePolicy$Method" = true := by first | (simp [plainName, overriddenIn]; done) | decide +kernel
theorem own_d_prog_18_method_1_code_0 : decode prog_18_method_1_code 0 = .ok (.getstatic 10, 3) := by decide +kernel
theorem own_d_prog_18_method_1_code_3 : decode prog_18_method_1_code 3 = .ok (.invokevirtual 14, 3) := by decide +kernel
theorem own_d_prog_18_method_1_code_6 : decode prog_18_method_1_code 6 = .ok (.checkcast 15, 3) := by decide +kernel
theorem own_d_prog_18_method_1_code_9 : decode prog_18_method_1_code 9 = .ok (.areturn, 1) := by decide +kernel
def Q_rm_vals (Z : State) (w_N : Addr) (w_K : Addr) (w_V : Addr) (k_V : ClassId) (w_NS : Addr) (w_NB : Addr) (k_NB : ClassId) (w_KS : Addr) (w_KB : Addr) (k_KB : ClassId) (w_OE : Addr) (g_CS : Int32) (g_SF : Value) (h0 : Heap) (n0 : Nat) (v : Option Value) (h : Heap) (L : List Loc) : Prop := ∃ (ob : Addr), v = some (.ref ob) ∧ Fr n0 L ∧ Keep h0 h [] ∧ h0.size ≤ ob ∧ Arv Z h ob k_V (.object "com/example/vacuum/vacuum/model/PrunePolicy$Method") (2 : Int32) [(.ref w_N), (.ref w_K)] .null
set_option maxRecDepth 65536 in
set_option maxHeartbeats 40000000 in
theorem rm_vals (l : Launch) (Z : State) (a0 : Array Value) (hw : ∀ d ∈ tables_1, d.before a0 Z = true) (ws : List Jvm.Cond) (w_N : Addr) (S_N : Sta Z Z.heap "com/example/vacuum/vacuum/model/PrunePolicy$Method" "NUMBER_OF_TAGS" "Lcom/example/vacuum/vacuum/model/PrunePolicy$Method;" (.ref w_N)) (X_N : Exa Z Z.heap w_N "com/example/vacuum/vacuum/model/PrunePolicy$Method") (w_K : Addr) (S_K : Sta Z Z.heap "com/example/vacuum/vacuum/model/PrunePolicy$Method" "CREATION_DATE" "Lcom/example/vacuum/vacuum/model/PrunePolicy$Method;" (.ref w_K)) (X_K : Exa Z Z.heap w_K "com/example/vacuum/vacuum/model/PrunePolicy$Method") (w_V : Addr) (k_V : ClassId) (S_V : Sta Z Z.heap "com/example/vacuum/vacuum/model/PrunePolicy$Method" "$VALUES" "[Lcom/example/vacuum/vacuum/model/PrunePolicy$Method;" (.ref w_V)) (X_V : Exa Z Z.heap w_V "[Lcom/example/vacuum/vacuum/model/PrunePolicy$Method;") (V_V : Arv Z Z.heap w_V k_V (.object "com/example/vacuum/vacuum/model/PrunePolicy$Method") (2 : Int32) [(.ref w_N), (.ref w_K)] .null) (w_NS : Addr) (F_NS : Fld Z Z.heap w_N "com/example/vacuum/vacuum/model/PrunePolicy$Method" "wireName" "Ljava/lang/String;" (.ref w_NS)) (X_NS : Exa Z Z.heap w_NS "java/lang/String") (I_NS_coder : Fld Z Z.heap w_NS "java/lang/String" "coder" "B" (.int (0 : Int32))) (w_NB : Addr) (k_NB : ClassId) (F_NB : Fld Z Z.heap w_NS "java/lang/String" "value" "[B" (.ref w_NB)) (V_NB : Arv Z Z.heap w_NB k_NB .byte (14 : Int32) [(.int (110 : Int32)), (.int (117 : Int32)), (.int (109 : Int32)), (.int (98 : Int32)), (.int (101 : Int32)), (.int (114 : Int32)), (.int (95 : Int32)), (.int (111 : Int32)), (.int (102 : Int32)), (.int (95 : Int32)), (.int (116 : Int32)), (.int (97 : Int32)), (.int (103 : Int32)), (.int (115 : Int32))] (.int (0 : Int32))) (w_KS : Addr) (F_KS : Fld Z Z.heap w_K "com/example/vacuum/vacuum/model/PrunePolicy$Method" "wireName" "Ljava/lang/String;" (.ref w_KS)) (X_KS : Exa Z Z.heap w_KS "java/lang/String") (I_KS_coder : Fld Z Z.heap w_KS "java/lang/String" "coder" "B" (.int (0 : Int32))) (w_KB : Addr) (k_KB : ClassId) (F_KB : Fld Z Z.heap w_KS "java/lang/String" "value" "[B" (.ref w_KB)) (V_KB : Arv Z Z.heap w_KB k_KB .byte (13 : Int32) [(.int (99 : Int32)), (.int (114 : Int32)), (.int (101 : Int32)), (.int (97 : Int32)), (.int (116 : Int32)), (.int (105 : Int32)), (.int (111 : Int32)), (.int (110 : Int32)), (.int (95 : Int32)), (.int (100 : Int32)), (.int (97 : Int32)), (.int (116 : Int32)), (.int (101 : Int32))] (.int (0 : Int32))) (w_OE : Addr) (S_OE : Sta Z Z.heap "java/util/Optional" "EMPTY" "Ljava/util/Optional;" (.ref w_OE)) (X_OE : Exa Z Z.heap w_OE "java/util/Optional") (I_OE_value : Fld Z Z.heap w_OE "java/util/Optional" "value" "Ljava/lang/Object;" .null) (g_CS : Int32) (S_CS : Sta Z Z.heap "java/lang/String" "COMPACT_STRINGS" "Z" (.int g_CS)) (nz_CS : ¬ (g_CS = (0 : Int32))) (g_SF : Value) (S_SF : Sta Z Z.heap "jdk/internal/util/Preconditions" "SIOOBE_FORMATTER" "Ljava/util/function/BiFunction;" g_SF) (r_SF : g_SF.isRef = true) (h0 : Heap) (n0 : Nat) (X00 : Old Z n0 h0)  :
    MetFree l (⟨"com/example/vacuum/vacuum/model/PrunePolicy$Method", "values", "()[Lcom/example/vacuum/vacuum/model/PrunePolicy$Method;"⟩ : MethodName) (head1 (Jvm.Cond.code (⟨"com/example/vacuum/vacuum/model/PrunePolicy$Method", "values", "()[Lcom/example/vacuum/vacuum/model/PrunePolicy$Method;"⟩ : MethodName) prog_18_method_1_code 0 (some (.array (.object "com/example/vacuum/vacuum/model/PrunePolicy$Method"))) :: ws) ({ frames := 1, cells := 1, slots := 2, locals := 14 } : Room)) (fun a U => a = #[] ∧ Z.Warmed39 U.vm ∧ U.heap = h0) (fun _ _ _ _ _ => True) (fun _ U o U' => ∃ v L, o = .returned v ∧ Q_rm_vals Z w_N w_K w_V k_V w_NS w_NB k_NB w_KS w_KB k_KB w_OE g_CS g_SF h0 n0 v U'.heap L ∧ FrameEnd U o U' L ({ frames := 1, cells := 1, slots := 2, locals := 14 } : Room).cells ({ frames := 1, cells := 1, slots := 2, locals := 14 } : Room).slots) := by
  refine MetFree.of_bodySF (plainFor_of_name own_pn3) hisR ?_
  intro p e s m args below meth c s₁ Bd hml0 hP hK
  obtain ⟨rfl, hZ, hh⟩ := hP
  have hx := Bd.exec
  have hby := Bd.bytes
  have hml : c.maxLocals = 0 := hml0
  have hown : s.vm.findClass "com/example/vacuum/vacuum/model/PrunePolicy$Method" = some m.cls := findClass_of_methodNamed Bd.named
  have hnm := (name_of_methodNamed Bd.named Bd.method).1
  have X0 : Stand p l e ({ frames := 1, cells := 1, slots := 2, locals := 14 } : Room) s m #[] below meth c s₁ [] 0 0 := Stand.of_body Bd
  have e0 : s₁.heap = h0 := by rw [← hh, Bd.state]; rfl
  have N0 := Fr.nil n0
  refine Go.start fun P hPend => ?_
  refine Go.st (fun _ k => castTop (own_ef_rm_vals m ) k) ?_
  show Go p.tables e below P (s₁.setTop (mkF m 0 #[] []))
  obtain ⟨T1, X1, e1, st1⟩ := getS2 X0 hx hZ hown (host := "") (Or.inl (ow hw 58 rfl)) Via.refl e0 (S_V.ext X00.2) (g := (mkF m 0 #[] [])) rfl (hb hby own_d_prog_18_method_1_code_0)
  refine Go.st st1 ?_
  show Go p.tables e below P (T1.setTop (mkF m 3 #[] [(.ref w_V)]))
  obtain ⟨T2, h2, X2, e2, E2, A2, B2, st2⟩ := cloneH X1 hx hZ hown (ow hw 60 rfl) (ow hw 61 rfl) (ow hw 65 rfl) (ow hw 63 rfl) (ow hw 64 rfl) (ow hw 66 rfl) e1 (Arv.arh (V_V.ext X00.2)) (X_V.ext X00.2) (g := (mkF m 3 #[] [(.ref w_V)])) rfl (by rw [hml]; rfl) rfl (hb hby own_d_prog_18_method_1_code_3) (by decide) (W := 0) (cap := 2) (by show 2 * 0 + _ ≤ _; exact Nat.le_of_eq rfl) (by decide) (by decide) (by decide) (by decide)
  obtain ⟨b2, g2⟩ : ∃ z, z = h0.size := ⟨_, rfl⟩
  rw [← g2] at A2 B2 st2
  refine Go.st st2 ?_
  have g_b2 : n0 ≤ b2 := Nat.le_trans (own_oldsz X00) (Nat.le_of_eq g2.symm)
  have sz_b2 : h0.size ≤ b2 := Nat.le_trans (Keep.refl h0 []).1 (Nat.le_of_eq g2.symm)
  have K2 : Keep h0 h2 [] := (Keep.refl h0 []).ext E2
  have O2 := X00.ext E2
  have V2 : Arv Z h2 b2 k_V (.object "com/example/vacuum/vacuum/model/PrunePolicy$Method") (2 : Int32) [(.ref w_N), (.ref w_K)] .null := A2
  show Go p.tables e below P (T2.setTop (mkF m 6 #[] [(.ref b2)]))
  obtain ⟨T3, X3, e3, st3⟩ := castY X2 hx hZ hown (ow hw 70 rfl) e2 (Ins.self B2) (g := (mkF m 6 #[] [(.ref b2)])) rfl rfl (hb hby own_d_prog_18_method_1_code_6)
  refine Go.st st3 ?_
  show Go p.tables e below P (T3.setTop (mkF m 9 #[] [(.ref b2)]))
  obtain ⟨fs, hr, hrun, hended, hW, hsame⟩ := X3.leave (v := some (.ref b2)) (fun h => by rw [Bd.returns] at h; cases h)
  refine ⟨_, ?_, hPend _ _ hrun hended ⟨_, _, rfl, ?_, ⟨_, rfl⟩, hW, hsame.mono (by decide) (by decide)⟩⟩
  · exact retOut X3 hx (t := (.array (.object "com/example/vacuum/vacuum/model/PrunePolicy$Method"))) Bd.returns rfl (Or.inr (Or.inr (Or.inr (Or.inr ⟨rfl, rfl, rfl⟩)))) (hb hby own_d_prog_18_method_1_code_9) hr
  · show Q_rm_vals Z _ _ _ _ _ _ _ _ _ _ _ _ _ h0 n0 _ T3.heap _
    rw [e3]
    exact ⟨b2, rfl, N0, K2, sz_b2, V2⟩
theorem own_ef_rm_owN (m : MethodId)  : entryFrame m #[.null] 5 = mkF m 0 #[.val .null, .unset, .unset, .unset, .unset] [] := by first | (simp [entryFrame, mkF, argsToLocals, Value.category]; done) | rfl
theorem own_d_prog_18_method_5_code_0 : decode prog_18_method_5_code 0 = .ok (.invokestatic 33, 3) := by decide +kernel
theorem own_pd3 : parseMethodDescriptor "()[Lcom/example/vacuum/vacuum/model/PrunePolicy$Method;" = some ⟨[], some (.array (.object "com/example/vacuum/vacuum/model/PrunePolicy$Method"))⟩ := by decide +kernel
theorem own_d_prog_18_method_5_code_3 : decode prog_18_method_5_code 3 = .ok (.astore_n 1, 1) := by decide +kernel
theorem own_d_prog_18_method_5_code_4 : decode prog_18_method_5_code 4 = .ok (.aload_n 1, 1) := by decide +kernel
theorem own_d_prog_18_method_5_code_5 : decode prog_18_method_5_code 5 = .ok (.arraylength, 1) := by decide +kernel
theorem own_d_prog_18_method_5_code_6 : decode prog_18_method_5_code 6 = .ok (.istore_n 2, 1) := by decide +kernel
theorem own_d_prog_18_method_5_code_7 : decode prog_18_method_5_code 7 = .ok (.iconst 0, 1) := by decide +kernel
theorem own_d_prog_18_method_5_code_8 : decode prog_18_method_5_code 8 = .ok (.istore_n 3, 1) := by decide +kernel
theorem own_d_prog_18_method_5_code_9 : decode prog_18_method_5_code 9 = .ok (.iload_n 3, 1) := by decide +kernel
theorem own_d_prog_18_method_5_code_10 : decode prog_18_method_5_code 10 = .ok (.iload_n 2, 1) := by decide +kernel
theorem own_d_prog_18_method_5_code_11 : decode prog_18_method_5_code 11 = .ok (.if_icmp .ge 32, 3) := by decide +kernel
theorem own_d_prog_18_method_5_code_14 : decode prog_18_method_5_code 14 = .ok (.aload_n 1, 1) := by decide +kernel
theorem own_d_prog_18_method_5_code_15 : decode prog_18_method_5_code 15 = .ok (.iload_n 3, 1) := by decide +kernel
theorem own_d_prog_18_method_5_code_16 : decode prog_18_method_5_code 16 = .ok (.aaload, 1) := by decide +kernel
theorem own_d_prog_18_method_5_code_17 : decode prog_18_method_5_code 17 = .ok (.astore 4, 2) := by decide +kernel
theorem own_d_prog_18_method_5_code_19 : decode prog_18_method_5_code 19 = .ok (.aload 4, 2) := by decide +kernel
theorem own_d_prog_18_method_5_code_21 : decode prog_18_method_5_code 21 = .ok (.getfield 29, 3) := by decide +kernel
theorem own_d_prog_18_method_5_code_24 : decode prog_18_method_5_code 24 = .ok (.aload_n 0, 1) := by decide +kernel
theorem own_d_prog_18_method_5_code_25 : decode prog_18_method_5_code 25 = .ok (.invokevirtual 37, 3) := by decide +kernel
theorem own_pd4 : parseMethodDescriptor "(Ljava/lang/Object;)Z" = some ⟨[(.object "java/lang/Object")], some .boolean⟩ := by decide +kernel
theorem own_d_prog_18_method_5_code_28 : decode prog_18_method_5_code 28 = .ok (.ifCond .eq 9, 3) := by decide +kernel
theorem own_d_prog_18_method_5_code_37 : decode prog_18_method_5_code 37 = .ok (.iinc 3 1, 3) := by decide +kernel
theorem own_d_prog_18_method_5_code_40 : decode prog_18_method_5_code 40 = .ok (.goto (-31), 3) := by decide +kernel
theorem own_d_prog_18_method_5_code_43 : decode prog_18_method_5_code 43 = .ok (.invokestatic 49, 3) := by decide +kernel
theorem own_pd5 : parseMethodDescriptor "()Ljava/util/Optional;" = some ⟨[], some (.object "java/util/Optional")⟩ := by decide +kernel
theorem own_d_prog_18_method_5_code_46 : decode prog_18_method_5_code 46 = .ok (.areturn, 1) := by decide +kernel
def Q_rm_owN (Z : State) (w_N : Addr) (w_K : Addr) (w_V : Addr) (k_V : ClassId) (w_NS : Addr) (w_NB : Addr) (k_NB : ClassId) (w_KS : Addr) (w_KB : Addr) (k_KB : ClassId) (w_OE : Addr) (g_CS : Int32) (g_SF : Value) (h0 : Heap) (n0 : Nat) (v : Option Value) (h : Heap) (L : List Loc) : Prop := v = some (.ref w_OE) ∧ Fr n0 L ∧ Keep h0 h []
set_option maxRecDepth 65536 in
set_option maxHeartbeats 40000000 in
theorem rm_owN (l : Launch) (Z : State) (a0 : Array Value) (hw : ∀ d ∈ tables_1, d.before a0 Z = true) (ws : List Jvm.Cond) (w_N : Addr) (S_N : Sta Z Z.heap "com/example/vacuum/vacuum/model/PrunePolicy$Method" "NUMBER_OF_TAGS" "Lcom/example/vacuum/vacuum/model/PrunePolicy$Method;" (.ref w_N)) (X_N : Exa Z Z.heap w_N "com/example/vacuum/vacuum/model/PrunePolicy$Method") (w_K : Addr) (S_K : Sta Z Z.heap "com/example/vacuum/vacuum/model/PrunePolicy$Method" "CREATION_DATE" "Lcom/example/vacuum/vacuum/model/PrunePolicy$Method;" (.ref w_K)) (X_K : Exa Z Z.heap w_K "com/example/vacuum/vacuum/model/PrunePolicy$Method") (w_V : Addr) (k_V : ClassId) (S_V : Sta Z Z.heap "com/example/vacuum/vacuum/model/PrunePolicy$Method" "$VALUES" "[Lcom/example/vacuum/vacuum/model/PrunePolicy$Method;" (.ref w_V)) (X_V : Exa Z Z.heap w_V "[Lcom/example/vacuum/vacuum/model/PrunePolicy$Method;") (V_V : Arv Z Z.heap w_V k_V (.object "com/example/vacuum/vacuum/model/PrunePolicy$Method") (2 : Int32) [(.ref w_N), (.ref w_K)] .null) (w_NS : Addr) (F_NS : Fld Z Z.heap w_N "com/example/vacuum/vacuum/model/PrunePolicy$Method" "wireName" "Ljava/lang/String;" (.ref w_NS)) (X_NS : Exa Z Z.heap w_NS "java/lang/String") (I_NS_coder : Fld Z Z.heap w_NS "java/lang/String" "coder" "B" (.int (0 : Int32))) (w_NB : Addr) (k_NB : ClassId) (F_NB : Fld Z Z.heap w_NS "java/lang/String" "value" "[B" (.ref w_NB)) (V_NB : Arv Z Z.heap w_NB k_NB .byte (14 : Int32) [(.int (110 : Int32)), (.int (117 : Int32)), (.int (109 : Int32)), (.int (98 : Int32)), (.int (101 : Int32)), (.int (114 : Int32)), (.int (95 : Int32)), (.int (111 : Int32)), (.int (102 : Int32)), (.int (95 : Int32)), (.int (116 : Int32)), (.int (97 : Int32)), (.int (103 : Int32)), (.int (115 : Int32))] (.int (0 : Int32))) (w_KS : Addr) (F_KS : Fld Z Z.heap w_K "com/example/vacuum/vacuum/model/PrunePolicy$Method" "wireName" "Ljava/lang/String;" (.ref w_KS)) (X_KS : Exa Z Z.heap w_KS "java/lang/String") (I_KS_coder : Fld Z Z.heap w_KS "java/lang/String" "coder" "B" (.int (0 : Int32))) (w_KB : Addr) (k_KB : ClassId) (F_KB : Fld Z Z.heap w_KS "java/lang/String" "value" "[B" (.ref w_KB)) (V_KB : Arv Z Z.heap w_KB k_KB .byte (13 : Int32) [(.int (99 : Int32)), (.int (114 : Int32)), (.int (101 : Int32)), (.int (97 : Int32)), (.int (116 : Int32)), (.int (105 : Int32)), (.int (111 : Int32)), (.int (110 : Int32)), (.int (95 : Int32)), (.int (100 : Int32)), (.int (97 : Int32)), (.int (116 : Int32)), (.int (101 : Int32))] (.int (0 : Int32))) (w_OE : Addr) (S_OE : Sta Z Z.heap "java/util/Optional" "EMPTY" "Ljava/util/Optional;" (.ref w_OE)) (X_OE : Exa Z Z.heap w_OE "java/util/Optional") (I_OE_value : Fld Z Z.heap w_OE "java/util/Optional" "value" "Ljava/lang/Object;" .null) (g_CS : Int32) (S_CS : Sta Z Z.heap "java/lang/String" "COMPACT_STRINGS" "Z" (.int g_CS)) (nz_CS : ¬ (g_CS = (0 : Int32))) (g_SF : Value) (S_SF : Sta Z Z.heap "jdk/internal/util/Preconditions" "SIOOBE_FORMATTER" "Ljava/util/function/BiFunction;" g_SF) (r_SF : g_SF.isRef = true) (h0 : Heap) (n0 : Nat) (X00 : Old Z n0 h0)  :
    MetFree l (⟨"com/example/vacuum/vacuum/model/PrunePolicy$Method", "ofWireName", "(Ljava/lang/String;)Ljava/util/Optional;"⟩ : MethodName) (head1 (Jvm.Cond.code (⟨"com/example/vacuum/vacuum/model/PrunePolicy$Method", "ofWireName", "(Ljava/lang/String;)Ljava/util/Optional;"⟩ : MethodName) prog_18_method_5_code 5 (some (.object "java/util/Optional")) :: ws) ({ frames := 2, cells := 1, slots := 2, locals := 25 } : Room)) (fun a U => a = #[.null] ∧ Z.Warmed39 U.vm ∧ U.heap = h0) (fun _ _ _ _ _ => True) (fun _ U o U' => ∃ v L, o = .returned v ∧ Q_rm_owN Z w_N w_K w_V k_V w_NS w_NB k_NB w_KS w_KB k_KB w_OE g_CS g_SF h0 n0 v U'.heap L ∧ FrameEnd U o U' L ({ frames := 2, cells := 1, slots := 2, locals := 25 } : Room).cells ({ frames := 2, cells := 1, slots := 2, locals := 25 } : Room).slots) := by
  refine MetFree.of_bodySF (plainFor_of_name own_pn3) hisR ?_
  intro p e s m args below meth c s₁ Bd hml0 hP hK
  obtain ⟨rfl, hZ, hh⟩ := hP
  have hx := Bd.exec
  have hby := Bd.bytes
  have hml : c.maxLocals = 5 := hml0
  have hown : s.vm.findClass "com/example/vacuum/vacuum/model/PrunePolicy$Method" = some m.cls := findClass_of_methodNamed Bd.named
  have hnm := (name_of_methodNamed Bd.named Bd.method).1
  have X0 : Stand p l e ({ frames := 2, cells := 1, slots := 2, locals := 25 } : Room) s m #[.null] below meth c s₁ [] 0 0 := Stand.of_body Bd
  have e0 : s₁.heap = h0 := by rw [← hh, Bd.state]; rfl
  have N0 := Fr.nil n0
  refine Go.start fun P hPend => ?_
  refine Go.st (fun _ k => castTop (own_ef_rm_owN m ) k) ?_
  show Go p.tables e below P (s₁.setTop (mkF m 0 #[lN, lU, lU, lU, lU] []))
  obtain ⟨_, _, ⟨T1, L1, k1, n1⟩, -, X1, ⟨Lc1, hQ1, l1, y1, z1⟩, st1⟩ := Jvm.LawKit.callS X0 hx (y := (⟨"com/example/vacuum/vacuum/model/PrunePolicy$Method", "values", "()[Lcom/example/vacuum/vacuum/model/PrunePolicy$Method;"⟩ : MethodName)) hown (mvT hZ (ow hw 55 rfl)) (mvT hZ (ow hw 56 rfl)) (mvT hZ (ow hw 53 rfl)) (mvT hZ (ow hw 57 rfl)) (by decide) (backOf (W := 0) (rm_vals l Z a0 hw [] w_N S_N X_N w_K S_K X_K w_V k_V S_V X_V V_V w_NS F_NS X_NS I_NS_coder w_NB k_NB F_NB V_NB w_KS F_KS X_KS I_KS_coder w_KB k_KB F_KB V_KB w_OE S_OE X_OE I_OE_value g_CS S_CS nz_CS g_SF S_SF r_SF h0 n0 X00 ) hZ (ow hw 57 rfl) (ow hw 53 rfl) (by decide) (by decide)) (g := (mkF m 0 #[.val .null, .unset, .unset, .unset, .unset] [])) rfl (by rw [hml]; rfl) (argsL := []) (rest := []) (lenOf own_pd3 rfl) rfl (by show 2 * 0 + _ ≤ _; exact Nat.le_of_eq rfl) (hb hby own_d_prog_18_method_5_code_0) (fun _ _ => ⟨rfl, e0, (by decide : 0 + 1 ≤ _), (by decide : 0 + 2 ≤ _)⟩)
  dsimp only [Pt.U, Pt.locs, Pt.cells, Pt.slots] at X1 l1 y1 z1 st1 hQ1
  subst y1 z1
  refine Go.st st1 ?_
  obtain ⟨ob_2, rfl, N1q, K1q, q1_0, q1_1⟩ := hQ1
  have N1 : Fr n0 L1 := by rw [l1]; exact Fr.app N0 N1q
  have O1 := X00.keep K1q all0
  have K1 : Keep h0 T1.heap [] := (Keep.refl h0 []).trans K1q all0
  have sz_ob_2 : h0.size ≤ ob_2 := Nat.le_trans (Keep.refl h0 []).1 q1_0
  have g_ob_2 : n0 ≤ ob_2 := Nat.le_trans (own_oldsz X00) sz_ob_2
  show Go p.tables e below P (T1.setTop (mkF m 3 #[lN, lU, lU, lU, lU] [(.ref ob_2)]))
  refine Go.st (fun _ => XS.astoreN X1.here hx rfl (hb hby own_d_prog_18_method_5_code_3) rfl rfl (l' := #[.val .null, .val (.ref ob_2), .unset, .unset, .unset]) rfl) ?_
  show Go p.tables e below P (T1.setTop (mkF m 4 #[lN, lR ob_2, lU, lU, lU] []))
  refine Go.st (fun _ => XS.aloadN X1.here hx rfl (hb hby own_d_prog_18_method_5_code_4) rfl rfl) ?_
  show Go p.tables e below P (T1.setTop (mkF m 5 #[lN, lR ob_2, lU, lU, lU] [(.ref ob_2)]))
  refine Go.st (fun _ => own_len X1 hx hZ rfl q1_1 (g := (mkF m 5 #[.val .null, .val (.ref ob_2), .unset, .unset, .unset] [(.ref ob_2)])) rfl rfl (hb hby own_d_prog_18_method_5_code_5) _) ?_
  show Go p.tables e below P (T1.setTop (mkF m 6 #[lN, lR ob_2, lU, lU, lU] [(.int (2 : Int32))]))
  refine Go.st (fun _ => XS.istoreN X1.here hx rfl (hb hby own_d_prog_18_method_5_code_6) rfl (l' := #[.val .null, .val (.ref ob_2), .val (.int (2 : Int32)), .unset, .unset]) rfl) ?_
  show Go p.tables e below P (T1.setTop (mkF m 7 #[lN, lR ob_2, lI (2 : Int32), lU, lU] []))
  refine Go.st (fun _ => XS.iconst X1.here hx rfl (hb hby own_d_prog_18_method_5_code_7)) ?_
  show Go p.tables e below P (T1.setTop (mkF m 8 #[lN, lR ob_2, lI (2 : Int32), lU, lU] [(.int (0 : Int32))]))
  refine Go.st (fun _ => XS.istoreN X1.here hx rfl (hb hby own_d_prog_18_method_5_code_8) rfl (l' := #[.val .null, .val (.ref ob_2), .val (.int (2 : Int32)), .val (.int (0 : Int32)), .unset]) rfl) ?_
  show Go p.tables e below P (T1.setTop (mkF m 9 #[lN, lR ob_2, lI (2 : Int32), lI (0 : Int32), lU] []))
  refine Go.st (fun _ => XS.iloadN X1.here hx rfl (hb hby own_d_prog_18_method_5_code_9) rfl) ?_
  show Go p.tables e below P (T1.setTop (mkF m 10 #[lN, lR ob_2, lI (2 : Int32), lI (0 : Int32), lU] [(.int (0 : Int32))]))
  refine Go.st (fun _ => XS.iloadN X1.here hx rfl (hb hby own_d_prog_18_method_5_code_10) rfl) ?_
  show Go p.tables e below P (T1.setTop (mkF m 11 #[lN, lR ob_2, lI (2 : Int32), lI (0 : Int32), lU] [(.int (2 : Int32)), (.int (0 : Int32))]))
  refine Go.st (fun _ => XS.icmpNo X1.here hx rfl (hb hby own_d_prog_18_method_5_code_11) rfl (tlt (by decide)).2.1) ?_
  show Go p.tables e below P (T1.setTop (mkF m 14 #[lN, lR ob_2, lI (2 : Int32), lI (0 : Int32), lU] []))
  refine Go.st (fun _ => XS.aloadN X1.here hx rfl (hb hby own_d_prog_18_method_5_code_14) rfl rfl) ?_
  show Go p.tables e below P (T1.setTop (mkF m 15 #[lN, lR ob_2, lI (2 : Int32), lI (0 : Int32), lU] [(.ref ob_2)]))
  refine Go.st (fun _ => XS.iloadN X1.here hx rfl (hb hby own_d_prog_18_method_5_code_15) rfl) ?_
  show Go p.tables e below P (T1.setTop (mkF m 16 #[lN, lR ob_2, lI (2 : Int32), lI (0 : Int32), lU] [(.int (0 : Int32)), (.ref ob_2)]))
  refine Go.st (fun _ => own_ldR X1 hx hZ rfl q1_1 (j := (0 : Int32)) (i := 0) (v := (.ref w_N)) (by decide) (by decide) rfl (g := (mkF m 16 #[.val .null, .val (.ref ob_2), .val (.int (2 : Int32)), .val (.int (0 : Int32)), .unset] [(.int (0 : Int32)), (.ref ob_2)])) rfl rfl (hb hby own_d_prog_18_method_5_code_16) _) ?_
  show Go p.tables e below P (T1.setTop (mkF m 17 #[lN, lR ob_2, lI (2 : Int32), lI (0 : Int32), lU] [(.ref w_N)]))
  refine Go.st (fun _ => XS.astore X1.here hx rfl (hb hby own_d_prog_18_method_5_code_17) rfl rfl (l' := #[.val .null, .val (.ref ob_2), .val (.int (2 : Int32)), .val (.int (0 : Int32)), .val (.ref w_N)]) rfl) ?_
  show Go p.tables e below P (T1.setTop (mkF m 19 #[lN, lR ob_2, lI (2 : Int32), lI (0 : Int32), lR w_N] []))
  refine Go.st (fun _ => XS.aload X1.here hx rfl (hb hby own_d_prog_18_method_5_code_19) rfl rfl) ?_
  show Go p.tables e below P (T1.setTop (mkF m 21 #[lN, lR ob_2, lI (2 : Int32), lI (0 : Int32), lR w_N] [(.ref w_N)]))
  obtain ⟨T4, X4, e4, st4⟩ := getF X1 hx hZ hown (host := "") (Or.inl (ow hw 72 rfl)) Via.refl rfl (F_NS.ext O1.2) (g := (mkF m 21 #[.val .null, .val (.ref ob_2), .val (.int (2 : Int32)), .val (.int (0 : Int32)), .val (.ref w_N)] [(.ref w_N)])) rfl rfl (hb hby own_d_prog_18_method_5_code_21)
  refine Go.st st4 ?_
  show Go p.tables e below P (T4.setTop (mkF m 24 #[lN, lR ob_2, lI (2 : Int32), lI (0 : Int32), lR w_N] [(.ref w_NS)]))
  refine Go.st (fun _ => XS.aloadN X4.here hx rfl (hb hby own_d_prog_18_method_5_code_24) rfl rfl) ?_
  show Go p.tables e below P (T4.setTop (mkF m 25 #[lN, lR ob_2, lI (2 : Int32), lI (0 : Int32), lR w_N] [.null, (.ref w_NS)]))
  obtain ⟨cq5, kq5, q5a, q5b, q5c⟩ := isOf hZ e4 (X_NS.ext O1.2)
  obtain ⟨_, _, ⟨T5, L5, k5, n5⟩, -, X5, ⟨Lc5, hQ5, l5, y5, z5⟩, st5⟩ := X4.virtualBack hx (y := (⟨"java/lang/String", "equals", "(Ljava/lang/Object;)Z"⟩ : MethodName)) (z := (⟨"java/lang/String", "equals", "(Ljava/lang/Object;)Z"⟩ : MethodName)) hown (mvT hZ (ow hw 74 rfl)) (mvT hZ (ow hw 75 rfl)) (notFace_of_selects (args := #[]) (mvT hZ (ow hw 77 rfl))) (mvT hZ (ow hw 77 rfl)) (mvT hZ (ow hw 76 rfl)) (by decide) (backOf (W := 0) (rm_eqn l Z a0 hw [] w_N S_N X_N w_K S_K X_K w_V k_V S_V X_V V_V w_NS F_NS X_NS I_NS_coder w_NB k_NB F_NB V_NB w_KS F_KS X_KS I_KS_coder w_KB k_KB F_KB V_KB w_OE S_OE X_OE I_OE_value g_CS S_CS nz_CS g_SF S_SF r_SF w_NS T1.heap n0 O1 ) hZ (ow hw 78 rfl) (ow hw 1 rfl) (by decide) (by decide)) q5a q5c (g := (mkF m 25 #[.val .null, .val (.ref ob_2), .val (.int (2 : Int32)), .val (.int (0 : Int32)), .val (.ref w_N)] [.null, (.ref w_NS)])) rfl (by rw [hml]; rfl) (Steps.refl _) (argsL := [.null]) (rest := []) (lenOf own_pd4 rfl) rfl (by show 2 * 0 + _ ≤ _; exact Nat.le_of_eq rfl) (hb hby own_d_prog_18_method_5_code_25) (fun _ _ => ⟨rfl, e4, (by decide : 1 + 0 ≤ _), (by decide : 2 + 0 ≤ _)⟩)
  dsimp only [Pt.U, Pt.locs, Pt.cells, Pt.slots] at X5 l5 y5 z5 st5 hQ5
  subst y5 z5
  refine Go.tr st5 ?_
  obtain ⟨rfl, N5q, e5⟩ := hQ5
  have N5 : Fr n0 L5 := by rw [l5]; exact Fr.app N1 N5q
  show Go p.tables e below P (T5.setTop (mkF m 28 #[lN, lR ob_2, lI (2 : Int32), lI (0 : Int32), lR w_N] [(.int (0 : Int32))]))
  refine Go.st (fun _ => XS.ifYes X5.here hx rfl (pc0 := 28) (pc' := 37) rfl (hb hby own_d_prog_18_method_5_code_28) rfl ((if0 _ _).trans (teq (by decide)).1) (by decide) (by decide)) ?_
  show Go p.tables e below P (T5.setTop (mkF m 37 #[lN, lR ob_2, lI (2 : Int32), lI (0 : Int32), lR w_N] []))
  refine Go.st (fun _ => XS.iinc X5.here hx rfl (hb hby own_d_prog_18_method_5_code_37) rfl (l' := #[.val .null, .val (.ref ob_2), .val (.int (2 : Int32)), .val (.int (1 : Int32)), .val (.ref w_N)]) rfl) ?_
  show Go p.tables e below P (T5.setTop (mkF m 40 #[lN, lR ob_2, lI (2 : Int32), lI (1 : Int32), lR w_N] []))
  refine Go.st (fun _ => XS.goto X5.here hx rfl (pc0 := 40) (pc' := 9) rfl (hb hby own_d_prog_18_method_5_code_40) (by decide) (by decide)) ?_
  show Go p.tables e below P (T5.setTop (mkF m 9 #[lN, lR ob_2, lI (2 : Int32), lI (1 : Int32), lR w_N] []))
  refine Go.st (fun _ => XS.iloadN X5.here hx rfl (hb hby own_d_prog_18_method_5_code_9) rfl) ?_
  show Go p.tables e below P (T5.setTop (mkF m 10 #[lN, lR ob_2, lI (2 : Int32), lI (1 : Int32), lR w_N] [(.int (1 : Int32))]))
  refine Go.st (fun _ => XS.iloadN X5.here hx rfl (hb hby own_d_prog_18_method_5_code_10) rfl) ?_
  show Go p.tables e below P (T5.setTop (mkF m 11 #[lN, lR ob_2, lI (2 : Int32), lI (1 : Int32), lR w_N] [(.int (2 : Int32)), (.int (1 : Int32))]))
  refine Go.st (fun _ => XS.icmpNo X5.here hx rfl (hb hby own_d_prog_18_method_5_code_11) rfl (tlt (by decide)).2.1) ?_
  show Go p.tables e below P (T5.setTop (mkF m 14 #[lN, lR ob_2, lI (2 : Int32), lI (1 : Int32), lR w_N] []))
  refine Go.st (fun _ => XS.aloadN X5.here hx rfl (hb hby own_d_prog_18_method_5_code_14) rfl rfl) ?_
  show Go p.tables e below P (T5.setTop (mkF m 15 #[lN, lR ob_2, lI (2 : Int32), lI (1 : Int32), lR w_N] [(.ref ob_2)]))
  refine Go.st (fun _ => XS.iloadN X5.here hx rfl (hb hby own_d_prog_18_method_5_code_15) rfl) ?_
  show Go p.tables e below P (T5.setTop (mkF m 16 #[lN, lR ob_2, lI (2 : Int32), lI (1 : Int32), lR w_N] [(.int (1 : Int32)), (.ref ob_2)]))
  refine Go.st (fun _ => own_ldR X5 hx hZ e5 q1_1 (j := (1 : Int32)) (i := 1) (v := (.ref w_K)) (by decide) (by decide) rfl (g := (mkF m 16 #[.val .null, .val (.ref ob_2), .val (.int (2 : Int32)), .val (.int (1 : Int32)), .val (.ref w_N)] [(.int (1 : Int32)), (.ref ob_2)])) rfl rfl (hb hby own_d_prog_18_method_5_code_16) _) ?_
  show Go p.tables e below P (T5.setTop (mkF m 17 #[lN, lR ob_2, lI (2 : Int32), lI (1 : Int32), lR w_N] [(.ref w_K)]))
  refine Go.st (fun _ => XS.astore X5.here hx rfl (hb hby own_d_prog_18_method_5_code_17) rfl rfl (l' := #[.val .null, .val (.ref ob_2), .val (.int (2 : Int32)), .val (.int (1 : Int32)), .val (.ref w_K)]) rfl) ?_
  show Go p.tables e below P (T5.setTop (mkF m 19 #[lN, lR ob_2, lI (2 : Int32), lI (1 : Int32), lR w_K] []))
  refine Go.st (fun _ => XS.aload X5.here hx rfl (hb hby own_d_prog_18_method_5_code_19) rfl rfl) ?_
  show Go p.tables e below P (T5.setTop (mkF m 21 #[lN, lR ob_2, lI (2 : Int32), lI (1 : Int32), lR w_K] [(.ref w_K)]))
  obtain ⟨T7, X7, e7, st7⟩ := getF X5 hx hZ hown (host := "") (Or.inl (ow hw 72 rfl)) Via.refl e5 (F_KS.ext O1.2) (g := (mkF m 21 #[.val .null, .val (.ref ob_2), .val (.int (2 : Int32)), .val (.int (1 : Int32)), .val (.ref w_K)] [(.ref w_K)])) rfl rfl (hb hby own_d_prog_18_method_5_code_21)
  refine Go.st st7 ?_
  show Go p.tables e below P (T7.setTop (mkF m 24 #[lN, lR ob_2, lI (2 : Int32), lI (1 : Int32), lR w_K] [(.ref w_KS)]))
  refine Go.st (fun _ => XS.aloadN X7.here hx rfl (hb hby own_d_prog_18_method_5_code_24) rfl rfl) ?_
  show Go p.tables e below P (T7.setTop (mkF m 25 #[lN, lR ob_2, lI (2 : Int32), lI (1 : Int32), lR w_K] [.null, (.ref w_KS)]))
  obtain ⟨cq8, kq8, q8a, q8b, q8c⟩ := isOf hZ e7 (X_KS.ext O1.2)
  obtain ⟨_, _, ⟨T8, L8, k8, n8⟩, -, X8, ⟨Lc8, hQ8, l8, y8, z8⟩, st8⟩ := X7.virtualBack hx (y := (⟨"java/lang/String", "equals", "(Ljava/lang/Object;)Z"⟩ : MethodName)) (z := (⟨"java/lang/String", "equals", "(Ljava/lang/Object;)Z"⟩ : MethodName)) hown (mvT hZ (ow hw 74 rfl)) (mvT hZ (ow hw 75 rfl)) (notFace_of_selects (args := #[]) (mvT hZ (ow hw 77 rfl))) (mvT hZ (ow hw 77 rfl)) (mvT hZ (ow hw 76 rfl)) (by decide) (backOf (W := 0) (rm_eqn l Z a0 hw [] w_N S_N X_N w_K S_K X_K w_V k_V S_V X_V V_V w_NS F_NS X_NS I_NS_coder w_NB k_NB F_NB V_NB w_KS F_KS X_KS I_KS_coder w_KB k_KB F_KB V_KB w_OE S_OE X_OE I_OE_value g_CS S_CS nz_CS g_SF S_SF r_SF w_KS T1.heap n0 O1 ) hZ (ow hw 78 rfl) (ow hw 1 rfl) (by decide) (by decide)) q8a q8c (g := (mkF m 25 #[.val .null, .val (.ref ob_2), .val (.int (2 : Int32)), .val (.int (1 : Int32)), .val (.ref w_K)] [.null, (.ref w_KS)])) rfl (by rw [hml]; rfl) (Steps.refl _) (argsL := [.null]) (rest := []) (lenOf own_pd4 rfl) rfl (by show 2 * 0 + _ ≤ _; exact Nat.le_of_eq rfl) (hb hby own_d_prog_18_method_5_code_25) (fun _ _ => ⟨rfl, e7, (by decide : 1 + 0 ≤ _), (by decide : 2 + 0 ≤ _)⟩)
  dsimp only [Pt.U, Pt.locs, Pt.cells, Pt.slots] at X8 l8 y8 z8 st8 hQ8
  subst y8 z8
  refine Go.tr st8 ?_
  obtain ⟨rfl, N8q, e8⟩ := hQ8
  have N8 : Fr n0 L8 := by rw [l8]; exact Fr.app N5 N8q
  show Go p.tables e below P (T8.setTop (mkF m 28 #[lN, lR ob_2, lI (2 : Int32), lI (1 : Int32), lR w_K] [(.int (0 : Int32))]))
  refine Go.st (fun _ => XS.ifYes X8.here hx rfl (pc0 := 28) (pc' := 37) rfl (hb hby own_d_prog_18_method_5_code_28) rfl ((if0 _ _).trans (teq (by decide)).1) (by decide) (by decide)) ?_
  show Go p.tables e below P (T8.setTop (mkF m 37 #[lN, lR ob_2, lI (2 : Int32), lI (1 : Int32), lR w_K] []))
  refine Go.st (fun _ => XS.iinc X8.here hx rfl (hb hby own_d_prog_18_method_5_code_37) rfl (l' := #[.val .null, .val (.ref ob_2), .val (.int (2 : Int32)), .val (.int (2 : Int32)), .val (.ref w_K)]) rfl) ?_
  show Go p.tables e below P (T8.setTop (mkF m 40 #[lN, lR ob_2, lI (2 : Int32), lI (2 : Int32), lR w_K] []))
  refine Go.st (fun _ => XS.goto X8.here hx rfl (pc0 := 40) (pc' := 9) rfl (hb hby own_d_prog_18_method_5_code_40) (by decide) (by decide)) ?_
  show Go p.tables e below P (T8.setTop (mkF m 9 #[lN, lR ob_2, lI (2 : Int32), lI (2 : Int32), lR w_K] []))
  refine Go.st (fun _ => XS.iloadN X8.here hx rfl (hb hby own_d_prog_18_method_5_code_9) rfl) ?_
  show Go p.tables e below P (T8.setTop (mkF m 10 #[lN, lR ob_2, lI (2 : Int32), lI (2 : Int32), lR w_K] [(.int (2 : Int32))]))
  refine Go.st (fun _ => XS.iloadN X8.here hx rfl (hb hby own_d_prog_18_method_5_code_10) rfl) ?_
  show Go p.tables e below P (T8.setTop (mkF m 11 #[lN, lR ob_2, lI (2 : Int32), lI (2 : Int32), lR w_K] [(.int (2 : Int32)), (.int (2 : Int32))]))
  refine Go.st (fun _ => XS.icmpYes X8.here hx rfl (pc0 := 11) (pc' := 43) rfl (hb hby own_d_prog_18_method_5_code_11) rfl (flt (by decide)).2.1 (by decide) (by decide)) ?_
  show Go p.tables e below P (T8.setTop (mkF m 43 #[lN, lR ob_2, lI (2 : Int32), lI (2 : Int32), lR w_K] []))
  obtain ⟨_, _, ⟨T9, L9, k9, n9⟩, -, X9, ⟨Lc9, hQ9, l9, y9, z9⟩, st9⟩ := Jvm.LawKit.callS X8 hx (y := (⟨"java/util/Optional", "empty", "()Ljava/util/Optional;"⟩ : MethodName)) hown (mvT hZ (ow hw 79 rfl)) (mvT hZ (ow hw 80 rfl)) (mvT hZ (ow hw 81 rfl)) (mvT hZ (ow hw 82 rfl)) (by decide) (backOf (W := 0) (rm_oem l Z a0 hw [] w_N S_N X_N w_K S_K X_K w_V k_V S_V X_V V_V w_NS F_NS X_NS I_NS_coder w_NB k_NB F_NB V_NB w_KS F_KS X_KS I_KS_coder w_KB k_KB F_KB V_KB w_OE S_OE X_OE I_OE_value g_CS S_CS nz_CS g_SF S_SF r_SF T1.heap n0 O1 ) hZ (ow hw 82 rfl) (ow hw 81 rfl) (by decide) (by decide)) (g := (mkF m 43 #[.val .null, .val (.ref ob_2), .val (.int (2 : Int32)), .val (.int (2 : Int32)), .val (.ref w_K)] [])) rfl (by rw [hml]; rfl) (argsL := []) (rest := []) (lenOf own_pd5 rfl) rfl (by show 2 * 0 + _ ≤ _; exact Nat.le_of_eq rfl) (hb hby own_d_prog_18_method_5_code_43) (fun _ _ => ⟨rfl, e8, (by decide : 1 + 0 ≤ _), (by decide : 2 + 0 ≤ _)⟩)
  dsimp only [Pt.U, Pt.locs, Pt.cells, Pt.slots] at X9 l9 y9 z9 st9 hQ9
  subst y9 z9
  refine Go.st st9 ?_
  obtain ⟨rfl, N9q, e9⟩ := hQ9
  have N9 : Fr n0 L9 := by rw [l9]; exact Fr.app N8 N9q
  show Go p.tables e below P (T9.setTop (mkF m 46 #[lN, lR ob_2, lI (2 : Int32), lI (2 : Int32), lR w_K] [(.ref w_OE)]))
  obtain ⟨fs, hr, hrun, hended, hW, hsame⟩ := X9.leave (v := some (.ref w_OE)) (fun h => by rw [Bd.returns] at h; cases h)
  refine ⟨_, ?_, hPend _ _ hrun hended ⟨_, _, rfl, ?_, ⟨_, rfl⟩, hW, hsame.mono (by decide) (by decide)⟩⟩
  · exact retOut X9 hx (t := (.object "java/util/Optional")) Bd.returns rfl (Or.inr (Or.inr (Or.inr (Or.inr ⟨rfl, rfl, rfl⟩)))) (hb hby own_d_prog_18_method_5_code_46) hr
  · show Q_rm_owN Z _ _ _ _ _ _ _ _ _ _ _ _ _ h0 n0 _ T9.heap _
    rw [e9]
    exact ⟨rfl, N9, K1⟩
theorem own_ef_rm_own (m : MethodId) (x0 : Addr) : entryFrame m #[(.ref x0)] 5 = mkF m 0 #[.val (.ref x0), .unset, .unset, .unset, .unset] [] := by first | (simp [entryFrame, mkF, argsToLocals, Value.category]; done) | rfl
theorem own_d_prog_18_method_5_code_31 : decode prog_18_method_5_code 31 = .ok (.aload 4, 2) := by decide +kernel
theorem own_d_prog_18_method_5_code_33 : decode prog_18_method_5_code 33 = .ok (.invokestatic 43, 3) := by decide +kernel
theorem own_pd6 : parseMethodDescriptor "(Ljava/lang/Object;)Ljava/util/Optional;" = some ⟨[(.object "java/lang/Object")], some (.object "java/util/Optional")⟩ := by decide +kernel
theorem own_d_prog_18_method_5_code_36 : decode prog_18_method_5_code 36 = .ok (.areturn, 1) := by decide +kernel
def Q_rm_own (Z : State) (w_N : Addr) (w_K : Addr) (w_V : Addr) (k_V : ClassId) (w_NS : Addr) (w_NB : Addr) (k_NB : ClassId) (w_KS : Addr) (w_KB : Addr) (k_KB : ClassId) (w_OE : Addr) (g_CS : Int32) (g_SF : Value) (p0 : Addr) (pcs : List Int32) (pv : Addr) (pk : ClassId) (h0 : Heap) (n0 : Nat) (v : Option Value) (h : Heap) (L : List Loc) : Prop := ∃ (ob : Addr), v = some (.ref ob) ∧ Fr n0 L ∧ Keep h0 h [] ∧ h0.size ≤ ob ∧ Exa Z h ob "java/util/Optional" ∧ Fld Z h ob "java/util/Optional" "value" "Ljava/lang/Object;" (.ref w_N)
set_option maxRecDepth 65536 in
set_option maxHeartbeats 40000000 in
theorem rm_own (l : Launch) (Z : State) (a0 : Array Value) (hw : ∀ d ∈ tables_1, d.before a0 Z = true) (ws : List Jvm.Cond) (w_N : Addr) (S_N : Sta Z Z.heap "com/example/vacuum/vacuum/model/PrunePolicy$Method" "NUMBER_OF_TAGS" "Lcom/example/vacuum/vacuum/model/PrunePolicy$Method;" (.ref w_N)) (X_N : Exa Z Z.heap w_N "com/example/vacuum/vacuum/model/PrunePolicy$Method") (w_K : Addr) (S_K : Sta Z Z.heap "com/example/vacuum/vacuum/model/PrunePolicy$Method" "CREATION_DATE" "Lcom/example/vacuum/vacuum/model/PrunePolicy$Method;" (.ref w_K)) (X_K : Exa Z Z.heap w_K "com/example/vacuum/vacuum/model/PrunePolicy$Method") (w_V : Addr) (k_V : ClassId) (S_V : Sta Z Z.heap "com/example/vacuum/vacuum/model/PrunePolicy$Method" "$VALUES" "[Lcom/example/vacuum/vacuum/model/PrunePolicy$Method;" (.ref w_V)) (X_V : Exa Z Z.heap w_V "[Lcom/example/vacuum/vacuum/model/PrunePolicy$Method;") (V_V : Arv Z Z.heap w_V k_V (.object "com/example/vacuum/vacuum/model/PrunePolicy$Method") (2 : Int32) [(.ref w_N), (.ref w_K)] .null) (w_NS : Addr) (F_NS : Fld Z Z.heap w_N "com/example/vacuum/vacuum/model/PrunePolicy$Method" "wireName" "Ljava/lang/String;" (.ref w_NS)) (X_NS : Exa Z Z.heap w_NS "java/lang/String") (I_NS_coder : Fld Z Z.heap w_NS "java/lang/String" "coder" "B" (.int (0 : Int32))) (w_NB : Addr) (k_NB : ClassId) (F_NB : Fld Z Z.heap w_NS "java/lang/String" "value" "[B" (.ref w_NB)) (V_NB : Arv Z Z.heap w_NB k_NB .byte (14 : Int32) [(.int (110 : Int32)), (.int (117 : Int32)), (.int (109 : Int32)), (.int (98 : Int32)), (.int (101 : Int32)), (.int (114 : Int32)), (.int (95 : Int32)), (.int (111 : Int32)), (.int (102 : Int32)), (.int (95 : Int32)), (.int (116 : Int32)), (.int (97 : Int32)), (.int (103 : Int32)), (.int (115 : Int32))] (.int (0 : Int32))) (w_KS : Addr) (F_KS : Fld Z Z.heap w_K "com/example/vacuum/vacuum/model/PrunePolicy$Method" "wireName" "Ljava/lang/String;" (.ref w_KS)) (X_KS : Exa Z Z.heap w_KS "java/lang/String") (I_KS_coder : Fld Z Z.heap w_KS "java/lang/String" "coder" "B" (.int (0 : Int32))) (w_KB : Addr) (k_KB : ClassId) (F_KB : Fld Z Z.heap w_KS "java/lang/String" "value" "[B" (.ref w_KB)) (V_KB : Arv Z Z.heap w_KB k_KB .byte (13 : Int32) [(.int (99 : Int32)), (.int (114 : Int32)), (.int (101 : Int32)), (.int (97 : Int32)), (.int (116 : Int32)), (.int (105 : Int32)), (.int (111 : Int32)), (.int (110 : Int32)), (.int (95 : Int32)), (.int (100 : Int32)), (.int (97 : Int32)), (.int (116 : Int32)), (.int (101 : Int32))] (.int (0 : Int32))) (w_OE : Addr) (S_OE : Sta Z Z.heap "java/util/Optional" "EMPTY" "Ljava/util/Optional;" (.ref w_OE)) (X_OE : Exa Z Z.heap w_OE "java/util/Optional") (I_OE_value : Fld Z Z.heap w_OE "java/util/Optional" "value" "Ljava/lang/Object;" .null) (g_CS : Int32) (S_CS : Sta Z Z.heap "java/lang/String" "COMPACT_STRINGS" "Z" (.int g_CS)) (nz_CS : ¬ (g_CS = (0 : Int32))) (g_SF : Value) (S_SF : Sta Z Z.heap "jdk/internal/util/Preconditions" "SIOOBE_FORMATTER" "Ljava/util/function/BiFunction;" g_SF) (r_SF : g_SF.isRef = true) (p0 : Addr) (pcs : List Int32) (pv : Addr) (pk : ClassId) (h0 : Heap) (n0 : Nat) (X00 : Old Z n0 h0) (hp0 : Exa Z h0 p0 "java/lang/String") (hp1 : Fld Z h0 p0 "java/lang/String" "coder" "B" (.int (0 : Int32))) (hp2 : Fld Z h0 p0 "java/lang/String" "value" "[B" (.ref pv)) (hp3 : Arv Z h0 pv pk .byte (Int32.ofNat pcs.length) ((pcs.map StrChars.lo8).map Value.int) (.int (0 : Int32))) (hpc0 : ∀ c ∈ pcs, ¬ c < 0 ∧ ¬ (255 : Int32) < c) (hle0 : pcs.length ≤ 4000) (hcn : ([(110 : Int32), (117 : Int32), (109 : Int32), (98 : Int32), (101 : Int32), (114 : Int32), (95 : Int32), (111 : Int32), (102 : Int32), (95 : Int32), (116 : Int32), (97 : Int32), (103 : Int32), (115 : Int32)] : List Int32) = pcs) :
    MetFree l (⟨"com/example/vacuum/vacuum/model/PrunePolicy$Method", "ofWireName", "(Ljava/lang/String;)Ljava/util/Optional;"⟩ : MethodName) (head1 (Jvm.Cond.code (⟨"com/example/vacuum/vacuum/model/PrunePolicy$Method", "ofWireName", "(Ljava/lang/String;)Ljava/util/Optional;"⟩ : MethodName) prog_18_method_5_code 5 (some (.object "java/util/Optional")) :: ws) ({ frames := 3, cells := 2, slots := 3, locals := 38 } : Room)) (fun a U => a = #[(.ref p0)] ∧ Z.Warmed39 U.vm ∧ U.heap = h0) (fun _ _ _ _ _ => True) (fun _ U o U' => ∃ v L, o = .returned v ∧ Q_rm_own Z w_N w_K w_V k_V w_NS w_NB k_NB w_KS w_KB k_KB w_OE g_CS g_SF p0 pcs pv pk h0 n0 v U'.heap L ∧ FrameEnd U o U' L ({ frames := 3, cells := 2, slots := 3, locals := 38 } : Room).cells ({ frames := 3, cells := 2, slots := 3, locals := 38 } : Room).slots) := by
  refine MetFree.of_bodySF (plainFor_of_name own_pn3) hisR ?_
  intro p e s m args below meth c s₁ Bd hml0 hP hK
  obtain ⟨rfl, hZ, hh⟩ := hP
  have hx := Bd.exec
  have hby := Bd.bytes
  have hml : c.maxLocals = 5 := hml0
  have hown : s.vm.findClass "com/example/vacuum/vacuum/model/PrunePolicy$Method" = some m.cls := findClass_of_methodNamed Bd.named
  have hnm := (name_of_methodNamed Bd.named Bd.method).1
  have X0 : Stand p l e ({ frames := 3, cells := 2, slots := 3, locals := 38 } : Room) s m #[(.ref p0)] below meth c s₁ [] 0 0 := Stand.of_body Bd
  have e0 : s₁.heap = h0 := by rw [← hh, Bd.state]; rfl
  have N0 := Fr.nil n0
  refine Go.start fun P hPend => ?_
  refine Go.st (fun _ k => castTop (own_ef_rm_own m p0) k) ?_
  show Go p.tables e below P (s₁.setTop (mkF m 0 #[lR p0, lU, lU, lU, lU] []))
  obtain ⟨_, _, ⟨T1, L1, k1, n1⟩, -, X1, ⟨Lc1, hQ1, l1, y1, z1⟩, st1⟩ := Jvm.LawKit.callS X0 hx (y := (⟨"com/example/vacuum/vacuum/model/PrunePolicy$Method", "values", "()[Lcom/example/vacuum/vacuum/model/PrunePolicy$Method;"⟩ : MethodName)) hown (mvT hZ (ow hw 55 rfl)) (mvT hZ (ow hw 56 rfl)) (mvT hZ (ow hw 53 rfl)) (mvT hZ (ow hw 57 rfl)) (by decide) (backOf (W := 0) (rm_vals l Z a0 hw [] w_N S_N X_N w_K S_K X_K w_V k_V S_V X_V V_V w_NS F_NS X_NS I_NS_coder w_NB k_NB F_NB V_NB w_KS F_KS X_KS I_KS_coder w_KB k_KB F_KB V_KB w_OE S_OE X_OE I_OE_value g_CS S_CS nz_CS g_SF S_SF r_SF h0 n0 X00 ) hZ (ow hw 57 rfl) (ow hw 53 rfl) (by decide) (by decide)) (g := (mkF m 0 #[.val (.ref p0), .unset, .unset, .unset, .unset] [])) rfl (by rw [hml]; rfl) (argsL := []) (rest := []) (lenOf own_pd3 rfl) rfl (by show 2 * 0 + _ ≤ _; exact Nat.le_of_eq rfl) (hb hby own_d_prog_18_method_5_code_0) (fun _ _ => ⟨rfl, e0, (by decide : 0 + 1 ≤ _), (by decide : 0 + 2 ≤ _)⟩)
  dsimp only [Pt.U, Pt.locs, Pt.cells, Pt.slots] at X1 l1 y1 z1 st1 hQ1
  subst y1 z1
  refine Go.st st1 ?_
  obtain ⟨ob_2, rfl, N1q, K1q, q1_0, q1_1⟩ := hQ1
  have N1 : Fr n0 L1 := by rw [l1]; exact Fr.app N0 N1q
  have O1 := X00.keep K1q all0
  have K1 : Keep h0 T1.heap [] := (Keep.refl h0 []).trans K1q all0
  have sz_ob_2 : h0.size ≤ ob_2 := Nat.le_trans (Keep.refl h0 []).1 q1_0
  have g_ob_2 : n0 ≤ ob_2 := Nat.le_trans (own_oldsz X00) sz_ob_2
  show Go p.tables e below P (T1.setTop (mkF m 3 #[lR p0, lU, lU, lU, lU] [(.ref ob_2)]))
  refine Go.st (fun _ => XS.astoreN X1.here hx rfl (hb hby own_d_prog_18_method_5_code_3) rfl rfl (l' := #[.val (.ref p0), .val (.ref ob_2), .unset, .unset, .unset]) rfl) ?_
  show Go p.tables e below P (T1.setTop (mkF m 4 #[lR p0, lR ob_2, lU, lU, lU] []))
  refine Go.st (fun _ => XS.aloadN X1.here hx rfl (hb hby own_d_prog_18_method_5_code_4) rfl rfl) ?_
  show Go p.tables e below P (T1.setTop (mkF m 5 #[lR p0, lR ob_2, lU, lU, lU] [(.ref ob_2)]))
  refine Go.st (fun _ => own_len X1 hx hZ rfl q1_1 (g := (mkF m 5 #[.val (.ref p0), .val (.ref ob_2), .unset, .unset, .unset] [(.ref ob_2)])) rfl rfl (hb hby own_d_prog_18_method_5_code_5) _) ?_
  show Go p.tables e below P (T1.setTop (mkF m 6 #[lR p0, lR ob_2, lU, lU, lU] [(.int (2 : Int32))]))
  refine Go.st (fun _ => XS.istoreN X1.here hx rfl (hb hby own_d_prog_18_method_5_code_6) rfl (l' := #[.val (.ref p0), .val (.ref ob_2), .val (.int (2 : Int32)), .unset, .unset]) rfl) ?_
  show Go p.tables e below P (T1.setTop (mkF m 7 #[lR p0, lR ob_2, lI (2 : Int32), lU, lU] []))
  refine Go.st (fun _ => XS.iconst X1.here hx rfl (hb hby own_d_prog_18_method_5_code_7)) ?_
  show Go p.tables e below P (T1.setTop (mkF m 8 #[lR p0, lR ob_2, lI (2 : Int32), lU, lU] [(.int (0 : Int32))]))
  refine Go.st (fun _ => XS.istoreN X1.here hx rfl (hb hby own_d_prog_18_method_5_code_8) rfl (l' := #[.val (.ref p0), .val (.ref ob_2), .val (.int (2 : Int32)), .val (.int (0 : Int32)), .unset]) rfl) ?_
  show Go p.tables e below P (T1.setTop (mkF m 9 #[lR p0, lR ob_2, lI (2 : Int32), lI (0 : Int32), lU] []))
  refine Go.st (fun _ => XS.iloadN X1.here hx rfl (hb hby own_d_prog_18_method_5_code_9) rfl) ?_
  show Go p.tables e below P (T1.setTop (mkF m 10 #[lR p0, lR ob_2, lI (2 : Int32), lI (0 : Int32), lU] [(.int (0 : Int32))]))
  refine Go.st (fun _ => XS.iloadN X1.here hx rfl (hb hby own_d_prog_18_method_5_code_10) rfl) ?_
  show Go p.tables e below P (T1.setTop (mkF m 11 #[lR p0, lR ob_2, lI (2 : Int32), lI (0 : Int32), lU] [(.int (2 : Int32)), (.int (0 : Int32))]))
  refine Go.st (fun _ => XS.icmpNo X1.here hx rfl (hb hby own_d_prog_18_method_5_code_11) rfl (tlt (by decide)).2.1) ?_
  show Go p.tables e below P (T1.setTop (mkF m 14 #[lR p0, lR ob_2, lI (2 : Int32), lI (0 : Int32), lU] []))
  refine Go.st (fun _ => XS.aloadN X1.here hx rfl (hb hby own_d_prog_18_method_5_code_14) rfl rfl) ?_
  show Go p.tables e below P (T1.setTop (mkF m 15 #[lR p0, lR ob_2, lI (2 : Int32), lI (0 : Int32), lU] [(.ref ob_2)]))
  refine Go.st (fun _ => XS.iloadN X1.here hx rfl (hb hby own_d_prog_18_method_5_code_15) rfl) ?_
  show Go p.tables e below P (T1.setTop (mkF m 16 #[lR p0, lR ob_2, lI (2 : Int32), lI (0 : Int32), lU] [(.int (0 : Int32)), (.ref ob_2)]))
  refine Go.st (fun _ => own_ldR X1 hx hZ rfl q1_1 (j := (0 : Int32)) (i := 0) (v := (.ref w_N)) (by decide) (by decide) rfl (g := (mkF m 16 #[.val (.ref p0), .val (.ref ob_2), .val (.int (2 : Int32)), .val (.int (0 : Int32)), .unset] [(.int (0 : Int32)), (.ref ob_2)])) rfl rfl (hb hby own_d_prog_18_method_5_code_16) _) ?_
  show Go p.tables e below P (T1.setTop (mkF m 17 #[lR p0, lR ob_2, lI (2 : Int32), lI (0 : Int32), lU] [(.ref w_N)]))
  refine Go.st (fun _ => XS.astore X1.here hx rfl (hb hby own_d_prog_18_method_5_code_17) rfl rfl (l' := #[.val (.ref p0), .val (.ref ob_2), .val (.int (2 : Int32)), .val (.int (0 : Int32)), .val (.ref w_N)]) rfl) ?_
  show Go p.tables e below P (T1.setTop (mkF m 19 #[lR p0, lR ob_2, lI (2 : Int32), lI (0 : Int32), lR w_N] []))
  refine Go.st (fun _ => XS.aload X1.here hx rfl (hb hby own_d_prog_18_method_5_code_19) rfl rfl) ?_
  show Go p.tables e below P (T1.setTop (mkF m 21 #[lR p0, lR ob_2, lI (2 : Int32), lI (0 : Int32), lR w_N] [(.ref w_N)]))
  obtain ⟨T4, X4, e4, st4⟩ := getF X1 hx hZ hown (host := "") (Or.inl (ow hw 72 rfl)) Via.refl rfl (F_NS.ext O1.2) (g := (mkF m 21 #[.val (.ref p0), .val (.ref ob_2), .val (.int (2 : Int32)), .val (.int (0 : Int32)), .val (.ref w_N)] [(.ref w_N)])) rfl rfl (hb hby own_d_prog_18_method_5_code_21)
  refine Go.st st4 ?_
  show Go p.tables e below P (T4.setTop (mkF m 24 #[lR p0, lR ob_2, lI (2 : Int32), lI (0 : Int32), lR w_N] [(.ref w_NS)]))
  refine Go.st (fun _ => XS.aloadN X4.here hx rfl (hb hby own_d_prog_18_method_5_code_24) rfl rfl) ?_
  show Go p.tables e below P (T4.setTop (mkF m 25 #[lR p0, lR ob_2, lI (2 : Int32), lI (0 : Int32), lR w_N] [(.ref p0), (.ref w_NS)]))
  have hcd5 : StrChars.Road.CodA ([(110 : Int32), (117 : Int32), (109 : Int32), (98 : Int32), (101 : Int32), (114 : Int32), (95 : Int32), (111 : Int32), (102 : Int32), (95 : Int32), (116 : Int32), (97 : Int32), (103 : Int32), (115 : Int32)] : List Int32) 0 (14 : Int32) [(.int (110 : Int32)), (.int (117 : Int32)), (.int (109 : Int32)), (.int (98 : Int32)), (.int (101 : Int32)), (.int (114 : Int32)), (.int (95 : Int32)), (.int (111 : Int32)), (.int (102 : Int32)), (.int (95 : Int32)), (.int (116 : Int32)), (.int (97 : Int32)), (.int (103 : Int32)), (.int (115 : Int32))] := StrChars.Road.codOf (n := 14) rfl (fun c hc => ((show ∀ c ∈ ([(110 : Int32), (117 : Int32), (109 : Int32), (98 : Int32), (101 : Int32), (114 : Int32), (95 : Int32), (111 : Int32), (102 : Int32), (95 : Int32), (116 : Int32), (97 : Int32), (103 : Int32), (115 : Int32)] : List Int32), ¬ c < 0 ∧ ¬ (255 : Int32) < c by decide) c hc).2)
  have c6 := (hp0.keep K1q)
  have c7 := (hp2.keep K1q nin0)
  have c8 := (hp1.keep K1q nin0)
  have c9 := (hp3.keep K1q nin0)
  have hcd5b : StrChars.Road.CodA pcs 0 (Int32.ofNat pcs.length) ((pcs.map StrChars.lo8).map Value.int) := StrChars.Road.codOf (n := pcs.length) rfl (fun c hc => (hpc0 c hc).2)
  obtain ⟨cq5, kq5, q5a, q5b, q5c⟩ := isOf hZ e4 (X_NS.ext O1.2)
  obtain ⟨_, _, ⟨T5, L5, k5, n5⟩, -, X5, ⟨Lc5, hQ5, l5, y5, z5⟩, st5⟩ := X4.virtualBack hx (y := (⟨"java/lang/String", "equals", "(Ljava/lang/Object;)Z"⟩ : MethodName)) (z := (⟨"java/lang/String", "equals", "(Ljava/lang/Object;)Z"⟩ : MethodName)) hown (mvT hZ (ow hw 74 rfl)) (mvT hZ (ow hw 75 rfl)) (notFace_of_selects (args := #[]) (mvT hZ (ow hw 77 rfl))) (mvT hZ (ow hw 77 rfl)) (mvT hZ (ow hw 76 rfl)) (by decide) (StrChars.Road.eqW (W := 0) hZ (fun d hd => hw d (own_wEq d hd)) (kI := 4) (ow hw 2 rfl) (X_NS.ext O1.2) (F_NB.ext O1.2) (I_NS_coder.ext O1.2) (V_NB.ext O1.2) hcd5 (own_up _ (show ∀ c ∈ ([(110 : Int32), (117 : Int32), (109 : Int32), (98 : Int32), (101 : Int32), (114 : Int32), (95 : Int32), (111 : Int32), (102 : Int32), (95 : Int32), (116 : Int32), (97 : Int32), (103 : Int32), (115 : Int32)] : List Int32), ¬ c < 0 ∧ ¬ (255 : Int32) < c by decide)) (Nat.le_of_ble_eq_true rfl) c6 c7 c8 c9 hcd5b (own_up _ hpc0) hle0 (S_CS.ext O1.2) nz_CS (by decide) (by decide)) q5a q5c (g := (mkF m 25 #[.val (.ref p0), .val (.ref ob_2), .val (.int (2 : Int32)), .val (.int (0 : Int32)), .val (.ref w_N)] [(.ref p0), (.ref w_NS)])) rfl (by rw [hml]; rfl) (Steps.refl _) (argsL := [(.ref p0)]) (rest := []) (lenOf own_pd4 rfl) rfl (by show 2 * 0 + _ ≤ _; exact Nat.le_of_eq rfl) (hb hby own_d_prog_18_method_5_code_25) (fun _ _ => ⟨rfl, e4, (by decide : 1 + 0 ≤ _), (by decide : 2 + 0 ≤ _)⟩)
  dsimp only [Pt.U, Pt.locs, Pt.cells, Pt.slots] at X5 l5 y5 z5 st5 hQ5
  subst y5 z5
  refine Go.tr st5 ?_
  obtain ⟨hor5, rfl, e5⟩ := hQ5
  have N5 : Fr n0 L5 := by rw [l5]; exact Fr.app N1 (Fr.nil n0)
  obtain ⟨rfl, heq5⟩ : _ ∧ ([(110 : Int32), (117 : Int32), (109 : Int32), (98 : Int32), (101 : Int32), (114 : Int32), (95 : Int32), (111 : Int32), (102 : Int32), (95 : Int32), (116 : Int32), (97 : Int32), (103 : Int32), (115 : Int32)] : List Int32) = pcs := hor5.elim id (fun q => absurd hcn q.2)
  show Go p.tables e below P (T5.setTop (mkF m 28 #[lR p0, lR ob_2, lI (2 : Int32), lI (0 : Int32), lR w_N] [(.int (1 : Int32))]))
  refine Go.st (fun _ => XS.ifNo X5.here hx rfl (hb hby own_d_prog_18_method_5_code_28) rfl ((if0 _ _).trans (feq (by decide)).1)) ?_
  show Go p.tables e below P (T5.setTop (mkF m 31 #[lR p0, lR ob_2, lI (2 : Int32), lI (0 : Int32), lR w_N] []))
  refine Go.st (fun _ => XS.aload X5.here hx rfl (hb hby own_d_prog_18_method_5_code_31) rfl rfl) ?_
  show Go p.tables e below P (T5.setTop (mkF m 33 #[lR p0, lR ob_2, lI (2 : Int32), lI (0 : Int32), lR w_N] [(.ref w_N)]))
  obtain ⟨_, _, ⟨T10, L10, k10, n10⟩, -, X10, ⟨Lc10, hQ10, l10, y10, z10⟩, st10⟩ := Jvm.LawKit.callS X5 hx (y := (⟨"java/util/Optional", "of", "(Ljava/lang/Object;)Ljava/util/Optional;"⟩ : MethodName)) hown (mvT hZ (ow hw 121 rfl)) (mvT hZ (ow hw 122 rfl)) (mvT hZ (ow hw 81 rfl)) (mvT hZ (ow hw 123 rfl)) (by decide) (backOf (W := 0) (rm_oof l Z a0 hw [] w_N S_N X_N w_K S_K X_K w_V k_V S_V X_V V_V w_NS F_NS X_NS I_NS_coder w_NB k_NB F_NB V_NB w_KS F_KS X_KS I_KS_coder w_KB k_KB F_KB V_KB w_OE S_OE X_OE I_OE_value g_CS S_CS nz_CS g_SF S_SF r_SF w_N T1.heap n0 O1 ) hZ (ow hw 123 rfl) (ow hw 81 rfl) (by decide) (by decide)) (g := (mkF m 33 #[.val (.ref p0), .val (.ref ob_2), .val (.int (2 : Int32)), .val (.int (0 : Int32)), .val (.ref w_N)] [(.ref w_N)])) rfl (by rw [hml]; rfl) (argsL := [(.ref w_N)]) (rest := []) (lenOf own_pd6 rfl) rfl (by show 2 * 0 + _ ≤ _; exact Nat.le_of_eq rfl) (hb hby own_d_prog_18_method_5_code_33) (fun _ _ => ⟨rfl, e5, (by decide : 1 + 1 ≤ _), (by decide : 2 + 1 ≤ _)⟩)
  dsimp only [Pt.U, Pt.locs, Pt.cells, Pt.slots] at X10 l10 y10 z10 st10 hQ10
  subst y10 z10
  refine Go.st st10 ?_
  obtain ⟨ob_11, rfl, N10q, K10q, q10_0, q10_1, q10_2⟩ := hQ10
  have N10 : Fr n0 L10 := by rw [l10]; exact Fr.app N5 N10q
  have O10 := O1.keep K10q all0
  have K10 : Keep h0 T10.heap [] := K1.trans K10q all0
  have sz_ob_11 : h0.size ≤ ob_11 := Nat.le_trans K1.1 q10_0
  have g_ob_11 : n0 ≤ ob_11 := Nat.le_trans (own_oldsz X00) sz_ob_11
  show Go p.tables e below P (T10.setTop (mkF m 36 #[lR p0, lR ob_2, lI (2 : Int32), lI (0 : Int32), lR w_N] [(.ref ob_11)]))
  obtain ⟨fs, hr, hrun, hended, hW, hsame⟩ := X10.leave (v := some (.ref ob_11)) (fun h => by rw [Bd.returns] at h; cases h)
  refine ⟨_, ?_, hPend _ _ hrun hended ⟨_, _, rfl, ?_, ⟨_, rfl⟩, hW, hsame.mono (by decide) (by decide)⟩⟩
  · exact retOut X10 hx (t := (.object "java/util/Optional")) Bd.returns rfl (Or.inr (Or.inr (Or.inr (Or.inr ⟨rfl, rfl, rfl⟩)))) (hb hby own_d_prog_18_method_5_code_36) hr
  · show Q_rm_own Z _ _ _ _ _ _ _ _ _ _ _ _ _ _ _ _ _ h0 n0 _ T10.heap _
    exact ⟨ob_11, rfl, N10, K10, sz_ob_11, q10_1, q10_2⟩
theorem own_ef_rm_owc (m : MethodId) (x0 : Addr) : entryFrame m #[(.ref x0)] 5 = mkF m 0 #[.val (.ref x0), .unset, .unset, .unset, .unset] [] := by first | (simp [entryFrame, mkF, argsToLocals, Value.category]; done) | rfl
def Q_rm_owc (Z : State) (w_N : Addr) (w_K : Addr) (w_V : Addr) (k_V : ClassId) (w_NS : Addr) (w_NB : Addr) (k_NB : ClassId) (w_KS : Addr) (w_KB : Addr) (k_KB : ClassId) (w_OE : Addr) (g_CS : Int32) (g_SF : Value) (p0 : Addr) (pcs : List Int32) (pv : Addr) (pk : ClassId) (h0 : Heap) (n0 : Nat) (v : Option Value) (h : Heap) (L : List Loc) : Prop := ∃ (ob : Addr), v = some (.ref ob) ∧ Fr n0 L ∧ Keep h0 h [] ∧ h0.size ≤ ob ∧ Exa Z h ob "java/util/Optional" ∧ Fld Z h ob "java/util/Optional" "value" "Ljava/lang/Object;" (.ref w_K)
set_option maxRecDepth 65536 in
set_option maxHeartbeats 40000000 in
theorem rm_owc (l : Launch) (Z : State) (a0 : Array Value) (hw : ∀ d ∈ tables_1, d.before a0 Z = true) (ws : List Jvm.Cond) (w_N : Addr) (S_N : Sta Z Z.heap "com/example/vacuum/vacuum/model/PrunePolicy$Method" "NUMBER_OF_TAGS" "Lcom/example/vacuum/vacuum/model/PrunePolicy$Method;" (.ref w_N)) (X_N : Exa Z Z.heap w_N "com/example/vacuum/vacuum/model/PrunePolicy$Method") (w_K : Addr) (S_K : Sta Z Z.heap "com/example/vacuum/vacuum/model/PrunePolicy$Method" "CREATION_DATE" "Lcom/example/vacuum/vacuum/model/PrunePolicy$Method;" (.ref w_K)) (X_K : Exa Z Z.heap w_K "com/example/vacuum/vacuum/model/PrunePolicy$Method") (w_V : Addr) (k_V : ClassId) (S_V : Sta Z Z.heap "com/example/vacuum/vacuum/model/PrunePolicy$Method" "$VALUES" "[Lcom/example/vacuum/vacuum/model/PrunePolicy$Method;" (.ref w_V)) (X_V : Exa Z Z.heap w_V "[Lcom/example/vacuum/vacuum/model/PrunePolicy$Method;") (V_V : Arv Z Z.heap w_V k_V (.object "com/example/vacuum/vacuum/model/PrunePolicy$Method") (2 : Int32) [(.ref w_N), (.ref w_K)] .null) (w_NS : Addr) (F_NS : Fld Z Z.heap w_N "com/example/vacuum/vacuum/model/PrunePolicy$Method" "wireName" "Ljava/lang/String;" (.ref w_NS)) (X_NS : Exa Z Z.heap w_NS "java/lang/String") (I_NS_coder : Fld Z Z.heap w_NS "java/lang/String" "coder" "B" (.int (0 : Int32))) (w_NB : Addr) (k_NB : ClassId) (F_NB : Fld Z Z.heap w_NS "java/lang/String" "value" "[B" (.ref w_NB)) (V_NB : Arv Z Z.heap w_NB k_NB .byte (14 : Int32) [(.int (110 : Int32)), (.int (117 : Int32)), (.int (109 : Int32)), (.int (98 : Int32)), (.int (101 : Int32)), (.int (114 : Int32)), (.int (95 : Int32)), (.int (111 : Int32)), (.int (102 : Int32)), (.int (95 : Int32)), (.int (116 : Int32)), (.int (97 : Int32)), (.int (103 : Int32)), (.int (115 : Int32))] (.int (0 : Int32))) (w_KS : Addr) (F_KS : Fld Z Z.heap w_K "com/example/vacuum/vacuum/model/PrunePolicy$Method" "wireName" "Ljava/lang/String;" (.ref w_KS)) (X_KS : Exa Z Z.heap w_KS "java/lang/String") (I_KS_coder : Fld Z Z.heap w_KS "java/lang/String" "coder" "B" (.int (0 : Int32))) (w_KB : Addr) (k_KB : ClassId) (F_KB : Fld Z Z.heap w_KS "java/lang/String" "value" "[B" (.ref w_KB)) (V_KB : Arv Z Z.heap w_KB k_KB .byte (13 : Int32) [(.int (99 : Int32)), (.int (114 : Int32)), (.int (101 : Int32)), (.int (97 : Int32)), (.int (116 : Int32)), (.int (105 : Int32)), (.int (111 : Int32)), (.int (110 : Int32)), (.int (95 : Int32)), (.int (100 : Int32)), (.int (97 : Int32)), (.int (116 : Int32)), (.int (101 : Int32))] (.int (0 : Int32))) (w_OE : Addr) (S_OE : Sta Z Z.heap "java/util/Optional" "EMPTY" "Ljava/util/Optional;" (.ref w_OE)) (X_OE : Exa Z Z.heap w_OE "java/util/Optional") (I_OE_value : Fld Z Z.heap w_OE "java/util/Optional" "value" "Ljava/lang/Object;" .null) (g_CS : Int32) (S_CS : Sta Z Z.heap "java/lang/String" "COMPACT_STRINGS" "Z" (.int g_CS)) (nz_CS : ¬ (g_CS = (0 : Int32))) (g_SF : Value) (S_SF : Sta Z Z.heap "jdk/internal/util/Preconditions" "SIOOBE_FORMATTER" "Ljava/util/function/BiFunction;" g_SF) (r_SF : g_SF.isRef = true) (p0 : Addr) (pcs : List Int32) (pv : Addr) (pk : ClassId) (h0 : Heap) (n0 : Nat) (X00 : Old Z n0 h0) (hp0 : Exa Z h0 p0 "java/lang/String") (hp1 : Fld Z h0 p0 "java/lang/String" "coder" "B" (.int (0 : Int32))) (hp2 : Fld Z h0 p0 "java/lang/String" "value" "[B" (.ref pv)) (hp3 : Arv Z h0 pv pk .byte (Int32.ofNat pcs.length) ((pcs.map StrChars.lo8).map Value.int) (.int (0 : Int32))) (hpc0 : ∀ c ∈ pcs, ¬ c < 0 ∧ ¬ (255 : Int32) < c) (hle0 : pcs.length ≤ 4000) (hcn : ¬ (([(110 : Int32), (117 : Int32), (109 : Int32), (98 : Int32), (101 : Int32), (114 : Int32), (95 : Int32), (111 : Int32), (102 : Int32), (95 : Int32), (116 : Int32), (97 : Int32), (103 : Int32), (115 : Int32)] : List Int32) = pcs)) (hcc : ([(99 : Int32), (114 : Int32), (101 : Int32), (97 : Int32), (116 : Int32), (105 : Int32), (111 : Int32), (110 : Int32), (95 : Int32), (100 : Int32), (97 : Int32), (116 : Int32), (101 : Int32)] : List Int32) = pcs) :
    MetFree l (⟨"com/example/vacuum/vacuum/model/PrunePolicy$Method", "ofWireName", "(Ljava/lang/String;)Ljava/util/Optional;"⟩ : MethodName) (head1 (Jvm.Cond.code (⟨"com/example/vacuum/vacuum/model/PrunePolicy$Method", "ofWireName", "(Ljava/lang/String;)Ljava/util/Optional;"⟩ : MethodName) prog_18_method_5_code 5 (some (.object "java/util/Optional")) :: ws) ({ frames := 3, cells := 2, slots := 3, locals := 38 } : Room)) (fun a U => a = #[(.ref p0)] ∧ Z.Warmed39 U.vm ∧ U.heap = h0) (fun _ _ _ _ _ => True) (fun _ U o U' => ∃ v L, o = .returned v ∧ Q_rm_owc Z w_N w_K w_V k_V w_NS w_NB k_NB w_KS w_KB k_KB w_OE g_CS g_SF p0 pcs pv pk h0 n0 v U'.heap L ∧ FrameEnd U o U' L ({ frames := 3, cells := 2, slots := 3, locals := 38 } : Room).cells ({ frames := 3, cells := 2, slots := 3, locals := 38 } : Room).slots) := by
  refine MetFree.of_bodySF (plainFor_of_name own_pn3) hisR ?_
  intro p e s m args below meth c s₁ Bd hml0 hP hK
  obtain ⟨rfl, hZ, hh⟩ := hP
  have hx := Bd.exec
  have hby := Bd.bytes
  have hml : c.maxLocals = 5 := hml0
  have hown : s.vm.findClass "com/example/vacuum/vacuum/model/PrunePolicy$Method" = some m.cls := findClass_of_methodNamed Bd.named
  have hnm := (name_of_methodNamed Bd.named Bd.method).1
  have X0 : Stand p l e ({ frames := 3, cells := 2, slots := 3, locals := 38 } : Room) s m #[(.ref p0)] below meth c s₁ [] 0 0 := Stand.of_body Bd
  have e0 : s₁.heap = h0 := by rw [← hh, Bd.state]; rfl
  have N0 := Fr.nil n0
  refine Go.start fun P hPend => ?_
  refine Go.st (fun _ k => castTop (own_ef_rm_owc m p0) k) ?_
  show Go p.tables e below P (s₁.setTop (mkF m 0 #[lR p0, lU, lU, lU, lU] []))
  obtain ⟨_, _, ⟨T1, L1, k1, n1⟩, -, X1, ⟨Lc1, hQ1, l1, y1, z1⟩, st1⟩ := Jvm.LawKit.callS X0 hx (y := (⟨"com/example/vacuum/vacuum/model/PrunePolicy$Method", "values", "()[Lcom/example/vacuum/vacuum/model/PrunePolicy$Method;"⟩ : MethodName)) hown (mvT hZ (ow hw 55 rfl)) (mvT hZ (ow hw 56 rfl)) (mvT hZ (ow hw 53 rfl)) (mvT hZ (ow hw 57 rfl)) (by decide) (backOf (W := 0) (rm_vals l Z a0 hw [] w_N S_N X_N w_K S_K X_K w_V k_V S_V X_V V_V w_NS F_NS X_NS I_NS_coder w_NB k_NB F_NB V_NB w_KS F_KS X_KS I_KS_coder w_KB k_KB F_KB V_KB w_OE S_OE X_OE I_OE_value g_CS S_CS nz_CS g_SF S_SF r_SF h0 n0 X00 ) hZ (ow hw 57 rfl) (ow hw 53 rfl) (by decide) (by decide)) (g := (mkF m 0 #[.val (.ref p0), .unset, .unset, .unset, .unset] [])) rfl (by rw [hml]; rfl) (argsL := []) (rest := []) (lenOf own_pd3 rfl) rfl (by show 2 * 0 + _ ≤ _; exact Nat.le_of_eq rfl) (hb hby own_d_prog_18_method_5_code_0) (fun _ _ => ⟨rfl, e0, (by decide : 0 + 1 ≤ _), (by decide : 0 + 2 ≤ _)⟩)
  dsimp only [Pt.U, Pt.locs, Pt.cells, Pt.slots] at X1 l1 y1 z1 st1 hQ1
  subst y1 z1
  refine Go.st st1 ?_
  obtain ⟨ob_2, rfl, N1q, K1q, q1_0, q1_1⟩ := hQ1
  have N1 : Fr n0 L1 := by rw [l1]; exact Fr.app N0 N1q
  have O1 := X00.keep K1q all0
  have K1 : Keep h0 T1.heap [] := (Keep.refl h0 []).trans K1q all0
  have sz_ob_2 : h0.size ≤ ob_2 := Nat.le_trans (Keep.refl h0 []).1 q1_0
  have g_ob_2 : n0 ≤ ob_2 := Nat.le_trans (own_oldsz X00) sz_ob_2
  show Go p.tables e below P (T1.setTop (mkF m 3 #[lR p0, lU, lU, lU, lU] [(.ref ob_2)]))
  refine Go.st (fun _ => XS.astoreN X1.here hx rfl (hb hby own_d_prog_18_method_5_code_3) rfl rfl (l' := #[.val (.ref p0), .val (.ref ob_2), .unset, .unset, .unset]) rfl) ?_
  show Go p.tables e below P (T1.setTop (mkF m 4 #[lR p0, lR ob_2, lU, lU, lU] []))
  refine Go.st (fun _ => XS.aloadN X1.here hx rfl (hb hby own_d_prog_18_method_5_code_4) rfl rfl) ?_
  show Go p.tables e below P (T1.setTop (mkF m 5 #[lR p0, lR ob_2, lU, lU, lU] [(.ref ob_2)]))
  refine Go.st (fun _ => own_len X1 hx hZ rfl q1_1 (g := (mkF m 5 #[.val (.ref p0), .val (.ref ob_2), .unset, .unset, .unset] [(.ref ob_2)])) rfl rfl (hb hby own_d_prog_18_method_5_code_5) _) ?_
  show Go p.tables e below P (T1.setTop (mkF m 6 #[lR p0, lR ob_2, lU, lU, lU] [(.int (2 : Int32))]))
  refine Go.st (fun _ => XS.istoreN X1.here hx rfl (hb hby own_d_prog_18_method_5_code_6) rfl (l' := #[.val (.ref p0), .val (.ref ob_2), .val (.int (2 : Int32)), .unset, .unset]) rfl) ?_
  show Go p.tables e below P (T1.setTop (mkF m 7 #[lR p0, lR ob_2, lI (2 : Int32), lU, lU] []))
  refine Go.st (fun _ => XS.iconst X1.here hx rfl (hb hby own_d_prog_18_method_5_code_7)) ?_
  show Go p.tables e below P (T1.setTop (mkF m 8 #[lR p0, lR ob_2, lI (2 : Int32), lU, lU] [(.int (0 : Int32))]))
  refine Go.st (fun _ => XS.istoreN X1.here hx rfl (hb hby own_d_prog_18_method_5_code_8) rfl (l' := #[.val (.ref p0), .val (.ref ob_2), .val (.int (2 : Int32)), .val (.int (0 : Int32)), .unset]) rfl) ?_
  show Go p.tables e below P (T1.setTop (mkF m 9 #[lR p0, lR ob_2, lI (2 : Int32), lI (0 : Int32), lU] []))
  refine Go.st (fun _ => XS.iloadN X1.here hx rfl (hb hby own_d_prog_18_method_5_code_9) rfl) ?_
  show Go p.tables e below P (T1.setTop (mkF m 10 #[lR p0, lR ob_2, lI (2 : Int32), lI (0 : Int32), lU] [(.int (0 : Int32))]))
  refine Go.st (fun _ => XS.iloadN X1.here hx rfl (hb hby own_d_prog_18_method_5_code_10) rfl) ?_
  show Go p.tables e below P (T1.setTop (mkF m 11 #[lR p0, lR ob_2, lI (2 : Int32), lI (0 : Int32), lU] [(.int (2 : Int32)), (.int (0 : Int32))]))
  refine Go.st (fun _ => XS.icmpNo X1.here hx rfl (hb hby own_d_prog_18_method_5_code_11) rfl (tlt (by decide)).2.1) ?_
  show Go p.tables e below P (T1.setTop (mkF m 14 #[lR p0, lR ob_2, lI (2 : Int32), lI (0 : Int32), lU] []))
  refine Go.st (fun _ => XS.aloadN X1.here hx rfl (hb hby own_d_prog_18_method_5_code_14) rfl rfl) ?_
  show Go p.tables e below P (T1.setTop (mkF m 15 #[lR p0, lR ob_2, lI (2 : Int32), lI (0 : Int32), lU] [(.ref ob_2)]))
  refine Go.st (fun _ => XS.iloadN X1.here hx rfl (hb hby own_d_prog_18_method_5_code_15) rfl) ?_
  show Go p.tables e below P (T1.setTop (mkF m 16 #[lR p0, lR ob_2, lI (2 : Int32), lI (0 : Int32), lU] [(.int (0 : Int32)), (.ref ob_2)]))
  refine Go.st (fun _ => own_ldR X1 hx hZ rfl q1_1 (j := (0 : Int32)) (i := 0) (v := (.ref w_N)) (by decide) (by decide) rfl (g := (mkF m 16 #[.val (.ref p0), .val (.ref ob_2), .val (.int (2 : Int32)), .val (.int (0 : Int32)), .unset] [(.int (0 : Int32)), (.ref ob_2)])) rfl rfl (hb hby own_d_prog_18_method_5_code_16) _) ?_
  show Go p.tables e below P (T1.setTop (mkF m 17 #[lR p0, lR ob_2, lI (2 : Int32), lI (0 : Int32), lU] [(.ref w_N)]))
  refine Go.st (fun _ => XS.astore X1.here hx rfl (hb hby own_d_prog_18_method_5_code_17) rfl rfl (l' := #[.val (.ref p0), .val (.ref ob_2), .val (.int (2 : Int32)), .val (.int (0 : Int32)), .val (.ref w_N)]) rfl) ?_
  show Go p.tables e below P (T1.setTop (mkF m 19 #[lR p0, lR ob_2, lI (2 : Int32), lI (0 : Int32), lR w_N] []))
  refine Go.st (fun _ => XS.aload X1.here hx rfl (hb hby own_d_prog_18_method_5_code_19) rfl rfl) ?_
  show Go p.tables e below P (T1.setTop (mkF m 21 #[lR p0, lR ob_2, lI (2 : Int32), lI (0 : Int32), lR w_N] [(.ref w_N)]))
  obtain ⟨T4, X4, e4, st4⟩ := getF X1 hx hZ hown (host := "") (Or.inl (ow hw 72 rfl)) Via.refl rfl (F_NS.ext O1.2) (g := (mkF m 21 #[.val (.ref p0), .val (.ref ob_2), .val (.int (2 : Int32)), .val (.int (0 : Int32)), .val (.ref w_N)] [(.ref w_N)])) rfl rfl (hb hby own_d_prog_18_method_5_code_21)
  refine Go.st st4 ?_
  show Go p.tables e below P (T4.setTop (mkF m 24 #[lR p0, lR ob_2, lI (2 : Int32), lI (0 : Int32), lR w_N] [(.ref w_NS)]))
  refine Go.st (fun _ => XS.aloadN X4.here hx rfl (hb hby own_d_prog_18_method_5_code_24) rfl rfl) ?_
  show Go p.tables e below P (T4.setTop (mkF m 25 #[lR p0, lR ob_2, lI (2 : Int32), lI (0 : Int32), lR w_N] [(.ref p0), (.ref w_NS)]))
  have hcd5 : StrChars.Road.CodA ([(110 : Int32), (117 : Int32), (109 : Int32), (98 : Int32), (101 : Int32), (114 : Int32), (95 : Int32), (111 : Int32), (102 : Int32), (95 : Int32), (116 : Int32), (97 : Int32), (103 : Int32), (115 : Int32)] : List Int32) 0 (14 : Int32) [(.int (110 : Int32)), (.int (117 : Int32)), (.int (109 : Int32)), (.int (98 : Int32)), (.int (101 : Int32)), (.int (114 : Int32)), (.int (95 : Int32)), (.int (111 : Int32)), (.int (102 : Int32)), (.int (95 : Int32)), (.int (116 : Int32)), (.int (97 : Int32)), (.int (103 : Int32)), (.int (115 : Int32))] := StrChars.Road.codOf (n := 14) rfl (fun c hc => ((show ∀ c ∈ ([(110 : Int32), (117 : Int32), (109 : Int32), (98 : Int32), (101 : Int32), (114 : Int32), (95 : Int32), (111 : Int32), (102 : Int32), (95 : Int32), (116 : Int32), (97 : Int32), (103 : Int32), (115 : Int32)] : List Int32), ¬ c < 0 ∧ ¬ (255 : Int32) < c by decide) c hc).2)
  have c6 := (hp0.keep K1q)
  have c7 := (hp2.keep K1q nin0)
  have c8 := (hp1.keep K1q nin0)
  have c9 := (hp3.keep K1q nin0)
  have hcd5b : StrChars.Road.CodA pcs 0 (Int32.ofNat pcs.length) ((pcs.map StrChars.lo8).map Value.int) := StrChars.Road.codOf (n := pcs.length) rfl (fun c hc => (hpc0 c hc).2)
  obtain ⟨cq5, kq5, q5a, q5b, q5c⟩ := isOf hZ e4 (X_NS.ext O1.2)
  obtain ⟨_, _, ⟨T5, L5, k5, n5⟩, -, X5, ⟨Lc5, hQ5, l5, y5, z5⟩, st5⟩ := X4.virtualBack hx (y := (⟨"java/lang/String", "equals", "(Ljava/lang/Object;)Z"⟩ : MethodName)) (z := (⟨"java/lang/String", "equals", "(Ljava/lang/Object;)Z"⟩ : MethodName)) hown (mvT hZ (ow hw 74 rfl)) (mvT hZ (ow hw 75 rfl)) (notFace_of_selects (args := #[]) (mvT hZ (ow hw 77 rfl))) (mvT hZ (ow hw 77 rfl)) (mvT hZ (ow hw 76 rfl)) (by decide) (StrChars.Road.eqW (W := 0) hZ (fun d hd => hw d (own_wEq d hd)) (kI := 4) (ow hw 2 rfl) (X_NS.ext O1.2) (F_NB.ext O1.2) (I_NS_coder.ext O1.2) (V_NB.ext O1.2) hcd5 (own_up _ (show ∀ c ∈ ([(110 : Int32), (117 : Int32), (109 : Int32), (98 : Int32), (101 : Int32), (114 : Int32), (95 : Int32), (111 : Int32), (102 : Int32), (95 : Int32), (116 : Int32), (97 : Int32), (103 : Int32), (115 : Int32)] : List Int32), ¬ c < 0 ∧ ¬ (255 : Int32) < c by decide)) (Nat.le_of_ble_eq_true rfl) c6 c7 c8 c9 hcd5b (own_up _ hpc0) hle0 (S_CS.ext O1.2) nz_CS (by decide) (by decide)) q5a q5c (g := (mkF m 25 #[.val (.ref p0), .val (.ref ob_2), .val (.int (2 : Int32)), .val (.int (0 : Int32)), .val (.ref w_N)] [(.ref p0), (.ref w_NS)])) rfl (by rw [hml]; rfl) (Steps.refl _) (argsL := [(.ref p0)]) (rest := []) (lenOf own_pd4 rfl) rfl (by show 2 * 0 + _ ≤ _; exact Nat.le_of_eq rfl) (hb hby own_d_prog_18_method_5_code_25) (fun _ _ => ⟨rfl, e4, (by decide : 1 + 0 ≤ _), (by decide : 2 + 0 ≤ _)⟩)
  dsimp only [Pt.U, Pt.locs, Pt.cells, Pt.slots] at X5 l5 y5 z5 st5 hQ5
  subst y5 z5
  refine Go.tr st5 ?_
  obtain ⟨hor5, rfl, e5⟩ := hQ5
  have N5 : Fr n0 L5 := by rw [l5]; exact Fr.app N1 (Fr.nil n0)
  obtain ⟨rfl, heq5⟩ := hor5.elim (fun q => absurd q.2 hcn) id
  show Go p.tables e below P (T5.setTop (mkF m 28 #[lR p0, lR ob_2, lI (2 : Int32), lI (0 : Int32), lR w_N] [(.int (0 : Int32))]))
  refine Go.st (fun _ => XS.ifYes X5.here hx rfl (pc0 := 28) (pc' := 37) rfl (hb hby own_d_prog_18_method_5_code_28) rfl ((if0 _ _).trans (teq (by decide)).1) (by decide) (by decide)) ?_
  show Go p.tables e below P (T5.setTop (mkF m 37 #[lR p0, lR ob_2, lI (2 : Int32), lI (0 : Int32), lR w_N] []))
  refine Go.st (fun _ => XS.iinc X5.here hx rfl (hb hby own_d_prog_18_method_5_code_37) rfl (l' := #[.val (.ref p0), .val (.ref ob_2), .val (.int (2 : Int32)), .val (.int (1 : Int32)), .val (.ref w_N)]) rfl) ?_
  show Go p.tables e below P (T5.setTop (mkF m 40 #[lR p0, lR ob_2, lI (2 : Int32), lI (1 : Int32), lR w_N] []))
  refine Go.st (fun _ => XS.goto X5.here hx rfl (pc0 := 40) (pc' := 9) rfl (hb hby own_d_prog_18_method_5_code_40) (by decide) (by decide)) ?_
  show Go p.tables e below P (T5.setTop (mkF m 9 #[lR p0, lR ob_2, lI (2 : Int32), lI (1 : Int32), lR w_N] []))
  refine Go.st (fun _ => XS.iloadN X5.here hx rfl (hb hby own_d_prog_18_method_5_code_9) rfl) ?_
  show Go p.tables e below P (T5.setTop (mkF m 10 #[lR p0, lR ob_2, lI (2 : Int32), lI (1 : Int32), lR w_N] [(.int (1 : Int32))]))
  refine Go.st (fun _ => XS.iloadN X5.here hx rfl (hb hby own_d_prog_18_method_5_code_10) rfl) ?_
  show Go p.tables e below P (T5.setTop (mkF m 11 #[lR p0, lR ob_2, lI (2 : Int32), lI (1 : Int32), lR w_N] [(.int (2 : Int32)), (.int (1 : Int32))]))
  refine Go.st (fun _ => XS.icmpNo X5.here hx rfl (hb hby own_d_prog_18_method_5_code_11) rfl (tlt (by decide)).2.1) ?_
  show Go p.tables e below P (T5.setTop (mkF m 14 #[lR p0, lR ob_2, lI (2 : Int32), lI (1 : Int32), lR w_N] []))
  refine Go.st (fun _ => XS.aloadN X5.here hx rfl (hb hby own_d_prog_18_method_5_code_14) rfl rfl) ?_
  show Go p.tables e below P (T5.setTop (mkF m 15 #[lR p0, lR ob_2, lI (2 : Int32), lI (1 : Int32), lR w_N] [(.ref ob_2)]))
  refine Go.st (fun _ => XS.iloadN X5.here hx rfl (hb hby own_d_prog_18_method_5_code_15) rfl) ?_
  show Go p.tables e below P (T5.setTop (mkF m 16 #[lR p0, lR ob_2, lI (2 : Int32), lI (1 : Int32), lR w_N] [(.int (1 : Int32)), (.ref ob_2)]))
  refine Go.st (fun _ => own_ldR X5 hx hZ e5 q1_1 (j := (1 : Int32)) (i := 1) (v := (.ref w_K)) (by decide) (by decide) rfl (g := (mkF m 16 #[.val (.ref p0), .val (.ref ob_2), .val (.int (2 : Int32)), .val (.int (1 : Int32)), .val (.ref w_N)] [(.int (1 : Int32)), (.ref ob_2)])) rfl rfl (hb hby own_d_prog_18_method_5_code_16) _) ?_
  show Go p.tables e below P (T5.setTop (mkF m 17 #[lR p0, lR ob_2, lI (2 : Int32), lI (1 : Int32), lR w_N] [(.ref w_K)]))
  refine Go.st (fun _ => XS.astore X5.here hx rfl (hb hby own_d_prog_18_method_5_code_17) rfl rfl (l' := #[.val (.ref p0), .val (.ref ob_2), .val (.int (2 : Int32)), .val (.int (1 : Int32)), .val (.ref w_K)]) rfl) ?_
  show Go p.tables e below P (T5.setTop (mkF m 19 #[lR p0, lR ob_2, lI (2 : Int32), lI (1 : Int32), lR w_K] []))
  refine Go.st (fun _ => XS.aload X5.here hx rfl (hb hby own_d_prog_18_method_5_code_19) rfl rfl) ?_
  show Go p.tables e below P (T5.setTop (mkF m 21 #[lR p0, lR ob_2, lI (2 : Int32), lI (1 : Int32), lR w_K] [(.ref w_K)]))
  obtain ⟨T11, X11, e11, st11⟩ := getF X5 hx hZ hown (host := "") (Or.inl (ow hw 72 rfl)) Via.refl e5 (F_KS.ext O1.2) (g := (mkF m 21 #[.val (.ref p0), .val (.ref ob_2), .val (.int (2 : Int32)), .val (.int (1 : Int32)), .val (.ref w_K)] [(.ref w_K)])) rfl rfl (hb hby own_d_prog_18_method_5_code_21)
  refine Go.st st11 ?_
  show Go p.tables e below P (T11.setTop (mkF m 24 #[lR p0, lR ob_2, lI (2 : Int32), lI (1 : Int32), lR w_K] [(.ref w_KS)]))
  refine Go.st (fun _ => XS.aloadN X11.here hx rfl (hb hby own_d_prog_18_method_5_code_24) rfl rfl) ?_
  show Go p.tables e below P (T11.setTop (mkF m 25 #[lR p0, lR ob_2, lI (2 : Int32), lI (1 : Int32), lR w_K] [(.ref p0), (.ref w_KS)]))
  have hcd12 : StrChars.Road.CodA ([(99 : Int32), (114 : Int32), (101 : Int32), (97 : Int32), (116 : Int32), (105 : Int32), (111 : Int32), (110 : Int32), (95 : Int32), (100 : Int32), (97 : Int32), (116 : Int32), (101 : Int32)] : List Int32) 0 (13 : Int32) [(.int (99 : Int32)), (.int (114 : Int32)), (.int (101 : Int32)), (.int (97 : Int32)), (.int (116 : Int32)), (.int (105 : Int32)), (.int (111 : Int32)), (.int (110 : Int32)), (.int (95 : Int32)), (.int (100 : Int32)), (.int (97 : Int32)), (.int (116 : Int32)), (.int (101 : Int32))] := StrChars.Road.codOf (n := 13) rfl (fun c hc => ((show ∀ c ∈ ([(99 : Int32), (114 : Int32), (101 : Int32), (97 : Int32), (116 : Int32), (105 : Int32), (111 : Int32), (110 : Int32), (95 : Int32), (100 : Int32), (97 : Int32), (116 : Int32), (101 : Int32)] : List Int32), ¬ c < 0 ∧ ¬ (255 : Int32) < c by decide) c hc).2)
  have hcd12b : StrChars.Road.CodA pcs 0 (Int32.ofNat pcs.length) ((pcs.map StrChars.lo8).map Value.int) := StrChars.Road.codOf (n := pcs.length) rfl (fun c hc => (hpc0 c hc).2)
  obtain ⟨cq12, kq12, q12a, q12b, q12c⟩ := isOf hZ e11 (X_KS.ext O1.2)
  obtain ⟨_, _, ⟨T12, L12, k12, n12⟩, -, X12, ⟨Lc12, hQ12, l12, y12, z12⟩, st12⟩ := X11.virtualBack hx (y := (⟨"java/lang/String", "equals", "(Ljava/lang/Object;)Z"⟩ : MethodName)) (z := (⟨"java/lang/String", "equals", "(Ljava/lang/Object;)Z"⟩ : MethodName)) hown (mvT hZ (ow hw 74 rfl)) (mvT hZ (ow hw 75 rfl)) (notFace_of_selects (args := #[]) (mvT hZ (ow hw 77 rfl))) (mvT hZ (ow hw 77 rfl)) (mvT hZ (ow hw 76 rfl)) (by decide) (StrChars.Road.eqW (W := 0) hZ (fun d hd => hw d (own_wEq d hd)) (kI := 4) (ow hw 2 rfl) (X_KS.ext O1.2) (F_KB.ext O1.2) (I_KS_coder.ext O1.2) (V_KB.ext O1.2) hcd12 (own_up _ (show ∀ c ∈ ([(99 : Int32), (114 : Int32), (101 : Int32), (97 : Int32), (116 : Int32), (105 : Int32), (111 : Int32), (110 : Int32), (95 : Int32), (100 : Int32), (97 : Int32), (116 : Int32), (101 : Int32)] : List Int32), ¬ c < 0 ∧ ¬ (255 : Int32) < c by decide)) (Nat.le_of_ble_eq_true rfl) c6 c7 c8 c9 hcd12b (own_up _ hpc0) hle0 (S_CS.ext O1.2) nz_CS (by decide) (by decide)) q12a q12c (g := (mkF m 25 #[.val (.ref p0), .val (.ref ob_2), .val (.int (2 : Int32)), .val (.int (1 : Int32)), .val (.ref w_K)] [(.ref p0), (.ref w_KS)])) rfl (by rw [hml]; rfl) (Steps.refl _) (argsL := [(.ref p0)]) (rest := []) (lenOf own_pd4 rfl) rfl (by show 2 * 0 + _ ≤ _; exact Nat.le_of_eq rfl) (hb hby own_d_prog_18_method_5_code_25) (fun _ _ => ⟨rfl, e11, (by decide : 1 + 0 ≤ _), (by decide : 2 + 0 ≤ _)⟩)
  dsimp only [Pt.U, Pt.locs, Pt.cells, Pt.slots] at X12 l12 y12 z12 st12 hQ12
  subst y12 z12
  refine Go.tr st12 ?_
  obtain ⟨hor12, rfl, e12⟩ := hQ12
  have N12 : Fr n0 L12 := by rw [l12]; exact Fr.app N5 (Fr.nil n0)
  obtain ⟨rfl, heq12⟩ : _ ∧ ([(99 : Int32), (114 : Int32), (101 : Int32), (97 : Int32), (116 : Int32), (105 : Int32), (111 : Int32), (110 : Int32), (95 : Int32), (100 : Int32), (97 : Int32), (116 : Int32), (101 : Int32)] : List Int32) = pcs := hor12.elim id (fun q => absurd hcc q.2)
  show Go p.tables e below P (T12.setTop (mkF m 28 #[lR p0, lR ob_2, lI (2 : Int32), lI (1 : Int32), lR w_K] [(.int (1 : Int32))]))
  refine Go.st (fun _ => XS.ifNo X12.here hx rfl (hb hby own_d_prog_18_method_5_code_28) rfl ((if0 _ _).trans (feq (by decide)).1)) ?_
  show Go p.tables e below P (T12.setTop (mkF m 31 #[lR p0, lR ob_2, lI (2 : Int32), lI (1 : Int32), lR w_K] []))
  refine Go.st (fun _ => XS.aload X12.here hx rfl (hb hby own_d_prog_18_method_5_code_31) rfl rfl) ?_
  show Go p.tables e below P (T12.setTop (mkF m 33 #[lR p0, lR ob_2, lI (2 : Int32), lI (1 : Int32), lR w_K] [(.ref w_K)]))
  obtain ⟨_, _, ⟨T13, L13, k13, n13⟩, -, X13, ⟨Lc13, hQ13, l13, y13, z13⟩, st13⟩ := Jvm.LawKit.callS X12 hx (y := (⟨"java/util/Optional", "of", "(Ljava/lang/Object;)Ljava/util/Optional;"⟩ : MethodName)) hown (mvT hZ (ow hw 121 rfl)) (mvT hZ (ow hw 122 rfl)) (mvT hZ (ow hw 81 rfl)) (mvT hZ (ow hw 123 rfl)) (by decide) (backOf (W := 0) (rm_oof l Z a0 hw [] w_N S_N X_N w_K S_K X_K w_V k_V S_V X_V V_V w_NS F_NS X_NS I_NS_coder w_NB k_NB F_NB V_NB w_KS F_KS X_KS I_KS_coder w_KB k_KB F_KB V_KB w_OE S_OE X_OE I_OE_value g_CS S_CS nz_CS g_SF S_SF r_SF w_K T1.heap n0 O1 ) hZ (ow hw 123 rfl) (ow hw 81 rfl) (by decide) (by decide)) (g := (mkF m 33 #[.val (.ref p0), .val (.ref ob_2), .val (.int (2 : Int32)), .val (.int (1 : Int32)), .val (.ref w_K)] [(.ref w_K)])) rfl (by rw [hml]; rfl) (argsL := [(.ref w_K)]) (rest := []) (lenOf own_pd6 rfl) rfl (by show 2 * 0 + _ ≤ _; exact Nat.le_of_eq rfl) (hb hby own_d_prog_18_method_5_code_33) (fun _ _ => ⟨rfl, e12, (by decide : 1 + 1 ≤ _), (by decide : 2 + 1 ≤ _)⟩)
  dsimp only [Pt.U, Pt.locs, Pt.cells, Pt.slots] at X13 l13 y13 z13 st13 hQ13
  subst y13 z13
  refine Go.st st13 ?_
  obtain ⟨ob_14, rfl, N13q, K13q, q13_0, q13_1, q13_2⟩ := hQ13
  have N13 : Fr n0 L13 := by rw [l13]; exact Fr.app N12 N13q
  have O13 := O1.keep K13q all0
  have K13 : Keep h0 T13.heap [] := K1.trans K13q all0
  have sz_ob_14 : h0.size ≤ ob_14 := Nat.le_trans K1.1 q13_0
  have g_ob_14 : n0 ≤ ob_14 := Nat.le_trans (own_oldsz X00) sz_ob_14
  show Go p.tables e below P (T13.setTop (mkF m 36 #[lR p0, lR ob_2, lI (2 : Int32), lI (1 : Int32), lR w_K] [(.ref ob_14)]))
  obtain ⟨fs, hr, hrun, hended, hW, hsame⟩ := X13.leave (v := some (.ref ob_14)) (fun h => by rw [Bd.returns] at h; cases h)
  refine ⟨_, ?_, hPend _ _ hrun hended ⟨_, _, rfl, ?_, ⟨_, rfl⟩, hW, hsame.mono (by decide) (by decide)⟩⟩
  · exact retOut X13 hx (t := (.object "java/util/Optional")) Bd.returns rfl (Or.inr (Or.inr (Or.inr (Or.inr ⟨rfl, rfl, rfl⟩)))) (hb hby own_d_prog_18_method_5_code_36) hr
  · show Q_rm_owc Z _ _ _ _ _ _ _ _ _ _ _ _ _ _ _ _ _ h0 n0 _ T13.heap _
    exact ⟨ob_14, rfl, N13, K13, sz_ob_14, q13_1, q13_2⟩
theorem own_ef_rm_owo (m : MethodId) (x0 : Addr) : entryFrame m #[(.ref x0)] 5 = mkF m 0 #[.val (.ref x0), .unset, .unset, .unset, .unset] [] := by first | (simp [entryFrame, mkF, argsToLocals, Value.category]; done) | rfl
def Q_rm_owo (Z : State) (w_N : Addr) (w_K : Addr) (w_V : Addr) (k_V : ClassId) (w_NS : Addr) (w_NB : Addr) (k_NB : ClassId) (w_KS : Addr) (w_KB : Addr) (k_KB : ClassId) (w_OE : Addr) (g_CS : Int32) (g_SF : Value) (p0 : Addr) (pcs : List Int32) (pv : Addr) (pk : ClassId) (h0 : Heap) (n0 : Nat) (v : Option Value) (h : Heap) (L : List Loc) : Prop := v = some (.ref w_OE) ∧ Fr n0 L ∧ Keep h0 h []
set_option maxRecDepth 65536 in
set_option maxHeartbeats 40000000 in
theorem rm_owo (l : Launch) (Z : State) (a0 : Array Value) (hw : ∀ d ∈ tables_1, d.before a0 Z = true) (ws : List Jvm.Cond) (w_N : Addr) (S_N : Sta Z Z.heap "com/example/vacuum/vacuum/model/PrunePolicy$Method" "NUMBER_OF_TAGS" "Lcom/example/vacuum/vacuum/model/PrunePolicy$Method;" (.ref w_N)) (X_N : Exa Z Z.heap w_N "com/example/vacuum/vacuum/model/PrunePolicy$Method") (w_K : Addr) (S_K : Sta Z Z.heap "com/example/vacuum/vacuum/model/PrunePolicy$Method" "CREATION_DATE" "Lcom/example/vacuum/vacuum/model/PrunePolicy$Method;" (.ref w_K)) (X_K : Exa Z Z.heap w_K "com/example/vacuum/vacuum/model/PrunePolicy$Method") (w_V : Addr) (k_V : ClassId) (S_V : Sta Z Z.heap "com/example/vacuum/vacuum/model/PrunePolicy$Method" "$VALUES" "[Lcom/example/vacuum/vacuum/model/PrunePolicy$Method;" (.ref w_V)) (X_V : Exa Z Z.heap w_V "[Lcom/example/vacuum/vacuum/model/PrunePolicy$Method;") (V_V : Arv Z Z.heap w_V k_V (.object "com/example/vacuum/vacuum/model/PrunePolicy$Method") (2 : Int32) [(.ref w_N), (.ref w_K)] .null) (w_NS : Addr) (F_NS : Fld Z Z.heap w_N "com/example/vacuum/vacuum/model/PrunePolicy$Method" "wireName" "Ljava/lang/String;" (.ref w_NS)) (X_NS : Exa Z Z.heap w_NS "java/lang/String") (I_NS_coder : Fld Z Z.heap w_NS "java/lang/String" "coder" "B" (.int (0 : Int32))) (w_NB : Addr) (k_NB : ClassId) (F_NB : Fld Z Z.heap w_NS "java/lang/String" "value" "[B" (.ref w_NB)) (V_NB : Arv Z Z.heap w_NB k_NB .byte (14 : Int32) [(.int (110 : Int32)), (.int (117 : Int32)), (.int (109 : Int32)), (.int (98 : Int32)), (.int (101 : Int32)), (.int (114 : Int32)), (.int (95 : Int32)), (.int (111 : Int32)), (.int (102 : Int32)), (.int (95 : Int32)), (.int (116 : Int32)), (.int (97 : Int32)), (.int (103 : Int32)), (.int (115 : Int32))] (.int (0 : Int32))) (w_KS : Addr) (F_KS : Fld Z Z.heap w_K "com/example/vacuum/vacuum/model/PrunePolicy$Method" "wireName" "Ljava/lang/String;" (.ref w_KS)) (X_KS : Exa Z Z.heap w_KS "java/lang/String") (I_KS_coder : Fld Z Z.heap w_KS "java/lang/String" "coder" "B" (.int (0 : Int32))) (w_KB : Addr) (k_KB : ClassId) (F_KB : Fld Z Z.heap w_KS "java/lang/String" "value" "[B" (.ref w_KB)) (V_KB : Arv Z Z.heap w_KB k_KB .byte (13 : Int32) [(.int (99 : Int32)), (.int (114 : Int32)), (.int (101 : Int32)), (.int (97 : Int32)), (.int (116 : Int32)), (.int (105 : Int32)), (.int (111 : Int32)), (.int (110 : Int32)), (.int (95 : Int32)), (.int (100 : Int32)), (.int (97 : Int32)), (.int (116 : Int32)), (.int (101 : Int32))] (.int (0 : Int32))) (w_OE : Addr) (S_OE : Sta Z Z.heap "java/util/Optional" "EMPTY" "Ljava/util/Optional;" (.ref w_OE)) (X_OE : Exa Z Z.heap w_OE "java/util/Optional") (I_OE_value : Fld Z Z.heap w_OE "java/util/Optional" "value" "Ljava/lang/Object;" .null) (g_CS : Int32) (S_CS : Sta Z Z.heap "java/lang/String" "COMPACT_STRINGS" "Z" (.int g_CS)) (nz_CS : ¬ (g_CS = (0 : Int32))) (g_SF : Value) (S_SF : Sta Z Z.heap "jdk/internal/util/Preconditions" "SIOOBE_FORMATTER" "Ljava/util/function/BiFunction;" g_SF) (r_SF : g_SF.isRef = true) (p0 : Addr) (pcs : List Int32) (pv : Addr) (pk : ClassId) (h0 : Heap) (n0 : Nat) (X00 : Old Z n0 h0) (hp0 : Exa Z h0 p0 "java/lang/String") (hp1 : Fld Z h0 p0 "java/lang/String" "coder" "B" (.int (0 : Int32))) (hp2 : Fld Z h0 p0 "java/lang/String" "value" "[B" (.ref pv)) (hp3 : Arv Z h0 pv pk .byte (Int32.ofNat pcs.length) ((pcs.map StrChars.lo8).map Value.int) (.int (0 : Int32))) (hpc0 : ∀ c ∈ pcs, ¬ c < 0 ∧ ¬ (255 : Int32) < c) (hle0 : pcs.length ≤ 4000) (hcn : ¬ (([(110 : Int32), (117 : Int32), (109 : Int32), (98 : Int32), (101 : Int32), (114 : Int32), (95 : Int32), (111 : Int32), (102 : Int32), (95 : Int32), (116 : Int32), (97 : Int32), (103 : Int32), (115 : Int32)] : List Int32) = pcs)) (hcc : ¬ (([(99 : Int32), (114 : Int32), (101 : Int32), (97 : Int32), (116 : Int32), (105 : Int32), (111 : Int32), (110 : Int32), (95 : Int32), (100 : Int32), (97 : Int32), (116 : Int32), (101 : Int32)] : List Int32) = pcs)) :
    MetFree l (⟨"com/example/vacuum/vacuum/model/PrunePolicy$Method", "ofWireName", "(Ljava/lang/String;)Ljava/util/Optional;"⟩ : MethodName) (head1 (Jvm.Cond.code (⟨"com/example/vacuum/vacuum/model/PrunePolicy$Method", "ofWireName", "(Ljava/lang/String;)Ljava/util/Optional;"⟩ : MethodName) prog_18_method_5_code 5 (some (.object "java/util/Optional")) :: ws) ({ frames := 2, cells := 1, slots := 2, locals := 28 } : Room)) (fun a U => a = #[(.ref p0)] ∧ Z.Warmed39 U.vm ∧ U.heap = h0) (fun _ _ _ _ _ => True) (fun _ U o U' => ∃ v L, o = .returned v ∧ Q_rm_owo Z w_N w_K w_V k_V w_NS w_NB k_NB w_KS w_KB k_KB w_OE g_CS g_SF p0 pcs pv pk h0 n0 v U'.heap L ∧ FrameEnd U o U' L ({ frames := 2, cells := 1, slots := 2, locals := 28 } : Room).cells ({ frames := 2, cells := 1, slots := 2, locals := 28 } : Room).slots) := by
  refine MetFree.of_bodySF (plainFor_of_name own_pn3) hisR ?_
  intro p e s m args below meth c s₁ Bd hml0 hP hK
  obtain ⟨rfl, hZ, hh⟩ := hP
  have hx := Bd.exec
  have hby := Bd.bytes
  have hml : c.maxLocals = 5 := hml0
  have hown : s.vm.findClass "com/example/vacuum/vacuum/model/PrunePolicy$Method" = some m.cls := findClass_of_methodNamed Bd.named
  have hnm := (name_of_methodNamed Bd.named Bd.method).1
  have X0 : Stand p l e ({ frames := 2, cells := 1, slots := 2, locals := 28 } : Room) s m #[(.ref p0)] below meth c s₁ [] 0 0 := Stand.of_body Bd
  have e0 : s₁.heap = h0 := by rw [← hh, Bd.state]; rfl
  have N0 := Fr.nil n0
  refine Go.start fun P hPend => ?_
  refine Go.st (fun _ k => castTop (own_ef_rm_owo m p0) k) ?_
  show Go p.tables e below P (s₁.setTop (mkF m 0 #[lR p0, lU, lU, lU, lU] []))
  obtain ⟨_, _, ⟨T1, L1, k1, n1⟩, -, X1, ⟨Lc1, hQ1, l1, y1, z1⟩, st1⟩ := Jvm.LawKit.callS X0 hx (y := (⟨"com/example/vacuum/vacuum/model/PrunePolicy$Method", "values", "()[Lcom/example/vacuum/vacuum/model/PrunePolicy$Method;"⟩ : MethodName)) hown (mvT hZ (ow hw 55 rfl)) (mvT hZ (ow hw 56 rfl)) (mvT hZ (ow hw 53 rfl)) (mvT hZ (ow hw 57 rfl)) (by decide) (backOf (W := 0) (rm_vals l Z a0 hw [] w_N S_N X_N w_K S_K X_K w_V k_V S_V X_V V_V w_NS F_NS X_NS I_NS_coder w_NB k_NB F_NB V_NB w_KS F_KS X_KS I_KS_coder w_KB k_KB F_KB V_KB w_OE S_OE X_OE I_OE_value g_CS S_CS nz_CS g_SF S_SF r_SF h0 n0 X00 ) hZ (ow hw 57 rfl) (ow hw 53 rfl) (by decide) (by decide)) (g := (mkF m 0 #[.val (.ref p0), .unset, .unset, .unset, .unset] [])) rfl (by rw [hml]; rfl) (argsL := []) (rest := []) (lenOf own_pd3 rfl) rfl (by show 2 * 0 + _ ≤ _; exact Nat.le_of_eq rfl) (hb hby own_d_prog_18_method_5_code_0) (fun _ _ => ⟨rfl, e0, (by decide : 0 + 1 ≤ _), (by decide : 0 + 2 ≤ _)⟩)
  dsimp only [Pt.U, Pt.locs, Pt.cells, Pt.slots] at X1 l1 y1 z1 st1 hQ1
  subst y1 z1
  refine Go.st st1 ?_
  obtain ⟨ob_2, rfl, N1q, K1q, q1_0, q1_1⟩ := hQ1
  have N1 : Fr n0 L1 := by rw [l1]; exact Fr.app N0 N1q
  have O1 := X00.keep K1q all0
  have K1 : Keep h0 T1.heap [] := (Keep.refl h0 []).trans K1q all0
  have sz_ob_2 : h0.size ≤ ob_2 := Nat.le_trans (Keep.refl h0 []).1 q1_0
  have g_ob_2 : n0 ≤ ob_2 := Nat.le_trans (own_oldsz X00) sz_ob_2
  show Go p.tables e below P (T1.setTop (mkF m 3 #[lR p0, lU, lU, lU, lU] [(.ref ob_2)]))
  refine Go.st (fun _ => XS.astoreN X1.here hx rfl (hb hby own_d_prog_18_method_5_code_3) rfl rfl (l' := #[.val (.ref p0), .val (.ref ob_2), .unset, .unset, .unset]) rfl) ?_
  show Go p.tables e below P (T1.setTop (mkF m 4 #[lR p0, lR ob_2, lU, lU, lU] []))
  refine Go.st (fun _ => XS.aloadN X1.here hx rfl (hb hby own_d_prog_18_method_5_code_4) rfl rfl) ?_
  show Go p.tables e below P (T1.setTop (mkF m 5 #[lR p0, lR ob_2, lU, lU, lU] [(.ref ob_2)]))
  refine Go.st (fun _ => own_len X1 hx hZ rfl q1_1 (g := (mkF m 5 #[.val (.ref p0), .val (.ref ob_2), .unset, .unset, .unset] [(.ref ob_2)])) rfl rfl (hb hby own_d_prog_18_method_5_code_5) _) ?_
  show Go p.tables e below P (T1.setTop (mkF m 6 #[lR p0, lR ob_2, lU, lU, lU] [(.int (2 : Int32))]))
  refine Go.st (fun _ => XS.istoreN X1.here hx rfl (hb hby own_d_prog_18_method_5_code_6) rfl (l' := #[.val (.ref p0), .val (.ref ob_2), .val (.int (2 : Int32)), .unset, .unset]) rfl) ?_
  show Go p.tables e below P (T1.setTop (mkF m 7 #[lR p0, lR ob_2, lI (2 : Int32), lU, lU] []))
  refine Go.st (fun _ => XS.iconst X1.here hx rfl (hb hby own_d_prog_18_method_5_code_7)) ?_
  show Go p.tables e below P (T1.setTop (mkF m 8 #[lR p0, lR ob_2, lI (2 : Int32), lU, lU] [(.int (0 : Int32))]))
  refine Go.st (fun _ => XS.istoreN X1.here hx rfl (hb hby own_d_prog_18_method_5_code_8) rfl (l' := #[.val (.ref p0), .val (.ref ob_2), .val (.int (2 : Int32)), .val (.int (0 : Int32)), .unset]) rfl) ?_
  show Go p.tables e below P (T1.setTop (mkF m 9 #[lR p0, lR ob_2, lI (2 : Int32), lI (0 : Int32), lU] []))
  refine Go.st (fun _ => XS.iloadN X1.here hx rfl (hb hby own_d_prog_18_method_5_code_9) rfl) ?_
  show Go p.tables e below P (T1.setTop (mkF m 10 #[lR p0, lR ob_2, lI (2 : Int32), lI (0 : Int32), lU] [(.int (0 : Int32))]))
  refine Go.st (fun _ => XS.iloadN X1.here hx rfl (hb hby own_d_prog_18_method_5_code_10) rfl) ?_
  show Go p.tables e below P (T1.setTop (mkF m 11 #[lR p0, lR ob_2, lI (2 : Int32), lI (0 : Int32), lU] [(.int (2 : Int32)), (.int (0 : Int32))]))
  refine Go.st (fun _ => XS.icmpNo X1.here hx rfl (hb hby own_d_prog_18_method_5_code_11) rfl (tlt (by decide)).2.1) ?_
  show Go p.tables e below P (T1.setTop (mkF m 14 #[lR p0, lR ob_2, lI (2 : Int32), lI (0 : Int32), lU] []))
  refine Go.st (fun _ => XS.aloadN X1.here hx rfl (hb hby own_d_prog_18_method_5_code_14) rfl rfl) ?_
  show Go p.tables e below P (T1.setTop (mkF m 15 #[lR p0, lR ob_2, lI (2 : Int32), lI (0 : Int32), lU] [(.ref ob_2)]))
  refine Go.st (fun _ => XS.iloadN X1.here hx rfl (hb hby own_d_prog_18_method_5_code_15) rfl) ?_
  show Go p.tables e below P (T1.setTop (mkF m 16 #[lR p0, lR ob_2, lI (2 : Int32), lI (0 : Int32), lU] [(.int (0 : Int32)), (.ref ob_2)]))
  refine Go.st (fun _ => own_ldR X1 hx hZ rfl q1_1 (j := (0 : Int32)) (i := 0) (v := (.ref w_N)) (by decide) (by decide) rfl (g := (mkF m 16 #[.val (.ref p0), .val (.ref ob_2), .val (.int (2 : Int32)), .val (.int (0 : Int32)), .unset] [(.int (0 : Int32)), (.ref ob_2)])) rfl rfl (hb hby own_d_prog_18_method_5_code_16) _) ?_
  show Go p.tables e below P (T1.setTop (mkF m 17 #[lR p0, lR ob_2, lI (2 : Int32), lI (0 : Int32), lU] [(.ref w_N)]))
  refine Go.st (fun _ => XS.astore X1.here hx rfl (hb hby own_d_prog_18_method_5_code_17) rfl rfl (l' := #[.val (.ref p0), .val (.ref ob_2), .val (.int (2 : Int32)), .val (.int (0 : Int32)), .val (.ref w_N)]) rfl) ?_
  show Go p.tables e below P (T1.setTop (mkF m 19 #[lR p0, lR ob_2, lI (2 : Int32), lI (0 : Int32), lR w_N] []))
  refine Go.st (fun _ => XS.aload X1.here hx rfl (hb hby own_d_prog_18_method_5_code_19) rfl rfl) ?_
  show Go p.tables e below P (T1.setTop (mkF m 21 #[lR p0, lR ob_2, lI (2 : Int32), lI (0 : Int32), lR w_N] [(.ref w_N)]))
  obtain ⟨T4, X4, e4, st4⟩ := getF X1 hx hZ hown (host := "") (Or.inl (ow hw 72 rfl)) Via.refl rfl (F_NS.ext O1.2) (g := (mkF m 21 #[.val (.ref p0), .val (.ref ob_2), .val (.int (2 : Int32)), .val (.int (0 : Int32)), .val (.ref w_N)] [(.ref w_N)])) rfl rfl (hb hby own_d_prog_18_method_5_code_21)
  refine Go.st st4 ?_
  show Go p.tables e below P (T4.setTop (mkF m 24 #[lR p0, lR ob_2, lI (2 : Int32), lI (0 : Int32), lR w_N] [(.ref w_NS)]))
  refine Go.st (fun _ => XS.aloadN X4.here hx rfl (hb hby own_d_prog_18_method_5_code_24) rfl rfl) ?_
  show Go p.tables e below P (T4.setTop (mkF m 25 #[lR p0, lR ob_2, lI (2 : Int32), lI (0 : Int32), lR w_N] [(.ref p0), (.ref w_NS)]))
  have hcd5 : StrChars.Road.CodA ([(110 : Int32), (117 : Int32), (109 : Int32), (98 : Int32), (101 : Int32), (114 : Int32), (95 : Int32), (111 : Int32), (102 : Int32), (95 : Int32), (116 : Int32), (97 : Int32), (103 : Int32), (115 : Int32)] : List Int32) 0 (14 : Int32) [(.int (110 : Int32)), (.int (117 : Int32)), (.int (109 : Int32)), (.int (98 : Int32)), (.int (101 : Int32)), (.int (114 : Int32)), (.int (95 : Int32)), (.int (111 : Int32)), (.int (102 : Int32)), (.int (95 : Int32)), (.int (116 : Int32)), (.int (97 : Int32)), (.int (103 : Int32)), (.int (115 : Int32))] := StrChars.Road.codOf (n := 14) rfl (fun c hc => ((show ∀ c ∈ ([(110 : Int32), (117 : Int32), (109 : Int32), (98 : Int32), (101 : Int32), (114 : Int32), (95 : Int32), (111 : Int32), (102 : Int32), (95 : Int32), (116 : Int32), (97 : Int32), (103 : Int32), (115 : Int32)] : List Int32), ¬ c < 0 ∧ ¬ (255 : Int32) < c by decide) c hc).2)
  have c6 := (hp0.keep K1q)
  have c7 := (hp2.keep K1q nin0)
  have c8 := (hp1.keep K1q nin0)
  have c9 := (hp3.keep K1q nin0)
  have hcd5b : StrChars.Road.CodA pcs 0 (Int32.ofNat pcs.length) ((pcs.map StrChars.lo8).map Value.int) := StrChars.Road.codOf (n := pcs.length) rfl (fun c hc => (hpc0 c hc).2)
  obtain ⟨cq5, kq5, q5a, q5b, q5c⟩ := isOf hZ e4 (X_NS.ext O1.2)
  obtain ⟨_, _, ⟨T5, L5, k5, n5⟩, -, X5, ⟨Lc5, hQ5, l5, y5, z5⟩, st5⟩ := X4.virtualBack hx (y := (⟨"java/lang/String", "equals", "(Ljava/lang/Object;)Z"⟩ : MethodName)) (z := (⟨"java/lang/String", "equals", "(Ljava/lang/Object;)Z"⟩ : MethodName)) hown (mvT hZ (ow hw 74 rfl)) (mvT hZ (ow hw 75 rfl)) (notFace_of_selects (args := #[]) (mvT hZ (ow hw 77 rfl))) (mvT hZ (ow hw 77 rfl)) (mvT hZ (ow hw 76 rfl)) (by decide) (StrChars.Road.eqW (W := 0) hZ (fun d hd => hw d (own_wEq d hd)) (kI := 4) (ow hw 2 rfl) (X_NS.ext O1.2) (F_NB.ext O1.2) (I_NS_coder.ext O1.2) (V_NB.ext O1.2) hcd5 (own_up _ (show ∀ c ∈ ([(110 : Int32), (117 : Int32), (109 : Int32), (98 : Int32), (101 : Int32), (114 : Int32), (95 : Int32), (111 : Int32), (102 : Int32), (95 : Int32), (116 : Int32), (97 : Int32), (103 : Int32), (115 : Int32)] : List Int32), ¬ c < 0 ∧ ¬ (255 : Int32) < c by decide)) (Nat.le_of_ble_eq_true rfl) c6 c7 c8 c9 hcd5b (own_up _ hpc0) hle0 (S_CS.ext O1.2) nz_CS (by decide) (by decide)) q5a q5c (g := (mkF m 25 #[.val (.ref p0), .val (.ref ob_2), .val (.int (2 : Int32)), .val (.int (0 : Int32)), .val (.ref w_N)] [(.ref p0), (.ref w_NS)])) rfl (by rw [hml]; rfl) (Steps.refl _) (argsL := [(.ref p0)]) (rest := []) (lenOf own_pd4 rfl) rfl (by show 2 * 0 + _ ≤ _; exact Nat.le_of_eq rfl) (hb hby own_d_prog_18_method_5_code_25) (fun _ _ => ⟨rfl, e4, (by decide : 1 + 0 ≤ _), (by decide : 2 + 0 ≤ _)⟩)
  dsimp only [Pt.U, Pt.locs, Pt.cells, Pt.slots] at X5 l5 y5 z5 st5 hQ5
  subst y5 z5
  refine Go.tr st5 ?_
  obtain ⟨hor5, rfl, e5⟩ := hQ5
  have N5 : Fr n0 L5 := by rw [l5]; exact Fr.app N1 (Fr.nil n0)
  obtain ⟨rfl, heq5⟩ := hor5.elim (fun q => absurd q.2 hcn) id
  show Go p.tables e below P (T5.setTop (mkF m 28 #[lR p0, lR ob_2, lI (2 : Int32), lI (0 : Int32), lR w_N] [(.int (0 : Int32))]))
  refine Go.st (fun _ => XS.ifYes X5.here hx rfl (pc0 := 28) (pc' := 37) rfl (hb hby own_d_prog_18_method_5_code_28) rfl ((if0 _ _).trans (teq (by decide)).1) (by decide) (by decide)) ?_
  show Go p.tables e below P (T5.setTop (mkF m 37 #[lR p0, lR ob_2, lI (2 : Int32), lI (0 : Int32), lR w_N] []))
  refine Go.st (fun _ => XS.iinc X5.here hx rfl (hb hby own_d_prog_18_method_5_code_37) rfl (l' := #[.val (.ref p0), .val (.ref ob_2), .val (.int (2 : Int32)), .val (.int (1 : Int32)), .val (.ref w_N)]) rfl) ?_
  show Go p.tables e below P (T5.setTop (mkF m 40 #[lR p0, lR ob_2, lI (2 : Int32), lI (1 : Int32), lR w_N] []))
  refine Go.st (fun _ => XS.goto X5.here hx rfl (pc0 := 40) (pc' := 9) rfl (hb hby own_d_prog_18_method_5_code_40) (by decide) (by decide)) ?_
  show Go p.tables e below P (T5.setTop (mkF m 9 #[lR p0, lR ob_2, lI (2 : Int32), lI (1 : Int32), lR w_N] []))
  refine Go.st (fun _ => XS.iloadN X5.here hx rfl (hb hby own_d_prog_18_method_5_code_9) rfl) ?_
  show Go p.tables e below P (T5.setTop (mkF m 10 #[lR p0, lR ob_2, lI (2 : Int32), lI (1 : Int32), lR w_N] [(.int (1 : Int32))]))
  refine Go.st (fun _ => XS.iloadN X5.here hx rfl (hb hby own_d_prog_18_method_5_code_10) rfl) ?_
  show Go p.tables e below P (T5.setTop (mkF m 11 #[lR p0, lR ob_2, lI (2 : Int32), lI (1 : Int32), lR w_N] [(.int (2 : Int32)), (.int (1 : Int32))]))
  refine Go.st (fun _ => XS.icmpNo X5.here hx rfl (hb hby own_d_prog_18_method_5_code_11) rfl (tlt (by decide)).2.1) ?_
  show Go p.tables e below P (T5.setTop (mkF m 14 #[lR p0, lR ob_2, lI (2 : Int32), lI (1 : Int32), lR w_N] []))
  refine Go.st (fun _ => XS.aloadN X5.here hx rfl (hb hby own_d_prog_18_method_5_code_14) rfl rfl) ?_
  show Go p.tables e below P (T5.setTop (mkF m 15 #[lR p0, lR ob_2, lI (2 : Int32), lI (1 : Int32), lR w_N] [(.ref ob_2)]))
  refine Go.st (fun _ => XS.iloadN X5.here hx rfl (hb hby own_d_prog_18_method_5_code_15) rfl) ?_
  show Go p.tables e below P (T5.setTop (mkF m 16 #[lR p0, lR ob_2, lI (2 : Int32), lI (1 : Int32), lR w_N] [(.int (1 : Int32)), (.ref ob_2)]))
  refine Go.st (fun _ => own_ldR X5 hx hZ e5 q1_1 (j := (1 : Int32)) (i := 1) (v := (.ref w_K)) (by decide) (by decide) rfl (g := (mkF m 16 #[.val (.ref p0), .val (.ref ob_2), .val (.int (2 : Int32)), .val (.int (1 : Int32)), .val (.ref w_N)] [(.int (1 : Int32)), (.ref ob_2)])) rfl rfl (hb hby own_d_prog_18_method_5_code_16) _) ?_
  show Go p.tables e below P (T5.setTop (mkF m 17 #[lR p0, lR ob_2, lI (2 : Int32), lI (1 : Int32), lR w_N] [(.ref w_K)]))
  refine Go.st (fun _ => XS.astore X5.here hx rfl (hb hby own_d_prog_18_method_5_code_17) rfl rfl (l' := #[.val (.ref p0), .val (.ref ob_2), .val (.int (2 : Int32)), .val (.int (1 : Int32)), .val (.ref w_K)]) rfl) ?_
  show Go p.tables e below P (T5.setTop (mkF m 19 #[lR p0, lR ob_2, lI (2 : Int32), lI (1 : Int32), lR w_K] []))
  refine Go.st (fun _ => XS.aload X5.here hx rfl (hb hby own_d_prog_18_method_5_code_19) rfl rfl) ?_
  show Go p.tables e below P (T5.setTop (mkF m 21 #[lR p0, lR ob_2, lI (2 : Int32), lI (1 : Int32), lR w_K] [(.ref w_K)]))
  obtain ⟨T11, X11, e11, st11⟩ := getF X5 hx hZ hown (host := "") (Or.inl (ow hw 72 rfl)) Via.refl e5 (F_KS.ext O1.2) (g := (mkF m 21 #[.val (.ref p0), .val (.ref ob_2), .val (.int (2 : Int32)), .val (.int (1 : Int32)), .val (.ref w_K)] [(.ref w_K)])) rfl rfl (hb hby own_d_prog_18_method_5_code_21)
  refine Go.st st11 ?_
  show Go p.tables e below P (T11.setTop (mkF m 24 #[lR p0, lR ob_2, lI (2 : Int32), lI (1 : Int32), lR w_K] [(.ref w_KS)]))
  refine Go.st (fun _ => XS.aloadN X11.here hx rfl (hb hby own_d_prog_18_method_5_code_24) rfl rfl) ?_
  show Go p.tables e below P (T11.setTop (mkF m 25 #[lR p0, lR ob_2, lI (2 : Int32), lI (1 : Int32), lR w_K] [(.ref p0), (.ref w_KS)]))
  have hcd12 : StrChars.Road.CodA ([(99 : Int32), (114 : Int32), (101 : Int32), (97 : Int32), (116 : Int32), (105 : Int32), (111 : Int32), (110 : Int32), (95 : Int32), (100 : Int32), (97 : Int32), (116 : Int32), (101 : Int32)] : List Int32) 0 (13 : Int32) [(.int (99 : Int32)), (.int (114 : Int32)), (.int (101 : Int32)), (.int (97 : Int32)), (.int (116 : Int32)), (.int (105 : Int32)), (.int (111 : Int32)), (.int (110 : Int32)), (.int (95 : Int32)), (.int (100 : Int32)), (.int (97 : Int32)), (.int (116 : Int32)), (.int (101 : Int32))] := StrChars.Road.codOf (n := 13) rfl (fun c hc => ((show ∀ c ∈ ([(99 : Int32), (114 : Int32), (101 : Int32), (97 : Int32), (116 : Int32), (105 : Int32), (111 : Int32), (110 : Int32), (95 : Int32), (100 : Int32), (97 : Int32), (116 : Int32), (101 : Int32)] : List Int32), ¬ c < 0 ∧ ¬ (255 : Int32) < c by decide) c hc).2)
  have hcd12b : StrChars.Road.CodA pcs 0 (Int32.ofNat pcs.length) ((pcs.map StrChars.lo8).map Value.int) := StrChars.Road.codOf (n := pcs.length) rfl (fun c hc => (hpc0 c hc).2)
  obtain ⟨cq12, kq12, q12a, q12b, q12c⟩ := isOf hZ e11 (X_KS.ext O1.2)
  obtain ⟨_, _, ⟨T12, L12, k12, n12⟩, -, X12, ⟨Lc12, hQ12, l12, y12, z12⟩, st12⟩ := X11.virtualBack hx (y := (⟨"java/lang/String", "equals", "(Ljava/lang/Object;)Z"⟩ : MethodName)) (z := (⟨"java/lang/String", "equals", "(Ljava/lang/Object;)Z"⟩ : MethodName)) hown (mvT hZ (ow hw 74 rfl)) (mvT hZ (ow hw 75 rfl)) (notFace_of_selects (args := #[]) (mvT hZ (ow hw 77 rfl))) (mvT hZ (ow hw 77 rfl)) (mvT hZ (ow hw 76 rfl)) (by decide) (StrChars.Road.eqW (W := 0) hZ (fun d hd => hw d (own_wEq d hd)) (kI := 4) (ow hw 2 rfl) (X_KS.ext O1.2) (F_KB.ext O1.2) (I_KS_coder.ext O1.2) (V_KB.ext O1.2) hcd12 (own_up _ (show ∀ c ∈ ([(99 : Int32), (114 : Int32), (101 : Int32), (97 : Int32), (116 : Int32), (105 : Int32), (111 : Int32), (110 : Int32), (95 : Int32), (100 : Int32), (97 : Int32), (116 : Int32), (101 : Int32)] : List Int32), ¬ c < 0 ∧ ¬ (255 : Int32) < c by decide)) (Nat.le_of_ble_eq_true rfl) c6 c7 c8 c9 hcd12b (own_up _ hpc0) hle0 (S_CS.ext O1.2) nz_CS (by decide) (by decide)) q12a q12c (g := (mkF m 25 #[.val (.ref p0), .val (.ref ob_2), .val (.int (2 : Int32)), .val (.int (1 : Int32)), .val (.ref w_K)] [(.ref p0), (.ref w_KS)])) rfl (by rw [hml]; rfl) (Steps.refl _) (argsL := [(.ref p0)]) (rest := []) (lenOf own_pd4 rfl) rfl (by show 2 * 0 + _ ≤ _; exact Nat.le_of_eq rfl) (hb hby own_d_prog_18_method_5_code_25) (fun _ _ => ⟨rfl, e11, (by decide : 1 + 0 ≤ _), (by decide : 2 + 0 ≤ _)⟩)
  dsimp only [Pt.U, Pt.locs, Pt.cells, Pt.slots] at X12 l12 y12 z12 st12 hQ12
  subst y12 z12
  refine Go.tr st12 ?_
  obtain ⟨hor12, rfl, e12⟩ := hQ12
  have N12 : Fr n0 L12 := by rw [l12]; exact Fr.app N5 (Fr.nil n0)
  obtain ⟨rfl, heq12⟩ := hor12.elim (fun q => absurd q.2 hcc) id
  show Go p.tables e below P (T12.setTop (mkF m 28 #[lR p0, lR ob_2, lI (2 : Int32), lI (1 : Int32), lR w_K] [(.int (0 : Int32))]))
  refine Go.st (fun _ => XS.ifYes X12.here hx rfl (pc0 := 28) (pc' := 37) rfl (hb hby own_d_prog_18_method_5_code_28) rfl ((if0 _ _).trans (teq (by decide)).1) (by decide) (by decide)) ?_
  show Go p.tables e below P (T12.setTop (mkF m 37 #[lR p0, lR ob_2, lI (2 : Int32), lI (1 : Int32), lR w_K] []))
  refine Go.st (fun _ => XS.iinc X12.here hx rfl (hb hby own_d_prog_18_method_5_code_37) rfl (l' := #[.val (.ref p0), .val (.ref ob_2), .val (.int (2 : Int32)), .val (.int (2 : Int32)), .val (.ref w_K)]) rfl) ?_
  show Go p.tables e below P (T12.setTop (mkF m 40 #[lR p0, lR ob_2, lI (2 : Int32), lI (2 : Int32), lR w_K] []))
  refine Go.st (fun _ => XS.goto X12.here hx rfl (pc0 := 40) (pc' := 9) rfl (hb hby own_d_prog_18_method_5_code_40) (by decide) (by decide)) ?_
  show Go p.tables e below P (T12.setTop (mkF m 9 #[lR p0, lR ob_2, lI (2 : Int32), lI (2 : Int32), lR w_K] []))
  refine Go.st (fun _ => XS.iloadN X12.here hx rfl (hb hby own_d_prog_18_method_5_code_9) rfl) ?_
  show Go p.tables e below P (T12.setTop (mkF m 10 #[lR p0, lR ob_2, lI (2 : Int32), lI (2 : Int32), lR w_K] [(.int (2 : Int32))]))
  refine Go.st (fun _ => XS.iloadN X12.here hx rfl (hb hby own_d_prog_18_method_5_code_10) rfl) ?_
  show Go p.tables e below P (T12.setTop (mkF m 11 #[lR p0, lR ob_2, lI (2 : Int32), lI (2 : Int32), lR w_K] [(.int (2 : Int32)), (.int (2 : Int32))]))
  refine Go.st (fun _ => XS.icmpYes X12.here hx rfl (pc0 := 11) (pc' := 43) rfl (hb hby own_d_prog_18_method_5_code_11) rfl (flt (by decide)).2.1 (by decide) (by decide)) ?_
  show Go p.tables e below P (T12.setTop (mkF m 43 #[lR p0, lR ob_2, lI (2 : Int32), lI (2 : Int32), lR w_K] []))
  obtain ⟨_, _, ⟨T13, L13, k13, n13⟩, -, X13, ⟨Lc13, hQ13, l13, y13, z13⟩, st13⟩ := Jvm.LawKit.callS X12 hx (y := (⟨"java/util/Optional", "empty", "()Ljava/util/Optional;"⟩ : MethodName)) hown (mvT hZ (ow hw 79 rfl)) (mvT hZ (ow hw 80 rfl)) (mvT hZ (ow hw 81 rfl)) (mvT hZ (ow hw 82 rfl)) (by decide) (backOf (W := 0) (rm_oem l Z a0 hw [] w_N S_N X_N w_K S_K X_K w_V k_V S_V X_V V_V w_NS F_NS X_NS I_NS_coder w_NB k_NB F_NB V_NB w_KS F_KS X_KS I_KS_coder w_KB k_KB F_KB V_KB w_OE S_OE X_OE I_OE_value g_CS S_CS nz_CS g_SF S_SF r_SF T1.heap n0 O1 ) hZ (ow hw 82 rfl) (ow hw 81 rfl) (by decide) (by decide)) (g := (mkF m 43 #[.val (.ref p0), .val (.ref ob_2), .val (.int (2 : Int32)), .val (.int (2 : Int32)), .val (.ref w_K)] [])) rfl (by rw [hml]; rfl) (argsL := []) (rest := []) (lenOf own_pd5 rfl) rfl (by show 2 * 0 + _ ≤ _; exact Nat.le_of_eq rfl) (hb hby own_d_prog_18_method_5_code_43) (fun _ _ => ⟨rfl, e12, (by decide : 1 + 0 ≤ _), (by decide : 2 + 0 ≤ _)⟩)
  dsimp only [Pt.U, Pt.locs, Pt.cells, Pt.slots] at X13 l13 y13 z13 st13 hQ13
  subst y13 z13
  refine Go.st st13 ?_
  obtain ⟨rfl, N13q, e13⟩ := hQ13
  have N13 : Fr n0 L13 := by rw [l13]; exact Fr.app N12 N13q
  show Go p.tables e below P (T13.setTop (mkF m 46 #[lR p0, lR ob_2, lI (2 : Int32), lI (2 : Int32), lR w_K] [(.ref w_OE)]))
  obtain ⟨fs, hr, hrun, hended, hW, hsame⟩ := X13.leave (v := some (.ref w_OE)) (fun h => by rw [Bd.returns] at h; cases h)
  refine ⟨_, ?_, hPend _ _ hrun hended ⟨_, _, rfl, ?_, ⟨_, rfl⟩, hW, hsame.mono (by decide) (by decide)⟩⟩
  · exact retOut X13 hx (t := (.object "java/util/Optional")) Bd.returns rfl (Or.inr (Or.inr (Or.inr (Or.inr ⟨rfl, rfl, rfl⟩)))) (hb hby own_d_prog_18_method_5_code_46) hr
  · show Q_rm_owo Z _ _ _ _ _ _ _ _ _ _ _ _ _ _ _ _ _ h0 n0 _ T13.heap _
    rw [e13]
    exact ⟨rfl, N13, K1⟩
theorem own_ltlen {j : Int32} {n : Nat} (h0 : ¬ j < 0) (h1 : j < Int32.ofNat n) (hn : n ≤ 4000) : j.toNatClampNeg < n := by
  have e0 : (0 : Int32).toInt = 0 := rfl
  have e1 : (Int32.ofNat n).toInt = n := len_toInt (by omega)
  rw [Int32.lt_iff_toInt_lt, e0] at h0
  rw [Int32.lt_iff_toInt_lt, e1] at h1
  show j.toInt.toNat < n
  omega
theorem own_getD_small {cs : List Int32} {i : Nat} (h : ∀ c ∈ cs, ¬ c < 0 ∧ ¬ (255 : Int32) < c) (hi : i < cs.length) : ¬ cs.getD i 0 < 0 ∧ ¬ (255 : Int32) < cs.getD i 0 := by
  have e : cs.getD i 0 = cs[i] := by simp [List.getD_eq_getElem?_getD, hi]
  rw [e]; exact h _ (List.getElem_mem _)
theorem own_narC_s {x : Int32} (h : ¬ x < 0 ∧ ¬ (255 : Int32) < x) : ¬ nar .char x < 0 ∧ ¬ (255 : Int32) < nar .char x := by rw [own_narC h]; exact h
theorem own_small0 : ¬ (0 : Int32) < 0 ∧ ¬ (255 : Int32) < 0 := by decide

theorem own_ef_rm_at (m : MethodId) (x0 : Addr) (x1 : Int32) (x2 : Int32) (x3 : Int32) (x4 : Int32) : entryFrame m #[(.ref x0), (.int x1), (.int x2), (.int x3), (.int x4)] 5 = mkF m 0 #[.val (.ref x0), .val (.int x1), .val (.int x2), .val (.int x3), .val (.int x4)] [] := by first | (simp [entryFrame, mkF, argsToLocals, Value.category]; done) | rfl
theorem own_pn4 : plainName "com/example/vacuum/vacuum/model/MethodOfWireNamePinLaw" = true := by first | (simp [plainName, overriddenIn]; done) | decide +kernel
theorem own_d_method_3_code_0 : decode method_3_code 0 = .ok (.iload_n 1, 1) := by decide +kernel
theorem own_d_method_3_code_1 : decode method_3_code 1 = .ok (.iload_n 2, 1) := by decide +kernel
theorem own_d_method_3_code_2 : decode method_3_code 2 = .ok (.if_icmp .ne 5, 3) := by decide +kernel
theorem own_d_method_3_code_5 : decode method_3_code 5 = .ok (.iload_n 3, 1) := by decide +kernel
theorem own_d_method_3_code_6 : decode method_3_code 6 = .ok (.ireturn, 1) := by decide +kernel
theorem own_d_method_3_code_7 : decode method_3_code 7 = .ok (.iload_n 1, 1) := by decide +kernel
theorem own_d_method_3_code_8 : decode method_3_code 8 = .ok (.aload_n 0, 1) := by decide +kernel
theorem own_d_method_3_code_9 : decode method_3_code 9 = .ok (.invokevirtual 51, 3) := by decide +kernel
theorem own_pd7 : parseMethodDescriptor "()I" = some ⟨[], some .int⟩ := by decide +kernel
theorem own_d_method_3_code_12 : decode method_3_code 12 = .ok (.if_icmp .ge 9, 3) := by decide +kernel
theorem own_d_method_3_code_15 : decode method_3_code 15 = .ok (.aload_n 0, 1) := by decide +kernel
theorem own_d_method_3_code_16 : decode method_3_code 16 = .ok (.iload_n 1, 1) := by decide +kernel
theorem own_d_method_3_code_17 : decode method_3_code 17 = .ok (.invokevirtual 55, 3) := by decide +kernel
theorem own_pd8 : parseMethodDescriptor "(I)C" = some ⟨[.int], some .char⟩ := by decide +kernel
theorem own_d_method_3_code_20 : decode method_3_code 20 = .ok (.ireturn, 1) := by decide +kernel
theorem own_d_method_3_code_21 : decode method_3_code 21 = .ok (.iload 4, 2) := by decide +kernel
theorem own_d_method_3_code_23 : decode method_3_code 23 = .ok (.ireturn, 1) := by decide +kernel
def Q_rm_at (Z : State) (w_N : Addr) (w_K : Addr) (w_V : Addr) (k_V : ClassId) (w_NS : Addr) (w_NB : Addr) (k_NB : ClassId) (w_KS : Addr) (w_KB : Addr) (k_KB : ClassId) (w_OE : Addr) (g_CS : Int32) (g_SF : Value) (p0 : Addr) (p1 : Int32) (p2 : Int32) (p3 : Int32) (p4 : Int32) (pcs : List Int32) (pv : Addr) (pk : ClassId) (h0 : Heap) (n0 : Nat) (v : Option Value) (h : Heap) (L : List Loc) : Prop := ∃ (rc : Int32), v = some (.int rc) ∧ Fr n0 L ∧ h = h0 ∧ (¬ rc < 0 ∧ ¬ (255 : Int32) < rc)
set_option maxRecDepth 65536 in
set_option maxHeartbeats 40000000 in
theorem rm_at (l : Launch) (Z : State) (a0 : Array Value) (hw : ∀ d ∈ tables_1, d.before a0 Z = true) (ws : List Jvm.Cond) (w_N : Addr) (S_N : Sta Z Z.heap "com/example/vacuum/vacuum/model/PrunePolicy$Method" "NUMBER_OF_TAGS" "Lcom/example/vacuum/vacuum/model/PrunePolicy$Method;" (.ref w_N)) (X_N : Exa Z Z.heap w_N "com/example/vacuum/vacuum/model/PrunePolicy$Method") (w_K : Addr) (S_K : Sta Z Z.heap "com/example/vacuum/vacuum/model/PrunePolicy$Method" "CREATION_DATE" "Lcom/example/vacuum/vacuum/model/PrunePolicy$Method;" (.ref w_K)) (X_K : Exa Z Z.heap w_K "com/example/vacuum/vacuum/model/PrunePolicy$Method") (w_V : Addr) (k_V : ClassId) (S_V : Sta Z Z.heap "com/example/vacuum/vacuum/model/PrunePolicy$Method" "$VALUES" "[Lcom/example/vacuum/vacuum/model/PrunePolicy$Method;" (.ref w_V)) (X_V : Exa Z Z.heap w_V "[Lcom/example/vacuum/vacuum/model/PrunePolicy$Method;") (V_V : Arv Z Z.heap w_V k_V (.object "com/example/vacuum/vacuum/model/PrunePolicy$Method") (2 : Int32) [(.ref w_N), (.ref w_K)] .null) (w_NS : Addr) (F_NS : Fld Z Z.heap w_N "com/example/vacuum/vacuum/model/PrunePolicy$Method" "wireName" "Ljava/lang/String;" (.ref w_NS)) (X_NS : Exa Z Z.heap w_NS "java/lang/String") (I_NS_coder : Fld Z Z.heap w_NS "java/lang/String" "coder" "B" (.int (0 : Int32))) (w_NB : Addr) (k_NB : ClassId) (F_NB : Fld Z Z.heap w_NS "java/lang/String" "value" "[B" (.ref w_NB)) (V_NB : Arv Z Z.heap w_NB k_NB .byte (14 : Int32) [(.int (110 : Int32)), (.int (117 : Int32)), (.int (109 : Int32)), (.int (98 : Int32)), (.int (101 : Int32)), (.int (114 : Int32)), (.int (95 : Int32)), (.int (111 : Int32)), (.int (102 : Int32)), (.int (95 : Int32)), (.int (116 : Int32)), (.int (97 : Int32)), (.int (103 : Int32)), (.int (115 : Int32))] (.int (0 : Int32))) (w_KS : Addr) (F_KS : Fld Z Z.heap w_K "com/example/vacuum/vacuum/model/PrunePolicy$Method" "wireName" "Ljava/lang/String;" (.ref w_KS)) (X_KS : Exa Z Z.heap w_KS "java/lang/String") (I_KS_coder : Fld Z Z.heap w_KS "java/lang/String" "coder" "B" (.int (0 : Int32))) (w_KB : Addr) (k_KB : ClassId) (F_KB : Fld Z Z.heap w_KS "java/lang/String" "value" "[B" (.ref w_KB)) (V_KB : Arv Z Z.heap w_KB k_KB .byte (13 : Int32) [(.int (99 : Int32)), (.int (114 : Int32)), (.int (101 : Int32)), (.int (97 : Int32)), (.int (116 : Int32)), (.int (105 : Int32)), (.int (111 : Int32)), (.int (110 : Int32)), (.int (95 : Int32)), (.int (100 : Int32)), (.int (97 : Int32)), (.int (116 : Int32)), (.int (101 : Int32))] (.int (0 : Int32))) (w_OE : Addr) (S_OE : Sta Z Z.heap "java/util/Optional" "EMPTY" "Ljava/util/Optional;" (.ref w_OE)) (X_OE : Exa Z Z.heap w_OE "java/util/Optional") (I_OE_value : Fld Z Z.heap w_OE "java/util/Optional" "value" "Ljava/lang/Object;" .null) (g_CS : Int32) (S_CS : Sta Z Z.heap "java/lang/String" "COMPACT_STRINGS" "Z" (.int g_CS)) (nz_CS : ¬ (g_CS = (0 : Int32))) (g_SF : Value) (S_SF : Sta Z Z.heap "jdk/internal/util/Preconditions" "SIOOBE_FORMATTER" "Ljava/util/function/BiFunction;" g_SF) (r_SF : g_SF.isRef = true) (p0 : Addr) (p1 : Int32) (p2 : Int32) (p3 : Int32) (p4 : Int32) (pcs : List Int32) (pv : Addr) (pk : ClassId) (h0 : Heap) (n0 : Nat) (X00 : Old Z n0 h0) (hp0 : Exa Z h0 p0 "java/lang/String") (hp1 : Fld Z h0 p0 "java/lang/String" "coder" "B" (.int (0 : Int32))) (hp2 : Fld Z h0 p0 "java/lang/String" "value" "[B" (.ref pv)) (hp3 : Arv Z h0 pv pk .byte (Int32.ofNat pcs.length) ((pcs.map StrChars.lo8).map Value.int) (.int (0 : Int32))) (hpc0 : ∀ c ∈ pcs, ¬ c < 0 ∧ ¬ (255 : Int32) < c) (hle0 : pcs.length ≤ 4000) (hs3 : (¬ p3 < 0 ∧ ¬ (255 : Int32) < p3)) (hs4 : (¬ p4 < 0 ∧ ¬ (255 : Int32) < p4)) (hi : ¬ p1 < 0) :
    MetFree l (⟨"com/example/vacuum/vacuum/model/MethodOfWireNamePinLaw", "at", "(Ljava/lang/String;IICC)C"⟩ : MethodName) (head1 (Jvm.Cond.code (⟨"com/example/vacuum/vacuum/model/MethodOfWireNamePinLaw", "at", "(Ljava/lang/String;IICC)C"⟩ : MethodName) method_3_code 5 (some .char) :: ws) ({ frames := 4, cells := 0, slots := 0, locals := 53 } : Room)) (fun a U => a = #[(.ref p0), (.int p1), (.int p2), (.int p3), (.int p4)] ∧ Z.Warmed39 U.vm ∧ U.heap = h0) (fun _ _ _ _ _ => True) (fun _ U o U' => ∃ v L, o = .returned v ∧ Q_rm_at Z w_N w_K w_V k_V w_NS w_NB k_NB w_KS w_KB k_KB w_OE g_CS g_SF p0 p1 p2 p3 p4 pcs pv pk h0 n0 v U'.heap L ∧ FrameEnd U o U' L ({ frames := 4, cells := 0, slots := 0, locals := 53 } : Room).cells ({ frames := 4, cells := 0, slots := 0, locals := 53 } : Room).slots) := by
  refine MetFree.of_bodySF (plainFor_of_name own_pn4) hisR ?_
  intro p e s m args below meth c s₁ Bd hml0 hP hK
  obtain ⟨rfl, hZ, hh⟩ := hP
  have hx := Bd.exec
  have hby := Bd.bytes
  have hml : c.maxLocals = 5 := hml0
  have hown : s.vm.findClass "com/example/vacuum/vacuum/model/MethodOfWireNamePinLaw" = some m.cls := findClass_of_methodNamed Bd.named
  have hnm := (name_of_methodNamed Bd.named Bd.method).1
  have X0 : Stand p l e ({ frames := 4, cells := 0, slots := 0, locals := 53 } : Room) s m #[(.ref p0), (.int p1), (.int p2), (.int p3), (.int p4)] below meth c s₁ [] 0 0 := Stand.of_body Bd
  have e0 : s₁.heap = h0 := by rw [← hh, Bd.state]; rfl
  have N0 := Fr.nil n0
  refine Go.start fun P hPend => ?_
  refine Go.st (fun _ k => castTop (own_ef_rm_at m p0 p1 p2 p3 p4) k) ?_
  show Go p.tables e below P (s₁.setTop (mkF m 0 #[lR p0, lI p1, lI p2, lI p3, lI p4] []))
  refine Go.st (fun _ => XS.iloadN X0.here hx rfl (hb hby own_d_method_3_code_0) rfl) ?_
  show Go p.tables e below P (s₁.setTop (mkF m 1 #[lR p0, lI p1, lI p2, lI p3, lI p4] [(.int p1)]))
  refine Go.st (fun _ => XS.iloadN X0.here hx rfl (hb hby own_d_method_3_code_1) rfl) ?_
  show Go p.tables e below P (s₁.setTop (mkF m 2 #[lR p0, lI p1, lI p2, lI p3, lI p4] [(.int p2), (.int p1)]))
  by_cases hc1 : p1 = p2
  · skip
    refine Go.st (fun _ => XS.icmpNo X0.here hx rfl (hb hby own_d_method_3_code_2) rfl (teq hc1).2) ?_
    show Go p.tables e below P (s₁.setTop (mkF m 5 #[lR p0, lI p1, lI p2, lI p3, lI p4] []))
    refine Go.st (fun _ => XS.iloadN X0.here hx rfl (hb hby own_d_method_3_code_5) rfl) ?_
    show Go p.tables e below P (s₁.setTop (mkF m 6 #[lR p0, lI p1, lI p2, lI p3, lI p4] [(.int p3)]))
    obtain ⟨fs, hr, hrun, hended, hW, hsame⟩ := X0.leave (v := some (.int (nar .char p3))) (fun h => by rw [Bd.returns] at h; cases h)
    refine ⟨_, ?_, hPend _ _ hrun hended ⟨_, _, rfl, ?_, ⟨_, rfl⟩, hW, hsame.mono (by decide) (by decide)⟩⟩
    · exact retN X0 hx (t := .char) Bd.returns (by simp) (hb hby own_d_method_3_code_6) hr
    · show Q_rm_at Z _ _ _ _ _ _ _ _ _ _ _ _ _ _ _ _ _ _ _ _ _ h0 n0 _ s₁.heap _
      rw [e0]
      exact ⟨(nar .char p3), rfl, N0, rfl, (own_narC_s hs3)⟩
  · skip
    refine Go.st (fun _ => XS.icmpYes X0.here hx rfl (pc0 := 2) (pc' := 7) rfl (hb hby own_d_method_3_code_2) rfl (feq hc1).2 (by decide) (by decide)) ?_
    show Go p.tables e below P (s₁.setTop (mkF m 7 #[lR p0, lI p1, lI p2, lI p3, lI p4] []))
    refine Go.st (fun _ => XS.iloadN X0.here hx rfl (hb hby own_d_method_3_code_7) rfl) ?_
    show Go p.tables e below P (s₁.setTop (mkF m 8 #[lR p0, lI p1, lI p2, lI p3, lI p4] [(.int p1)]))
    refine Go.st (fun _ => XS.aloadN X0.here hx rfl (hb hby own_d_method_3_code_8) rfl rfl) ?_
    show Go p.tables e below P (s₁.setTop (mkF m 9 #[lR p0, lI p1, lI p2, lI p3, lI p4] [(.ref p0), (.int p1)]))
    have hcd2 : StrChars.Road.CodA pcs 0 (Int32.ofNat pcs.length) ((pcs.map StrChars.lo8).map Value.int) := StrChars.Road.codOf (n := pcs.length) rfl (fun c hc => (hpc0 c hc).2)
    obtain ⟨cq2, kq2, q2a, q2b, q2c⟩ := isOf hZ e0 hp0
    obtain ⟨_, _, ⟨T2, L2, k2, n2⟩, -, X2, ⟨Lc2, hQ2, l2, y2, z2⟩, st2⟩ := X0.virtualBack hx (y := (⟨"java/lang/String", "length", "()I"⟩ : MethodName)) (z := (⟨"java/lang/String", "length", "()I"⟩ : MethodName)) hown (mvT hZ (ow hw 16 rfl)) (mvT hZ (ow hw 17 rfl)) (notFace_of_selects (args := #[]) (mvT hZ (ow hw 19 rfl))) (mvT hZ (ow hw 19 rfl)) (mvT hZ (ow hw 18 rfl)) (by decide) (StrChars.Road.lenW (W := 1) hZ (fun d hd => hw d (own_wLen d hd)) (kI := 4) (ow hw 2 rfl) hp0 hp2 hp1 hp3 hcd2 (own_up _ hpc0) (S_CS.ext X00.2) nz_CS hle0 (by decide) (by decide)) q2a q2c (g := (mkF m 9 #[.val (.ref p0), .val (.int p1), .val (.int p2), .val (.int p3), .val (.int p4)] [(.ref p0), (.int p1)])) rfl (by rw [hml]; rfl) (Steps.refl _) (argsL := []) (rest := [(.int p1)]) (lenOf own_pd7 rfl) rfl (by show 2 * 0 + _ ≤ _; exact Nat.le_of_eq rfl) (hb hby own_d_method_3_code_9) (fun _ _ => ⟨rfl, e0, (by decide : 0 + 0 ≤ _), (by decide : 0 + 0 ≤ _)⟩)
    dsimp only [Pt.U, Pt.locs, Pt.cells, Pt.slots] at X2 l2 y2 z2 st2 hQ2
    subst y2 z2
    refine Go.tr st2 ?_
    obtain ⟨rfl, rfl, e2⟩ := hQ2
    have N2 : Fr n0 L2 := by rw [l2]; exact Fr.app N0 (Fr.nil n0)
    show Go p.tables e below P (T2.setTop (mkF m 12 #[lR p0, lI p1, lI p2, lI p3, lI p4] [(.int (Int32.ofNat pcs.length)), (.int p1)]))
    by_cases hc3 : p1 < (Int32.ofNat pcs.length)
    · skip
      refine Go.st (fun _ => XS.icmpNo X2.here hx rfl (hb hby own_d_method_3_code_12) rfl (tlt hc3).2.1) ?_
      show Go p.tables e below P (T2.setTop (mkF m 15 #[lR p0, lI p1, lI p2, lI p3, lI p4] []))
      refine Go.st (fun _ => XS.aloadN X2.here hx rfl (hb hby own_d_method_3_code_15) rfl rfl) ?_
      show Go p.tables e below P (T2.setTop (mkF m 16 #[lR p0, lI p1, lI p2, lI p3, lI p4] [(.ref p0)]))
      refine Go.st (fun _ => XS.iloadN X2.here hx rfl (hb hby own_d_method_3_code_16) rfl) ?_
      show Go p.tables e below P (T2.setTop (mkF m 17 #[lR p0, lI p1, lI p2, lI p3, lI p4] [(.int p1), (.ref p0)]))
      have hcd4 : StrChars.Road.CodA pcs 0 (Int32.ofNat pcs.length) ((pcs.map StrChars.lo8).map Value.int) := StrChars.Road.codOf (n := pcs.length) rfl (fun c hc => (hpc0 c hc).2)
      obtain ⟨cq4, kq4, q4a, q4b, q4c⟩ := isOf hZ e2 hp0
      obtain ⟨_, _, ⟨T4, L4, k4, n4⟩, -, X4, ⟨Lc4, hQ4, l4, y4, z4⟩, st4⟩ := X2.virtualBack hx (y := (⟨"java/lang/String", "charAt", "(I)C"⟩ : MethodName)) (z := (⟨"java/lang/String", "charAt", "(I)C"⟩ : MethodName)) hown (mvT hZ (ow hw 29 rfl)) (mvT hZ (ow hw 30 rfl)) (notFace_of_selects (args := #[]) (mvT hZ (ow hw 32 rfl))) (mvT hZ (ow hw 32 rfl)) (mvT hZ (ow hw 31 rfl)) (by decide) (StrChars.Road.chN (W := 0) hZ (fun d hd => hw d (own_wCh d hd)) (kI := 4) (ow hw 2 rfl) hp0 hp2 hp1 hp3 hcd4 (own_up _ hpc0) (S_CS.ext X00.2) nz_CS (S_SF.ext X00.2) r_SF hle0 (i := p1.toNatClampNeg) (own_ltlen hi (by assumption) hle0) (j := p1) (own_natback hi) (by decide) (by decide)) q4a q4c (g := (mkF m 17 #[.val (.ref p0), .val (.int p1), .val (.int p2), .val (.int p3), .val (.int p4)] [(.int p1), (.ref p0)])) rfl (by rw [hml]; rfl) (Steps.refl _) (argsL := [(.int p1)]) (rest := []) (lenOf own_pd8 rfl) rfl (by show 2 * 0 + _ ≤ _; exact Nat.le_of_eq rfl) (hb hby own_d_method_3_code_17) (fun _ _ => ⟨rfl, e2, (by decide : 0 + 0 ≤ _), (by decide : 0 + 0 ≤ _)⟩)
      dsimp only [Pt.U, Pt.locs, Pt.cells, Pt.slots] at X4 l4 y4 z4 st4 hQ4
      subst y4 z4
      refine Go.tr st4 ?_
      obtain ⟨rfl, rfl, e4⟩ := hQ4
      have N4 : Fr n0 L4 := by rw [l4]; exact Fr.app N2 (Fr.nil n0)
      show Go p.tables e below P (T4.setTop (mkF m 20 #[lR p0, lI p1, lI p2, lI p3, lI p4] [(.int (pcs.getD p1.toNatClampNeg 0))]))
      obtain ⟨fs, hr, hrun, hended, hW, hsame⟩ := X4.leave (v := some (.int (nar .char (pcs.getD p1.toNatClampNeg 0)))) (fun h => by rw [Bd.returns] at h; cases h)
      refine ⟨_, ?_, hPend _ _ hrun hended ⟨_, _, rfl, ?_, ⟨_, rfl⟩, hW, hsame.mono (by decide) (by decide)⟩⟩
      · exact retN X4 hx (t := .char) Bd.returns (by simp) (hb hby own_d_method_3_code_20) hr
      · show Q_rm_at Z _ _ _ _ _ _ _ _ _ _ _ _ _ _ _ _ _ _ _ _ _ h0 n0 _ T4.heap _
        rw [e4]
        exact ⟨(nar .char (pcs.getD p1.toNatClampNeg 0)), rfl, N4, rfl, (own_narC_s (own_getD_small hpc0 (own_ltlen hi (by assumption) hle0)))⟩
    · skip
      refine Go.st (fun _ => XS.icmpYes X2.here hx rfl (pc0 := 12) (pc' := 21) rfl (hb hby own_d_method_3_code_12) rfl (flt hc3).2.1 (by decide) (by decide)) ?_
      show Go p.tables e below P (T2.setTop (mkF m 21 #[lR p0, lI p1, lI p2, lI p3, lI p4] []))
      refine Go.st (fun _ => XS.iload X2.here hx rfl (hb hby own_d_method_3_code_21) rfl) ?_
      show Go p.tables e below P (T2.setTop (mkF m 23 #[lR p0, lI p1, lI p2, lI p3, lI p4] [(.int p4)]))
      obtain ⟨fs, hr, hrun, hended, hW, hsame⟩ := X2.leave (v := some (.int (nar .char p4))) (fun h => by rw [Bd.returns] at h; cases h)
      refine ⟨_, ?_, hPend _ _ hrun hended ⟨_, _, rfl, ?_, ⟨_, rfl⟩, hW, hsame.mono (by decide) (by decide)⟩⟩
      · exact retN X2 hx (t := .char) Bd.returns (by simp) (hb hby own_d_method_3_code_23) hr
      · show Q_rm_at Z _ _ _ _ _ _ _ _ _ _ _ _ _ _ _ _ _ _ _ _ _ h0 n0 _ T2.heap _
        rw [e2]
        exact ⟨(nar .char p4), rfl, N2, rfl, (own_narC_s hs4)⟩
theorem own_ef_rm_fc12 (m : MethodId) (x0 : Addr) (x1 : Addr) (x2 : Int32) (x3 : Int32) (x4 : Int32) : entryFrame m #[(.ref x0), (.ref x1), (.int x2), (.int x3), (.int x4)] 5 = mkF m 0 #[.val (.ref x0), .val (.ref x1), .val (.int x2), .val (.int x3), .val (.int x4)] [] := by first | (simp [entryFrame, mkF, argsToLocals, Value.category]; done) | rfl
theorem own_d_method_4_code_0 : decode method_4_code 0 = .ok (.aload_n 0, 1) := by decide +kernel
theorem own_d_method_4_code_1 : decode method_4_code 1 = .ok (.iconst 0, 1) := by decide +kernel
theorem own_d_method_4_code_2 : decode method_4_code 2 = .ok (.aload_n 1, 1) := by decide +kernel
theorem own_d_method_4_code_3 : decode method_4_code 3 = .ok (.iconst 0, 1) := by decide +kernel
theorem own_d_method_4_code_4 : decode method_4_code 4 = .ok (.iload_n 2, 1) := by decide +kernel
theorem own_d_method_4_code_5 : decode method_4_code 5 = .ok (.iload_n 3, 1) := by decide +kernel
theorem own_d_method_4_code_6 : decode method_4_code 6 = .ok (.iload 4, 2) := by decide +kernel
theorem own_d_method_4_code_8 : decode method_4_code 8 = .ok (.invokestatic 59, 3) := by decide +kernel
theorem own_pd9 : parseMethodDescriptor "(Ljava/lang/String;IICC)C" = some ⟨[(.object "java/lang/String"), .int, .int, .char, .char], some .char⟩ := by decide +kernel
theorem own_d_method_4_code_11 : decode method_4_code 11 = .ok (.castore, 1) := by decide +kernel
theorem own_d_method_4_code_12 : decode method_4_code 12 = .ok (.aload_n 0, 1) := by decide +kernel
theorem own_d_method_4_code_13 : decode method_4_code 13 = .ok (.iconst 1, 1) := by decide +kernel
theorem own_d_method_4_code_14 : decode method_4_code 14 = .ok (.aload_n 1, 1) := by decide +kernel
theorem own_d_method_4_code_15 : decode method_4_code 15 = .ok (.iconst 1, 1) := by decide +kernel
theorem own_d_method_4_code_16 : decode method_4_code 16 = .ok (.iload_n 2, 1) := by decide +kernel
theorem own_d_method_4_code_17 : decode method_4_code 17 = .ok (.iload_n 3, 1) := by decide +kernel
theorem own_d_method_4_code_18 : decode method_4_code 18 = .ok (.iload 4, 2) := by decide +kernel
theorem own_d_method_4_code_20 : decode method_4_code 20 = .ok (.invokestatic 59, 3) := by decide +kernel
theorem own_d_method_4_code_23 : decode method_4_code 23 = .ok (.castore, 1) := by decide +kernel
theorem own_d_method_4_code_24 : decode method_4_code 24 = .ok (.aload_n 0, 1) := by decide +kernel
theorem own_d_method_4_code_25 : decode method_4_code 25 = .ok (.iconst 2, 1) := by decide +kernel
theorem own_d_method_4_code_26 : decode method_4_code 26 = .ok (.aload_n 1, 1) := by decide +kernel
theorem own_d_method_4_code_27 : decode method_4_code 27 = .ok (.iconst 2, 1) := by decide +kernel
theorem own_d_method_4_code_28 : decode method_4_code 28 = .ok (.iload_n 2, 1) := by decide +kernel
theorem own_d_method_4_code_29 : decode method_4_code 29 = .ok (.iload_n 3, 1) := by decide +kernel
theorem own_d_method_4_code_30 : decode method_4_code 30 = .ok (.iload 4, 2) := by decide +kernel
theorem own_d_method_4_code_32 : decode method_4_code 32 = .ok (.invokestatic 59, 3) := by decide +kernel
theorem own_d_method_4_code_35 : decode method_4_code 35 = .ok (.castore, 1) := by decide +kernel
theorem own_d_method_4_code_36 : decode method_4_code 36 = .ok (.aload_n 0, 1) := by decide +kernel
theorem own_d_method_4_code_37 : decode method_4_code 37 = .ok (.iconst 3, 1) := by decide +kernel
theorem own_d_method_4_code_38 : decode method_4_code 38 = .ok (.aload_n 1, 1) := by decide +kernel
theorem own_d_method_4_code_39 : decode method_4_code 39 = .ok (.iconst 3, 1) := by decide +kernel
theorem own_d_method_4_code_40 : decode method_4_code 40 = .ok (.iload_n 2, 1) := by decide +kernel
theorem own_d_method_4_code_41 : decode method_4_code 41 = .ok (.iload_n 3, 1) := by decide +kernel
theorem own_d_method_4_code_42 : decode method_4_code 42 = .ok (.iload 4, 2) := by decide +kernel
theorem own_d_method_4_code_44 : decode method_4_code 44 = .ok (.invokestatic 59, 3) := by decide +kernel
theorem own_d_method_4_code_47 : decode method_4_code 47 = .ok (.castore, 1) := by decide +kernel
theorem own_d_method_4_code_48 : decode method_4_code 48 = .ok (.aload_n 0, 1) := by decide +kernel
theorem own_d_method_4_code_49 : decode method_4_code 49 = .ok (.iconst 4, 1) := by decide +kernel
theorem own_d_method_4_code_50 : decode method_4_code 50 = .ok (.aload_n 1, 1) := by decide +kernel
theorem own_d_method_4_code_51 : decode method_4_code 51 = .ok (.iconst 4, 1) := by decide +kernel
theorem own_d_method_4_code_52 : decode method_4_code 52 = .ok (.iload_n 2, 1) := by decide +kernel
theorem own_d_method_4_code_53 : decode method_4_code 53 = .ok (.iload_n 3, 1) := by decide +kernel
theorem own_d_method_4_code_54 : decode method_4_code 54 = .ok (.iload 4, 2) := by decide +kernel
theorem own_d_method_4_code_56 : decode method_4_code 56 = .ok (.invokestatic 59, 3) := by decide +kernel
theorem own_d_method_4_code_59 : decode method_4_code 59 = .ok (.castore, 1) := by decide +kernel
theorem own_d_method_4_code_60 : decode method_4_code 60 = .ok (.aload_n 0, 1) := by decide +kernel
theorem own_d_method_4_code_61 : decode method_4_code 61 = .ok (.iconst 5, 1) := by decide +kernel
theorem own_d_method_4_code_62 : decode method_4_code 62 = .ok (.aload_n 1, 1) := by decide +kernel
theorem own_d_method_4_code_63 : decode method_4_code 63 = .ok (.iconst 5, 1) := by decide +kernel
theorem own_d_method_4_code_64 : decode method_4_code 64 = .ok (.iload_n 2, 1) := by decide +kernel
theorem own_d_method_4_code_65 : decode method_4_code 65 = .ok (.iload_n 3, 1) := by decide +kernel
theorem own_d_method_4_code_66 : decode method_4_code 66 = .ok (.iload 4, 2) := by decide +kernel
theorem own_d_method_4_code_68 : decode method_4_code 68 = .ok (.invokestatic 59, 3) := by decide +kernel
theorem own_d_method_4_code_71 : decode method_4_code 71 = .ok (.castore, 1) := by decide +kernel
theorem own_d_method_4_code_72 : decode method_4_code 72 = .ok (.aload_n 0, 1) := by decide +kernel
theorem own_d_method_4_code_73 : decode method_4_code 73 = .ok (.bipush 6, 2) := by decide +kernel
theorem own_d_method_4_code_75 : decode method_4_code 75 = .ok (.aload_n 1, 1) := by decide +kernel
theorem own_d_method_4_code_76 : decode method_4_code 76 = .ok (.bipush 6, 2) := by decide +kernel
theorem own_d_method_4_code_78 : decode method_4_code 78 = .ok (.iload_n 2, 1) := by decide +kernel
theorem own_d_method_4_code_79 : decode method_4_code 79 = .ok (.iload_n 3, 1) := by decide +kernel
theorem own_d_method_4_code_80 : decode method_4_code 80 = .ok (.iload 4, 2) := by decide +kernel
theorem own_d_method_4_code_82 : decode method_4_code 82 = .ok (.invokestatic 59, 3) := by decide +kernel
theorem own_d_method_4_code_85 : decode method_4_code 85 = .ok (.castore, 1) := by decide +kernel
theorem own_d_method_4_code_86 : decode method_4_code 86 = .ok (.aload_n 0, 1) := by decide +kernel
theorem own_d_method_4_code_87 : decode method_4_code 87 = .ok (.bipush 7, 2) := by decide +kernel
theorem own_d_method_4_code_89 : decode method_4_code 89 = .ok (.aload_n 1, 1) := by decide +kernel
theorem own_d_method_4_code_90 : decode method_4_code 90 = .ok (.bipush 7, 2) := by decide +kernel
theorem own_d_method_4_code_92 : decode method_4_code 92 = .ok (.iload_n 2, 1) := by decide +kernel
theorem own_d_method_4_code_93 : decode method_4_code 93 = .ok (.iload_n 3, 1) := by decide +kernel
theorem own_d_method_4_code_94 : decode method_4_code 94 = .ok (.iload 4, 2) := by decide +kernel
theorem own_d_method_4_code_96 : decode method_4_code 96 = .ok (.invokestatic 59, 3) := by decide +kernel
theorem own_d_method_4_code_99 : decode method_4_code 99 = .ok (.castore, 1) := by decide +kernel
theorem own_d_method_4_code_100 : decode method_4_code 100 = .ok (.aload_n 0, 1) := by decide +kernel
theorem own_d_method_4_code_101 : decode method_4_code 101 = .ok (.bipush 8, 2) := by decide +kernel
theorem own_d_method_4_code_103 : decode method_4_code 103 = .ok (.aload_n 1, 1) := by decide +kernel
theorem own_d_method_4_code_104 : decode method_4_code 104 = .ok (.bipush 8, 2) := by decide +kernel
theorem own_d_method_4_code_106 : decode method_4_code 106 = .ok (.iload_n 2, 1) := by decide +kernel
theorem own_d_method_4_code_107 : decode method_4_code 107 = .ok (.iload_n 3, 1) := by decide +kernel
theorem own_d_method_4_code_108 : decode method_4_code 108 = .ok (.iload 4, 2) := by decide +kernel
theorem own_d_method_4_code_110 : decode method_4_code 110 = .ok (.invokestatic 59, 3) := by decide +kernel
theorem own_d_method_4_code_113 : decode method_4_code 113 = .ok (.castore, 1) := by decide +kernel
theorem own_d_method_4_code_114 : decode method_4_code 114 = .ok (.aload_n 0, 1) := by decide +kernel
theorem own_d_method_4_code_115 : decode method_4_code 115 = .ok (.bipush 9, 2) := by decide +kernel
theorem own_d_method_4_code_117 : decode method_4_code 117 = .ok (.aload_n 1, 1) := by decide +kernel
theorem own_d_method_4_code_118 : decode method_4_code 118 = .ok (.bipush 9, 2) := by decide +kernel
theorem own_d_method_4_code_120 : decode method_4_code 120 = .ok (.iload_n 2, 1) := by decide +kernel
theorem own_d_method_4_code_121 : decode method_4_code 121 = .ok (.iload_n 3, 1) := by decide +kernel
theorem own_d_method_4_code_122 : decode method_4_code 122 = .ok (.iload 4, 2) := by decide +kernel
theorem own_d_method_4_code_124 : decode method_4_code 124 = .ok (.invokestatic 59, 3) := by decide +kernel
theorem own_d_method_4_code_127 : decode method_4_code 127 = .ok (.castore, 1) := by decide +kernel
theorem own_d_method_4_code_128 : decode method_4_code 128 = .ok (.aload_n 0, 1) := by decide +kernel
theorem own_d_method_4_code_129 : decode method_4_code 129 = .ok (.bipush 10, 2) := by decide +kernel
theorem own_d_method_4_code_131 : decode method_4_code 131 = .ok (.aload_n 1, 1) := by decide +kernel
theorem own_d_method_4_code_132 : decode method_4_code 132 = .ok (.bipush 10, 2) := by decide +kernel
theorem own_d_method_4_code_134 : decode method_4_code 134 = .ok (.iload_n 2, 1) := by decide +kernel
theorem own_d_method_4_code_135 : decode method_4_code 135 = .ok (.iload_n 3, 1) := by decide +kernel
theorem own_d_method_4_code_136 : decode method_4_code 136 = .ok (.iload 4, 2) := by decide +kernel
theorem own_d_method_4_code_138 : decode method_4_code 138 = .ok (.invokestatic 59, 3) := by decide +kernel
theorem own_d_method_4_code_141 : decode method_4_code 141 = .ok (.castore, 1) := by decide +kernel
theorem own_d_method_4_code_142 : decode method_4_code 142 = .ok (.aload_n 0, 1) := by decide +kernel
theorem own_d_method_4_code_143 : decode method_4_code 143 = .ok (.bipush 11, 2) := by decide +kernel
theorem own_d_method_4_code_145 : decode method_4_code 145 = .ok (.aload_n 1, 1) := by decide +kernel
theorem own_d_method_4_code_146 : decode method_4_code 146 = .ok (.bipush 11, 2) := by decide +kernel
theorem own_d_method_4_code_148 : decode method_4_code 148 = .ok (.iload_n 2, 1) := by decide +kernel
theorem own_d_method_4_code_149 : decode method_4_code 149 = .ok (.iload_n 3, 1) := by decide +kernel
theorem own_d_method_4_code_150 : decode method_4_code 150 = .ok (.iload 4, 2) := by decide +kernel
theorem own_d_method_4_code_152 : decode method_4_code 152 = .ok (.invokestatic 59, 3) := by decide +kernel
theorem own_d_method_4_code_155 : decode method_4_code 155 = .ok (.castore, 1) := by decide +kernel
theorem own_d_method_4_code_156 : decode method_4_code 156 = .ok (.aload_n 0, 1) := by decide +kernel
theorem own_d_method_4_code_157 : decode method_4_code 157 = .ok (.arraylength, 1) := by decide +kernel
theorem own_d_method_4_code_158 : decode method_4_code 158 = .ok (.bipush 12, 2) := by decide +kernel
theorem own_d_method_4_code_160 : decode method_4_code 160 = .ok (.if_icmp .le 17, 3) := by decide +kernel
theorem own_d_method_4_code_177 : decode method_4_code 177 = .ok (.aload_n 0, 1) := by decide +kernel
theorem own_d_method_4_code_178 : decode method_4_code 178 = .ok (.arraylength, 1) := by decide +kernel
theorem own_d_method_4_code_179 : decode method_4_code 179 = .ok (.bipush 13, 2) := by decide +kernel
theorem own_d_method_4_code_181 : decode method_4_code 181 = .ok (.if_icmp .le 17, 3) := by decide +kernel
theorem own_d_method_4_code_198 : decode method_4_code 198 = .ok (.aload_n 0, 1) := by decide +kernel
theorem own_d_method_4_code_199 : decode method_4_code 199 = .ok (.arraylength, 1) := by decide +kernel
theorem own_d_method_4_code_200 : decode method_4_code 200 = .ok (.bipush 14, 2) := by decide +kernel
theorem own_d_method_4_code_202 : decode method_4_code 202 = .ok (.if_icmp .le 17, 3) := by decide +kernel
theorem own_d_method_4_code_219 : decode method_4_code 219 = .ok (.return_, 1) := by decide +kernel
def Q_rm_fc12 (Z : State) (w_N : Addr) (w_K : Addr) (w_V : Addr) (k_V : ClassId) (w_NS : Addr) (w_NB : Addr) (k_NB : ClassId) (w_KS : Addr) (w_KB : Addr) (k_KB : ClassId) (w_OE : Addr) (g_CS : Int32) (g_SF : Value) (p0 : Addr) (p1 : Addr) (p2 : Int32) (p3 : Int32) (p4 : Int32) (ka : ClassId) (pcs : List Int32) (pv : Addr) (pk : ClassId) (h0 : Heap) (n0 : Nat) (v : Option Value) (h : Heap) (L : List Loc) : Prop := ∃ (c0 : Int32) (c1 : Int32) (c2 : Int32) (c3 : Int32) (c4 : Int32) (c5 : Int32) (c6 : Int32) (c7 : Int32) (c8 : Int32) (c9 : Int32) (c10 : Int32) (c11 : Int32), v = none ∧ Fr n0 L ∧ Keep h0 h [p0] ∧ Arv Z h p0 ka .char (12 : Int32) [(.int c0), (.int c1), (.int c2), (.int c3), (.int c4), (.int c5), (.int c6), (.int c7), (.int c8), (.int c9), (.int c10), (.int c11)] (.int (0 : Int32)) ∧ (¬ c0 < 0 ∧ ¬ (255 : Int32) < c0) ∧ (¬ c1 < 0 ∧ ¬ (255 : Int32) < c1) ∧ (¬ c2 < 0 ∧ ¬ (255 : Int32) < c2) ∧ (¬ c3 < 0 ∧ ¬ (255 : Int32) < c3) ∧ (¬ c4 < 0 ∧ ¬ (255 : Int32) < c4) ∧ (¬ c5 < 0 ∧ ¬ (255 : Int32) < c5) ∧ (¬ c6 < 0 ∧ ¬ (255 : Int32) < c6) ∧ (¬ c7 < 0 ∧ ¬ (255 : Int32) < c7) ∧ (¬ c8 < 0 ∧ ¬ (255 : Int32) < c8) ∧ (¬ c9 < 0 ∧ ¬ (255 : Int32) < c9) ∧ (¬ c10 < 0 ∧ ¬ (255 : Int32) < c10) ∧ (¬ c11 < 0 ∧ ¬ (255 : Int32) < c11)
set_option maxRecDepth 65536 in
set_option maxHeartbeats 40000000 in
theorem rm_fc12 (l : Launch) (Z : State) (a0 : Array Value) (hw : ∀ d ∈ tables_1, d.before a0 Z = true) (ws : List Jvm.Cond) (w_N : Addr) (S_N : Sta Z Z.heap "com/example/vacuum/vacuum/model/PrunePolicy$Method" "NUMBER_OF_TAGS" "Lcom/example/vacuum/vacuum/model/PrunePolicy$Method;" (.ref w_N)) (X_N : Exa Z Z.heap w_N "com/example/vacuum/vacuum/model/PrunePolicy$Method") (w_K : Addr) (S_K : Sta Z Z.heap "com/example/vacuum/vacuum/model/PrunePolicy$Method" "CREATION_DATE" "Lcom/example/vacuum/vacuum/model/PrunePolicy$Method;" (.ref w_K)) (X_K : Exa Z Z.heap w_K "com/example/vacuum/vacuum/model/PrunePolicy$Method") (w_V : Addr) (k_V : ClassId) (S_V : Sta Z Z.heap "com/example/vacuum/vacuum/model/PrunePolicy$Method" "$VALUES" "[Lcom/example/vacuum/vacuum/model/PrunePolicy$Method;" (.ref w_V)) (X_V : Exa Z Z.heap w_V "[Lcom/example/vacuum/vacuum/model/PrunePolicy$Method;") (V_V : Arv Z Z.heap w_V k_V (.object "com/example/vacuum/vacuum/model/PrunePolicy$Method") (2 : Int32) [(.ref w_N), (.ref w_K)] .null) (w_NS : Addr) (F_NS : Fld Z Z.heap w_N "com/example/vacuum/vacuum/model/PrunePolicy$Method" "wireName" "Ljava/lang/String;" (.ref w_NS)) (X_NS : Exa Z Z.heap w_NS "java/lang/String") (I_NS_coder : Fld Z Z.heap w_NS "java/lang/String" "coder" "B" (.int (0 : Int32))) (w_NB : Addr) (k_NB : ClassId) (F_NB : Fld Z Z.heap w_NS "java/lang/String" "value" "[B" (.ref w_NB)) (V_NB : Arv Z Z.heap w_NB k_NB .byte (14 : Int32) [(.int (110 : Int32)), (.int (117 : Int32)), (.int (109 : Int32)), (.int (98 : Int32)), (.int (101 : Int32)), (.int (114 : Int32)), (.int (95 : Int32)), (.int (111 : Int32)), (.int (102 : Int32)), (.int (95 : Int32)), (.int (116 : Int32)), (.int (97 : Int32)), (.int (103 : Int32)), (.int (115 : Int32))] (.int (0 : Int32))) (w_KS : Addr) (F_KS : Fld Z Z.heap w_K "com/example/vacuum/vacuum/model/PrunePolicy$Method" "wireName" "Ljava/lang/String;" (.ref w_KS)) (X_KS : Exa Z Z.heap w_KS "java/lang/String") (I_KS_coder : Fld Z Z.heap w_KS "java/lang/String" "coder" "B" (.int (0 : Int32))) (w_KB : Addr) (k_KB : ClassId) (F_KB : Fld Z Z.heap w_KS "java/lang/String" "value" "[B" (.ref w_KB)) (V_KB : Arv Z Z.heap w_KB k_KB .byte (13 : Int32) [(.int (99 : Int32)), (.int (114 : Int32)), (.int (101 : Int32)), (.int (97 : Int32)), (.int (116 : Int32)), (.int (105 : Int32)), (.int (111 : Int32)), (.int (110 : Int32)), (.int (95 : Int32)), (.int (100 : Int32)), (.int (97 : Int32)), (.int (116 : Int32)), (.int (101 : Int32))] (.int (0 : Int32))) (w_OE : Addr) (S_OE : Sta Z Z.heap "java/util/Optional" "EMPTY" "Ljava/util/Optional;" (.ref w_OE)) (X_OE : Exa Z Z.heap w_OE "java/util/Optional") (I_OE_value : Fld Z Z.heap w_OE "java/util/Optional" "value" "Ljava/lang/Object;" .null) (g_CS : Int32) (S_CS : Sta Z Z.heap "java/lang/String" "COMPACT_STRINGS" "Z" (.int g_CS)) (nz_CS : ¬ (g_CS = (0 : Int32))) (g_SF : Value) (S_SF : Sta Z Z.heap "jdk/internal/util/Preconditions" "SIOOBE_FORMATTER" "Ljava/util/function/BiFunction;" g_SF) (r_SF : g_SF.isRef = true) (p0 : Addr) (p1 : Addr) (p2 : Int32) (p3 : Int32) (p4 : Int32) (ka : ClassId) (pcs : List Int32) (pv : Addr) (pk : ClassId) (h0 : Heap) (n0 : Nat) (X00 : Old Z n0 h0) (hp0 : Arv Z h0 p0 ka .char (12 : Int32) [(.int (0 : Int32)), (.int (0 : Int32)), (.int (0 : Int32)), (.int (0 : Int32)), (.int (0 : Int32)), (.int (0 : Int32)), (.int (0 : Int32)), (.int (0 : Int32)), (.int (0 : Int32)), (.int (0 : Int32)), (.int (0 : Int32)), (.int (0 : Int32))] (.int (0 : Int32))) (hp1 : n0 ≤ p0) (hp2 : Exa Z h0 p1 "java/lang/String") (hp3 : Fld Z h0 p1 "java/lang/String" "coder" "B" (.int (0 : Int32))) (hp4 : Fld Z h0 p1 "java/lang/String" "value" "[B" (.ref pv)) (hp5 : Arv Z h0 pv pk .byte (Int32.ofNat pcs.length) ((pcs.map StrChars.lo8).map Value.int) (.int (0 : Int32))) (hpc1 : ∀ c ∈ pcs, ¬ c < 0 ∧ ¬ (255 : Int32) < c) (hle1 : pcs.length ≤ 4000) (hp8 : pv ≠ p0) (hs3 : (¬ p3 < 0 ∧ ¬ (255 : Int32) < p3)) (hs4 : (¬ p4 < 0 ∧ ¬ (255 : Int32) < p4)) :
    MetFree l (⟨"com/example/vacuum/vacuum/model/MethodOfWireNamePinLaw", "fillChars", "([CLjava/lang/String;ICC)V"⟩ : MethodName) (head1 (Jvm.Cond.code (⟨"com/example/vacuum/vacuum/model/MethodOfWireNamePinLaw", "fillChars", "([CLjava/lang/String;ICC)V"⟩ : MethodName) method_4_code 5 none :: ws) ({ frames := 5, cells := 0, slots := 0, locals := 71 } : Room)) (fun a U => a = #[(.ref p0), (.ref p1), (.int p2), (.int p3), (.int p4)] ∧ Z.Warmed39 U.vm ∧ U.heap = h0) (fun _ _ _ _ _ => True) (fun _ U o U' => ∃ v L, o = .returned v ∧ Q_rm_fc12 Z w_N w_K w_V k_V w_NS w_NB k_NB w_KS w_KB k_KB w_OE g_CS g_SF p0 p1 p2 p3 p4 ka pcs pv pk h0 n0 v U'.heap L ∧ FrameEnd U o U' L ({ frames := 5, cells := 0, slots := 0, locals := 71 } : Room).cells ({ frames := 5, cells := 0, slots := 0, locals := 71 } : Room).slots) := by
  refine MetFree.of_bodySF (plainFor_of_name own_pn4) hisR ?_
  intro p e s m args below meth c s₁ Bd hml0 hP hK
  obtain ⟨rfl, hZ, hh⟩ := hP
  have hx := Bd.exec
  have hby := Bd.bytes
  have hml : c.maxLocals = 5 := hml0
  have hown : s.vm.findClass "com/example/vacuum/vacuum/model/MethodOfWireNamePinLaw" = some m.cls := findClass_of_methodNamed Bd.named
  have hnm := (name_of_methodNamed Bd.named Bd.method).1
  have X0 : Stand p l e ({ frames := 5, cells := 0, slots := 0, locals := 71 } : Room) s m #[(.ref p0), (.ref p1), (.int p2), (.int p3), (.int p4)] below meth c s₁ [] 0 0 := Stand.of_body Bd
  have e0 : s₁.heap = h0 := by rw [← hh, Bd.state]; rfl
  have N0 := Fr.nil n0
  refine Go.start fun P hPend => ?_
  refine Go.st (fun _ k => castTop (own_ef_rm_fc12 m p0 p1 p2 p3 p4) k) ?_
  show Go p.tables e below P (s₁.setTop (mkF m 0 #[lR p0, lR p1, lI p2, lI p3, lI p4] []))
  refine Go.st (fun _ => XS.aloadN X0.here hx rfl (hb hby own_d_method_4_code_0) rfl rfl) ?_
  show Go p.tables e below P (s₁.setTop (mkF m 1 #[lR p0, lR p1, lI p2, lI p3, lI p4] [(.ref p0)]))
  refine Go.st (fun _ => XS.iconst X0.here hx rfl (hb hby own_d_method_4_code_1)) ?_
  show Go p.tables e below P (s₁.setTop (mkF m 2 #[lR p0, lR p1, lI p2, lI p3, lI p4] [(.int (0 : Int32)), (.ref p0)]))
  refine Go.st (fun _ => XS.aloadN X0.here hx rfl (hb hby own_d_method_4_code_2) rfl rfl) ?_
  show Go p.tables e below P (s₁.setTop (mkF m 3 #[lR p0, lR p1, lI p2, lI p3, lI p4] [(.ref p1), (.int (0 : Int32)), (.ref p0)]))
  refine Go.st (fun _ => XS.iconst X0.here hx rfl (hb hby own_d_method_4_code_3)) ?_
  show Go p.tables e below P (s₁.setTop (mkF m 4 #[lR p0, lR p1, lI p2, lI p3, lI p4] [(.int (0 : Int32)), (.ref p1), (.int (0 : Int32)), (.ref p0)]))
  refine Go.st (fun _ => XS.iloadN X0.here hx rfl (hb hby own_d_method_4_code_4) rfl) ?_
  show Go p.tables e below P (s₁.setTop (mkF m 5 #[lR p0, lR p1, lI p2, lI p3, lI p4] [(.int p2), (.int (0 : Int32)), (.ref p1), (.int (0 : Int32)), (.ref p0)]))
  refine Go.st (fun _ => XS.iloadN X0.here hx rfl (hb hby own_d_method_4_code_5) rfl) ?_
  show Go p.tables e below P (s₁.setTop (mkF m 6 #[lR p0, lR p1, lI p2, lI p3, lI p4] [(.int p3), (.int p2), (.int (0 : Int32)), (.ref p1), (.int (0 : Int32)), (.ref p0)]))
  refine Go.st (fun _ => XS.iload X0.here hx rfl (hb hby own_d_method_4_code_6) rfl) ?_
  show Go p.tables e below P (s₁.setTop (mkF m 8 #[lR p0, lR p1, lI p2, lI p3, lI p4] [(.int p4), (.int p3), (.int p2), (.int (0 : Int32)), (.ref p1), (.int (0 : Int32)), (.ref p0)]))
  obtain ⟨_, _, ⟨T1, L1, k1, n1⟩, -, X1, ⟨Lc1, hQ1, l1, y1, z1⟩, st1⟩ := Jvm.LawKit.callS X0 hx (y := (⟨"com/example/vacuum/vacuum/model/MethodOfWireNamePinLaw", "at", "(Ljava/lang/String;IICC)C"⟩ : MethodName)) hown (mvT hZ (ow hw 13 rfl)) (mvT hZ (ow hw 14 rfl)) (mvT hZ (ow hw 11 rfl)) (mvT hZ (ow hw 15 rfl)) (by decide) (backOf (W := 2) (rm_at l Z a0 hw [] w_N S_N X_N w_K S_K X_K w_V k_V S_V X_V V_V w_NS F_NS X_NS I_NS_coder w_NB k_NB F_NB V_NB w_KS F_KS X_KS I_KS_coder w_KB k_KB F_KB V_KB w_OE S_OE X_OE I_OE_value g_CS S_CS nz_CS g_SF S_SF r_SF p1 (0 : Int32) p2 p3 p4 pcs pv pk h0 n0 X00 hp2 hp3 hp4 hp5 hpc1 hle1 hs3 hs4 (by decide)) hZ (ow hw 15 rfl) (ow hw 11 rfl) (by decide) (by decide)) (g := (mkF m 8 #[.val (.ref p0), .val (.ref p1), .val (.int p2), .val (.int p3), .val (.int p4)] [(.int p4), (.int p3), (.int p2), (.int (0 : Int32)), (.ref p1), (.int (0 : Int32)), (.ref p0)])) rfl (by rw [hml]; rfl) (argsL := [(.ref p1), (.int (0 : Int32)), (.int p2), (.int p3), (.int p4)]) (rest := [(.int (0 : Int32)), (.ref p0)]) (lenOf own_pd9 rfl) rfl (by show 2 * 0 + _ ≤ _; exact Nat.le_of_eq rfl) (hb hby own_d_method_4_code_8) (fun _ _ => ⟨rfl, e0, (by decide : 0 + 0 ≤ _), (by decide : 0 + 0 ≤ _)⟩)
  dsimp only [Pt.U, Pt.locs, Pt.cells, Pt.slots] at X1 l1 y1 z1 st1 hQ1
  subst y1 z1
  refine Go.st st1 ?_
  obtain ⟨rc_2, rfl, N1q, e1, q1_0⟩ := hQ1
  have N1 : Fr n0 L1 := by rw [l1]; exact Fr.app N0 N1q
  show Go p.tables e below P (T1.setTop (mkF m 11 #[lR p0, lR p1, lI p2, lI p3, lI p4] [(.int rc_2), (.int (0 : Int32)), (.ref p0)]))
  obtain ⟨T3, h3, X3, e3, W3, V3, st3⟩ := own_stC X1 hx hZ e1 hp0 (j := (0 : Int32)) (i := 0) (by decide) (by decide) (Nat.le_of_ble_eq_true rfl) (g := (mkF m 11 #[.val (.ref p0), .val (.ref p1), .val (.int p2), .val (.int p3), .val (.int p4)] [(.int rc_2), (.int (0 : Int32)), (.ref p0)])) rfl rfl (hb hby own_d_method_4_code_11)
  refine Go.st st3 ?_
  rw [own_narC q1_0] at V3
  have K3 : Keep h0 h3 [p0] := (Keep.refl h0 [p0]).wr W3 (Or.inl (List.mem_of_getElem? (i := 0) rfl))
  have O3 := X00.wr W3 hp1
  have N3 := Fr.snoc X3 N1 hp1
  have V3' : Arv Z h3 p0 ka .char (12 : Int32) [(.int rc_2), (.int (0 : Int32)), (.int (0 : Int32)), (.int (0 : Int32)), (.int (0 : Int32)), (.int (0 : Int32)), (.int (0 : Int32)), (.int (0 : Int32)), (.int (0 : Int32)), (.int (0 : Int32)), (.int (0 : Int32)), (.int (0 : Int32))] (.int (0 : Int32)) := V3
  show Go p.tables e below P (T3.setTop (mkF m 12 #[lR p0, lR p1, lI p2, lI p3, lI p4] []))
  refine Go.st (fun _ => XS.aloadN X3.here hx rfl (hb hby own_d_method_4_code_12) rfl rfl) ?_
  show Go p.tables e below P (T3.setTop (mkF m 13 #[lR p0, lR p1, lI p2, lI p3, lI p4] [(.ref p0)]))
  refine Go.st (fun _ => XS.iconst X3.here hx rfl (hb hby own_d_method_4_code_13)) ?_
  show Go p.tables e below P (T3.setTop (mkF m 14 #[lR p0, lR p1, lI p2, lI p3, lI p4] [(.int (1 : Int32)), (.ref p0)]))
  refine Go.st (fun _ => XS.aloadN X3.here hx rfl (hb hby own_d_method_4_code_14) rfl rfl) ?_
  show Go p.tables e below P (T3.setTop (mkF m 15 #[lR p0, lR p1, lI p2, lI p3, lI p4] [(.ref p1), (.int (1 : Int32)), (.ref p0)]))
  refine Go.st (fun _ => XS.iconst X3.here hx rfl (hb hby own_d_method_4_code_15)) ?_
  show Go p.tables e below P (T3.setTop (mkF m 16 #[lR p0, lR p1, lI p2, lI p3, lI p4] [(.int (1 : Int32)), (.ref p1), (.int (1 : Int32)), (.ref p0)]))
  refine Go.st (fun _ => XS.iloadN X3.here hx rfl (hb hby own_d_method_4_code_16) rfl) ?_
  show Go p.tables e below P (T3.setTop (mkF m 17 #[lR p0, lR p1, lI p2, lI p3, lI p4] [(.int p2), (.int (1 : Int32)), (.ref p1), (.int (1 : Int32)), (.ref p0)]))
  refine Go.st (fun _ => XS.iloadN X3.here hx rfl (hb hby own_d_method_4_code_17) rfl) ?_
  show Go p.tables e below P (T3.setTop (mkF m 18 #[lR p0, lR p1, lI p2, lI p3, lI p4] [(.int p3), (.int p2), (.int (1 : Int32)), (.ref p1), (.int (1 : Int32)), (.ref p0)]))
  refine Go.st (fun _ => XS.iload X3.here hx rfl (hb hby own_d_method_4_code_18) rfl) ?_
  show Go p.tables e below P (T3.setTop (mkF m 20 #[lR p0, lR p1, lI p2, lI p3, lI p4] [(.int p4), (.int p3), (.int p2), (.int (1 : Int32)), (.ref p1), (.int (1 : Int32)), (.ref p0)]))
  have c5 := (hp2.wr W3)
  have c6 := (hp3.other W3 (Or.inl (Exa.neArv hp2 hp0 (ow hw 2 rfl))))
  have c7 := (hp4.other W3 (Or.inl (Exa.neArv hp2 hp0 (ow hw 2 rfl))))
  have c8 := (hp5.other W3 hp8)
  obtain ⟨_, _, ⟨T4, L4, k4, n4⟩, -, X4, ⟨Lc4, hQ4, l4, y4, z4⟩, st4⟩ := Jvm.LawKit.callS X3 hx (y := (⟨"com/example/vacuum/vacuum/model/MethodOfWireNamePinLaw", "at", "(Ljava/lang/String;IICC)C"⟩ : MethodName)) hown (mvT hZ (ow hw 13 rfl)) (mvT hZ (ow hw 14 rfl)) (mvT hZ (ow hw 11 rfl)) (mvT hZ (ow hw 15 rfl)) (by decide) (backOf (W := 2) (rm_at l Z a0 hw [] w_N S_N X_N w_K S_K X_K w_V k_V S_V X_V V_V w_NS F_NS X_NS I_NS_coder w_NB k_NB F_NB V_NB w_KS F_KS X_KS I_KS_coder w_KB k_KB F_KB V_KB w_OE S_OE X_OE I_OE_value g_CS S_CS nz_CS g_SF S_SF r_SF p1 (1 : Int32) p2 p3 p4 pcs pv pk h3 n0 O3 c5 c6 c7 c8 hpc1 hle1 hs3 hs4 (by decide)) hZ (ow hw 15 rfl) (ow hw 11 rfl) (by decide) (by decide)) (g := (mkF m 20 #[.val (.ref p0), .val (.ref p1), .val (.int p2), .val (.int p3), .val (.int p4)] [(.int p4), (.int p3), (.int p2), (.int (1 : Int32)), (.ref p1), (.int (1 : Int32)), (.ref p0)])) rfl (by rw [hml]; rfl) (argsL := [(.ref p1), (.int (1 : Int32)), (.int p2), (.int p3), (.int p4)]) (rest := [(.int (1 : Int32)), (.ref p0)]) (lenOf own_pd9 rfl) rfl (by show 2 * 0 + _ ≤ _; exact Nat.le_of_eq rfl) (hb hby own_d_method_4_code_20) (fun _ _ => ⟨rfl, e3, (by decide : 0 + 0 ≤ _), (by decide : 0 + 0 ≤ _)⟩)
  dsimp only [Pt.U, Pt.locs, Pt.cells, Pt.slots] at X4 l4 y4 z4 st4 hQ4
  subst y4 z4
  refine Go.st st4 ?_
  obtain ⟨rc_9, rfl, N4q, e4, q4_0⟩ := hQ4
  have N4 : Fr n0 L4 := by rw [l4]; exact Fr.app N3 N4q
  show Go p.tables e below P (T4.setTop (mkF m 23 #[lR p0, lR p1, lI p2, lI p3, lI p4] [(.int rc_9), (.int (1 : Int32)), (.ref p0)]))
  obtain ⟨T10, h10, X10, e10, W10, V10, st10⟩ := own_stC X4 hx hZ e4 V3' (j := (1 : Int32)) (i := 1) (by decide) (by decide) (Nat.le_of_ble_eq_true rfl) (g := (mkF m 23 #[.val (.ref p0), .val (.ref p1), .val (.int p2), .val (.int p3), .val (.int p4)] [(.int rc_9), (.int (1 : Int32)), (.ref p0)])) rfl rfl (hb hby own_d_method_4_code_23)
  refine Go.st st10 ?_
  rw [own_narC q4_0] at V10
  have K10 : Keep h0 h10 [p0] := K3.wr W10 (Or.inl (List.mem_of_getElem? (i := 0) rfl))
  have O10 := O3.wr W10 hp1
  have N10 := Fr.snoc X10 N4 hp1
  have V10' : Arv Z h10 p0 ka .char (12 : Int32) [(.int rc_2), (.int rc_9), (.int (0 : Int32)), (.int (0 : Int32)), (.int (0 : Int32)), (.int (0 : Int32)), (.int (0 : Int32)), (.int (0 : Int32)), (.int (0 : Int32)), (.int (0 : Int32)), (.int (0 : Int32)), (.int (0 : Int32))] (.int (0 : Int32)) := V10
  show Go p.tables e below P (T10.setTop (mkF m 24 #[lR p0, lR p1, lI p2, lI p3, lI p4] []))
  refine Go.st (fun _ => XS.aloadN X10.here hx rfl (hb hby own_d_method_4_code_24) rfl rfl) ?_
  show Go p.tables e below P (T10.setTop (mkF m 25 #[lR p0, lR p1, lI p2, lI p3, lI p4] [(.ref p0)]))
  refine Go.st (fun _ => XS.iconst X10.here hx rfl (hb hby own_d_method_4_code_25)) ?_
  show Go p.tables e below P (T10.setTop (mkF m 26 #[lR p0, lR p1, lI p2, lI p3, lI p4] [(.int (2 : Int32)), (.ref p0)]))
  refine Go.st (fun _ => XS.aloadN X10.here hx rfl (hb hby own_d_method_4_code_26) rfl rfl) ?_
  show Go p.tables e below P (T10.setTop (mkF m 27 #[lR p0, lR p1, lI p2, lI p3, lI p4] [(.ref p1), (.int (2 : Int32)), (.ref p0)]))
  refine Go.st (fun _ => XS.iconst X10.here hx rfl (hb hby own_d_method_4_code_27)) ?_
  show Go p.tables e below P (T10.setTop (mkF m 28 #[lR p0, lR p1, lI p2, lI p3, lI p4] [(.int (2 : Int32)), (.ref p1), (.int (2 : Int32)), (.ref p0)]))
  refine Go.st (fun _ => XS.iloadN X10.here hx rfl (hb hby own_d_method_4_code_28) rfl) ?_
  show Go p.tables e below P (T10.setTop (mkF m 29 #[lR p0, lR p1, lI p2, lI p3, lI p4] [(.int p2), (.int (2 : Int32)), (.ref p1), (.int (2 : Int32)), (.ref p0)]))
  refine Go.st (fun _ => XS.iloadN X10.here hx rfl (hb hby own_d_method_4_code_29) rfl) ?_
  show Go p.tables e below P (T10.setTop (mkF m 30 #[lR p0, lR p1, lI p2, lI p3, lI p4] [(.int p3), (.int p2), (.int (2 : Int32)), (.ref p1), (.int (2 : Int32)), (.ref p0)]))
  refine Go.st (fun _ => XS.iload X10.here hx rfl (hb hby own_d_method_4_code_30) rfl) ?_
  show Go p.tables e below P (T10.setTop (mkF m 32 #[lR p0, lR p1, lI p2, lI p3, lI p4] [(.int p4), (.int p3), (.int p2), (.int (2 : Int32)), (.ref p1), (.int (2 : Int32)), (.ref p0)]))
  have c12 := (c5.wr W10)
  have c13 := (c6.other W10 (Or.inl (Exa.neArv hp2 hp0 (ow hw 2 rfl))))
  have c14 := (c7.other W10 (Or.inl (Exa.neArv hp2 hp0 (ow hw 2 rfl))))
  have c15 := (c8.other W10 hp8)
  obtain ⟨_, _, ⟨T11, L11, k11, n11⟩, -, X11, ⟨Lc11, hQ11, l11, y11, z11⟩, st11⟩ := Jvm.LawKit.callS X10 hx (y := (⟨"com/example/vacuum/vacuum/model/MethodOfWireNamePinLaw", "at", "(Ljava/lang/String;IICC)C"⟩ : MethodName)) hown (mvT hZ (ow hw 13 rfl)) (mvT hZ (ow hw 14 rfl)) (mvT hZ (ow hw 11 rfl)) (mvT hZ (ow hw 15 rfl)) (by decide) (backOf (W := 2) (rm_at l Z a0 hw [] w_N S_N X_N w_K S_K X_K w_V k_V S_V X_V V_V w_NS F_NS X_NS I_NS_coder w_NB k_NB F_NB V_NB w_KS F_KS X_KS I_KS_coder w_KB k_KB F_KB V_KB w_OE S_OE X_OE I_OE_value g_CS S_CS nz_CS g_SF S_SF r_SF p1 (2 : Int32) p2 p3 p4 pcs pv pk h10 n0 O10 c12 c13 c14 c15 hpc1 hle1 hs3 hs4 (by decide)) hZ (ow hw 15 rfl) (ow hw 11 rfl) (by decide) (by decide)) (g := (mkF m 32 #[.val (.ref p0), .val (.ref p1), .val (.int p2), .val (.int p3), .val (.int p4)] [(.int p4), (.int p3), (.int p2), (.int (2 : Int32)), (.ref p1), (.int (2 : Int32)), (.ref p0)])) rfl (by rw [hml]; rfl) (argsL := [(.ref p1), (.int (2 : Int32)), (.int p2), (.int p3), (.int p4)]) (rest := [(.int (2 : Int32)), (.ref p0)]) (lenOf own_pd9 rfl) rfl (by show 2 * 0 + _ ≤ _; exact Nat.le_of_eq rfl) (hb hby own_d_method_4_code_32) (fun _ _ => ⟨rfl, e10, (by decide : 0 + 0 ≤ _), (by decide : 0 + 0 ≤ _)⟩)
  dsimp only [Pt.U, Pt.locs, Pt.cells, Pt.slots] at X11 l11 y11 z11 st11 hQ11
  subst y11 z11
  refine Go.st st11 ?_
  obtain ⟨rc_16, rfl, N11q, e11, q11_0⟩ := hQ11
  have N11 : Fr n0 L11 := by rw [l11]; exact Fr.app N10 N11q
  show Go p.tables e below P (T11.setTop (mkF m 35 #[lR p0, lR p1, lI p2, lI p3, lI p4] [(.int rc_16), (.int (2 : Int32)), (.ref p0)]))
  obtain ⟨T17, h17, X17, e17, W17, V17, st17⟩ := own_stC X11 hx hZ e11 V10' (j := (2 : Int32)) (i := 2) (by decide) (by decide) (Nat.le_of_ble_eq_true rfl) (g := (mkF m 35 #[.val (.ref p0), .val (.ref p1), .val (.int p2), .val (.int p3), .val (.int p4)] [(.int rc_16), (.int (2 : Int32)), (.ref p0)])) rfl rfl (hb hby own_d_method_4_code_35)
  refine Go.st st17 ?_
  rw [own_narC q11_0] at V17
  have K17 : Keep h0 h17 [p0] := K10.wr W17 (Or.inl (List.mem_of_getElem? (i := 0) rfl))
  have O17 := O10.wr W17 hp1
  have N17 := Fr.snoc X17 N11 hp1
  have V17' : Arv Z h17 p0 ka .char (12 : Int32) [(.int rc_2), (.int rc_9), (.int rc_16), (.int (0 : Int32)), (.int (0 : Int32)), (.int (0 : Int32)), (.int (0 : Int32)), (.int (0 : Int32)), (.int (0 : Int32)), (.int (0 : Int32)), (.int (0 : Int32)), (.int (0 : Int32))] (.int (0 : Int32)) := V17
  show Go p.tables e below P (T17.setTop (mkF m 36 #[lR p0, lR p1, lI p2, lI p3, lI p4] []))
  refine Go.st (fun _ => XS.aloadN X17.here hx rfl (hb hby own_d_method_4_code_36) rfl rfl) ?_
  show Go p.tables e below P (T17.setTop (mkF m 37 #[lR p0, lR p1, lI p2, lI p3, lI p4] [(.ref p0)]))
  refine Go.st (fun _ => XS.iconst X17.here hx rfl (hb hby own_d_method_4_code_37)) ?_
  show Go p.tables e below P (T17.setTop (mkF m 38 #[lR p0, lR p1, lI p2, lI p3, lI p4] [(.int (3 : Int32)), (.ref p0)]))
  refine Go.st (fun _ => XS.aloadN X17.here hx rfl (hb hby own_d_method_4_code_38) rfl rfl) ?_
  show Go p.tables e below P (T17.setTop (mkF m 39 #[lR p0, lR p1, lI p2, lI p3, lI p4] [(.ref p1), (.int (3 : Int32)), (.ref p0)]))
  refine Go.st (fun _ => XS.iconst X17.here hx rfl (hb hby own_d_method_4_code_39)) ?_
  show Go p.tables e below P (T17.setTop (mkF m 40 #[lR p0, lR p1, lI p2, lI p3, lI p4] [(.int (3 : Int32)), (.ref p1), (.int (3 : Int32)), (.ref p0)]))
  refine Go.st (fun _ => XS.iloadN X17.here hx rfl (hb hby own_d_method_4_code_40) rfl) ?_
  show Go p.tables e below P (T17.setTop (mkF m 41 #[lR p0, lR p1, lI p2, lI p3, lI p4] [(.int p2), (.int (3 : Int32)), (.ref p1), (.int (3 : Int32)), (.ref p0)]))
  refine Go.st (fun _ => XS.iloadN X17.here hx rfl (hb hby own_d_method_4_code_41) rfl) ?_
  show Go p.tables e below P (T17.setTop (mkF m 42 #[lR p0, lR p1, lI p2, lI p3, lI p4] [(.int p3), (.int p2), (.int (3 : Int32)), (.ref p1), (.int (3 : Int32)), (.ref p0)]))
  refine Go.st (fun _ => XS.iload X17.here hx rfl (hb hby own_d_method_4_code_42) rfl) ?_
  show Go p.tables e below P (T17.setTop (mkF m 44 #[lR p0, lR p1, lI p2, lI p3, lI p4] [(.int p4), (.int p3), (.int p2), (.int (3 : Int32)), (.ref p1), (.int (3 : Int32)), (.ref p0)]))
  have c19 := (c12.wr W17)
  have c20 := (c13.other W17 (Or.inl (Exa.neArv hp2 hp0 (ow hw 2 rfl))))
  have c21 := (c14.other W17 (Or.inl (Exa.neArv hp2 hp0 (ow hw 2 rfl))))
  have c22 := (c15.other W17 hp8)
  obtain ⟨_, _, ⟨T18, L18, k18, n18⟩, -, X18, ⟨Lc18, hQ18, l18, y18, z18⟩, st18⟩ := Jvm.LawKit.callS X17 hx (y := (⟨"com/example/vacuum/vacuum/model/MethodOfWireNamePinLaw", "at", "(Ljava/lang/String;IICC)C"⟩ : MethodName)) hown (mvT hZ (ow hw 13 rfl)) (mvT hZ (ow hw 14 rfl)) (mvT hZ (ow hw 11 rfl)) (mvT hZ (ow hw 15 rfl)) (by decide) (backOf (W := 2) (rm_at l Z a0 hw [] w_N S_N X_N w_K S_K X_K w_V k_V S_V X_V V_V w_NS F_NS X_NS I_NS_coder w_NB k_NB F_NB V_NB w_KS F_KS X_KS I_KS_coder w_KB k_KB F_KB V_KB w_OE S_OE X_OE I_OE_value g_CS S_CS nz_CS g_SF S_SF r_SF p1 (3 : Int32) p2 p3 p4 pcs pv pk h17 n0 O17 c19 c20 c21 c22 hpc1 hle1 hs3 hs4 (by decide)) hZ (ow hw 15 rfl) (ow hw 11 rfl) (by decide) (by decide)) (g := (mkF m 44 #[.val (.ref p0), .val (.ref p1), .val (.int p2), .val (.int p3), .val (.int p4)] [(.int p4), (.int p3), (.int p2), (.int (3 : Int32)), (.ref p1), (.int (3 : Int32)), (.ref p0)])) rfl (by rw [hml]; rfl) (argsL := [(.ref p1), (.int (3 : Int32)), (.int p2), (.int p3), (.int p4)]) (rest := [(.int (3 : Int32)), (.ref p0)]) (lenOf own_pd9 rfl) rfl (by show 2 * 0 + _ ≤ _; exact Nat.le_of_eq rfl) (hb hby own_d_method_4_code_44) (fun _ _ => ⟨rfl, e17, (by decide : 0 + 0 ≤ _), (by decide : 0 + 0 ≤ _)⟩)
  dsimp only [Pt.U, Pt.locs, Pt.cells, Pt.slots] at X18 l18 y18 z18 st18 hQ18
  subst y18 z18
  refine Go.st st18 ?_
  obtain ⟨rc_23, rfl, N18q, e18, q18_0⟩ := hQ18
  have N18 : Fr n0 L18 := by rw [l18]; exact Fr.app N17 N18q
  show Go p.tables e below P (T18.setTop (mkF m 47 #[lR p0, lR p1, lI p2, lI p3, lI p4] [(.int rc_23), (.int (3 : Int32)), (.ref p0)]))
  obtain ⟨T24, h24, X24, e24, W24, V24, st24⟩ := own_stC X18 hx hZ e18 V17' (j := (3 : Int32)) (i := 3) (by decide) (by decide) (Nat.le_of_ble_eq_true rfl) (g := (mkF m 47 #[.val (.ref p0), .val (.ref p1), .val (.int p2), .val (.int p3), .val (.int p4)] [(.int rc_23), (.int (3 : Int32)), (.ref p0)])) rfl rfl (hb hby own_d_method_4_code_47)
  refine Go.st st24 ?_
  rw [own_narC q18_0] at V24
  have K24 : Keep h0 h24 [p0] := K17.wr W24 (Or.inl (List.mem_of_getElem? (i := 0) rfl))
  have O24 := O17.wr W24 hp1
  have N24 := Fr.snoc X24 N18 hp1
  have V24' : Arv Z h24 p0 ka .char (12 : Int32) [(.int rc_2), (.int rc_9), (.int rc_16), (.int rc_23), (.int (0 : Int32)), (.int (0 : Int32)), (.int (0 : Int32)), (.int (0 : Int32)), (.int (0 : Int32)), (.int (0 : Int32)), (.int (0 : Int32)), (.int (0 : Int32))] (.int (0 : Int32)) := V24
  show Go p.tables e below P (T24.setTop (mkF m 48 #[lR p0, lR p1, lI p2, lI p3, lI p4] []))
  refine Go.st (fun _ => XS.aloadN X24.here hx rfl (hb hby own_d_method_4_code_48) rfl rfl) ?_
  show Go p.tables e below P (T24.setTop (mkF m 49 #[lR p0, lR p1, lI p2, lI p3, lI p4] [(.ref p0)]))
  refine Go.st (fun _ => XS.iconst X24.here hx rfl (hb hby own_d_method_4_code_49)) ?_
  show Go p.tables e below P (T24.setTop (mkF m 50 #[lR p0, lR p1, lI p2, lI p3, lI p4] [(.int (4 : Int32)), (.ref p0)]))
  refine Go.st (fun _ => XS.aloadN X24.here hx rfl (hb hby own_d_method_4_code_50) rfl rfl) ?_
  show Go p.tables e below P (T24.setTop (mkF m 51 #[lR p0, lR p1, lI p2, lI p3, lI p4] [(.ref p1), (.int (4 : Int32)), (.ref p0)]))
  refine Go.st (fun _ => XS.iconst X24.here hx rfl (hb hby own_d_method_4_code_51)) ?_
  show Go p.tables e below P (T24.setTop (mkF m 52 #[lR p0, lR p1, lI p2, lI p3, lI p4] [(.int (4 : Int32)), (.ref p1), (.int (4 : Int32)), (.ref p0)]))
  refine Go.st (fun _ => XS.iloadN X24.here hx rfl (hb hby own_d_method_4_code_52) rfl) ?_
  show Go p.tables e below P (T24.setTop (mkF m 53 #[lR p0, lR p1, lI p2, lI p3, lI p4] [(.int p2), (.int (4 : Int32)), (.ref p1), (.int (4 : Int32)), (.ref p0)]))
  refine Go.st (fun _ => XS.iloadN X24.here hx rfl (hb hby own_d_method_4_code_53) rfl) ?_
  show Go p.tables e below P (T24.setTop (mkF m 54 #[lR p0, lR p1, lI p2, lI p3, lI p4] [(.int p3), (.int p2), (.int (4 : Int32)), (.ref p1), (.int (4 : Int32)), (.ref p0)]))
  refine Go.st (fun _ => XS.iload X24.here hx rfl (hb hby own_d_method_4_code_54) rfl) ?_
  show Go p.tables e below P (T24.setTop (mkF m 56 #[lR p0, lR p1, lI p2, lI p3, lI p4] [(.int p4), (.int p3), (.int p2), (.int (4 : Int32)), (.ref p1), (.int (4 : Int32)), (.ref p0)]))
  have c26 := (c19.wr W24)
  have c27 := (c20.other W24 (Or.inl (Exa.neArv hp2 hp0 (ow hw 2 rfl))))
  have c28 := (c21.other W24 (Or.inl (Exa.neArv hp2 hp0 (ow hw 2 rfl))))
  have c29 := (c22.other W24 hp8)
  obtain ⟨_, _, ⟨T25, L25, k25, n25⟩, -, X25, ⟨Lc25, hQ25, l25, y25, z25⟩, st25⟩ := Jvm.LawKit.callS X24 hx (y := (⟨"com/example/vacuum/vacuum/model/MethodOfWireNamePinLaw", "at", "(Ljava/lang/String;IICC)C"⟩ : MethodName)) hown (mvT hZ (ow hw 13 rfl)) (mvT hZ (ow hw 14 rfl)) (mvT hZ (ow hw 11 rfl)) (mvT hZ (ow hw 15 rfl)) (by decide) (backOf (W := 2) (rm_at l Z a0 hw [] w_N S_N X_N w_K S_K X_K w_V k_V S_V X_V V_V w_NS F_NS X_NS I_NS_coder w_NB k_NB F_NB V_NB w_KS F_KS X_KS I_KS_coder w_KB k_KB F_KB V_KB w_OE S_OE X_OE I_OE_value g_CS S_CS nz_CS g_SF S_SF r_SF p1 (4 : Int32) p2 p3 p4 pcs pv pk h24 n0 O24 c26 c27 c28 c29 hpc1 hle1 hs3 hs4 (by decide)) hZ (ow hw 15 rfl) (ow hw 11 rfl) (by decide) (by decide)) (g := (mkF m 56 #[.val (.ref p0), .val (.ref p1), .val (.int p2), .val (.int p3), .val (.int p4)] [(.int p4), (.int p3), (.int p2), (.int (4 : Int32)), (.ref p1), (.int (4 : Int32)), (.ref p0)])) rfl (by rw [hml]; rfl) (argsL := [(.ref p1), (.int (4 : Int32)), (.int p2), (.int p3), (.int p4)]) (rest := [(.int (4 : Int32)), (.ref p0)]) (lenOf own_pd9 rfl) rfl (by show 2 * 0 + _ ≤ _; exact Nat.le_of_eq rfl) (hb hby own_d_method_4_code_56) (fun _ _ => ⟨rfl, e24, (by decide : 0 + 0 ≤ _), (by decide : 0 + 0 ≤ _)⟩)
  dsimp only [Pt.U, Pt.locs, Pt.cells, Pt.slots] at X25 l25 y25 z25 st25 hQ25
  subst y25 z25
  refine Go.st st25 ?_
  obtain ⟨rc_30, rfl, N25q, e25, q25_0⟩ := hQ25
  have N25 : Fr n0 L25 := by rw [l25]; exact Fr.app N24 N25q
  show Go p.tables e below P (T25.setTop (mkF m 59 #[lR p0, lR p1, lI p2, lI p3, lI p4] [(.int rc_30), (.int (4 : Int32)), (.ref p0)]))
  obtain ⟨T31, h31, X31, e31, W31, V31, st31⟩ := own_stC X25 hx hZ e25 V24' (j := (4 : Int32)) (i := 4) (by decide) (by decide) (Nat.le_of_ble_eq_true rfl) (g := (mkF m 59 #[.val (.ref p0), .val (.ref p1), .val (.int p2), .val (.int p3), .val (.int p4)] [(.int rc_30), (.int (4 : Int32)), (.ref p0)])) rfl rfl (hb hby own_d_method_4_code_59)
  refine Go.st st31 ?_
  rw [own_narC q25_0] at V31
  have K31 : Keep h0 h31 [p0] := K24.wr W31 (Or.inl (List.mem_of_getElem? (i := 0) rfl))
  have O31 := O24.wr W31 hp1
  have N31 := Fr.snoc X31 N25 hp1
  have V31' : Arv Z h31 p0 ka .char (12 : Int32) [(.int rc_2), (.int rc_9), (.int rc_16), (.int rc_23), (.int rc_30), (.int (0 : Int32)), (.int (0 : Int32)), (.int (0 : Int32)), (.int (0 : Int32)), (.int (0 : Int32)), (.int (0 : Int32)), (.int (0 : Int32))] (.int (0 : Int32)) := V31
  show Go p.tables e below P (T31.setTop (mkF m 60 #[lR p0, lR p1, lI p2, lI p3, lI p4] []))
  refine Go.st (fun _ => XS.aloadN X31.here hx rfl (hb hby own_d_method_4_code_60) rfl rfl) ?_
  show Go p.tables e below P (T31.setTop (mkF m 61 #[lR p0, lR p1, lI p2, lI p3, lI p4] [(.ref p0)]))
  refine Go.st (fun _ => XS.iconst X31.here hx rfl (hb hby own_d_method_4_code_61)) ?_
  show Go p.tables e below P (T31.setTop (mkF m 62 #[lR p0, lR p1, lI p2, lI p3, lI p4] [(.int (5 : Int32)), (.ref p0)]))
  refine Go.st (fun _ => XS.aloadN X31.here hx rfl (hb hby own_d_method_4_code_62) rfl rfl) ?_
  show Go p.tables e below P (T31.setTop (mkF m 63 #[lR p0, lR p1, lI p2, lI p3, lI p4] [(.ref p1), (.int (5 : Int32)), (.ref p0)]))
  refine Go.st (fun _ => XS.iconst X31.here hx rfl (hb hby own_d_method_4_code_63)) ?_
  show Go p.tables e below P (T31.setTop (mkF m 64 #[lR p0, lR p1, lI p2, lI p3, lI p4] [(.int (5 : Int32)), (.ref p1), (.int (5 : Int32)), (.ref p0)]))
  refine Go.st (fun _ => XS.iloadN X31.here hx rfl (hb hby own_d_method_4_code_64) rfl) ?_
  show Go p.tables e below P (T31.setTop (mkF m 65 #[lR p0, lR p1, lI p2, lI p3, lI p4] [(.int p2), (.int (5 : Int32)), (.ref p1), (.int (5 : Int32)), (.ref p0)]))
  refine Go.st (fun _ => XS.iloadN X31.here hx rfl (hb hby own_d_method_4_code_65) rfl) ?_
  show Go p.tables e below P (T31.setTop (mkF m 66 #[lR p0, lR p1, lI p2, lI p3, lI p4] [(.int p3), (.int p2), (.int (5 : Int32)), (.ref p1), (.int (5 : Int32)), (.ref p0)]))
  refine Go.st (fun _ => XS.iload X31.here hx rfl (hb hby own_d_method_4_code_66) rfl) ?_
  show Go p.tables e below P (T31.setTop (mkF m 68 #[lR p0, lR p1, lI p2, lI p3, lI p4] [(.int p4), (.int p3), (.int p2), (.int (5 : Int32)), (.ref p1), (.int (5 : Int32)), (.ref p0)]))
  have c33 := (c26.wr W31)
  have c34 := (c27.other W31 (Or.inl (Exa.neArv hp2 hp0 (ow hw 2 rfl))))
  have c35 := (c28.other W31 (Or.inl (Exa.neArv hp2 hp0 (ow hw 2 rfl))))
  have c36 := (c29.other W31 hp8)
  obtain ⟨_, _, ⟨T32, L32, k32, n32⟩, -, X32, ⟨Lc32, hQ32, l32, y32, z32⟩, st32⟩ := Jvm.LawKit.callS X31 hx (y := (⟨"com/example/vacuum/vacuum/model/MethodOfWireNamePinLaw", "at", "(Ljava/lang/String;IICC)C"⟩ : MethodName)) hown (mvT hZ (ow hw 13 rfl)) (mvT hZ (ow hw 14 rfl)) (mvT hZ (ow hw 11 rfl)) (mvT hZ (ow hw 15 rfl)) (by decide) (backOf (W := 2) (rm_at l Z a0 hw [] w_N S_N X_N w_K S_K X_K w_V k_V S_V X_V V_V w_NS F_NS X_NS I_NS_coder w_NB k_NB F_NB V_NB w_KS F_KS X_KS I_KS_coder w_KB k_KB F_KB V_KB w_OE S_OE X_OE I_OE_value g_CS S_CS nz_CS g_SF S_SF r_SF p1 (5 : Int32) p2 p3 p4 pcs pv pk h31 n0 O31 c33 c34 c35 c36 hpc1 hle1 hs3 hs4 (by decide)) hZ (ow hw 15 rfl) (ow hw 11 rfl) (by decide) (by decide)) (g := (mkF m 68 #[.val (.ref p0), .val (.ref p1), .val (.int p2), .val (.int p3), .val (.int p4)] [(.int p4), (.int p3), (.int p2), (.int (5 : Int32)), (.ref p1), (.int (5 : Int32)), (.ref p0)])) rfl (by rw [hml]; rfl) (argsL := [(.ref p1), (.int (5 : Int32)), (.int p2), (.int p3), (.int p4)]) (rest := [(.int (5 : Int32)), (.ref p0)]) (lenOf own_pd9 rfl) rfl (by show 2 * 0 + _ ≤ _; exact Nat.le_of_eq rfl) (hb hby own_d_method_4_code_68) (fun _ _ => ⟨rfl, e31, (by decide : 0 + 0 ≤ _), (by decide : 0 + 0 ≤ _)⟩)
  dsimp only [Pt.U, Pt.locs, Pt.cells, Pt.slots] at X32 l32 y32 z32 st32 hQ32
  subst y32 z32
  refine Go.st st32 ?_
  obtain ⟨rc_37, rfl, N32q, e32, q32_0⟩ := hQ32
  have N32 : Fr n0 L32 := by rw [l32]; exact Fr.app N31 N32q
  show Go p.tables e below P (T32.setTop (mkF m 71 #[lR p0, lR p1, lI p2, lI p3, lI p4] [(.int rc_37), (.int (5 : Int32)), (.ref p0)]))
  obtain ⟨T38, h38, X38, e38, W38, V38, st38⟩ := own_stC X32 hx hZ e32 V31' (j := (5 : Int32)) (i := 5) (by decide) (by decide) (Nat.le_of_ble_eq_true rfl) (g := (mkF m 71 #[.val (.ref p0), .val (.ref p1), .val (.int p2), .val (.int p3), .val (.int p4)] [(.int rc_37), (.int (5 : Int32)), (.ref p0)])) rfl rfl (hb hby own_d_method_4_code_71)
  refine Go.st st38 ?_
  rw [own_narC q32_0] at V38
  have K38 : Keep h0 h38 [p0] := K31.wr W38 (Or.inl (List.mem_of_getElem? (i := 0) rfl))
  have O38 := O31.wr W38 hp1
  have N38 := Fr.snoc X38 N32 hp1
  have V38' : Arv Z h38 p0 ka .char (12 : Int32) [(.int rc_2), (.int rc_9), (.int rc_16), (.int rc_23), (.int rc_30), (.int rc_37), (.int (0 : Int32)), (.int (0 : Int32)), (.int (0 : Int32)), (.int (0 : Int32)), (.int (0 : Int32)), (.int (0 : Int32))] (.int (0 : Int32)) := V38
  show Go p.tables e below P (T38.setTop (mkF m 72 #[lR p0, lR p1, lI p2, lI p3, lI p4] []))
  refine Go.st (fun _ => XS.aloadN X38.here hx rfl (hb hby own_d_method_4_code_72) rfl rfl) ?_
  show Go p.tables e below P (T38.setTop (mkF m 73 #[lR p0, lR p1, lI p2, lI p3, lI p4] [(.ref p0)]))
  refine Go.st (fun _ => XS.bipush X38.here hx rfl (hb hby own_d_method_4_code_73)) ?_
  show Go p.tables e below P (T38.setTop (mkF m 75 #[lR p0, lR p1, lI p2, lI p3, lI p4] [(.int (6 : Int32)), (.ref p0)]))
  refine Go.st (fun _ => XS.aloadN X38.here hx rfl (hb hby own_d_method_4_code_75) rfl rfl) ?_
  show Go p.tables e below P (T38.setTop (mkF m 76 #[lR p0, lR p1, lI p2, lI p3, lI p4] [(.ref p1), (.int (6 : Int32)), (.ref p0)]))
  refine Go.st (fun _ => XS.bipush X38.here hx rfl (hb hby own_d_method_4_code_76)) ?_
  show Go p.tables e below P (T38.setTop (mkF m 78 #[lR p0, lR p1, lI p2, lI p3, lI p4] [(.int (6 : Int32)), (.ref p1), (.int (6 : Int32)), (.ref p0)]))
  refine Go.st (fun _ => XS.iloadN X38.here hx rfl (hb hby own_d_method_4_code_78) rfl) ?_
  show Go p.tables e below P (T38.setTop (mkF m 79 #[lR p0, lR p1, lI p2, lI p3, lI p4] [(.int p2), (.int (6 : Int32)), (.ref p1), (.int (6 : Int32)), (.ref p0)]))
  refine Go.st (fun _ => XS.iloadN X38.here hx rfl (hb hby own_d_method_4_code_79) rfl) ?_
  show Go p.tables e below P (T38.setTop (mkF m 80 #[lR p0, lR p1, lI p2, lI p3, lI p4] [(.int p3), (.int p2), (.int (6 : Int32)), (.ref p1), (.int (6 : Int32)), (.ref p0)]))
  refine Go.st (fun _ => XS.iload X38.here hx rfl (hb hby own_d_method_4_code_80) rfl) ?_
  show Go p.tables e below P (T38.setTop (mkF m 82 #[lR p0, lR p1, lI p2, lI p3, lI p4] [(.int p4), (.int p3), (.int p2), (.int (6 : Int32)), (.ref p1), (.int (6 : Int32)), (.ref p0)]))
  have c40 := (c33.wr W38)
  have c41 := (c34.other W38 (Or.inl (Exa.neArv hp2 hp0 (ow hw 2 rfl))))
  have c42 := (c35.other W38 (Or.inl (Exa.neArv hp2 hp0 (ow hw 2 rfl))))
  have c43 := (c36.other W38 hp8)
  obtain ⟨_, _, ⟨T39, L39, k39, n39⟩, -, X39, ⟨Lc39, hQ39, l39, y39, z39⟩, st39⟩ := Jvm.LawKit.callS X38 hx (y := (⟨"com/example/vacuum/vacuum/model/MethodOfWireNamePinLaw", "at", "(Ljava/lang/String;IICC)C"⟩ : MethodName)) hown (mvT hZ (ow hw 13 rfl)) (mvT hZ (ow hw 14 rfl)) (mvT hZ (ow hw 11 rfl)) (mvT hZ (ow hw 15 rfl)) (by decide) (backOf (W := 2) (rm_at l Z a0 hw [] w_N S_N X_N w_K S_K X_K w_V k_V S_V X_V V_V w_NS F_NS X_NS I_NS_coder w_NB k_NB F_NB V_NB w_KS F_KS X_KS I_KS_coder w_KB k_KB F_KB V_KB w_OE S_OE X_OE I_OE_value g_CS S_CS nz_CS g_SF S_SF r_SF p1 (6 : Int32) p2 p3 p4 pcs pv pk h38 n0 O38 c40 c41 c42 c43 hpc1 hle1 hs3 hs4 (by decide)) hZ (ow hw 15 rfl) (ow hw 11 rfl) (by decide) (by decide)) (g := (mkF m 82 #[.val (.ref p0), .val (.ref p1), .val (.int p2), .val (.int p3), .val (.int p4)] [(.int p4), (.int p3), (.int p2), (.int (6 : Int32)), (.ref p1), (.int (6 : Int32)), (.ref p0)])) rfl (by rw [hml]; rfl) (argsL := [(.ref p1), (.int (6 : Int32)), (.int p2), (.int p3), (.int p4)]) (rest := [(.int (6 : Int32)), (.ref p0)]) (lenOf own_pd9 rfl) rfl (by show 2 * 0 + _ ≤ _; exact Nat.le_of_eq rfl) (hb hby own_d_method_4_code_82) (fun _ _ => ⟨rfl, e38, (by decide : 0 + 0 ≤ _), (by decide : 0 + 0 ≤ _)⟩)
  dsimp only [Pt.U, Pt.locs, Pt.cells, Pt.slots] at X39 l39 y39 z39 st39 hQ39
  subst y39 z39
  refine Go.st st39 ?_
  obtain ⟨rc_44, rfl, N39q, e39, q39_0⟩ := hQ39
  have N39 : Fr n0 L39 := by rw [l39]; exact Fr.app N38 N39q
  show Go p.tables e below P (T39.setTop (mkF m 85 #[lR p0, lR p1, lI p2, lI p3, lI p4] [(.int rc_44), (.int (6 : Int32)), (.ref p0)]))
  obtain ⟨T45, h45, X45, e45, W45, V45, st45⟩ := own_stC X39 hx hZ e39 V38' (j := (6 : Int32)) (i := 6) (by decide) (by decide) (Nat.le_of_ble_eq_true rfl) (g := (mkF m 85 #[.val (.ref p0), .val (.ref p1), .val (.int p2), .val (.int p3), .val (.int p4)] [(.int rc_44), (.int (6 : Int32)), (.ref p0)])) rfl rfl (hb hby own_d_method_4_code_85)
  refine Go.st st45 ?_
  rw [own_narC q39_0] at V45
  have K45 : Keep h0 h45 [p0] := K38.wr W45 (Or.inl (List.mem_of_getElem? (i := 0) rfl))
  have O45 := O38.wr W45 hp1
  have N45 := Fr.snoc X45 N39 hp1
  have V45' : Arv Z h45 p0 ka .char (12 : Int32) [(.int rc_2), (.int rc_9), (.int rc_16), (.int rc_23), (.int rc_30), (.int rc_37), (.int rc_44), (.int (0 : Int32)), (.int (0 : Int32)), (.int (0 : Int32)), (.int (0 : Int32)), (.int (0 : Int32))] (.int (0 : Int32)) := V45
  show Go p.tables e below P (T45.setTop (mkF m 86 #[lR p0, lR p1, lI p2, lI p3, lI p4] []))
  refine Go.st (fun _ => XS.aloadN X45.here hx rfl (hb hby own_d_method_4_code_86) rfl rfl) ?_
  show Go p.tables e below P (T45.setTop (mkF m 87 #[lR p0, lR p1, lI p2, lI p3, lI p4] [(.ref p0)]))
  refine Go.st (fun _ => XS.bipush X45.here hx rfl (hb hby own_d_method_4_code_87)) ?_
  show Go p.tables e below P (T45.setTop (mkF m 89 #[lR p0, lR p1, lI p2, lI p3, lI p4] [(.int (7 : Int32)), (.ref p0)]))
  refine Go.st (fun _ => XS.aloadN X45.here hx rfl (hb hby own_d_method_4_code_89) rfl rfl) ?_
  show Go p.tables e below P (T45.setTop (mkF m 90 #[lR p0, lR p1, lI p2, lI p3, lI p4] [(.ref p1), (.int (7 : Int32)), (.ref p0)]))
  refine Go.st (fun _ => XS.bipush X45.here hx rfl (hb hby own_d_method_4_code_90)) ?_
  show Go p.tables e below P (T45.setTop (mkF m 92 #[lR p0, lR p1, lI p2, lI p3, lI p4] [(.int (7 : Int32)), (.ref p1), (.int (7 : Int32)), (.ref p0)]))
  refine Go.st (fun _ => XS.iloadN X45.here hx rfl (hb hby own_d_method_4_code_92) rfl) ?_
  show Go p.tables e below P (T45.setTop (mkF m 93 #[lR p0, lR p1, lI p2, lI p3, lI p4] [(.int p2), (.int (7 : Int32)), (.ref p1), (.int (7 : Int32)), (.ref p0)]))
  refine Go.st (fun _ => XS.iloadN X45.here hx rfl (hb hby own_d_method_4_code_93) rfl) ?_
  show Go p.tables e below P (T45.setTop (mkF m 94 #[lR p0, lR p1, lI p2, lI p3, lI p4] [(.int p3), (.int p2), (.int (7 : Int32)), (.ref p1), (.int (7 : Int32)), (.ref p0)]))
  refine Go.st (fun _ => XS.iload X45.here hx rfl (hb hby own_d_method_4_code_94) rfl) ?_
  show Go p.tables e below P (T45.setTop (mkF m 96 #[lR p0, lR p1, lI p2, lI p3, lI p4] [(.int p4), (.int p3), (.int p2), (.int (7 : Int32)), (.ref p1), (.int (7 : Int32)), (.ref p0)]))
  have c47 := (c40.wr W45)
  have c48 := (c41.other W45 (Or.inl (Exa.neArv hp2 hp0 (ow hw 2 rfl))))
  have c49 := (c42.other W45 (Or.inl (Exa.neArv hp2 hp0 (ow hw 2 rfl))))
  have c50 := (c43.other W45 hp8)
  obtain ⟨_, _, ⟨T46, L46, k46, n46⟩, -, X46, ⟨Lc46, hQ46, l46, y46, z46⟩, st46⟩ := Jvm.LawKit.callS X45 hx (y := (⟨"com/example/vacuum/vacuum/model/MethodOfWireNamePinLaw", "at", "(Ljava/lang/String;IICC)C"⟩ : MethodName)) hown (mvT hZ (ow hw 13 rfl)) (mvT hZ (ow hw 14 rfl)) (mvT hZ (ow hw 11 rfl)) (mvT hZ (ow hw 15 rfl)) (by decide) (backOf (W := 2) (rm_at l Z a0 hw [] w_N S_N X_N w_K S_K X_K w_V k_V S_V X_V V_V w_NS F_NS X_NS I_NS_coder w_NB k_NB F_NB V_NB w_KS F_KS X_KS I_KS_coder w_KB k_KB F_KB V_KB w_OE S_OE X_OE I_OE_value g_CS S_CS nz_CS g_SF S_SF r_SF p1 (7 : Int32) p2 p3 p4 pcs pv pk h45 n0 O45 c47 c48 c49 c50 hpc1 hle1 hs3 hs4 (by decide)) hZ (ow hw 15 rfl) (ow hw 11 rfl) (by decide) (by decide)) (g := (mkF m 96 #[.val (.ref p0), .val (.ref p1), .val (.int p2), .val (.int p3), .val (.int p4)] [(.int p4), (.int p3), (.int p2), (.int (7 : Int32)), (.ref p1), (.int (7 : Int32)), (.ref p0)])) rfl (by rw [hml]; rfl) (argsL := [(.ref p1), (.int (7 : Int32)), (.int p2), (.int p3), (.int p4)]) (rest := [(.int (7 : Int32)), (.ref p0)]) (lenOf own_pd9 rfl) rfl (by show 2 * 0 + _ ≤ _; exact Nat.le_of_eq rfl) (hb hby own_d_method_4_code_96) (fun _ _ => ⟨rfl, e45, (by decide : 0 + 0 ≤ _), (by decide : 0 + 0 ≤ _)⟩)
  dsimp only [Pt.U, Pt.locs, Pt.cells, Pt.slots] at X46 l46 y46 z46 st46 hQ46
  subst y46 z46
  refine Go.st st46 ?_
  obtain ⟨rc_51, rfl, N46q, e46, q46_0⟩ := hQ46
  have N46 : Fr n0 L46 := by rw [l46]; exact Fr.app N45 N46q
  show Go p.tables e below P (T46.setTop (mkF m 99 #[lR p0, lR p1, lI p2, lI p3, lI p4] [(.int rc_51), (.int (7 : Int32)), (.ref p0)]))
  obtain ⟨T52, h52, X52, e52, W52, V52, st52⟩ := own_stC X46 hx hZ e46 V45' (j := (7 : Int32)) (i := 7) (by decide) (by decide) (Nat.le_of_ble_eq_true rfl) (g := (mkF m 99 #[.val (.ref p0), .val (.ref p1), .val (.int p2), .val (.int p3), .val (.int p4)] [(.int rc_51), (.int (7 : Int32)), (.ref p0)])) rfl rfl (hb hby own_d_method_4_code_99)
  refine Go.st st52 ?_
  rw [own_narC q46_0] at V52
  have K52 : Keep h0 h52 [p0] := K45.wr W52 (Or.inl (List.mem_of_getElem? (i := 0) rfl))
  have O52 := O45.wr W52 hp1
  have N52 := Fr.snoc X52 N46 hp1
  have V52' : Arv Z h52 p0 ka .char (12 : Int32) [(.int rc_2), (.int rc_9), (.int rc_16), (.int rc_23), (.int rc_30), (.int rc_37), (.int rc_44), (.int rc_51), (.int (0 : Int32)), (.int (0 : Int32)), (.int (0 : Int32)), (.int (0 : Int32))] (.int (0 : Int32)) := V52
  show Go p.tables e below P (T52.setTop (mkF m 100 #[lR p0, lR p1, lI p2, lI p3, lI p4] []))
  refine Go.st (fun _ => XS.aloadN X52.here hx rfl (hb hby own_d_method_4_code_100) rfl rfl) ?_
  show Go p.tables e below P (T52.setTop (mkF m 101 #[lR p0, lR p1, lI p2, lI p3, lI p4] [(.ref p0)]))
  refine Go.st (fun _ => XS.bipush X52.here hx rfl (hb hby own_d_method_4_code_101)) ?_
  show Go p.tables e below P (T52.setTop (mkF m 103 #[lR p0, lR p1, lI p2, lI p3, lI p4] [(.int (8 : Int32)), (.ref p0)]))
  refine Go.st (fun _ => XS.aloadN X52.here hx rfl (hb hby own_d_method_4_code_103) rfl rfl) ?_
  show Go p.tables e below P (T52.setTop (mkF m 104 #[lR p0, lR p1, lI p2, lI p3, lI p4] [(.ref p1), (.int (8 : Int32)), (.ref p0)]))
  refine Go.st (fun _ => XS.bipush X52.here hx rfl (hb hby own_d_method_4_code_104)) ?_
  show Go p.tables e below P (T52.setTop (mkF m 106 #[lR p0, lR p1, lI p2, lI p3, lI p4] [(.int (8 : Int32)), (.ref p1), (.int (8 : Int32)), (.ref p0)]))
  refine Go.st (fun _ => XS.iloadN X52.here hx rfl (hb hby own_d_method_4_code_106) rfl) ?_
  show Go p.tables e below P (T52.setTop (mkF m 107 #[lR p0, lR p1, lI p2, lI p3, lI p4] [(.int p2), (.int (8 : Int32)), (.ref p1), (.int (8 : Int32)), (.ref p0)]))
  refine Go.st (fun _ => XS.iloadN X52.here hx rfl (hb hby own_d_method_4_code_107) rfl) ?_
  show Go p.tables e below P (T52.setTop (mkF m 108 #[lR p0, lR p1, lI p2, lI p3, lI p4] [(.int p3), (.int p2), (.int (8 : Int32)), (.ref p1), (.int (8 : Int32)), (.ref p0)]))
  refine Go.st (fun _ => XS.iload X52.here hx rfl (hb hby own_d_method_4_code_108) rfl) ?_
  show Go p.tables e below P (T52.setTop (mkF m 110 #[lR p0, lR p1, lI p2, lI p3, lI p4] [(.int p4), (.int p3), (.int p2), (.int (8 : Int32)), (.ref p1), (.int (8 : Int32)), (.ref p0)]))
  have c54 := (c47.wr W52)
  have c55 := (c48.other W52 (Or.inl (Exa.neArv hp2 hp0 (ow hw 2 rfl))))
  have c56 := (c49.other W52 (Or.inl (Exa.neArv hp2 hp0 (ow hw 2 rfl))))
  have c57 := (c50.other W52 hp8)
  obtain ⟨_, _, ⟨T53, L53, k53, n53⟩, -, X53, ⟨Lc53, hQ53, l53, y53, z53⟩, st53⟩ := Jvm.LawKit.callS X52 hx (y := (⟨"com/example/vacuum/vacuum/model/MethodOfWireNamePinLaw", "at", "(Ljava/lang/String;IICC)C"⟩ : MethodName)) hown (mvT hZ (ow hw 13 rfl)) (mvT hZ (ow hw 14 rfl)) (mvT hZ (ow hw 11 rfl)) (mvT hZ (ow hw 15 rfl)) (by decide) (backOf (W := 2) (rm_at l Z a0 hw [] w_N S_N X_N w_K S_K X_K w_V k_V S_V X_V V_V w_NS F_NS X_NS I_NS_coder w_NB k_NB F_NB V_NB w_KS F_KS X_KS I_KS_coder w_KB k_KB F_KB V_KB w_OE S_OE X_OE I_OE_value g_CS S_CS nz_CS g_SF S_SF r_SF p1 (8 : Int32) p2 p3 p4 pcs pv pk h52 n0 O52 c54 c55 c56 c57 hpc1 hle1 hs3 hs4 (by decide)) hZ (ow hw 15 rfl) (ow hw 11 rfl) (by decide) (by decide)) (g := (mkF m 110 #[.val (.ref p0), .val (.ref p1), .val (.int p2), .val (.int p3), .val (.int p4)] [(.int p4), (.int p3), (.int p2), (.int (8 : Int32)), (.ref p1), (.int (8 : Int32)), (.ref p0)])) rfl (by rw [hml]; rfl) (argsL := [(.ref p1), (.int (8 : Int32)), (.int p2), (.int p3), (.int p4)]) (rest := [(.int (8 : Int32)), (.ref p0)]) (lenOf own_pd9 rfl) rfl (by show 2 * 0 + _ ≤ _; exact Nat.le_of_eq rfl) (hb hby own_d_method_4_code_110) (fun _ _ => ⟨rfl, e52, (by decide : 0 + 0 ≤ _), (by decide : 0 + 0 ≤ _)⟩)
  dsimp only [Pt.U, Pt.locs, Pt.cells, Pt.slots] at X53 l53 y53 z53 st53 hQ53
  subst y53 z53
  refine Go.st st53 ?_
  obtain ⟨rc_58, rfl, N53q, e53, q53_0⟩ := hQ53
  have N53 : Fr n0 L53 := by rw [l53]; exact Fr.app N52 N53q
  show Go p.tables e below P (T53.setTop (mkF m 113 #[lR p0, lR p1, lI p2, lI p3, lI p4] [(.int rc_58), (.int (8 : Int32)), (.ref p0)]))
  obtain ⟨T59, h59, X59, e59, W59, V59, st59⟩ := own_stC X53 hx hZ e53 V52' (j := (8 : Int32)) (i := 8) (by decide) (by decide) (Nat.le_of_ble_eq_true rfl) (g := (mkF m 113 #[.val (.ref p0), .val (.ref p1), .val (.int p2), .val (.int p3), .val (.int p4)] [(.int rc_58), (.int (8 : Int32)), (.ref p0)])) rfl rfl (hb hby own_d_method_4_code_113)
  refine Go.st st59 ?_
  rw [own_narC q53_0] at V59
  have K59 : Keep h0 h59 [p0] := K52.wr W59 (Or.inl (List.mem_of_getElem? (i := 0) rfl))
  have O59 := O52.wr W59 hp1
  have N59 := Fr.snoc X59 N53 hp1
  have V59' : Arv Z h59 p0 ka .char (12 : Int32) [(.int rc_2), (.int rc_9), (.int rc_16), (.int rc_23), (.int rc_30), (.int rc_37), (.int rc_44), (.int rc_51), (.int rc_58), (.int (0 : Int32)), (.int (0 : Int32)), (.int (0 : Int32))] (.int (0 : Int32)) := V59
  show Go p.tables e below P (T59.setTop (mkF m 114 #[lR p0, lR p1, lI p2, lI p3, lI p4] []))
  refine Go.st (fun _ => XS.aloadN X59.here hx rfl (hb hby own_d_method_4_code_114) rfl rfl) ?_
  show Go p.tables e below P (T59.setTop (mkF m 115 #[lR p0, lR p1, lI p2, lI p3, lI p4] [(.ref p0)]))
  refine Go.st (fun _ => XS.bipush X59.here hx rfl (hb hby own_d_method_4_code_115)) ?_
  show Go p.tables e below P (T59.setTop (mkF m 117 #[lR p0, lR p1, lI p2, lI p3, lI p4] [(.int (9 : Int32)), (.ref p0)]))
  refine Go.st (fun _ => XS.aloadN X59.here hx rfl (hb hby own_d_method_4_code_117) rfl rfl) ?_
  show Go p.tables e below P (T59.setTop (mkF m 118 #[lR p0, lR p1, lI p2, lI p3, lI p4] [(.ref p1), (.int (9 : Int32)), (.ref p0)]))
  refine Go.st (fun _ => XS.bipush X59.here hx rfl (hb hby own_d_method_4_code_118)) ?_
  show Go p.tables e below P (T59.setTop (mkF m 120 #[lR p0, lR p1, lI p2, lI p3, lI p4] [(.int (9 : Int32)), (.ref p1), (.int (9 : Int32)), (.ref p0)]))
  refine Go.st (fun _ => XS.iloadN X59.here hx rfl (hb hby own_d_method_4_code_120) rfl) ?_
  show Go p.tables e below P (T59.setTop (mkF m 121 #[lR p0, lR p1, lI p2, lI p3, lI p4] [(.int p2), (.int (9 : Int32)), (.ref p1), (.int (9 : Int32)), (.ref p0)]))
  refine Go.st (fun _ => XS.iloadN X59.here hx rfl (hb hby own_d_method_4_code_121) rfl) ?_
  show Go p.tables e below P (T59.setTop (mkF m 122 #[lR p0, lR p1, lI p2, lI p3, lI p4] [(.int p3), (.int p2), (.int (9 : Int32)), (.ref p1), (.int (9 : Int32)), (.ref p0)]))
  refine Go.st (fun _ => XS.iload X59.here hx rfl (hb hby own_d_method_4_code_122) rfl) ?_
  show Go p.tables e below P (T59.setTop (mkF m 124 #[lR p0, lR p1, lI p2, lI p3, lI p4] [(.int p4), (.int p3), (.int p2), (.int (9 : Int32)), (.ref p1), (.int (9 : Int32)), (.ref p0)]))
  have c61 := (c54.wr W59)
  have c62 := (c55.other W59 (Or.inl (Exa.neArv hp2 hp0 (ow hw 2 rfl))))
  have c63 := (c56.other W59 (Or.inl (Exa.neArv hp2 hp0 (ow hw 2 rfl))))
  have c64 := (c57.other W59 hp8)
  obtain ⟨_, _, ⟨T60, L60, k60, n60⟩, -, X60, ⟨Lc60, hQ60, l60, y60, z60⟩, st60⟩ := Jvm.LawKit.callS X59 hx (y := (⟨"com/example/vacuum/vacuum/model/MethodOfWireNamePinLaw", "at", "(Ljava/lang/String;IICC)C"⟩ : MethodName)) hown (mvT hZ (ow hw 13 rfl)) (mvT hZ (ow hw 14 rfl)) (mvT hZ (ow hw 11 rfl)) (mvT hZ (ow hw 15 rfl)) (by decide) (backOf (W := 2) (rm_at l Z a0 hw [] w_N S_N X_N w_K S_K X_K w_V k_V S_V X_V V_V w_NS F_NS X_NS I_NS_coder w_NB k_NB F_NB V_NB w_KS F_KS X_KS I_KS_coder w_KB k_KB F_KB V_KB w_OE S_OE X_OE I_OE_value g_CS S_CS nz_CS g_SF S_SF r_SF p1 (9 : Int32) p2 p3 p4 pcs pv pk h59 n0 O59 c61 c62 c63 c64 hpc1 hle1 hs3 hs4 (by decide)) hZ (ow hw 15 rfl) (ow hw 11 rfl) (by decide) (by decide)) (g := (mkF m 124 #[.val (.ref p0), .val (.ref p1), .val (.int p2), .val (.int p3), .val (.int p4)] [(.int p4), (.int p3), (.int p2), (.int (9 : Int32)), (.ref p1), (.int (9 : Int32)), (.ref p0)])) rfl (by rw [hml]; rfl) (argsL := [(.ref p1), (.int (9 : Int32)), (.int p2), (.int p3), (.int p4)]) (rest := [(.int (9 : Int32)), (.ref p0)]) (lenOf own_pd9 rfl) rfl (by show 2 * 0 + _ ≤ _; exact Nat.le_of_eq rfl) (hb hby own_d_method_4_code_124) (fun _ _ => ⟨rfl, e59, (by decide : 0 + 0 ≤ _), (by decide : 0 + 0 ≤ _)⟩)
  dsimp only [Pt.U, Pt.locs, Pt.cells, Pt.slots] at X60 l60 y60 z60 st60 hQ60
  subst y60 z60
  refine Go.st st60 ?_
  obtain ⟨rc_65, rfl, N60q, e60, q60_0⟩ := hQ60
  have N60 : Fr n0 L60 := by rw [l60]; exact Fr.app N59 N60q
  show Go p.tables e below P (T60.setTop (mkF m 127 #[lR p0, lR p1, lI p2, lI p3, lI p4] [(.int rc_65), (.int (9 : Int32)), (.ref p0)]))
  obtain ⟨T66, h66, X66, e66, W66, V66, st66⟩ := own_stC X60 hx hZ e60 V59' (j := (9 : Int32)) (i := 9) (by decide) (by decide) (Nat.le_of_ble_eq_true rfl) (g := (mkF m 127 #[.val (.ref p0), .val (.ref p1), .val (.int p2), .val (.int p3), .val (.int p4)] [(.int rc_65), (.int (9 : Int32)), (.ref p0)])) rfl rfl (hb hby own_d_method_4_code_127)
  refine Go.st st66 ?_
  rw [own_narC q60_0] at V66
  have K66 : Keep h0 h66 [p0] := K59.wr W66 (Or.inl (List.mem_of_getElem? (i := 0) rfl))
  have O66 := O59.wr W66 hp1
  have N66 := Fr.snoc X66 N60 hp1
  have V66' : Arv Z h66 p0 ka .char (12 : Int32) [(.int rc_2), (.int rc_9), (.int rc_16), (.int rc_23), (.int rc_30), (.int rc_37), (.int rc_44), (.int rc_51), (.int rc_58), (.int rc_65), (.int (0 : Int32)), (.int (0 : Int32))] (.int (0 : Int32)) := V66
  show Go p.tables e below P (T66.setTop (mkF m 128 #[lR p0, lR p1, lI p2, lI p3, lI p4] []))
  refine Go.st (fun _ => XS.aloadN X66.here hx rfl (hb hby own_d_method_4_code_128) rfl rfl) ?_
  show Go p.tables e below P (T66.setTop (mkF m 129 #[lR p0, lR p1, lI p2, lI p3, lI p4] [(.ref p0)]))
  refine Go.st (fun _ => XS.bipush X66.here hx rfl (hb hby own_d_method_4_code_129)) ?_
  show Go p.tables e below P (T66.setTop (mkF m 131 #[lR p0, lR p1, lI p2, lI p3, lI p4] [(.int (10 : Int32)), (.ref p0)]))
  refine Go.st (fun _ => XS.aloadN X66.here hx rfl (hb hby own_d_method_4_code_131) rfl rfl) ?_
  show Go p.tables e below P (T66.setTop (mkF m 132 #[lR p0, lR p1, lI p2, lI p3, lI p4] [(.ref p1), (.int (10 : Int32)), (.ref p0)]))
  refine Go.st (fun _ => XS.bipush X66.here hx rfl (hb hby own_d_method_4_code_132)) ?_
  show Go p.tables e below P (T66.setTop (mkF m 134 #[lR p0, lR p1, lI p2, lI p3, lI p4] [(.int (10 : Int32)), (.ref p1), (.int (10 : Int32)), (.ref p0)]))
  refine Go.st (fun _ => XS.iloadN X66.here hx rfl (hb hby own_d_method_4_code_134) rfl) ?_
  show Go p.tables e below P (T66.setTop (mkF m 135 #[lR p0, lR p1, lI p2, lI p3, lI p4] [(.int p2), (.int (10 : Int32)), (.ref p1), (.int (10 : Int32)), (.ref p0)]))
  refine Go.st (fun _ => XS.iloadN X66.here hx rfl (hb hby own_d_method_4_code_135) rfl) ?_
  show Go p.tables e below P (T66.setTop (mkF m 136 #[lR p0, lR p1, lI p2, lI p3, lI p4] [(.int p3), (.int p2), (.int (10 : Int32)), (.ref p1), (.int (10 : Int32)), (.ref p0)]))
  refine Go.st (fun _ => XS.iload X66.here hx rfl (hb hby own_d_method_4_code_136) rfl) ?_
  show Go p.tables e below P (T66.setTop (mkF m 138 #[lR p0, lR p1, lI p2, lI p3, lI p4] [(.int p4), (.int p3), (.int p2), (.int (10 : Int32)), (.ref p1), (.int (10 : Int32)), (.ref p0)]))
  have c68 := (c61.wr W66)
  have c69 := (c62.other W66 (Or.inl (Exa.neArv hp2 hp0 (ow hw 2 rfl))))
  have c70 := (c63.other W66 (Or.inl (Exa.neArv hp2 hp0 (ow hw 2 rfl))))
  have c71 := (c64.other W66 hp8)
  obtain ⟨_, _, ⟨T67, L67, k67, n67⟩, -, X67, ⟨Lc67, hQ67, l67, y67, z67⟩, st67⟩ := Jvm.LawKit.callS X66 hx (y := (⟨"com/example/vacuum/vacuum/model/MethodOfWireNamePinLaw", "at", "(Ljava/lang/String;IICC)C"⟩ : MethodName)) hown (mvT hZ (ow hw 13 rfl)) (mvT hZ (ow hw 14 rfl)) (mvT hZ (ow hw 11 rfl)) (mvT hZ (ow hw 15 rfl)) (by decide) (backOf (W := 2) (rm_at l Z a0 hw [] w_N S_N X_N w_K S_K X_K w_V k_V S_V X_V V_V w_NS F_NS X_NS I_NS_coder w_NB k_NB F_NB V_NB w_KS F_KS X_KS I_KS_coder w_KB k_KB F_KB V_KB w_OE S_OE X_OE I_OE_value g_CS S_CS nz_CS g_SF S_SF r_SF p1 (10 : Int32) p2 p3 p4 pcs pv pk h66 n0 O66 c68 c69 c70 c71 hpc1 hle1 hs3 hs4 (by decide)) hZ (ow hw 15 rfl) (ow hw 11 rfl) (by decide) (by decide)) (g := (mkF m 138 #[.val (.ref p0), .val (.ref p1), .val (.int p2), .val (.int p3), .val (.int p4)] [(.int p4), (.int p3), (.int p2), (.int (10 : Int32)), (.ref p1), (.int (10 : Int32)), (.ref p0)])) rfl (by rw [hml]; rfl) (argsL := [(.ref p1), (.int (10 : Int32)), (.int p2), (.int p3), (.int p4)]) (rest := [(.int (10 : Int32)), (.ref p0)]) (lenOf own_pd9 rfl) rfl (by show 2 * 0 + _ ≤ _; exact Nat.le_of_eq rfl) (hb hby own_d_method_4_code_138) (fun _ _ => ⟨rfl, e66, (by decide : 0 + 0 ≤ _), (by decide : 0 + 0 ≤ _)⟩)
  dsimp only [Pt.U, Pt.locs, Pt.cells, Pt.slots] at X67 l67 y67 z67 st67 hQ67
  subst y67 z67
  refine Go.st st67 ?_
  obtain ⟨rc_72, rfl, N67q, e67, q67_0⟩ := hQ67
  have N67 : Fr n0 L67 := by rw [l67]; exact Fr.app N66 N67q
  show Go p.tables e below P (T67.setTop (mkF m 141 #[lR p0, lR p1, lI p2, lI p3, lI p4] [(.int rc_72), (.int (10 : Int32)), (.ref p0)]))
  obtain ⟨T73, h73, X73, e73, W73, V73, st73⟩ := own_stC X67 hx hZ e67 V66' (j := (10 : Int32)) (i := 10) (by decide) (by decide) (Nat.le_of_ble_eq_true rfl) (g := (mkF m 141 #[.val (.ref p0), .val (.ref p1), .val (.int p2), .val (.int p3), .val (.int p4)] [(.int rc_72), (.int (10 : Int32)), (.ref p0)])) rfl rfl (hb hby own_d_method_4_code_141)
  refine Go.st st73 ?_
  rw [own_narC q67_0] at V73
  have K73 : Keep h0 h73 [p0] := K66.wr W73 (Or.inl (List.mem_of_getElem? (i := 0) rfl))
  have O73 := O66.wr W73 hp1
  have N73 := Fr.snoc X73 N67 hp1
  have V73' : Arv Z h73 p0 ka .char (12 : Int32) [(.int rc_2), (.int rc_9), (.int rc_16), (.int rc_23), (.int rc_30), (.int rc_37), (.int rc_44), (.int rc_51), (.int rc_58), (.int rc_65), (.int rc_72), (.int (0 : Int32))] (.int (0 : Int32)) := V73
  show Go p.tables e below P (T73.setTop (mkF m 142 #[lR p0, lR p1, lI p2, lI p3, lI p4] []))
  refine Go.st (fun _ => XS.aloadN X73.here hx rfl (hb hby own_d_method_4_code_142) rfl rfl) ?_
  show Go p.tables e below P (T73.setTop (mkF m 143 #[lR p0, lR p1, lI p2, lI p3, lI p4] [(.ref p0)]))
  refine Go.st (fun _ => XS.bipush X73.here hx rfl (hb hby own_d_method_4_code_143)) ?_
  show Go p.tables e below P (T73.setTop (mkF m 145 #[lR p0, lR p1, lI p2, lI p3, lI p4] [(.int (11 : Int32)), (.ref p0)]))
  refine Go.st (fun _ => XS.aloadN X73.here hx rfl (hb hby own_d_method_4_code_145) rfl rfl) ?_
  show Go p.tables e below P (T73.setTop (mkF m 146 #[lR p0, lR p1, lI p2, lI p3, lI p4] [(.ref p1), (.int (11 : Int32)), (.ref p0)]))
  refine Go.st (fun _ => XS.bipush X73.here hx rfl (hb hby own_d_method_4_code_146)) ?_
  show Go p.tables e below P (T73.setTop (mkF m 148 #[lR p0, lR p1, lI p2, lI p3, lI p4] [(.int (11 : Int32)), (.ref p1), (.int (11 : Int32)), (.ref p0)]))
  refine Go.st (fun _ => XS.iloadN X73.here hx rfl (hb hby own_d_method_4_code_148) rfl) ?_
  show Go p.tables e below P (T73.setTop (mkF m 149 #[lR p0, lR p1, lI p2, lI p3, lI p4] [(.int p2), (.int (11 : Int32)), (.ref p1), (.int (11 : Int32)), (.ref p0)]))
  refine Go.st (fun _ => XS.iloadN X73.here hx rfl (hb hby own_d_method_4_code_149) rfl) ?_
  show Go p.tables e below P (T73.setTop (mkF m 150 #[lR p0, lR p1, lI p2, lI p3, lI p4] [(.int p3), (.int p2), (.int (11 : Int32)), (.ref p1), (.int (11 : Int32)), (.ref p0)]))
  refine Go.st (fun _ => XS.iload X73.here hx rfl (hb hby own_d_method_4_code_150) rfl) ?_
  show Go p.tables e below P (T73.setTop (mkF m 152 #[lR p0, lR p1, lI p2, lI p3, lI p4] [(.int p4), (.int p3), (.int p2), (.int (11 : Int32)), (.ref p1), (.int (11 : Int32)), (.ref p0)]))
  have c75 := (c68.wr W73)
  have c76 := (c69.other W73 (Or.inl (Exa.neArv hp2 hp0 (ow hw 2 rfl))))
  have c77 := (c70.other W73 (Or.inl (Exa.neArv hp2 hp0 (ow hw 2 rfl))))
  have c78 := (c71.other W73 hp8)
  obtain ⟨_, _, ⟨T74, L74, k74, n74⟩, -, X74, ⟨Lc74, hQ74, l74, y74, z74⟩, st74⟩ := Jvm.LawKit.callS X73 hx (y := (⟨"com/example/vacuum/vacuum/model/MethodOfWireNamePinLaw", "at", "(Ljava/lang/String;IICC)C"⟩ : MethodName)) hown (mvT hZ (ow hw 13 rfl)) (mvT hZ (ow hw 14 rfl)) (mvT hZ (ow hw 11 rfl)) (mvT hZ (ow hw 15 rfl)) (by decide) (backOf (W := 2) (rm_at l Z a0 hw [] w_N S_N X_N w_K S_K X_K w_V k_V S_V X_V V_V w_NS F_NS X_NS I_NS_coder w_NB k_NB F_NB V_NB w_KS F_KS X_KS I_KS_coder w_KB k_KB F_KB V_KB w_OE S_OE X_OE I_OE_value g_CS S_CS nz_CS g_SF S_SF r_SF p1 (11 : Int32) p2 p3 p4 pcs pv pk h73 n0 O73 c75 c76 c77 c78 hpc1 hle1 hs3 hs4 (by decide)) hZ (ow hw 15 rfl) (ow hw 11 rfl) (by decide) (by decide)) (g := (mkF m 152 #[.val (.ref p0), .val (.ref p1), .val (.int p2), .val (.int p3), .val (.int p4)] [(.int p4), (.int p3), (.int p2), (.int (11 : Int32)), (.ref p1), (.int (11 : Int32)), (.ref p0)])) rfl (by rw [hml]; rfl) (argsL := [(.ref p1), (.int (11 : Int32)), (.int p2), (.int p3), (.int p4)]) (rest := [(.int (11 : Int32)), (.ref p0)]) (lenOf own_pd9 rfl) rfl (by show 2 * 0 + _ ≤ _; exact Nat.le_of_eq rfl) (hb hby own_d_method_4_code_152) (fun _ _ => ⟨rfl, e73, (by decide : 0 + 0 ≤ _), (by decide : 0 + 0 ≤ _)⟩)
  dsimp only [Pt.U, Pt.locs, Pt.cells, Pt.slots] at X74 l74 y74 z74 st74 hQ74
  subst y74 z74
  refine Go.st st74 ?_
  obtain ⟨rc_79, rfl, N74q, e74, q74_0⟩ := hQ74
  have N74 : Fr n0 L74 := by rw [l74]; exact Fr.app N73 N74q
  show Go p.tables e below P (T74.setTop (mkF m 155 #[lR p0, lR p1, lI p2, lI p3, lI p4] [(.int rc_79), (.int (11 : Int32)), (.ref p0)]))
  obtain ⟨T80, h80, X80, e80, W80, V80, st80⟩ := own_stC X74 hx hZ e74 V73' (j := (11 : Int32)) (i := 11) (by decide) (by decide) (Nat.le_of_ble_eq_true rfl) (g := (mkF m 155 #[.val (.ref p0), .val (.ref p1), .val (.int p2), .val (.int p3), .val (.int p4)] [(.int rc_79), (.int (11 : Int32)), (.ref p0)])) rfl rfl (hb hby own_d_method_4_code_155)
  refine Go.st st80 ?_
  rw [own_narC q74_0] at V80
  have K80 : Keep h0 h80 [p0] := K73.wr W80 (Or.inl (List.mem_of_getElem? (i := 0) rfl))
  have O80 := O73.wr W80 hp1
  have N80 := Fr.snoc X80 N74 hp1
  have V80' : Arv Z h80 p0 ka .char (12 : Int32) [(.int rc_2), (.int rc_9), (.int rc_16), (.int rc_23), (.int rc_30), (.int rc_37), (.int rc_44), (.int rc_51), (.int rc_58), (.int rc_65), (.int rc_72), (.int rc_79)] (.int (0 : Int32)) := V80
  show Go p.tables e below P (T80.setTop (mkF m 156 #[lR p0, lR p1, lI p2, lI p3, lI p4] []))
  refine Go.st (fun _ => XS.aloadN X80.here hx rfl (hb hby own_d_method_4_code_156) rfl rfl) ?_
  show Go p.tables e below P (T80.setTop (mkF m 157 #[lR p0, lR p1, lI p2, lI p3, lI p4] [(.ref p0)]))
  refine Go.st (fun _ => own_len X80 hx hZ e80 V80' (g := (mkF m 157 #[.val (.ref p0), .val (.ref p1), .val (.int p2), .val (.int p3), .val (.int p4)] [(.ref p0)])) rfl rfl (hb hby own_d_method_4_code_157) _) ?_
  show Go p.tables e below P (T80.setTop (mkF m 158 #[lR p0, lR p1, lI p2, lI p3, lI p4] [(.int (12 : Int32))]))
  refine Go.st (fun _ => XS.bipush X80.here hx rfl (hb hby own_d_method_4_code_158)) ?_
  show Go p.tables e below P (T80.setTop (mkF m 160 #[lR p0, lR p1, lI p2, lI p3, lI p4] [(.int (12 : Int32)), (.int (12 : Int32))]))
  refine Go.st (fun _ => XS.icmpYes X80.here hx rfl (pc0 := 160) (pc' := 177) rfl (hb hby own_d_method_4_code_160) rfl (flt (by decide)).2.2.2 (by decide) (by decide)) ?_
  show Go p.tables e below P (T80.setTop (mkF m 177 #[lR p0, lR p1, lI p2, lI p3, lI p4] []))
  refine Go.st (fun _ => XS.aloadN X80.here hx rfl (hb hby own_d_method_4_code_177) rfl rfl) ?_
  show Go p.tables e below P (T80.setTop (mkF m 178 #[lR p0, lR p1, lI p2, lI p3, lI p4] [(.ref p0)]))
  refine Go.st (fun _ => own_len X80 hx hZ e80 V80' (g := (mkF m 178 #[.val (.ref p0), .val (.ref p1), .val (.int p2), .val (.int p3), .val (.int p4)] [(.ref p0)])) rfl rfl (hb hby own_d_method_4_code_178) _) ?_
  show Go p.tables e below P (T80.setTop (mkF m 179 #[lR p0, lR p1, lI p2, lI p3, lI p4] [(.int (12 : Int32))]))
  refine Go.st (fun _ => XS.bipush X80.here hx rfl (hb hby own_d_method_4_code_179)) ?_
  show Go p.tables e below P (T80.setTop (mkF m 181 #[lR p0, lR p1, lI p2, lI p3, lI p4] [(.int (13 : Int32)), (.int (12 : Int32))]))
  refine Go.st (fun _ => XS.icmpYes X80.here hx rfl (pc0 := 181) (pc' := 198) rfl (hb hby own_d_method_4_code_181) rfl (flt (by decide)).2.2.2 (by decide) (by decide)) ?_
  show Go p.tables e below P (T80.setTop (mkF m 198 #[lR p0, lR p1, lI p2, lI p3, lI p4] []))
  refine Go.st (fun _ => XS.aloadN X80.here hx rfl (hb hby own_d_method_4_code_198) rfl rfl) ?_
  show Go p.tables e below P (T80.setTop (mkF m 199 #[lR p0, lR p1, lI p2, lI p3, lI p4] [(.ref p0)]))
  refine Go.st (fun _ => own_len X80 hx hZ e80 V80' (g := (mkF m 199 #[.val (.ref p0), .val (.ref p1), .val (.int p2), .val (.int p3), .val (.int p4)] [(.ref p0)])) rfl rfl (hb hby own_d_method_4_code_199) _) ?_
  show Go p.tables e below P (T80.setTop (mkF m 200 #[lR p0, lR p1, lI p2, lI p3, lI p4] [(.int (12 : Int32))]))
  refine Go.st (fun _ => XS.bipush X80.here hx rfl (hb hby own_d_method_4_code_200)) ?_
  show Go p.tables e below P (T80.setTop (mkF m 202 #[lR p0, lR p1, lI p2, lI p3, lI p4] [(.int (14 : Int32)), (.int (12 : Int32))]))
  refine Go.st (fun _ => XS.icmpYes X80.here hx rfl (pc0 := 202) (pc' := 219) rfl (hb hby own_d_method_4_code_202) rfl (flt (by decide)).2.2.2 (by decide) (by decide)) ?_
  show Go p.tables e below P (T80.setTop (mkF m 219 #[lR p0, lR p1, lI p2, lI p3, lI p4] []))
  obtain ⟨fs, hr, hrun, hended, hW, hsame⟩ := X80.leave (v := none) (fun _ => rfl)
  refine ⟨_, ?_, hPend _ _ hrun hended ⟨_, _, rfl, ?_, ⟨_, rfl⟩, hW, hsame.mono (by decide) (by decide)⟩⟩
  · exact X80.returnOut hx Bd.returns (hb hby own_d_method_4_code_219) hr
  · show Q_rm_fc12 Z _ _ _ _ _ _ _ _ _ _ _ _ _ _ _ _ _ _ _ _ _ _ h0 n0 _ T80.heap _
    rw [e80]
    exact ⟨rc_2, rc_9, rc_16, rc_23, rc_30, rc_37, rc_44, rc_51, rc_58, rc_65, rc_72, rc_79, rfl, N80, K80, V80', q1_0, q4_0, q11_0, q18_0, q25_0, q32_0, q39_0, q46_0, q53_0, q60_0, q67_0, q74_0⟩
theorem own_ef_rm_fc13 (m : MethodId) (x0 : Addr) (x1 : Addr) (x2 : Int32) (x3 : Int32) (x4 : Int32) : entryFrame m #[(.ref x0), (.ref x1), (.int x2), (.int x3), (.int x4)] 5 = mkF m 0 #[.val (.ref x0), .val (.ref x1), .val (.int x2), .val (.int x3), .val (.int x4)] [] := by first | (simp [entryFrame, mkF, argsToLocals, Value.category]; done) | rfl
theorem own_d_method_4_code_163 : decode method_4_code 163 = .ok (.aload_n 0, 1) := by decide +kernel
theorem own_d_method_4_code_164 : decode method_4_code 164 = .ok (.bipush 12, 2) := by decide +kernel
theorem own_d_method_4_code_166 : decode method_4_code 166 = .ok (.aload_n 1, 1) := by decide +kernel
theorem own_d_method_4_code_167 : decode method_4_code 167 = .ok (.bipush 12, 2) := by decide +kernel
theorem own_d_method_4_code_169 : decode method_4_code 169 = .ok (.iload_n 2, 1) := by decide +kernel
theorem own_d_method_4_code_170 : decode method_4_code 170 = .ok (.iload_n 3, 1) := by decide +kernel
theorem own_d_method_4_code_171 : decode method_4_code 171 = .ok (.iload 4, 2) := by decide +kernel
theorem own_d_method_4_code_173 : decode method_4_code 173 = .ok (.invokestatic 59, 3) := by decide +kernel
theorem own_d_method_4_code_176 : decode method_4_code 176 = .ok (.castore, 1) := by decide +kernel
def Q_rm_fc13 (Z : State) (w_N : Addr) (w_K : Addr) (w_V : Addr) (k_V : ClassId) (w_NS : Addr) (w_NB : Addr) (k_NB : ClassId) (w_KS : Addr) (w_KB : Addr) (k_KB : ClassId) (w_OE : Addr) (g_CS : Int32) (g_SF : Value) (p0 : Addr) (p1 : Addr) (p2 : Int32) (p3 : Int32) (p4 : Int32) (ka : ClassId) (pcs : List Int32) (pv : Addr) (pk : ClassId) (h0 : Heap) (n0 : Nat) (v : Option Value) (h : Heap) (L : List Loc) : Prop := ∃ (c0 : Int32) (c1 : Int32) (c2 : Int32) (c3 : Int32) (c4 : Int32) (c5 : Int32) (c6 : Int32) (c7 : Int32) (c8 : Int32) (c9 : Int32) (c10 : Int32) (c11 : Int32) (c12 : Int32), v = none ∧ Fr n0 L ∧ Keep h0 h [p0] ∧ Arv Z h p0 ka .char (13 : Int32) [(.int c0), (.int c1), (.int c2), (.int c3), (.int c4), (.int c5), (.int c6), (.int c7), (.int c8), (.int c9), (.int c10), (.int c11), (.int c12)] (.int (0 : Int32)) ∧ (¬ c0 < 0 ∧ ¬ (255 : Int32) < c0) ∧ (¬ c1 < 0 ∧ ¬ (255 : Int32) < c1) ∧ (¬ c2 < 0 ∧ ¬ (255 : Int32) < c2) ∧ (¬ c3 < 0 ∧ ¬ (255 : Int32) < c3) ∧ (¬ c4 < 0 ∧ ¬ (255 : Int32) < c4) ∧ (¬ c5 < 0 ∧ ¬ (255 : Int32) < c5) ∧ (¬ c6 < 0 ∧ ¬ (255 : Int32) < c6) ∧ (¬ c7 < 0 ∧ ¬ (255 : Int32) < c7) ∧ (¬ c8 < 0 ∧ ¬ (255 : Int32) < c8) ∧ (¬ c9 < 0 ∧ ¬ (255 : Int32) < c9) ∧ (¬ c10 < 0 ∧ ¬ (255 : Int32) < c10) ∧ (¬ c11 < 0 ∧ ¬ (255 : Int32) < c11) ∧ (¬ c12 < 0 ∧ ¬ (255 : Int32) < c12)
set_option maxRecDepth 65536 in
set_option maxHeartbeats 40000000 in
theorem rm_fc13 (l : Launch) (Z : State) (a0 : Array Value) (hw : ∀ d ∈ tables_1, d.before a0 Z = true) (ws : List Jvm.Cond) (w_N : Addr) (S_N : Sta Z Z.heap "com/example/vacuum/vacuum/model/PrunePolicy$Method" "NUMBER_OF_TAGS" "Lcom/example/vacuum/vacuum/model/PrunePolicy$Method;" (.ref w_N)) (X_N : Exa Z Z.heap w_N "com/example/vacuum/vacuum/model/PrunePolicy$Method") (w_K : Addr) (S_K : Sta Z Z.heap "com/example/vacuum/vacuum/model/PrunePolicy$Method" "CREATION_DATE" "Lcom/example/vacuum/vacuum/model/PrunePolicy$Method;" (.ref w_K)) (X_K : Exa Z Z.heap w_K "com/example/vacuum/vacuum/model/PrunePolicy$Method") (w_V : Addr) (k_V : ClassId) (S_V : Sta Z Z.heap "com/example/vacuum/vacuum/model/PrunePolicy$Method" "$VALUES" "[Lcom/example/vacuum/vacuum/model/PrunePolicy$Method;" (.ref w_V)) (X_V : Exa Z Z.heap w_V "[Lcom/example/vacuum/vacuum/model/PrunePolicy$Method;") (V_V : Arv Z Z.heap w_V k_V (.object "com/example/vacuum/vacuum/model/PrunePolicy$Method") (2 : Int32) [(.ref w_N), (.ref w_K)] .null) (w_NS : Addr) (F_NS : Fld Z Z.heap w_N "com/example/vacuum/vacuum/model/PrunePolicy$Method" "wireName" "Ljava/lang/String;" (.ref w_NS)) (X_NS : Exa Z Z.heap w_NS "java/lang/String") (I_NS_coder : Fld Z Z.heap w_NS "java/lang/String" "coder" "B" (.int (0 : Int32))) (w_NB : Addr) (k_NB : ClassId) (F_NB : Fld Z Z.heap w_NS "java/lang/String" "value" "[B" (.ref w_NB)) (V_NB : Arv Z Z.heap w_NB k_NB .byte (14 : Int32) [(.int (110 : Int32)), (.int (117 : Int32)), (.int (109 : Int32)), (.int (98 : Int32)), (.int (101 : Int32)), (.int (114 : Int32)), (.int (95 : Int32)), (.int (111 : Int32)), (.int (102 : Int32)), (.int (95 : Int32)), (.int (116 : Int32)), (.int (97 : Int32)), (.int (103 : Int32)), (.int (115 : Int32))] (.int (0 : Int32))) (w_KS : Addr) (F_KS : Fld Z Z.heap w_K "com/example/vacuum/vacuum/model/PrunePolicy$Method" "wireName" "Ljava/lang/String;" (.ref w_KS)) (X_KS : Exa Z Z.heap w_KS "java/lang/String") (I_KS_coder : Fld Z Z.heap w_KS "java/lang/String" "coder" "B" (.int (0 : Int32))) (w_KB : Addr) (k_KB : ClassId) (F_KB : Fld Z Z.heap w_KS "java/lang/String" "value" "[B" (.ref w_KB)) (V_KB : Arv Z Z.heap w_KB k_KB .byte (13 : Int32) [(.int (99 : Int32)), (.int (114 : Int32)), (.int (101 : Int32)), (.int (97 : Int32)), (.int (116 : Int32)), (.int (105 : Int32)), (.int (111 : Int32)), (.int (110 : Int32)), (.int (95 : Int32)), (.int (100 : Int32)), (.int (97 : Int32)), (.int (116 : Int32)), (.int (101 : Int32))] (.int (0 : Int32))) (w_OE : Addr) (S_OE : Sta Z Z.heap "java/util/Optional" "EMPTY" "Ljava/util/Optional;" (.ref w_OE)) (X_OE : Exa Z Z.heap w_OE "java/util/Optional") (I_OE_value : Fld Z Z.heap w_OE "java/util/Optional" "value" "Ljava/lang/Object;" .null) (g_CS : Int32) (S_CS : Sta Z Z.heap "java/lang/String" "COMPACT_STRINGS" "Z" (.int g_CS)) (nz_CS : ¬ (g_CS = (0 : Int32))) (g_SF : Value) (S_SF : Sta Z Z.heap "jdk/internal/util/Preconditions" "SIOOBE_FORMATTER" "Ljava/util/function/BiFunction;" g_SF) (r_SF : g_SF.isRef = true) (p0 : Addr) (p1 : Addr) (p2 : Int32) (p3 : Int32) (p4 : Int32) (ka : ClassId) (pcs : List Int32) (pv : Addr) (pk : ClassId) (h0 : Heap) (n0 : Nat) (X00 : Old Z n0 h0) (hp0 : Arv Z h0 p0 ka .char (13 : Int32) [(.int (0 : Int32)), (.int (0 : Int32)), (.int (0 : Int32)), (.int (0 : Int32)), (.int (0 : Int32)), (.int (0 : Int32)), (.int (0 : Int32)), (.int (0 : Int32)), (.int (0 : Int32)), (.int (0 : Int32)), (.int (0 : Int32)), (.int (0 : Int32)), (.int (0 : Int32))] (.int (0 : Int32))) (hp1 : n0 ≤ p0) (hp2 : Exa Z h0 p1 "java/lang/String") (hp3 : Fld Z h0 p1 "java/lang/String" "coder" "B" (.int (0 : Int32))) (hp4 : Fld Z h0 p1 "java/lang/String" "value" "[B" (.ref pv)) (hp5 : Arv Z h0 pv pk .byte (Int32.ofNat pcs.length) ((pcs.map StrChars.lo8).map Value.int) (.int (0 : Int32))) (hpc1 : ∀ c ∈ pcs, ¬ c < 0 ∧ ¬ (255 : Int32) < c) (hle1 : pcs.length ≤ 4000) (hp8 : pv ≠ p0) (hs3 : (¬ p3 < 0 ∧ ¬ (255 : Int32) < p3)) (hs4 : (¬ p4 < 0 ∧ ¬ (255 : Int32) < p4)) :
    MetFree l (⟨"com/example/vacuum/vacuum/model/MethodOfWireNamePinLaw", "fillChars", "([CLjava/lang/String;ICC)V"⟩ : MethodName) (head1 (Jvm.Cond.code (⟨"com/example/vacuum/vacuum/model/MethodOfWireNamePinLaw", "fillChars", "([CLjava/lang/String;ICC)V"⟩ : MethodName) method_4_code 5 none :: ws) ({ frames := 5, cells := 0, slots := 0, locals := 71 } : Room)) (fun a U => a = #[(.ref p0), (.ref p1), (.int p2), (.int p3), (.int p4)] ∧ Z.Warmed39 U.vm ∧ U.heap = h0) (fun _ _ _ _ _ => True) (fun _ U o U' => ∃ v L, o = .returned v ∧ Q_rm_fc13 Z w_N w_K w_V k_V w_NS w_NB k_NB w_KS w_KB k_KB w_OE g_CS g_SF p0 p1 p2 p3 p4 ka pcs pv pk h0 n0 v U'.heap L ∧ FrameEnd U o U' L ({ frames := 5, cells := 0, slots := 0, locals := 71 } : Room).cells ({ frames := 5, cells := 0, slots := 0, locals := 71 } : Room).slots) := by
  refine MetFree.of_bodySF (plainFor_of_name own_pn4) hisR ?_
  intro p e s m args below meth c s₁ Bd hml0 hP hK
  obtain ⟨rfl, hZ, hh⟩ := hP
  have hx := Bd.exec
  have hby := Bd.bytes
  have hml : c.maxLocals = 5 := hml0
  have hown : s.vm.findClass "com/example/vacuum/vacuum/model/MethodOfWireNamePinLaw" = some m.cls := findClass_of_methodNamed Bd.named
  have hnm := (name_of_methodNamed Bd.named Bd.method).1
  have X0 : Stand p l e ({ frames := 5, cells := 0, slots := 0, locals := 71 } : Room) s m #[(.ref p0), (.ref p1), (.int p2), (.int p3), (.int p4)] below meth c s₁ [] 0 0 := Stand.of_body Bd
  have e0 : s₁.heap = h0 := by rw [← hh, Bd.state]; rfl
  have N0 := Fr.nil n0
  refine Go.start fun P hPend => ?_
  refine Go.st (fun _ k => castTop (own_ef_rm_fc13 m p0 p1 p2 p3 p4) k) ?_
  show Go p.tables e below P (s₁.setTop (mkF m 0 #[lR p0, lR p1, lI p2, lI p3, lI p4] []))
  refine Go.st (fun _ => XS.aloadN X0.here hx rfl (hb hby own_d_method_4_code_0) rfl rfl) ?_
  show Go p.tables e below P (s₁.setTop (mkF m 1 #[lR p0, lR p1, lI p2, lI p3, lI p4] [(.ref p0)]))
  refine Go.st (fun _ => XS.iconst X0.here hx rfl (hb hby own_d_method_4_code_1)) ?_
  show Go p.tables e below P (s₁.setTop (mkF m 2 #[lR p0, lR p1, lI p2, lI p3, lI p4] [(.int (0 : Int32)), (.ref p0)]))
  refine Go.st (fun _ => XS.aloadN X0.here hx rfl (hb hby own_d_method_4_code_2) rfl rfl) ?_
  show Go p.tables e below P (s₁.setTop (mkF m 3 #[lR p0, lR p1, lI p2, lI p3, lI p4] [(.ref p1), (.int (0 : Int32)), (.ref p0)]))
  refine Go.st (fun _ => XS.iconst X0.here hx rfl (hb hby own_d_method_4_code_3)) ?_
  show Go p.tables e below P (s₁.setTop (mkF m 4 #[lR p0, lR p1, lI p2, lI p3, lI p4] [(.int (0 : Int32)), (.ref p1), (.int (0 : Int32)), (.ref p0)]))
  refine Go.st (fun _ => XS.iloadN X0.here hx rfl (hb hby own_d_method_4_code_4) rfl) ?_
  show Go p.tables e below P (s₁.setTop (mkF m 5 #[lR p0, lR p1, lI p2, lI p3, lI p4] [(.int p2), (.int (0 : Int32)), (.ref p1), (.int (0 : Int32)), (.ref p0)]))
  refine Go.st (fun _ => XS.iloadN X0.here hx rfl (hb hby own_d_method_4_code_5) rfl) ?_
  show Go p.tables e below P (s₁.setTop (mkF m 6 #[lR p0, lR p1, lI p2, lI p3, lI p4] [(.int p3), (.int p2), (.int (0 : Int32)), (.ref p1), (.int (0 : Int32)), (.ref p0)]))
  refine Go.st (fun _ => XS.iload X0.here hx rfl (hb hby own_d_method_4_code_6) rfl) ?_
  show Go p.tables e below P (s₁.setTop (mkF m 8 #[lR p0, lR p1, lI p2, lI p3, lI p4] [(.int p4), (.int p3), (.int p2), (.int (0 : Int32)), (.ref p1), (.int (0 : Int32)), (.ref p0)]))
  obtain ⟨_, _, ⟨T1, L1, k1, n1⟩, -, X1, ⟨Lc1, hQ1, l1, y1, z1⟩, st1⟩ := Jvm.LawKit.callS X0 hx (y := (⟨"com/example/vacuum/vacuum/model/MethodOfWireNamePinLaw", "at", "(Ljava/lang/String;IICC)C"⟩ : MethodName)) hown (mvT hZ (ow hw 13 rfl)) (mvT hZ (ow hw 14 rfl)) (mvT hZ (ow hw 11 rfl)) (mvT hZ (ow hw 15 rfl)) (by decide) (backOf (W := 2) (rm_at l Z a0 hw [] w_N S_N X_N w_K S_K X_K w_V k_V S_V X_V V_V w_NS F_NS X_NS I_NS_coder w_NB k_NB F_NB V_NB w_KS F_KS X_KS I_KS_coder w_KB k_KB F_KB V_KB w_OE S_OE X_OE I_OE_value g_CS S_CS nz_CS g_SF S_SF r_SF p1 (0 : Int32) p2 p3 p4 pcs pv pk h0 n0 X00 hp2 hp3 hp4 hp5 hpc1 hle1 hs3 hs4 (by decide)) hZ (ow hw 15 rfl) (ow hw 11 rfl) (by decide) (by decide)) (g := (mkF m 8 #[.val (.ref p0), .val (.ref p1), .val (.int p2), .val (.int p3), .val (.int p4)] [(.int p4), (.int p3), (.int p2), (.int (0 : Int32)), (.ref p1), (.int (0 : Int32)), (.ref p0)])) rfl (by rw [hml]; rfl) (argsL := [(.ref p1), (.int (0 : Int32)), (.int p2), (.int p3), (.int p4)]) (rest := [(.int (0 : Int32)), (.ref p0)]) (lenOf own_pd9 rfl) rfl (by show 2 * 0 + _ ≤ _; exact Nat.le_of_eq rfl) (hb hby own_d_method_4_code_8) (fun _ _ => ⟨rfl, e0, (by decide : 0 + 0 ≤ _), (by decide : 0 + 0 ≤ _)⟩)
  dsimp only [Pt.U, Pt.locs, Pt.cells, Pt.slots] at X1 l1 y1 z1 st1 hQ1
  subst y1 z1
  refine Go.st st1 ?_
  obtain ⟨rc_2, rfl, N1q, e1, q1_0⟩ := hQ1
  have N1 : Fr n0 L1 := by rw [l1]; exact Fr.app N0 N1q
  show Go p.tables e below P (T1.setTop (mkF m 11 #[lR p0, lR p1, lI p2, lI p3, lI p4] [(.int rc_2), (.int (0 : Int32)), (.ref p0)]))
  obtain ⟨T3, h3, X3, e3, W3, V3, st3⟩ := own_stC X1 hx hZ e1 hp0 (j := (0 : Int32)) (i := 0) (by decide) (by decide) (Nat.le_of_ble_eq_true rfl) (g := (mkF m 11 #[.val (.ref p0), .val (.ref p1), .val (.int p2), .val (.int p3), .val (.int p4)] [(.int rc_2), (.int (0 : Int32)), (.ref p0)])) rfl rfl (hb hby own_d_method_4_code_11)
  refine Go.st st3 ?_
  rw [own_narC q1_0] at V3
  have K3 : Keep h0 h3 [p0] := (Keep.refl h0 [p0]).wr W3 (Or.inl (List.mem_of_getElem? (i := 0) rfl))
  have O3 := X00.wr W3 hp1
  have N3 := Fr.snoc X3 N1 hp1
  have V3' : Arv Z h3 p0 ka .char (13 : Int32) [(.int rc_2), (.int (0 : Int32)), (.int (0 : Int32)), (.int (0 : Int32)), (.int (0 : Int32)), (.int (0 : Int32)), (.int (0 : Int32)), (.int (0 : Int32)), (.int (0 : Int32)), (.int (0 : Int32)), (.int (0 : Int32)), (.int (0 : Int32)), (.int (0 : Int32))] (.int (0 : Int32)) := V3
  show Go p.tables e below P (T3.setTop (mkF m 12 #[lR p0, lR p1, lI p2, lI p3, lI p4] []))
  refine Go.st (fun _ => XS.aloadN X3.here hx rfl (hb hby own_d_method_4_code_12) rfl rfl) ?_
  show Go p.tables e below P (T3.setTop (mkF m 13 #[lR p0, lR p1, lI p2, lI p3, lI p4] [(.ref p0)]))
  refine Go.st (fun _ => XS.iconst X3.here hx rfl (hb hby own_d_method_4_code_13)) ?_
  show Go p.tables e below P (T3.setTop (mkF m 14 #[lR p0, lR p1, lI p2, lI p3, lI p4] [(.int (1 : Int32)), (.ref p0)]))
  refine Go.st (fun _ => XS.aloadN X3.here hx rfl (hb hby own_d_method_4_code_14) rfl rfl) ?_
  show Go p.tables e below P (T3.setTop (mkF m 15 #[lR p0, lR p1, lI p2, lI p3, lI p4] [(.ref p1), (.int (1 : Int32)), (.ref p0)]))
  refine Go.st (fun _ => XS.iconst X3.here hx rfl (hb hby own_d_method_4_code_15)) ?_
  show Go p.tables e below P (T3.setTop (mkF m 16 #[lR p0, lR p1, lI p2, lI p3, lI p4] [(.int (1 : Int32)), (.ref p1), (.int (1 : Int32)), (.ref p0)]))
  refine Go.st (fun _ => XS.iloadN X3.here hx rfl (hb hby own_d_method_4_code_16) rfl) ?_
  show Go p.tables e below P (T3.setTop (mkF m 17 #[lR p0, lR p1, lI p2, lI p3, lI p4] [(.int p2), (.int (1 : Int32)), (.ref p1), (.int (1 : Int32)), (.ref p0)]))
  refine Go.st (fun _ => XS.iloadN X3.here hx rfl (hb hby own_d_method_4_code_17) rfl) ?_
  show Go p.tables e below P (T3.setTop (mkF m 18 #[lR p0, lR p1, lI p2, lI p3, lI p4] [(.int p3), (.int p2), (.int (1 : Int32)), (.ref p1), (.int (1 : Int32)), (.ref p0)]))
  refine Go.st (fun _ => XS.iload X3.here hx rfl (hb hby own_d_method_4_code_18) rfl) ?_
  show Go p.tables e below P (T3.setTop (mkF m 20 #[lR p0, lR p1, lI p2, lI p3, lI p4] [(.int p4), (.int p3), (.int p2), (.int (1 : Int32)), (.ref p1), (.int (1 : Int32)), (.ref p0)]))
  have c5 := (hp2.wr W3)
  have c6 := (hp3.other W3 (Or.inl (Exa.neArv hp2 hp0 (ow hw 2 rfl))))
  have c7 := (hp4.other W3 (Or.inl (Exa.neArv hp2 hp0 (ow hw 2 rfl))))
  have c8 := (hp5.other W3 hp8)
  obtain ⟨_, _, ⟨T4, L4, k4, n4⟩, -, X4, ⟨Lc4, hQ4, l4, y4, z4⟩, st4⟩ := Jvm.LawKit.callS X3 hx (y := (⟨"com/example/vacuum/vacuum/model/MethodOfWireNamePinLaw", "at", "(Ljava/lang/String;IICC)C"⟩ : MethodName)) hown (mvT hZ (ow hw 13 rfl)) (mvT hZ (ow hw 14 rfl)) (mvT hZ (ow hw 11 rfl)) (mvT hZ (ow hw 15 rfl)) (by decide) (backOf (W := 2) (rm_at l Z a0 hw [] w_N S_N X_N w_K S_K X_K w_V k_V S_V X_V V_V w_NS F_NS X_NS I_NS_coder w_NB k_NB F_NB V_NB w_KS F_KS X_KS I_KS_coder w_KB k_KB F_KB V_KB w_OE S_OE X_OE I_OE_value g_CS S_CS nz_CS g_SF S_SF r_SF p1 (1 : Int32) p2 p3 p4 pcs pv pk h3 n0 O3 c5 c6 c7 c8 hpc1 hle1 hs3 hs4 (by decide)) hZ (ow hw 15 rfl) (ow hw 11 rfl) (by decide) (by decide)) (g := (mkF m 20 #[.val (.ref p0), .val (.ref p1), .val (.int p2), .val (.int p3), .val (.int p4)] [(.int p4), (.int p3), (.int p2), (.int (1 : Int32)), (.ref p1), (.int (1 : Int32)), (.ref p0)])) rfl (by rw [hml]; rfl) (argsL := [(.ref p1), (.int (1 : Int32)), (.int p2), (.int p3), (.int p4)]) (rest := [(.int (1 : Int32)), (.ref p0)]) (lenOf own_pd9 rfl) rfl (by show 2 * 0 + _ ≤ _; exact Nat.le_of_eq rfl) (hb hby own_d_method_4_code_20) (fun _ _ => ⟨rfl, e3, (by decide : 0 + 0 ≤ _), (by decide : 0 + 0 ≤ _)⟩)
  dsimp only [Pt.U, Pt.locs, Pt.cells, Pt.slots] at X4 l4 y4 z4 st4 hQ4
  subst y4 z4
  refine Go.st st4 ?_
  obtain ⟨rc_9, rfl, N4q, e4, q4_0⟩ := hQ4
  have N4 : Fr n0 L4 := by rw [l4]; exact Fr.app N3 N4q
  show Go p.tables e below P (T4.setTop (mkF m 23 #[lR p0, lR p1, lI p2, lI p3, lI p4] [(.int rc_9), (.int (1 : Int32)), (.ref p0)]))
  obtain ⟨T10, h10, X10, e10, W10, V10, st10⟩ := own_stC X4 hx hZ e4 V3' (j := (1 : Int32)) (i := 1) (by decide) (by decide) (Nat.le_of_ble_eq_true rfl) (g := (mkF m 23 #[.val (.ref p0), .val (.ref p1), .val (.int p2), .val (.int p3), .val (.int p4)] [(.int rc_9), (.int (1 : Int32)), (.ref p0)])) rfl rfl (hb hby own_d_method_4_code_23)
  refine Go.st st10 ?_
  rw [own_narC q4_0] at V10
  have K10 : Keep h0 h10 [p0] := K3.wr W10 (Or.inl (List.mem_of_getElem? (i := 0) rfl))
  have O10 := O3.wr W10 hp1
  have N10 := Fr.snoc X10 N4 hp1
  have V10' : Arv Z h10 p0 ka .char (13 : Int32) [(.int rc_2), (.int rc_9), (.int (0 : Int32)), (.int (0 : Int32)), (.int (0 : Int32)), (.int (0 : Int32)), (.int (0 : Int32)), (.int (0 : Int32)), (.int (0 : Int32)), (.int (0 : Int32)), (.int (0 : Int32)), (.int (0 : Int32)), (.int (0 : Int32))] (.int (0 : Int32)) := V10
  show Go p.tables e below P (T10.setTop (mkF m 24 #[lR p0, lR p1, lI p2, lI p3, lI p4] []))
  refine Go.st (fun _ => XS.aloadN X10.here hx rfl (hb hby own_d_method_4_code_24) rfl rfl) ?_
  show Go p.tables e below P (T10.setTop (mkF m 25 #[lR p0, lR p1, lI p2, lI p3, lI p4] [(.ref p0)]))
  refine Go.st (fun _ => XS.iconst X10.here hx rfl (hb hby own_d_method_4_code_25)) ?_
  show Go p.tables e below P (T10.setTop (mkF m 26 #[lR p0, lR p1, lI p2, lI p3, lI p4] [(.int (2 : Int32)), (.ref p0)]))
  refine Go.st (fun _ => XS.aloadN X10.here hx rfl (hb hby own_d_method_4_code_26) rfl rfl) ?_
  show Go p.tables e below P (T10.setTop (mkF m 27 #[lR p0, lR p1, lI p2, lI p3, lI p4] [(.ref p1), (.int (2 : Int32)), (.ref p0)]))
  refine Go.st (fun _ => XS.iconst X10.here hx rfl (hb hby own_d_method_4_code_27)) ?_
  show Go p.tables e below P (T10.setTop (mkF m 28 #[lR p0, lR p1, lI p2, lI p3, lI p4] [(.int (2 : Int32)), (.ref p1), (.int (2 : Int32)), (.ref p0)]))
  refine Go.st (fun _ => XS.iloadN X10.here hx rfl (hb hby own_d_method_4_code_28) rfl) ?_
  show Go p.tables e below P (T10.setTop (mkF m 29 #[lR p0, lR p1, lI p2, lI p3, lI p4] [(.int p2), (.int (2 : Int32)), (.ref p1), (.int (2 : Int32)), (.ref p0)]))
  refine Go.st (fun _ => XS.iloadN X10.here hx rfl (hb hby own_d_method_4_code_29) rfl) ?_
  show Go p.tables e below P (T10.setTop (mkF m 30 #[lR p0, lR p1, lI p2, lI p3, lI p4] [(.int p3), (.int p2), (.int (2 : Int32)), (.ref p1), (.int (2 : Int32)), (.ref p0)]))
  refine Go.st (fun _ => XS.iload X10.here hx rfl (hb hby own_d_method_4_code_30) rfl) ?_
  show Go p.tables e below P (T10.setTop (mkF m 32 #[lR p0, lR p1, lI p2, lI p3, lI p4] [(.int p4), (.int p3), (.int p2), (.int (2 : Int32)), (.ref p1), (.int (2 : Int32)), (.ref p0)]))
  have c12 := (c5.wr W10)
  have c13 := (c6.other W10 (Or.inl (Exa.neArv hp2 hp0 (ow hw 2 rfl))))
  have c14 := (c7.other W10 (Or.inl (Exa.neArv hp2 hp0 (ow hw 2 rfl))))
  have c15 := (c8.other W10 hp8)
  obtain ⟨_, _, ⟨T11, L11, k11, n11⟩, -, X11, ⟨Lc11, hQ11, l11, y11, z11⟩, st11⟩ := Jvm.LawKit.callS X10 hx (y := (⟨"com/example/vacuum/vacuum/model/MethodOfWireNamePinLaw", "at", "(Ljava/lang/String;IICC)C"⟩ : MethodName)) hown (mvT hZ (ow hw 13 rfl)) (mvT hZ (ow hw 14 rfl)) (mvT hZ (ow hw 11 rfl)) (mvT hZ (ow hw 15 rfl)) (by decide) (backOf (W := 2) (rm_at l Z a0 hw [] w_N S_N X_N w_K S_K X_K w_V k_V S_V X_V V_V w_NS F_NS X_NS I_NS_coder w_NB k_NB F_NB V_NB w_KS F_KS X_KS I_KS_coder w_KB k_KB F_KB V_KB w_OE S_OE X_OE I_OE_value g_CS S_CS nz_CS g_SF S_SF r_SF p1 (2 : Int32) p2 p3 p4 pcs pv pk h10 n0 O10 c12 c13 c14 c15 hpc1 hle1 hs3 hs4 (by decide)) hZ (ow hw 15 rfl) (ow hw 11 rfl) (by decide) (by decide)) (g := (mkF m 32 #[.val (.ref p0), .val (.ref p1), .val (.int p2), .val (.int p3), .val (.int p4)] [(.int p4), (.int p3), (.int p2), (.int (2 : Int32)), (.ref p1), (.int (2 : Int32)), (.ref p0)])) rfl (by rw [hml]; rfl) (argsL := [(.ref p1), (.int (2 : Int32)), (.int p2), (.int p3), (.int p4)]) (rest := [(.int (2 : Int32)), (.ref p0)]) (lenOf own_pd9 rfl) rfl (by show 2 * 0 + _ ≤ _; exact Nat.le_of_eq rfl) (hb hby own_d_method_4_code_32) (fun _ _ => ⟨rfl, e10, (by decide : 0 + 0 ≤ _), (by decide : 0 + 0 ≤ _)⟩)
  dsimp only [Pt.U, Pt.locs, Pt.cells, Pt.slots] at X11 l11 y11 z11 st11 hQ11
  subst y11 z11
  refine Go.st st11 ?_
  obtain ⟨rc_16, rfl, N11q, e11, q11_0⟩ := hQ11
  have N11 : Fr n0 L11 := by rw [l11]; exact Fr.app N10 N11q
  show Go p.tables e below P (T11.setTop (mkF m 35 #[lR p0, lR p1, lI p2, lI p3, lI p4] [(.int rc_16), (.int (2 : Int32)), (.ref p0)]))
  obtain ⟨T17, h17, X17, e17, W17, V17, st17⟩ := own_stC X11 hx hZ e11 V10' (j := (2 : Int32)) (i := 2) (by decide) (by decide) (Nat.le_of_ble_eq_true rfl) (g := (mkF m 35 #[.val (.ref p0), .val (.ref p1), .val (.int p2), .val (.int p3), .val (.int p4)] [(.int rc_16), (.int (2 : Int32)), (.ref p0)])) rfl rfl (hb hby own_d_method_4_code_35)
  refine Go.st st17 ?_
  rw [own_narC q11_0] at V17
  have K17 : Keep h0 h17 [p0] := K10.wr W17 (Or.inl (List.mem_of_getElem? (i := 0) rfl))
  have O17 := O10.wr W17 hp1
  have N17 := Fr.snoc X17 N11 hp1
  have V17' : Arv Z h17 p0 ka .char (13 : Int32) [(.int rc_2), (.int rc_9), (.int rc_16), (.int (0 : Int32)), (.int (0 : Int32)), (.int (0 : Int32)), (.int (0 : Int32)), (.int (0 : Int32)), (.int (0 : Int32)), (.int (0 : Int32)), (.int (0 : Int32)), (.int (0 : Int32)), (.int (0 : Int32))] (.int (0 : Int32)) := V17
  show Go p.tables e below P (T17.setTop (mkF m 36 #[lR p0, lR p1, lI p2, lI p3, lI p4] []))
  refine Go.st (fun _ => XS.aloadN X17.here hx rfl (hb hby own_d_method_4_code_36) rfl rfl) ?_
  show Go p.tables e below P (T17.setTop (mkF m 37 #[lR p0, lR p1, lI p2, lI p3, lI p4] [(.ref p0)]))
  refine Go.st (fun _ => XS.iconst X17.here hx rfl (hb hby own_d_method_4_code_37)) ?_
  show Go p.tables e below P (T17.setTop (mkF m 38 #[lR p0, lR p1, lI p2, lI p3, lI p4] [(.int (3 : Int32)), (.ref p0)]))
  refine Go.st (fun _ => XS.aloadN X17.here hx rfl (hb hby own_d_method_4_code_38) rfl rfl) ?_
  show Go p.tables e below P (T17.setTop (mkF m 39 #[lR p0, lR p1, lI p2, lI p3, lI p4] [(.ref p1), (.int (3 : Int32)), (.ref p0)]))
  refine Go.st (fun _ => XS.iconst X17.here hx rfl (hb hby own_d_method_4_code_39)) ?_
  show Go p.tables e below P (T17.setTop (mkF m 40 #[lR p0, lR p1, lI p2, lI p3, lI p4] [(.int (3 : Int32)), (.ref p1), (.int (3 : Int32)), (.ref p0)]))
  refine Go.st (fun _ => XS.iloadN X17.here hx rfl (hb hby own_d_method_4_code_40) rfl) ?_
  show Go p.tables e below P (T17.setTop (mkF m 41 #[lR p0, lR p1, lI p2, lI p3, lI p4] [(.int p2), (.int (3 : Int32)), (.ref p1), (.int (3 : Int32)), (.ref p0)]))
  refine Go.st (fun _ => XS.iloadN X17.here hx rfl (hb hby own_d_method_4_code_41) rfl) ?_
  show Go p.tables e below P (T17.setTop (mkF m 42 #[lR p0, lR p1, lI p2, lI p3, lI p4] [(.int p3), (.int p2), (.int (3 : Int32)), (.ref p1), (.int (3 : Int32)), (.ref p0)]))
  refine Go.st (fun _ => XS.iload X17.here hx rfl (hb hby own_d_method_4_code_42) rfl) ?_
  show Go p.tables e below P (T17.setTop (mkF m 44 #[lR p0, lR p1, lI p2, lI p3, lI p4] [(.int p4), (.int p3), (.int p2), (.int (3 : Int32)), (.ref p1), (.int (3 : Int32)), (.ref p0)]))
  have c19 := (c12.wr W17)
  have c20 := (c13.other W17 (Or.inl (Exa.neArv hp2 hp0 (ow hw 2 rfl))))
  have c21 := (c14.other W17 (Or.inl (Exa.neArv hp2 hp0 (ow hw 2 rfl))))
  have c22 := (c15.other W17 hp8)
  obtain ⟨_, _, ⟨T18, L18, k18, n18⟩, -, X18, ⟨Lc18, hQ18, l18, y18, z18⟩, st18⟩ := Jvm.LawKit.callS X17 hx (y := (⟨"com/example/vacuum/vacuum/model/MethodOfWireNamePinLaw", "at", "(Ljava/lang/String;IICC)C"⟩ : MethodName)) hown (mvT hZ (ow hw 13 rfl)) (mvT hZ (ow hw 14 rfl)) (mvT hZ (ow hw 11 rfl)) (mvT hZ (ow hw 15 rfl)) (by decide) (backOf (W := 2) (rm_at l Z a0 hw [] w_N S_N X_N w_K S_K X_K w_V k_V S_V X_V V_V w_NS F_NS X_NS I_NS_coder w_NB k_NB F_NB V_NB w_KS F_KS X_KS I_KS_coder w_KB k_KB F_KB V_KB w_OE S_OE X_OE I_OE_value g_CS S_CS nz_CS g_SF S_SF r_SF p1 (3 : Int32) p2 p3 p4 pcs pv pk h17 n0 O17 c19 c20 c21 c22 hpc1 hle1 hs3 hs4 (by decide)) hZ (ow hw 15 rfl) (ow hw 11 rfl) (by decide) (by decide)) (g := (mkF m 44 #[.val (.ref p0), .val (.ref p1), .val (.int p2), .val (.int p3), .val (.int p4)] [(.int p4), (.int p3), (.int p2), (.int (3 : Int32)), (.ref p1), (.int (3 : Int32)), (.ref p0)])) rfl (by rw [hml]; rfl) (argsL := [(.ref p1), (.int (3 : Int32)), (.int p2), (.int p3), (.int p4)]) (rest := [(.int (3 : Int32)), (.ref p0)]) (lenOf own_pd9 rfl) rfl (by show 2 * 0 + _ ≤ _; exact Nat.le_of_eq rfl) (hb hby own_d_method_4_code_44) (fun _ _ => ⟨rfl, e17, (by decide : 0 + 0 ≤ _), (by decide : 0 + 0 ≤ _)⟩)
  dsimp only [Pt.U, Pt.locs, Pt.cells, Pt.slots] at X18 l18 y18 z18 st18 hQ18
  subst y18 z18
  refine Go.st st18 ?_
  obtain ⟨rc_23, rfl, N18q, e18, q18_0⟩ := hQ18
  have N18 : Fr n0 L18 := by rw [l18]; exact Fr.app N17 N18q
  show Go p.tables e below P (T18.setTop (mkF m 47 #[lR p0, lR p1, lI p2, lI p3, lI p4] [(.int rc_23), (.int (3 : Int32)), (.ref p0)]))
  obtain ⟨T24, h24, X24, e24, W24, V24, st24⟩ := own_stC X18 hx hZ e18 V17' (j := (3 : Int32)) (i := 3) (by decide) (by decide) (Nat.le_of_ble_eq_true rfl) (g := (mkF m 47 #[.val (.ref p0), .val (.ref p1), .val (.int p2), .val (.int p3), .val (.int p4)] [(.int rc_23), (.int (3 : Int32)), (.ref p0)])) rfl rfl (hb hby own_d_method_4_code_47)
  refine Go.st st24 ?_
  rw [own_narC q18_0] at V24
  have K24 : Keep h0 h24 [p0] := K17.wr W24 (Or.inl (List.mem_of_getElem? (i := 0) rfl))
  have O24 := O17.wr W24 hp1
  have N24 := Fr.snoc X24 N18 hp1
  have V24' : Arv Z h24 p0 ka .char (13 : Int32) [(.int rc_2), (.int rc_9), (.int rc_16), (.int rc_23), (.int (0 : Int32)), (.int (0 : Int32)), (.int (0 : Int32)), (.int (0 : Int32)), (.int (0 : Int32)), (.int (0 : Int32)), (.int (0 : Int32)), (.int (0 : Int32)), (.int (0 : Int32))] (.int (0 : Int32)) := V24
  show Go p.tables e below P (T24.setTop (mkF m 48 #[lR p0, lR p1, lI p2, lI p3, lI p4] []))
  refine Go.st (fun _ => XS.aloadN X24.here hx rfl (hb hby own_d_method_4_code_48) rfl rfl) ?_
  show Go p.tables e below P (T24.setTop (mkF m 49 #[lR p0, lR p1, lI p2, lI p3, lI p4] [(.ref p0)]))
  refine Go.st (fun _ => XS.iconst X24.here hx rfl (hb hby own_d_method_4_code_49)) ?_
  show Go p.tables e below P (T24.setTop (mkF m 50 #[lR p0, lR p1, lI p2, lI p3, lI p4] [(.int (4 : Int32)), (.ref p0)]))
  refine Go.st (fun _ => XS.aloadN X24.here hx rfl (hb hby own_d_method_4_code_50) rfl rfl) ?_
  show Go p.tables e below P (T24.setTop (mkF m 51 #[lR p0, lR p1, lI p2, lI p3, lI p4] [(.ref p1), (.int (4 : Int32)), (.ref p0)]))
  refine Go.st (fun _ => XS.iconst X24.here hx rfl (hb hby own_d_method_4_code_51)) ?_
  show Go p.tables e below P (T24.setTop (mkF m 52 #[lR p0, lR p1, lI p2, lI p3, lI p4] [(.int (4 : Int32)), (.ref p1), (.int (4 : Int32)), (.ref p0)]))
  refine Go.st (fun _ => XS.iloadN X24.here hx rfl (hb hby own_d_method_4_code_52) rfl) ?_
  show Go p.tables e below P (T24.setTop (mkF m 53 #[lR p0, lR p1, lI p2, lI p3, lI p4] [(.int p2), (.int (4 : Int32)), (.ref p1), (.int (4 : Int32)), (.ref p0)]))
  refine Go.st (fun _ => XS.iloadN X24.here hx rfl (hb hby own_d_method_4_code_53) rfl) ?_
  show Go p.tables e below P (T24.setTop (mkF m 54 #[lR p0, lR p1, lI p2, lI p3, lI p4] [(.int p3), (.int p2), (.int (4 : Int32)), (.ref p1), (.int (4 : Int32)), (.ref p0)]))
  refine Go.st (fun _ => XS.iload X24.here hx rfl (hb hby own_d_method_4_code_54) rfl) ?_
  show Go p.tables e below P (T24.setTop (mkF m 56 #[lR p0, lR p1, lI p2, lI p3, lI p4] [(.int p4), (.int p3), (.int p2), (.int (4 : Int32)), (.ref p1), (.int (4 : Int32)), (.ref p0)]))
  have c26 := (c19.wr W24)
  have c27 := (c20.other W24 (Or.inl (Exa.neArv hp2 hp0 (ow hw 2 rfl))))
  have c28 := (c21.other W24 (Or.inl (Exa.neArv hp2 hp0 (ow hw 2 rfl))))
  have c29 := (c22.other W24 hp8)
  obtain ⟨_, _, ⟨T25, L25, k25, n25⟩, -, X25, ⟨Lc25, hQ25, l25, y25, z25⟩, st25⟩ := Jvm.LawKit.callS X24 hx (y := (⟨"com/example/vacuum/vacuum/model/MethodOfWireNamePinLaw", "at", "(Ljava/lang/String;IICC)C"⟩ : MethodName)) hown (mvT hZ (ow hw 13 rfl)) (mvT hZ (ow hw 14 rfl)) (mvT hZ (ow hw 11 rfl)) (mvT hZ (ow hw 15 rfl)) (by decide) (backOf (W := 2) (rm_at l Z a0 hw [] w_N S_N X_N w_K S_K X_K w_V k_V S_V X_V V_V w_NS F_NS X_NS I_NS_coder w_NB k_NB F_NB V_NB w_KS F_KS X_KS I_KS_coder w_KB k_KB F_KB V_KB w_OE S_OE X_OE I_OE_value g_CS S_CS nz_CS g_SF S_SF r_SF p1 (4 : Int32) p2 p3 p4 pcs pv pk h24 n0 O24 c26 c27 c28 c29 hpc1 hle1 hs3 hs4 (by decide)) hZ (ow hw 15 rfl) (ow hw 11 rfl) (by decide) (by decide)) (g := (mkF m 56 #[.val (.ref p0), .val (.ref p1), .val (.int p2), .val (.int p3), .val (.int p4)] [(.int p4), (.int p3), (.int p2), (.int (4 : Int32)), (.ref p1), (.int (4 : Int32)), (.ref p0)])) rfl (by rw [hml]; rfl) (argsL := [(.ref p1), (.int (4 : Int32)), (.int p2), (.int p3), (.int p4)]) (rest := [(.int (4 : Int32)), (.ref p0)]) (lenOf own_pd9 rfl) rfl (by show 2 * 0 + _ ≤ _; exact Nat.le_of_eq rfl) (hb hby own_d_method_4_code_56) (fun _ _ => ⟨rfl, e24, (by decide : 0 + 0 ≤ _), (by decide : 0 + 0 ≤ _)⟩)
  dsimp only [Pt.U, Pt.locs, Pt.cells, Pt.slots] at X25 l25 y25 z25 st25 hQ25
  subst y25 z25
  refine Go.st st25 ?_
  obtain ⟨rc_30, rfl, N25q, e25, q25_0⟩ := hQ25
  have N25 : Fr n0 L25 := by rw [l25]; exact Fr.app N24 N25q
  show Go p.tables e below P (T25.setTop (mkF m 59 #[lR p0, lR p1, lI p2, lI p3, lI p4] [(.int rc_30), (.int (4 : Int32)), (.ref p0)]))
  obtain ⟨T31, h31, X31, e31, W31, V31, st31⟩ := own_stC X25 hx hZ e25 V24' (j := (4 : Int32)) (i := 4) (by decide) (by decide) (Nat.le_of_ble_eq_true rfl) (g := (mkF m 59 #[.val (.ref p0), .val (.ref p1), .val (.int p2), .val (.int p3), .val (.int p4)] [(.int rc_30), (.int (4 : Int32)), (.ref p0)])) rfl rfl (hb hby own_d_method_4_code_59)
  refine Go.st st31 ?_
  rw [own_narC q25_0] at V31
  have K31 : Keep h0 h31 [p0] := K24.wr W31 (Or.inl (List.mem_of_getElem? (i := 0) rfl))
  have O31 := O24.wr W31 hp1
  have N31 := Fr.snoc X31 N25 hp1
  have V31' : Arv Z h31 p0 ka .char (13 : Int32) [(.int rc_2), (.int rc_9), (.int rc_16), (.int rc_23), (.int rc_30), (.int (0 : Int32)), (.int (0 : Int32)), (.int (0 : Int32)), (.int (0 : Int32)), (.int (0 : Int32)), (.int (0 : Int32)), (.int (0 : Int32)), (.int (0 : Int32))] (.int (0 : Int32)) := V31
  show Go p.tables e below P (T31.setTop (mkF m 60 #[lR p0, lR p1, lI p2, lI p3, lI p4] []))
  refine Go.st (fun _ => XS.aloadN X31.here hx rfl (hb hby own_d_method_4_code_60) rfl rfl) ?_
  show Go p.tables e below P (T31.setTop (mkF m 61 #[lR p0, lR p1, lI p2, lI p3, lI p4] [(.ref p0)]))
  refine Go.st (fun _ => XS.iconst X31.here hx rfl (hb hby own_d_method_4_code_61)) ?_
  show Go p.tables e below P (T31.setTop (mkF m 62 #[lR p0, lR p1, lI p2, lI p3, lI p4] [(.int (5 : Int32)), (.ref p0)]))
  refine Go.st (fun _ => XS.aloadN X31.here hx rfl (hb hby own_d_method_4_code_62) rfl rfl) ?_
  show Go p.tables e below P (T31.setTop (mkF m 63 #[lR p0, lR p1, lI p2, lI p3, lI p4] [(.ref p1), (.int (5 : Int32)), (.ref p0)]))
  refine Go.st (fun _ => XS.iconst X31.here hx rfl (hb hby own_d_method_4_code_63)) ?_
  show Go p.tables e below P (T31.setTop (mkF m 64 #[lR p0, lR p1, lI p2, lI p3, lI p4] [(.int (5 : Int32)), (.ref p1), (.int (5 : Int32)), (.ref p0)]))
  refine Go.st (fun _ => XS.iloadN X31.here hx rfl (hb hby own_d_method_4_code_64) rfl) ?_
  show Go p.tables e below P (T31.setTop (mkF m 65 #[lR p0, lR p1, lI p2, lI p3, lI p4] [(.int p2), (.int (5 : Int32)), (.ref p1), (.int (5 : Int32)), (.ref p0)]))
  refine Go.st (fun _ => XS.iloadN X31.here hx rfl (hb hby own_d_method_4_code_65) rfl) ?_
  show Go p.tables e below P (T31.setTop (mkF m 66 #[lR p0, lR p1, lI p2, lI p3, lI p4] [(.int p3), (.int p2), (.int (5 : Int32)), (.ref p1), (.int (5 : Int32)), (.ref p0)]))
  refine Go.st (fun _ => XS.iload X31.here hx rfl (hb hby own_d_method_4_code_66) rfl) ?_
  show Go p.tables e below P (T31.setTop (mkF m 68 #[lR p0, lR p1, lI p2, lI p3, lI p4] [(.int p4), (.int p3), (.int p2), (.int (5 : Int32)), (.ref p1), (.int (5 : Int32)), (.ref p0)]))
  have c33 := (c26.wr W31)
  have c34 := (c27.other W31 (Or.inl (Exa.neArv hp2 hp0 (ow hw 2 rfl))))
  have c35 := (c28.other W31 (Or.inl (Exa.neArv hp2 hp0 (ow hw 2 rfl))))
  have c36 := (c29.other W31 hp8)
  obtain ⟨_, _, ⟨T32, L32, k32, n32⟩, -, X32, ⟨Lc32, hQ32, l32, y32, z32⟩, st32⟩ := Jvm.LawKit.callS X31 hx (y := (⟨"com/example/vacuum/vacuum/model/MethodOfWireNamePinLaw", "at", "(Ljava/lang/String;IICC)C"⟩ : MethodName)) hown (mvT hZ (ow hw 13 rfl)) (mvT hZ (ow hw 14 rfl)) (mvT hZ (ow hw 11 rfl)) (mvT hZ (ow hw 15 rfl)) (by decide) (backOf (W := 2) (rm_at l Z a0 hw [] w_N S_N X_N w_K S_K X_K w_V k_V S_V X_V V_V w_NS F_NS X_NS I_NS_coder w_NB k_NB F_NB V_NB w_KS F_KS X_KS I_KS_coder w_KB k_KB F_KB V_KB w_OE S_OE X_OE I_OE_value g_CS S_CS nz_CS g_SF S_SF r_SF p1 (5 : Int32) p2 p3 p4 pcs pv pk h31 n0 O31 c33 c34 c35 c36 hpc1 hle1 hs3 hs4 (by decide)) hZ (ow hw 15 rfl) (ow hw 11 rfl) (by decide) (by decide)) (g := (mkF m 68 #[.val (.ref p0), .val (.ref p1), .val (.int p2), .val (.int p3), .val (.int p4)] [(.int p4), (.int p3), (.int p2), (.int (5 : Int32)), (.ref p1), (.int (5 : Int32)), (.ref p0)])) rfl (by rw [hml]; rfl) (argsL := [(.ref p1), (.int (5 : Int32)), (.int p2), (.int p3), (.int p4)]) (rest := [(.int (5 : Int32)), (.ref p0)]) (lenOf own_pd9 rfl) rfl (by show 2 * 0 + _ ≤ _; exact Nat.le_of_eq rfl) (hb hby own_d_method_4_code_68) (fun _ _ => ⟨rfl, e31, (by decide : 0 + 0 ≤ _), (by decide : 0 + 0 ≤ _)⟩)
  dsimp only [Pt.U, Pt.locs, Pt.cells, Pt.slots] at X32 l32 y32 z32 st32 hQ32
  subst y32 z32
  refine Go.st st32 ?_
  obtain ⟨rc_37, rfl, N32q, e32, q32_0⟩ := hQ32
  have N32 : Fr n0 L32 := by rw [l32]; exact Fr.app N31 N32q
  show Go p.tables e below P (T32.setTop (mkF m 71 #[lR p0, lR p1, lI p2, lI p3, lI p4] [(.int rc_37), (.int (5 : Int32)), (.ref p0)]))
  obtain ⟨T38, h38, X38, e38, W38, V38, st38⟩ := own_stC X32 hx hZ e32 V31' (j := (5 : Int32)) (i := 5) (by decide) (by decide) (Nat.le_of_ble_eq_true rfl) (g := (mkF m 71 #[.val (.ref p0), .val (.ref p1), .val (.int p2), .val (.int p3), .val (.int p4)] [(.int rc_37), (.int (5 : Int32)), (.ref p0)])) rfl rfl (hb hby own_d_method_4_code_71)
  refine Go.st st38 ?_
  rw [own_narC q32_0] at V38
  have K38 : Keep h0 h38 [p0] := K31.wr W38 (Or.inl (List.mem_of_getElem? (i := 0) rfl))
  have O38 := O31.wr W38 hp1
  have N38 := Fr.snoc X38 N32 hp1
  have V38' : Arv Z h38 p0 ka .char (13 : Int32) [(.int rc_2), (.int rc_9), (.int rc_16), (.int rc_23), (.int rc_30), (.int rc_37), (.int (0 : Int32)), (.int (0 : Int32)), (.int (0 : Int32)), (.int (0 : Int32)), (.int (0 : Int32)), (.int (0 : Int32)), (.int (0 : Int32))] (.int (0 : Int32)) := V38
  show Go p.tables e below P (T38.setTop (mkF m 72 #[lR p0, lR p1, lI p2, lI p3, lI p4] []))
  refine Go.st (fun _ => XS.aloadN X38.here hx rfl (hb hby own_d_method_4_code_72) rfl rfl) ?_
  show Go p.tables e below P (T38.setTop (mkF m 73 #[lR p0, lR p1, lI p2, lI p3, lI p4] [(.ref p0)]))
  refine Go.st (fun _ => XS.bipush X38.here hx rfl (hb hby own_d_method_4_code_73)) ?_
  show Go p.tables e below P (T38.setTop (mkF m 75 #[lR p0, lR p1, lI p2, lI p3, lI p4] [(.int (6 : Int32)), (.ref p0)]))
  refine Go.st (fun _ => XS.aloadN X38.here hx rfl (hb hby own_d_method_4_code_75) rfl rfl) ?_
  show Go p.tables e below P (T38.setTop (mkF m 76 #[lR p0, lR p1, lI p2, lI p3, lI p4] [(.ref p1), (.int (6 : Int32)), (.ref p0)]))
  refine Go.st (fun _ => XS.bipush X38.here hx rfl (hb hby own_d_method_4_code_76)) ?_
  show Go p.tables e below P (T38.setTop (mkF m 78 #[lR p0, lR p1, lI p2, lI p3, lI p4] [(.int (6 : Int32)), (.ref p1), (.int (6 : Int32)), (.ref p0)]))
  refine Go.st (fun _ => XS.iloadN X38.here hx rfl (hb hby own_d_method_4_code_78) rfl) ?_
  show Go p.tables e below P (T38.setTop (mkF m 79 #[lR p0, lR p1, lI p2, lI p3, lI p4] [(.int p2), (.int (6 : Int32)), (.ref p1), (.int (6 : Int32)), (.ref p0)]))
  refine Go.st (fun _ => XS.iloadN X38.here hx rfl (hb hby own_d_method_4_code_79) rfl) ?_
  show Go p.tables e below P (T38.setTop (mkF m 80 #[lR p0, lR p1, lI p2, lI p3, lI p4] [(.int p3), (.int p2), (.int (6 : Int32)), (.ref p1), (.int (6 : Int32)), (.ref p0)]))
  refine Go.st (fun _ => XS.iload X38.here hx rfl (hb hby own_d_method_4_code_80) rfl) ?_
  show Go p.tables e below P (T38.setTop (mkF m 82 #[lR p0, lR p1, lI p2, lI p3, lI p4] [(.int p4), (.int p3), (.int p2), (.int (6 : Int32)), (.ref p1), (.int (6 : Int32)), (.ref p0)]))
  have c40 := (c33.wr W38)
  have c41 := (c34.other W38 (Or.inl (Exa.neArv hp2 hp0 (ow hw 2 rfl))))
  have c42 := (c35.other W38 (Or.inl (Exa.neArv hp2 hp0 (ow hw 2 rfl))))
  have c43 := (c36.other W38 hp8)
  obtain ⟨_, _, ⟨T39, L39, k39, n39⟩, -, X39, ⟨Lc39, hQ39, l39, y39, z39⟩, st39⟩ := Jvm.LawKit.callS X38 hx (y := (⟨"com/example/vacuum/vacuum/model/MethodOfWireNamePinLaw", "at", "(Ljava/lang/String;IICC)C"⟩ : MethodName)) hown (mvT hZ (ow hw 13 rfl)) (mvT hZ (ow hw 14 rfl)) (mvT hZ (ow hw 11 rfl)) (mvT hZ (ow hw 15 rfl)) (by decide) (backOf (W := 2) (rm_at l Z a0 hw [] w_N S_N X_N w_K S_K X_K w_V k_V S_V X_V V_V w_NS F_NS X_NS I_NS_coder w_NB k_NB F_NB V_NB w_KS F_KS X_KS I_KS_coder w_KB k_KB F_KB V_KB w_OE S_OE X_OE I_OE_value g_CS S_CS nz_CS g_SF S_SF r_SF p1 (6 : Int32) p2 p3 p4 pcs pv pk h38 n0 O38 c40 c41 c42 c43 hpc1 hle1 hs3 hs4 (by decide)) hZ (ow hw 15 rfl) (ow hw 11 rfl) (by decide) (by decide)) (g := (mkF m 82 #[.val (.ref p0), .val (.ref p1), .val (.int p2), .val (.int p3), .val (.int p4)] [(.int p4), (.int p3), (.int p2), (.int (6 : Int32)), (.ref p1), (.int (6 : Int32)), (.ref p0)])) rfl (by rw [hml]; rfl) (argsL := [(.ref p1), (.int (6 : Int32)), (.int p2), (.int p3), (.int p4)]) (rest := [(.int (6 : Int32)), (.ref p0)]) (lenOf own_pd9 rfl) rfl (by show 2 * 0 + _ ≤ _; exact Nat.le_of_eq rfl) (hb hby own_d_method_4_code_82) (fun _ _ => ⟨rfl, e38, (by decide : 0 + 0 ≤ _), (by decide : 0 + 0 ≤ _)⟩)
  dsimp only [Pt.U, Pt.locs, Pt.cells, Pt.slots] at X39 l39 y39 z39 st39 hQ39
  subst y39 z39
  refine Go.st st39 ?_
  obtain ⟨rc_44, rfl, N39q, e39, q39_0⟩ := hQ39
  have N39 : Fr n0 L39 := by rw [l39]; exact Fr.app N38 N39q
  show Go p.tables e below P (T39.setTop (mkF m 85 #[lR p0, lR p1, lI p2, lI p3, lI p4] [(.int rc_44), (.int (6 : Int32)), (.ref p0)]))
  obtain ⟨T45, h45, X45, e45, W45, V45, st45⟩ := own_stC X39 hx hZ e39 V38' (j := (6 : Int32)) (i := 6) (by decide) (by decide) (Nat.le_of_ble_eq_true rfl) (g := (mkF m 85 #[.val (.ref p0), .val (.ref p1), .val (.int p2), .val (.int p3), .val (.int p4)] [(.int rc_44), (.int (6 : Int32)), (.ref p0)])) rfl rfl (hb hby own_d_method_4_code_85)
  refine Go.st st45 ?_
  rw [own_narC q39_0] at V45
  have K45 : Keep h0 h45 [p0] := K38.wr W45 (Or.inl (List.mem_of_getElem? (i := 0) rfl))
  have O45 := O38.wr W45 hp1
  have N45 := Fr.snoc X45 N39 hp1
  have V45' : Arv Z h45 p0 ka .char (13 : Int32) [(.int rc_2), (.int rc_9), (.int rc_16), (.int rc_23), (.int rc_30), (.int rc_37), (.int rc_44), (.int (0 : Int32)), (.int (0 : Int32)), (.int (0 : Int32)), (.int (0 : Int32)), (.int (0 : Int32)), (.int (0 : Int32))] (.int (0 : Int32)) := V45
  show Go p.tables e below P (T45.setTop (mkF m 86 #[lR p0, lR p1, lI p2, lI p3, lI p4] []))
  refine Go.st (fun _ => XS.aloadN X45.here hx rfl (hb hby own_d_method_4_code_86) rfl rfl) ?_
  show Go p.tables e below P (T45.setTop (mkF m 87 #[lR p0, lR p1, lI p2, lI p3, lI p4] [(.ref p0)]))
  refine Go.st (fun _ => XS.bipush X45.here hx rfl (hb hby own_d_method_4_code_87)) ?_
  show Go p.tables e below P (T45.setTop (mkF m 89 #[lR p0, lR p1, lI p2, lI p3, lI p4] [(.int (7 : Int32)), (.ref p0)]))
  refine Go.st (fun _ => XS.aloadN X45.here hx rfl (hb hby own_d_method_4_code_89) rfl rfl) ?_
  show Go p.tables e below P (T45.setTop (mkF m 90 #[lR p0, lR p1, lI p2, lI p3, lI p4] [(.ref p1), (.int (7 : Int32)), (.ref p0)]))
  refine Go.st (fun _ => XS.bipush X45.here hx rfl (hb hby own_d_method_4_code_90)) ?_
  show Go p.tables e below P (T45.setTop (mkF m 92 #[lR p0, lR p1, lI p2, lI p3, lI p4] [(.int (7 : Int32)), (.ref p1), (.int (7 : Int32)), (.ref p0)]))
  refine Go.st (fun _ => XS.iloadN X45.here hx rfl (hb hby own_d_method_4_code_92) rfl) ?_
  show Go p.tables e below P (T45.setTop (mkF m 93 #[lR p0, lR p1, lI p2, lI p3, lI p4] [(.int p2), (.int (7 : Int32)), (.ref p1), (.int (7 : Int32)), (.ref p0)]))
  refine Go.st (fun _ => XS.iloadN X45.here hx rfl (hb hby own_d_method_4_code_93) rfl) ?_
  show Go p.tables e below P (T45.setTop (mkF m 94 #[lR p0, lR p1, lI p2, lI p3, lI p4] [(.int p3), (.int p2), (.int (7 : Int32)), (.ref p1), (.int (7 : Int32)), (.ref p0)]))
  refine Go.st (fun _ => XS.iload X45.here hx rfl (hb hby own_d_method_4_code_94) rfl) ?_
  show Go p.tables e below P (T45.setTop (mkF m 96 #[lR p0, lR p1, lI p2, lI p3, lI p4] [(.int p4), (.int p3), (.int p2), (.int (7 : Int32)), (.ref p1), (.int (7 : Int32)), (.ref p0)]))
  have c47 := (c40.wr W45)
  have c48 := (c41.other W45 (Or.inl (Exa.neArv hp2 hp0 (ow hw 2 rfl))))
  have c49 := (c42.other W45 (Or.inl (Exa.neArv hp2 hp0 (ow hw 2 rfl))))
  have c50 := (c43.other W45 hp8)
  obtain ⟨_, _, ⟨T46, L46, k46, n46⟩, -, X46, ⟨Lc46, hQ46, l46, y46, z46⟩, st46⟩ := Jvm.LawKit.callS X45 hx (y := (⟨"com/example/vacuum/vacuum/model/MethodOfWireNamePinLaw", "at", "(Ljava/lang/String;IICC)C"⟩ : MethodName)) hown (mvT hZ (ow hw 13 rfl)) (mvT hZ (ow hw 14 rfl)) (mvT hZ (ow hw 11 rfl)) (mvT hZ (ow hw 15 rfl)) (by decide) (backOf (W := 2) (rm_at l Z a0 hw [] w_N S_N X_N w_K S_K X_K w_V k_V S_V X_V V_V w_NS F_NS X_NS I_NS_coder w_NB k_NB F_NB V_NB w_KS F_KS X_KS I_KS_coder w_KB k_KB F_KB V_KB w_OE S_OE X_OE I_OE_value g_CS S_CS nz_CS g_SF S_SF r_SF p1 (7 : Int32) p2 p3 p4 pcs pv pk h45 n0 O45 c47 c48 c49 c50 hpc1 hle1 hs3 hs4 (by decide)) hZ (ow hw 15 rfl) (ow hw 11 rfl) (by decide) (by decide)) (g := (mkF m 96 #[.val (.ref p0), .val (.ref p1), .val (.int p2), .val (.int p3), .val (.int p4)] [(.int p4), (.int p3), (.int p2), (.int (7 : Int32)), (.ref p1), (.int (7 : Int32)), (.ref p0)])) rfl (by rw [hml]; rfl) (argsL := [(.ref p1), (.int (7 : Int32)), (.int p2), (.int p3), (.int p4)]) (rest := [(.int (7 : Int32)), (.ref p0)]) (lenOf own_pd9 rfl) rfl (by show 2 * 0 + _ ≤ _; exact Nat.le_of_eq rfl) (hb hby own_d_method_4_code_96) (fun _ _ => ⟨rfl, e45, (by decide : 0 + 0 ≤ _), (by decide : 0 + 0 ≤ _)⟩)
  dsimp only [Pt.U, Pt.locs, Pt.cells, Pt.slots] at X46 l46 y46 z46 st46 hQ46
  subst y46 z46
  refine Go.st st46 ?_
  obtain ⟨rc_51, rfl, N46q, e46, q46_0⟩ := hQ46
  have N46 : Fr n0 L46 := by rw [l46]; exact Fr.app N45 N46q
  show Go p.tables e below P (T46.setTop (mkF m 99 #[lR p0, lR p1, lI p2, lI p3, lI p4] [(.int rc_51), (.int (7 : Int32)), (.ref p0)]))
  obtain ⟨T52, h52, X52, e52, W52, V52, st52⟩ := own_stC X46 hx hZ e46 V45' (j := (7 : Int32)) (i := 7) (by decide) (by decide) (Nat.le_of_ble_eq_true rfl) (g := (mkF m 99 #[.val (.ref p0), .val (.ref p1), .val (.int p2), .val (.int p3), .val (.int p4)] [(.int rc_51), (.int (7 : Int32)), (.ref p0)])) rfl rfl (hb hby own_d_method_4_code_99)
  refine Go.st st52 ?_
  rw [own_narC q46_0] at V52
  have K52 : Keep h0 h52 [p0] := K45.wr W52 (Or.inl (List.mem_of_getElem? (i := 0) rfl))
  have O52 := O45.wr W52 hp1
  have N52 := Fr.snoc X52 N46 hp1
  have V52' : Arv Z h52 p0 ka .char (13 : Int32) [(.int rc_2), (.int rc_9), (.int rc_16), (.int rc_23), (.int rc_30), (.int rc_37), (.int rc_44), (.int rc_51), (.int (0 : Int32)), (.int (0 : Int32)), (.int (0 : Int32)), (.int (0 : Int32)), (.int (0 : Int32))] (.int (0 : Int32)) := V52
  show Go p.tables e below P (T52.setTop (mkF m 100 #[lR p0, lR p1, lI p2, lI p3, lI p4] []))
  refine Go.st (fun _ => XS.aloadN X52.here hx rfl (hb hby own_d_method_4_code_100) rfl rfl) ?_
  show Go p.tables e below P (T52.setTop (mkF m 101 #[lR p0, lR p1, lI p2, lI p3, lI p4] [(.ref p0)]))
  refine Go.st (fun _ => XS.bipush X52.here hx rfl (hb hby own_d_method_4_code_101)) ?_
  show Go p.tables e below P (T52.setTop (mkF m 103 #[lR p0, lR p1, lI p2, lI p3, lI p4] [(.int (8 : Int32)), (.ref p0)]))
  refine Go.st (fun _ => XS.aloadN X52.here hx rfl (hb hby own_d_method_4_code_103) rfl rfl) ?_
  show Go p.tables e below P (T52.setTop (mkF m 104 #[lR p0, lR p1, lI p2, lI p3, lI p4] [(.ref p1), (.int (8 : Int32)), (.ref p0)]))
  refine Go.st (fun _ => XS.bipush X52.here hx rfl (hb hby own_d_method_4_code_104)) ?_
  show Go p.tables e below P (T52.setTop (mkF m 106 #[lR p0, lR p1, lI p2, lI p3, lI p4] [(.int (8 : Int32)), (.ref p1), (.int (8 : Int32)), (.ref p0)]))
  refine Go.st (fun _ => XS.iloadN X52.here hx rfl (hb hby own_d_method_4_code_106) rfl) ?_
  show Go p.tables e below P (T52.setTop (mkF m 107 #[lR p0, lR p1, lI p2, lI p3, lI p4] [(.int p2), (.int (8 : Int32)), (.ref p1), (.int (8 : Int32)), (.ref p0)]))
  refine Go.st (fun _ => XS.iloadN X52.here hx rfl (hb hby own_d_method_4_code_107) rfl) ?_
  show Go p.tables e below P (T52.setTop (mkF m 108 #[lR p0, lR p1, lI p2, lI p3, lI p4] [(.int p3), (.int p2), (.int (8 : Int32)), (.ref p1), (.int (8 : Int32)), (.ref p0)]))
  refine Go.st (fun _ => XS.iload X52.here hx rfl (hb hby own_d_method_4_code_108) rfl) ?_
  show Go p.tables e below P (T52.setTop (mkF m 110 #[lR p0, lR p1, lI p2, lI p3, lI p4] [(.int p4), (.int p3), (.int p2), (.int (8 : Int32)), (.ref p1), (.int (8 : Int32)), (.ref p0)]))
  have c54 := (c47.wr W52)
  have c55 := (c48.other W52 (Or.inl (Exa.neArv hp2 hp0 (ow hw 2 rfl))))
  have c56 := (c49.other W52 (Or.inl (Exa.neArv hp2 hp0 (ow hw 2 rfl))))
  have c57 := (c50.other W52 hp8)
  obtain ⟨_, _, ⟨T53, L53, k53, n53⟩, -, X53, ⟨Lc53, hQ53, l53, y53, z53⟩, st53⟩ := Jvm.LawKit.callS X52 hx (y := (⟨"com/example/vacuum/vacuum/model/MethodOfWireNamePinLaw", "at", "(Ljava/lang/String;IICC)C"⟩ : MethodName)) hown (mvT hZ (ow hw 13 rfl)) (mvT hZ (ow hw 14 rfl)) (mvT hZ (ow hw 11 rfl)) (mvT hZ (ow hw 15 rfl)) (by decide) (backOf (W := 2) (rm_at l Z a0 hw [] w_N S_N X_N w_K S_K X_K w_V k_V S_V X_V V_V w_NS F_NS X_NS I_NS_coder w_NB k_NB F_NB V_NB w_KS F_KS X_KS I_KS_coder w_KB k_KB F_KB V_KB w_OE S_OE X_OE I_OE_value g_CS S_CS nz_CS g_SF S_SF r_SF p1 (8 : Int32) p2 p3 p4 pcs pv pk h52 n0 O52 c54 c55 c56 c57 hpc1 hle1 hs3 hs4 (by decide)) hZ (ow hw 15 rfl) (ow hw 11 rfl) (by decide) (by decide)) (g := (mkF m 110 #[.val (.ref p0), .val (.ref p1), .val (.int p2), .val (.int p3), .val (.int p4)] [(.int p4), (.int p3), (.int p2), (.int (8 : Int32)), (.ref p1), (.int (8 : Int32)), (.ref p0)])) rfl (by rw [hml]; rfl) (argsL := [(.ref p1), (.int (8 : Int32)), (.int p2), (.int p3), (.int p4)]) (rest := [(.int (8 : Int32)), (.ref p0)]) (lenOf own_pd9 rfl) rfl (by show 2 * 0 + _ ≤ _; exact Nat.le_of_eq rfl) (hb hby own_d_method_4_code_110) (fun _ _ => ⟨rfl, e52, (by decide : 0 + 0 ≤ _), (by decide : 0 + 0 ≤ _)⟩)
  dsimp only [Pt.U, Pt.locs, Pt.cells, Pt.slots] at X53 l53 y53 z53 st53 hQ53
  subst y53 z53
  refine Go.st st53 ?_
  obtain ⟨rc_58, rfl, N53q, e53, q53_0⟩ := hQ53
  have N53 : Fr n0 L53 := by rw [l53]; exact Fr.app N52 N53q
  show Go p.tables e below P (T53.setTop (mkF m 113 #[lR p0, lR p1, lI p2, lI p3, lI p4] [(.int rc_58), (.int (8 : Int32)), (.ref p0)]))
  obtain ⟨T59, h59, X59, e59, W59, V59, st59⟩ := own_stC X53 hx hZ e53 V52' (j := (8 : Int32)) (i := 8) (by decide) (by decide) (Nat.le_of_ble_eq_true rfl) (g := (mkF m 113 #[.val (.ref p0), .val (.ref p1), .val (.int p2), .val (.int p3), .val (.int p4)] [(.int rc_58), (.int (8 : Int32)), (.ref p0)])) rfl rfl (hb hby own_d_method_4_code_113)
  refine Go.st st59 ?_
  rw [own_narC q53_0] at V59
  have K59 : Keep h0 h59 [p0] := K52.wr W59 (Or.inl (List.mem_of_getElem? (i := 0) rfl))
  have O59 := O52.wr W59 hp1
  have N59 := Fr.snoc X59 N53 hp1
  have V59' : Arv Z h59 p0 ka .char (13 : Int32) [(.int rc_2), (.int rc_9), (.int rc_16), (.int rc_23), (.int rc_30), (.int rc_37), (.int rc_44), (.int rc_51), (.int rc_58), (.int (0 : Int32)), (.int (0 : Int32)), (.int (0 : Int32)), (.int (0 : Int32))] (.int (0 : Int32)) := V59
  show Go p.tables e below P (T59.setTop (mkF m 114 #[lR p0, lR p1, lI p2, lI p3, lI p4] []))
  refine Go.st (fun _ => XS.aloadN X59.here hx rfl (hb hby own_d_method_4_code_114) rfl rfl) ?_
  show Go p.tables e below P (T59.setTop (mkF m 115 #[lR p0, lR p1, lI p2, lI p3, lI p4] [(.ref p0)]))
  refine Go.st (fun _ => XS.bipush X59.here hx rfl (hb hby own_d_method_4_code_115)) ?_
  show Go p.tables e below P (T59.setTop (mkF m 117 #[lR p0, lR p1, lI p2, lI p3, lI p4] [(.int (9 : Int32)), (.ref p0)]))
  refine Go.st (fun _ => XS.aloadN X59.here hx rfl (hb hby own_d_method_4_code_117) rfl rfl) ?_
  show Go p.tables e below P (T59.setTop (mkF m 118 #[lR p0, lR p1, lI p2, lI p3, lI p4] [(.ref p1), (.int (9 : Int32)), (.ref p0)]))
  refine Go.st (fun _ => XS.bipush X59.here hx rfl (hb hby own_d_method_4_code_118)) ?_
  show Go p.tables e below P (T59.setTop (mkF m 120 #[lR p0, lR p1, lI p2, lI p3, lI p4] [(.int (9 : Int32)), (.ref p1), (.int (9 : Int32)), (.ref p0)]))
  refine Go.st (fun _ => XS.iloadN X59.here hx rfl (hb hby own_d_method_4_code_120) rfl) ?_
  show Go p.tables e below P (T59.setTop (mkF m 121 #[lR p0, lR p1, lI p2, lI p3, lI p4] [(.int p2), (.int (9 : Int32)), (.ref p1), (.int (9 : Int32)), (.ref p0)]))
  refine Go.st (fun _ => XS.iloadN X59.here hx rfl (hb hby own_d_method_4_code_121) rfl) ?_
  show Go p.tables e below P (T59.setTop (mkF m 122 #[lR p0, lR p1, lI p2, lI p3, lI p4] [(.int p3), (.int p2), (.int (9 : Int32)), (.ref p1), (.int (9 : Int32)), (.ref p0)]))
  refine Go.st (fun _ => XS.iload X59.here hx rfl (hb hby own_d_method_4_code_122) rfl) ?_
  show Go p.tables e below P (T59.setTop (mkF m 124 #[lR p0, lR p1, lI p2, lI p3, lI p4] [(.int p4), (.int p3), (.int p2), (.int (9 : Int32)), (.ref p1), (.int (9 : Int32)), (.ref p0)]))
  have c61 := (c54.wr W59)
  have c62 := (c55.other W59 (Or.inl (Exa.neArv hp2 hp0 (ow hw 2 rfl))))
  have c63 := (c56.other W59 (Or.inl (Exa.neArv hp2 hp0 (ow hw 2 rfl))))
  have c64 := (c57.other W59 hp8)
  obtain ⟨_, _, ⟨T60, L60, k60, n60⟩, -, X60, ⟨Lc60, hQ60, l60, y60, z60⟩, st60⟩ := Jvm.LawKit.callS X59 hx (y := (⟨"com/example/vacuum/vacuum/model/MethodOfWireNamePinLaw", "at", "(Ljava/lang/String;IICC)C"⟩ : MethodName)) hown (mvT hZ (ow hw 13 rfl)) (mvT hZ (ow hw 14 rfl)) (mvT hZ (ow hw 11 rfl)) (mvT hZ (ow hw 15 rfl)) (by decide) (backOf (W := 2) (rm_at l Z a0 hw [] w_N S_N X_N w_K S_K X_K w_V k_V S_V X_V V_V w_NS F_NS X_NS I_NS_coder w_NB k_NB F_NB V_NB w_KS F_KS X_KS I_KS_coder w_KB k_KB F_KB V_KB w_OE S_OE X_OE I_OE_value g_CS S_CS nz_CS g_SF S_SF r_SF p1 (9 : Int32) p2 p3 p4 pcs pv pk h59 n0 O59 c61 c62 c63 c64 hpc1 hle1 hs3 hs4 (by decide)) hZ (ow hw 15 rfl) (ow hw 11 rfl) (by decide) (by decide)) (g := (mkF m 124 #[.val (.ref p0), .val (.ref p1), .val (.int p2), .val (.int p3), .val (.int p4)] [(.int p4), (.int p3), (.int p2), (.int (9 : Int32)), (.ref p1), (.int (9 : Int32)), (.ref p0)])) rfl (by rw [hml]; rfl) (argsL := [(.ref p1), (.int (9 : Int32)), (.int p2), (.int p3), (.int p4)]) (rest := [(.int (9 : Int32)), (.ref p0)]) (lenOf own_pd9 rfl) rfl (by show 2 * 0 + _ ≤ _; exact Nat.le_of_eq rfl) (hb hby own_d_method_4_code_124) (fun _ _ => ⟨rfl, e59, (by decide : 0 + 0 ≤ _), (by decide : 0 + 0 ≤ _)⟩)
  dsimp only [Pt.U, Pt.locs, Pt.cells, Pt.slots] at X60 l60 y60 z60 st60 hQ60
  subst y60 z60
  refine Go.st st60 ?_
  obtain ⟨rc_65, rfl, N60q, e60, q60_0⟩ := hQ60
  have N60 : Fr n0 L60 := by rw [l60]; exact Fr.app N59 N60q
  show Go p.tables e below P (T60.setTop (mkF m 127 #[lR p0, lR p1, lI p2, lI p3, lI p4] [(.int rc_65), (.int (9 : Int32)), (.ref p0)]))
  obtain ⟨T66, h66, X66, e66, W66, V66, st66⟩ := own_stC X60 hx hZ e60 V59' (j := (9 : Int32)) (i := 9) (by decide) (by decide) (Nat.le_of_ble_eq_true rfl) (g := (mkF m 127 #[.val (.ref p0), .val (.ref p1), .val (.int p2), .val (.int p3), .val (.int p4)] [(.int rc_65), (.int (9 : Int32)), (.ref p0)])) rfl rfl (hb hby own_d_method_4_code_127)
  refine Go.st st66 ?_
  rw [own_narC q60_0] at V66
  have K66 : Keep h0 h66 [p0] := K59.wr W66 (Or.inl (List.mem_of_getElem? (i := 0) rfl))
  have O66 := O59.wr W66 hp1
  have N66 := Fr.snoc X66 N60 hp1
  have V66' : Arv Z h66 p0 ka .char (13 : Int32) [(.int rc_2), (.int rc_9), (.int rc_16), (.int rc_23), (.int rc_30), (.int rc_37), (.int rc_44), (.int rc_51), (.int rc_58), (.int rc_65), (.int (0 : Int32)), (.int (0 : Int32)), (.int (0 : Int32))] (.int (0 : Int32)) := V66
  show Go p.tables e below P (T66.setTop (mkF m 128 #[lR p0, lR p1, lI p2, lI p3, lI p4] []))
  refine Go.st (fun _ => XS.aloadN X66.here hx rfl (hb hby own_d_method_4_code_128) rfl rfl) ?_
  show Go p.tables e below P (T66.setTop (mkF m 129 #[lR p0, lR p1, lI p2, lI p3, lI p4] [(.ref p0)]))
  refine Go.st (fun _ => XS.bipush X66.here hx rfl (hb hby own_d_method_4_code_129)) ?_
  show Go p.tables e below P (T66.setTop (mkF m 131 #[lR p0, lR p1, lI p2, lI p3, lI p4] [(.int (10 : Int32)), (.ref p0)]))
  refine Go.st (fun _ => XS.aloadN X66.here hx rfl (hb hby own_d_method_4_code_131) rfl rfl) ?_
  show Go p.tables e below P (T66.setTop (mkF m 132 #[lR p0, lR p1, lI p2, lI p3, lI p4] [(.ref p1), (.int (10 : Int32)), (.ref p0)]))
  refine Go.st (fun _ => XS.bipush X66.here hx rfl (hb hby own_d_method_4_code_132)) ?_
  show Go p.tables e below P (T66.setTop (mkF m 134 #[lR p0, lR p1, lI p2, lI p3, lI p4] [(.int (10 : Int32)), (.ref p1), (.int (10 : Int32)), (.ref p0)]))
  refine Go.st (fun _ => XS.iloadN X66.here hx rfl (hb hby own_d_method_4_code_134) rfl) ?_
  show Go p.tables e below P (T66.setTop (mkF m 135 #[lR p0, lR p1, lI p2, lI p3, lI p4] [(.int p2), (.int (10 : Int32)), (.ref p1), (.int (10 : Int32)), (.ref p0)]))
  refine Go.st (fun _ => XS.iloadN X66.here hx rfl (hb hby own_d_method_4_code_135) rfl) ?_
  show Go p.tables e below P (T66.setTop (mkF m 136 #[lR p0, lR p1, lI p2, lI p3, lI p4] [(.int p3), (.int p2), (.int (10 : Int32)), (.ref p1), (.int (10 : Int32)), (.ref p0)]))
  refine Go.st (fun _ => XS.iload X66.here hx rfl (hb hby own_d_method_4_code_136) rfl) ?_
  show Go p.tables e below P (T66.setTop (mkF m 138 #[lR p0, lR p1, lI p2, lI p3, lI p4] [(.int p4), (.int p3), (.int p2), (.int (10 : Int32)), (.ref p1), (.int (10 : Int32)), (.ref p0)]))
  have c68 := (c61.wr W66)
  have c69 := (c62.other W66 (Or.inl (Exa.neArv hp2 hp0 (ow hw 2 rfl))))
  have c70 := (c63.other W66 (Or.inl (Exa.neArv hp2 hp0 (ow hw 2 rfl))))
  have c71 := (c64.other W66 hp8)
  obtain ⟨_, _, ⟨T67, L67, k67, n67⟩, -, X67, ⟨Lc67, hQ67, l67, y67, z67⟩, st67⟩ := Jvm.LawKit.callS X66 hx (y := (⟨"com/example/vacuum/vacuum/model/MethodOfWireNamePinLaw", "at", "(Ljava/lang/String;IICC)C"⟩ : MethodName)) hown (mvT hZ (ow hw 13 rfl)) (mvT hZ (ow hw 14 rfl)) (mvT hZ (ow hw 11 rfl)) (mvT hZ (ow hw 15 rfl)) (by decide) (backOf (W := 2) (rm_at l Z a0 hw [] w_N S_N X_N w_K S_K X_K w_V k_V S_V X_V V_V w_NS F_NS X_NS I_NS_coder w_NB k_NB F_NB V_NB w_KS F_KS X_KS I_KS_coder w_KB k_KB F_KB V_KB w_OE S_OE X_OE I_OE_value g_CS S_CS nz_CS g_SF S_SF r_SF p1 (10 : Int32) p2 p3 p4 pcs pv pk h66 n0 O66 c68 c69 c70 c71 hpc1 hle1 hs3 hs4 (by decide)) hZ (ow hw 15 rfl) (ow hw 11 rfl) (by decide) (by decide)) (g := (mkF m 138 #[.val (.ref p0), .val (.ref p1), .val (.int p2), .val (.int p3), .val (.int p4)] [(.int p4), (.int p3), (.int p2), (.int (10 : Int32)), (.ref p1), (.int (10 : Int32)), (.ref p0)])) rfl (by rw [hml]; rfl) (argsL := [(.ref p1), (.int (10 : Int32)), (.int p2), (.int p3), (.int p4)]) (rest := [(.int (10 : Int32)), (.ref p0)]) (lenOf own_pd9 rfl) rfl (by show 2 * 0 + _ ≤ _; exact Nat.le_of_eq rfl) (hb hby own_d_method_4_code_138) (fun _ _ => ⟨rfl, e66, (by decide : 0 + 0 ≤ _), (by decide : 0 + 0 ≤ _)⟩)
  dsimp only [Pt.U, Pt.locs, Pt.cells, Pt.slots] at X67 l67 y67 z67 st67 hQ67
  subst y67 z67
  refine Go.st st67 ?_
  obtain ⟨rc_72, rfl, N67q, e67, q67_0⟩ := hQ67
  have N67 : Fr n0 L67 := by rw [l67]; exact Fr.app N66 N67q
  show Go p.tables e below P (T67.setTop (mkF m 141 #[lR p0, lR p1, lI p2, lI p3, lI p4] [(.int rc_72), (.int (10 : Int32)), (.ref p0)]))
  obtain ⟨T73, h73, X73, e73, W73, V73, st73⟩ := own_stC X67 hx hZ e67 V66' (j := (10 : Int32)) (i := 10) (by decide) (by decide) (Nat.le_of_ble_eq_true rfl) (g := (mkF m 141 #[.val (.ref p0), .val (.ref p1), .val (.int p2), .val (.int p3), .val (.int p4)] [(.int rc_72), (.int (10 : Int32)), (.ref p0)])) rfl rfl (hb hby own_d_method_4_code_141)
  refine Go.st st73 ?_
  rw [own_narC q67_0] at V73
  have K73 : Keep h0 h73 [p0] := K66.wr W73 (Or.inl (List.mem_of_getElem? (i := 0) rfl))
  have O73 := O66.wr W73 hp1
  have N73 := Fr.snoc X73 N67 hp1
  have V73' : Arv Z h73 p0 ka .char (13 : Int32) [(.int rc_2), (.int rc_9), (.int rc_16), (.int rc_23), (.int rc_30), (.int rc_37), (.int rc_44), (.int rc_51), (.int rc_58), (.int rc_65), (.int rc_72), (.int (0 : Int32)), (.int (0 : Int32))] (.int (0 : Int32)) := V73
  show Go p.tables e below P (T73.setTop (mkF m 142 #[lR p0, lR p1, lI p2, lI p3, lI p4] []))
  refine Go.st (fun _ => XS.aloadN X73.here hx rfl (hb hby own_d_method_4_code_142) rfl rfl) ?_
  show Go p.tables e below P (T73.setTop (mkF m 143 #[lR p0, lR p1, lI p2, lI p3, lI p4] [(.ref p0)]))
  refine Go.st (fun _ => XS.bipush X73.here hx rfl (hb hby own_d_method_4_code_143)) ?_
  show Go p.tables e below P (T73.setTop (mkF m 145 #[lR p0, lR p1, lI p2, lI p3, lI p4] [(.int (11 : Int32)), (.ref p0)]))
  refine Go.st (fun _ => XS.aloadN X73.here hx rfl (hb hby own_d_method_4_code_145) rfl rfl) ?_
  show Go p.tables e below P (T73.setTop (mkF m 146 #[lR p0, lR p1, lI p2, lI p3, lI p4] [(.ref p1), (.int (11 : Int32)), (.ref p0)]))
  refine Go.st (fun _ => XS.bipush X73.here hx rfl (hb hby own_d_method_4_code_146)) ?_
  show Go p.tables e below P (T73.setTop (mkF m 148 #[lR p0, lR p1, lI p2, lI p3, lI p4] [(.int (11 : Int32)), (.ref p1), (.int (11 : Int32)), (.ref p0)]))
  refine Go.st (fun _ => XS.iloadN X73.here hx rfl (hb hby own_d_method_4_code_148) rfl) ?_
  show Go p.tables e below P (T73.setTop (mkF m 149 #[lR p0, lR p1, lI p2, lI p3, lI p4] [(.int p2), (.int (11 : Int32)), (.ref p1), (.int (11 : Int32)), (.ref p0)]))
  refine Go.st (fun _ => XS.iloadN X73.here hx rfl (hb hby own_d_method_4_code_149) rfl) ?_
  show Go p.tables e below P (T73.setTop (mkF m 150 #[lR p0, lR p1, lI p2, lI p3, lI p4] [(.int p3), (.int p2), (.int (11 : Int32)), (.ref p1), (.int (11 : Int32)), (.ref p0)]))
  refine Go.st (fun _ => XS.iload X73.here hx rfl (hb hby own_d_method_4_code_150) rfl) ?_
  show Go p.tables e below P (T73.setTop (mkF m 152 #[lR p0, lR p1, lI p2, lI p3, lI p4] [(.int p4), (.int p3), (.int p2), (.int (11 : Int32)), (.ref p1), (.int (11 : Int32)), (.ref p0)]))
  have c75 := (c68.wr W73)
  have c76 := (c69.other W73 (Or.inl (Exa.neArv hp2 hp0 (ow hw 2 rfl))))
  have c77 := (c70.other W73 (Or.inl (Exa.neArv hp2 hp0 (ow hw 2 rfl))))
  have c78 := (c71.other W73 hp8)
  obtain ⟨_, _, ⟨T74, L74, k74, n74⟩, -, X74, ⟨Lc74, hQ74, l74, y74, z74⟩, st74⟩ := Jvm.LawKit.callS X73 hx (y := (⟨"com/example/vacuum/vacuum/model/MethodOfWireNamePinLaw", "at", "(Ljava/lang/String;IICC)C"⟩ : MethodName)) hown (mvT hZ (ow hw 13 rfl)) (mvT hZ (ow hw 14 rfl)) (mvT hZ (ow hw 11 rfl)) (mvT hZ (ow hw 15 rfl)) (by decide) (backOf (W := 2) (rm_at l Z a0 hw [] w_N S_N X_N w_K S_K X_K w_V k_V S_V X_V V_V w_NS F_NS X_NS I_NS_coder w_NB k_NB F_NB V_NB w_KS F_KS X_KS I_KS_coder w_KB k_KB F_KB V_KB w_OE S_OE X_OE I_OE_value g_CS S_CS nz_CS g_SF S_SF r_SF p1 (11 : Int32) p2 p3 p4 pcs pv pk h73 n0 O73 c75 c76 c77 c78 hpc1 hle1 hs3 hs4 (by decide)) hZ (ow hw 15 rfl) (ow hw 11 rfl) (by decide) (by decide)) (g := (mkF m 152 #[.val (.ref p0), .val (.ref p1), .val (.int p2), .val (.int p3), .val (.int p4)] [(.int p4), (.int p3), (.int p2), (.int (11 : Int32)), (.ref p1), (.int (11 : Int32)), (.ref p0)])) rfl (by rw [hml]; rfl) (argsL := [(.ref p1), (.int (11 : Int32)), (.int p2), (.int p3), (.int p4)]) (rest := [(.int (11 : Int32)), (.ref p0)]) (lenOf own_pd9 rfl) rfl (by show 2 * 0 + _ ≤ _; exact Nat.le_of_eq rfl) (hb hby own_d_method_4_code_152) (fun _ _ => ⟨rfl, e73, (by decide : 0 + 0 ≤ _), (by decide : 0 + 0 ≤ _)⟩)
  dsimp only [Pt.U, Pt.locs, Pt.cells, Pt.slots] at X74 l74 y74 z74 st74 hQ74
  subst y74 z74
  refine Go.st st74 ?_
  obtain ⟨rc_79, rfl, N74q, e74, q74_0⟩ := hQ74
  have N74 : Fr n0 L74 := by rw [l74]; exact Fr.app N73 N74q
  show Go p.tables e below P (T74.setTop (mkF m 155 #[lR p0, lR p1, lI p2, lI p3, lI p4] [(.int rc_79), (.int (11 : Int32)), (.ref p0)]))
  obtain ⟨T80, h80, X80, e80, W80, V80, st80⟩ := own_stC X74 hx hZ e74 V73' (j := (11 : Int32)) (i := 11) (by decide) (by decide) (Nat.le_of_ble_eq_true rfl) (g := (mkF m 155 #[.val (.ref p0), .val (.ref p1), .val (.int p2), .val (.int p3), .val (.int p4)] [(.int rc_79), (.int (11 : Int32)), (.ref p0)])) rfl rfl (hb hby own_d_method_4_code_155)
  refine Go.st st80 ?_
  rw [own_narC q74_0] at V80
  have K80 : Keep h0 h80 [p0] := K73.wr W80 (Or.inl (List.mem_of_getElem? (i := 0) rfl))
  have O80 := O73.wr W80 hp1
  have N80 := Fr.snoc X80 N74 hp1
  have V80' : Arv Z h80 p0 ka .char (13 : Int32) [(.int rc_2), (.int rc_9), (.int rc_16), (.int rc_23), (.int rc_30), (.int rc_37), (.int rc_44), (.int rc_51), (.int rc_58), (.int rc_65), (.int rc_72), (.int rc_79), (.int (0 : Int32))] (.int (0 : Int32)) := V80
  show Go p.tables e below P (T80.setTop (mkF m 156 #[lR p0, lR p1, lI p2, lI p3, lI p4] []))
  refine Go.st (fun _ => XS.aloadN X80.here hx rfl (hb hby own_d_method_4_code_156) rfl rfl) ?_
  show Go p.tables e below P (T80.setTop (mkF m 157 #[lR p0, lR p1, lI p2, lI p3, lI p4] [(.ref p0)]))
  refine Go.st (fun _ => own_len X80 hx hZ e80 V80' (g := (mkF m 157 #[.val (.ref p0), .val (.ref p1), .val (.int p2), .val (.int p3), .val (.int p4)] [(.ref p0)])) rfl rfl (hb hby own_d_method_4_code_157) _) ?_
  show Go p.tables e below P (T80.setTop (mkF m 158 #[lR p0, lR p1, lI p2, lI p3, lI p4] [(.int (13 : Int32))]))
  refine Go.st (fun _ => XS.bipush X80.here hx rfl (hb hby own_d_method_4_code_158)) ?_
  show Go p.tables e below P (T80.setTop (mkF m 160 #[lR p0, lR p1, lI p2, lI p3, lI p4] [(.int (12 : Int32)), (.int (13 : Int32))]))
  refine Go.st (fun _ => XS.icmpNo X80.here hx rfl (hb hby own_d_method_4_code_160) rfl (tlt (by decide)).2.2.2) ?_
  show Go p.tables e below P (T80.setTop (mkF m 163 #[lR p0, lR p1, lI p2, lI p3, lI p4] []))
  refine Go.st (fun _ => XS.aloadN X80.here hx rfl (hb hby own_d_method_4_code_163) rfl rfl) ?_
  show Go p.tables e below P (T80.setTop (mkF m 164 #[lR p0, lR p1, lI p2, lI p3, lI p4] [(.ref p0)]))
  refine Go.st (fun _ => XS.bipush X80.here hx rfl (hb hby own_d_method_4_code_164)) ?_
  show Go p.tables e below P (T80.setTop (mkF m 166 #[lR p0, lR p1, lI p2, lI p3, lI p4] [(.int (12 : Int32)), (.ref p0)]))
  refine Go.st (fun _ => XS.aloadN X80.here hx rfl (hb hby own_d_method_4_code_166) rfl rfl) ?_
  show Go p.tables e below P (T80.setTop (mkF m 167 #[lR p0, lR p1, lI p2, lI p3, lI p4] [(.ref p1), (.int (12 : Int32)), (.ref p0)]))
  refine Go.st (fun _ => XS.bipush X80.here hx rfl (hb hby own_d_method_4_code_167)) ?_
  show Go p.tables e below P (T80.setTop (mkF m 169 #[lR p0, lR p1, lI p2, lI p3, lI p4] [(.int (12 : Int32)), (.ref p1), (.int (12 : Int32)), (.ref p0)]))
  refine Go.st (fun _ => XS.iloadN X80.here hx rfl (hb hby own_d_method_4_code_169) rfl) ?_
  show Go p.tables e below P (T80.setTop (mkF m 170 #[lR p0, lR p1, lI p2, lI p3, lI p4] [(.int p2), (.int (12 : Int32)), (.ref p1), (.int (12 : Int32)), (.ref p0)]))
  refine Go.st (fun _ => XS.iloadN X80.here hx rfl (hb hby own_d_method_4_code_170) rfl) ?_
  show Go p.tables e below P (T80.setTop (mkF m 171 #[lR p0, lR p1, lI p2, lI p3, lI p4] [(.int p3), (.int p2), (.int (12 : Int32)), (.ref p1), (.int (12 : Int32)), (.ref p0)]))
  refine Go.st (fun _ => XS.iload X80.here hx rfl (hb hby own_d_method_4_code_171) rfl) ?_
  show Go p.tables e below P (T80.setTop (mkF m 173 #[lR p0, lR p1, lI p2, lI p3, lI p4] [(.int p4), (.int p3), (.int p2), (.int (12 : Int32)), (.ref p1), (.int (12 : Int32)), (.ref p0)]))
  have c82 := (c75.wr W80)
  have c83 := (c76.other W80 (Or.inl (Exa.neArv hp2 hp0 (ow hw 2 rfl))))
  have c84 := (c77.other W80 (Or.inl (Exa.neArv hp2 hp0 (ow hw 2 rfl))))
  have c85 := (c78.other W80 hp8)
  obtain ⟨_, _, ⟨T81, L81, k81, n81⟩, -, X81, ⟨Lc81, hQ81, l81, y81, z81⟩, st81⟩ := Jvm.LawKit.callS X80 hx (y := (⟨"com/example/vacuum/vacuum/model/MethodOfWireNamePinLaw", "at", "(Ljava/lang/String;IICC)C"⟩ : MethodName)) hown (mvT hZ (ow hw 13 rfl)) (mvT hZ (ow hw 14 rfl)) (mvT hZ (ow hw 11 rfl)) (mvT hZ (ow hw 15 rfl)) (by decide) (backOf (W := 2) (rm_at l Z a0 hw [] w_N S_N X_N w_K S_K X_K w_V k_V S_V X_V V_V w_NS F_NS X_NS I_NS_coder w_NB k_NB F_NB V_NB w_KS F_KS X_KS I_KS_coder w_KB k_KB F_KB V_KB w_OE S_OE X_OE I_OE_value g_CS S_CS nz_CS g_SF S_SF r_SF p1 (12 : Int32) p2 p3 p4 pcs pv pk h80 n0 O80 c82 c83 c84 c85 hpc1 hle1 hs3 hs4 (by decide)) hZ (ow hw 15 rfl) (ow hw 11 rfl) (by decide) (by decide)) (g := (mkF m 173 #[.val (.ref p0), .val (.ref p1), .val (.int p2), .val (.int p3), .val (.int p4)] [(.int p4), (.int p3), (.int p2), (.int (12 : Int32)), (.ref p1), (.int (12 : Int32)), (.ref p0)])) rfl (by rw [hml]; rfl) (argsL := [(.ref p1), (.int (12 : Int32)), (.int p2), (.int p3), (.int p4)]) (rest := [(.int (12 : Int32)), (.ref p0)]) (lenOf own_pd9 rfl) rfl (by show 2 * 0 + _ ≤ _; exact Nat.le_of_eq rfl) (hb hby own_d_method_4_code_173) (fun _ _ => ⟨rfl, e80, (by decide : 0 + 0 ≤ _), (by decide : 0 + 0 ≤ _)⟩)
  dsimp only [Pt.U, Pt.locs, Pt.cells, Pt.slots] at X81 l81 y81 z81 st81 hQ81
  subst y81 z81
  refine Go.st st81 ?_
  obtain ⟨rc_86, rfl, N81q, e81, q81_0⟩ := hQ81
  have N81 : Fr n0 L81 := by rw [l81]; exact Fr.app N80 N81q
  show Go p.tables e below P (T81.setTop (mkF m 176 #[lR p0, lR p1, lI p2, lI p3, lI p4] [(.int rc_86), (.int (12 : Int32)), (.ref p0)]))
  obtain ⟨T87, h87, X87, e87, W87, V87, st87⟩ := own_stC X81 hx hZ e81 V80' (j := (12 : Int32)) (i := 12) (by decide) (by decide) (Nat.le_of_ble_eq_true rfl) (g := (mkF m 176 #[.val (.ref p0), .val (.ref p1), .val (.int p2), .val (.int p3), .val (.int p4)] [(.int rc_86), (.int (12 : Int32)), (.ref p0)])) rfl rfl (hb hby own_d_method_4_code_176)
  refine Go.st st87 ?_
  rw [own_narC q81_0] at V87
  have K87 : Keep h0 h87 [p0] := K80.wr W87 (Or.inl (List.mem_of_getElem? (i := 0) rfl))
  have O87 := O80.wr W87 hp1
  have N87 := Fr.snoc X87 N81 hp1
  have V87' : Arv Z h87 p0 ka .char (13 : Int32) [(.int rc_2), (.int rc_9), (.int rc_16), (.int rc_23), (.int rc_30), (.int rc_37), (.int rc_44), (.int rc_51), (.int rc_58), (.int rc_65), (.int rc_72), (.int rc_79), (.int rc_86)] (.int (0 : Int32)) := V87
  show Go p.tables e below P (T87.setTop (mkF m 177 #[lR p0, lR p1, lI p2, lI p3, lI p4] []))
  refine Go.st (fun _ => XS.aloadN X87.here hx rfl (hb hby own_d_method_4_code_177) rfl rfl) ?_
  show Go p.tables e below P (T87.setTop (mkF m 178 #[lR p0, lR p1, lI p2, lI p3, lI p4] [(.ref p0)]))
  refine Go.st (fun _ => own_len X87 hx hZ e87 V87' (g := (mkF m 178 #[.val (.ref p0), .val (.ref p1), .val (.int p2), .val (.int p3), .val (.int p4)] [(.ref p0)])) rfl rfl (hb hby own_d_method_4_code_178) _) ?_
  show Go p.tables e below P (T87.setTop (mkF m 179 #[lR p0, lR p1, lI p2, lI p3, lI p4] [(.int (13 : Int32))]))
  refine Go.st (fun _ => XS.bipush X87.here hx rfl (hb hby own_d_method_4_code_179)) ?_
  show Go p.tables e below P (T87.setTop (mkF m 181 #[lR p0, lR p1, lI p2, lI p3, lI p4] [(.int (13 : Int32)), (.int (13 : Int32))]))
  refine Go.st (fun _ => XS.icmpYes X87.here hx rfl (pc0 := 181) (pc' := 198) rfl (hb hby own_d_method_4_code_181) rfl (flt (by decide)).2.2.2 (by decide) (by decide)) ?_
  show Go p.tables e below P (T87.setTop (mkF m 198 #[lR p0, lR p1, lI p2, lI p3, lI p4] []))
  refine Go.st (fun _ => XS.aloadN X87.here hx rfl (hb hby own_d_method_4_code_198) rfl rfl) ?_
  show Go p.tables e below P (T87.setTop (mkF m 199 #[lR p0, lR p1, lI p2, lI p3, lI p4] [(.ref p0)]))
  refine Go.st (fun _ => own_len X87 hx hZ e87 V87' (g := (mkF m 199 #[.val (.ref p0), .val (.ref p1), .val (.int p2), .val (.int p3), .val (.int p4)] [(.ref p0)])) rfl rfl (hb hby own_d_method_4_code_199) _) ?_
  show Go p.tables e below P (T87.setTop (mkF m 200 #[lR p0, lR p1, lI p2, lI p3, lI p4] [(.int (13 : Int32))]))
  refine Go.st (fun _ => XS.bipush X87.here hx rfl (hb hby own_d_method_4_code_200)) ?_
  show Go p.tables e below P (T87.setTop (mkF m 202 #[lR p0, lR p1, lI p2, lI p3, lI p4] [(.int (14 : Int32)), (.int (13 : Int32))]))
  refine Go.st (fun _ => XS.icmpYes X87.here hx rfl (pc0 := 202) (pc' := 219) rfl (hb hby own_d_method_4_code_202) rfl (flt (by decide)).2.2.2 (by decide) (by decide)) ?_
  show Go p.tables e below P (T87.setTop (mkF m 219 #[lR p0, lR p1, lI p2, lI p3, lI p4] []))
  obtain ⟨fs, hr, hrun, hended, hW, hsame⟩ := X87.leave (v := none) (fun _ => rfl)
  refine ⟨_, ?_, hPend _ _ hrun hended ⟨_, _, rfl, ?_, ⟨_, rfl⟩, hW, hsame.mono (by decide) (by decide)⟩⟩
  · exact X87.returnOut hx Bd.returns (hb hby own_d_method_4_code_219) hr
  · show Q_rm_fc13 Z _ _ _ _ _ _ _ _ _ _ _ _ _ _ _ _ _ _ _ _ _ _ h0 n0 _ T87.heap _
    rw [e87]
    exact ⟨rc_2, rc_9, rc_16, rc_23, rc_30, rc_37, rc_44, rc_51, rc_58, rc_65, rc_72, rc_79, rc_86, rfl, N87, K87, V87', q1_0, q4_0, q11_0, q18_0, q25_0, q32_0, q39_0, q46_0, q53_0, q60_0, q67_0, q74_0, q81_0⟩
theorem own_ef_rm_fc14 (m : MethodId) (x0 : Addr) (x1 : Addr) (x2 : Int32) (x3 : Int32) (x4 : Int32) : entryFrame m #[(.ref x0), (.ref x1), (.int x2), (.int x3), (.int x4)] 5 = mkF m 0 #[.val (.ref x0), .val (.ref x1), .val (.int x2), .val (.int x3), .val (.int x4)] [] := by first | (simp [entryFrame, mkF, argsToLocals, Value.category]; done) | rfl
theorem own_d_method_4_code_184 : decode method_4_code 184 = .ok (.aload_n 0, 1) := by decide +kernel
theorem own_d_method_4_code_185 : decode method_4_code 185 = .ok (.bipush 13, 2) := by decide +kernel
theorem own_d_method_4_code_187 : decode method_4_code 187 = .ok (.aload_n 1, 1) := by decide +kernel
theorem own_d_method_4_code_188 : decode method_4_code 188 = .ok (.bipush 13, 2) := by decide +kernel
theorem own_d_method_4_code_190 : decode method_4_code 190 = .ok (.iload_n 2, 1) := by decide +kernel
theorem own_d_method_4_code_191 : decode method_4_code 191 = .ok (.iload_n 3, 1) := by decide +kernel
theorem own_d_method_4_code_192 : decode method_4_code 192 = .ok (.iload 4, 2) := by decide +kernel
theorem own_d_method_4_code_194 : decode method_4_code 194 = .ok (.invokestatic 59, 3) := by decide +kernel
theorem own_d_method_4_code_197 : decode method_4_code 197 = .ok (.castore, 1) := by decide +kernel
def Q_rm_fc14 (Z : State) (w_N : Addr) (w_K : Addr) (w_V : Addr) (k_V : ClassId) (w_NS : Addr) (w_NB : Addr) (k_NB : ClassId) (w_KS : Addr) (w_KB : Addr) (k_KB : ClassId) (w_OE : Addr) (g_CS : Int32) (g_SF : Value) (p0 : Addr) (p1 : Addr) (p2 : Int32) (p3 : Int32) (p4 : Int32) (ka : ClassId) (pcs : List Int32) (pv : Addr) (pk : ClassId) (h0 : Heap) (n0 : Nat) (v : Option Value) (h : Heap) (L : List Loc) : Prop := ∃ (c0 : Int32) (c1 : Int32) (c2 : Int32) (c3 : Int32) (c4 : Int32) (c5 : Int32) (c6 : Int32) (c7 : Int32) (c8 : Int32) (c9 : Int32) (c10 : Int32) (c11 : Int32) (c12 : Int32) (c13 : Int32), v = none ∧ Fr n0 L ∧ Keep h0 h [p0] ∧ Arv Z h p0 ka .char (14 : Int32) [(.int c0), (.int c1), (.int c2), (.int c3), (.int c4), (.int c5), (.int c6), (.int c7), (.int c8), (.int c9), (.int c10), (.int c11), (.int c12), (.int c13)] (.int (0 : Int32)) ∧ (¬ c0 < 0 ∧ ¬ (255 : Int32) < c0) ∧ (¬ c1 < 0 ∧ ¬ (255 : Int32) < c1) ∧ (¬ c2 < 0 ∧ ¬ (255 : Int32) < c2) ∧ (¬ c3 < 0 ∧ ¬ (255 : Int32) < c3) ∧ (¬ c4 < 0 ∧ ¬ (255 : Int32) < c4) ∧ (¬ c5 < 0 ∧ ¬ (255 : Int32) < c5) ∧ (¬ c6 < 0 ∧ ¬ (255 : Int32) < c6) ∧ (¬ c7 < 0 ∧ ¬ (255 : Int32) < c7) ∧ (¬ c8 < 0 ∧ ¬ (255 : Int32) < c8) ∧ (¬ c9 < 0 ∧ ¬ (255 : Int32) < c9) ∧ (¬ c10 < 0 ∧ ¬ (255 : Int32) < c10) ∧ (¬ c11 < 0 ∧ ¬ (255 : Int32) < c11) ∧ (¬ c12 < 0 ∧ ¬ (255 : Int32) < c12) ∧ (¬ c13 < 0 ∧ ¬ (255 : Int32) < c13)
set_option maxRecDepth 65536 in
set_option maxHeartbeats 40000000 in
theorem rm_fc14 (l : Launch) (Z : State) (a0 : Array Value) (hw : ∀ d ∈ tables_1, d.before a0 Z = true) (ws : List Jvm.Cond) (w_N : Addr) (S_N : Sta Z Z.heap "com/example/vacuum/vacuum/model/PrunePolicy$Method" "NUMBER_OF_TAGS" "Lcom/example/vacuum/vacuum/model/PrunePolicy$Method;" (.ref w_N)) (X_N : Exa Z Z.heap w_N "com/example/vacuum/vacuum/model/PrunePolicy$Method") (w_K : Addr) (S_K : Sta Z Z.heap "com/example/vacuum/vacuum/model/PrunePolicy$Method" "CREATION_DATE" "Lcom/example/vacuum/vacuum/model/PrunePolicy$Method;" (.ref w_K)) (X_K : Exa Z Z.heap w_K "com/example/vacuum/vacuum/model/PrunePolicy$Method") (w_V : Addr) (k_V : ClassId) (S_V : Sta Z Z.heap "com/example/vacuum/vacuum/model/PrunePolicy$Method" "$VALUES" "[Lcom/example/vacuum/vacuum/model/PrunePolicy$Method;" (.ref w_V)) (X_V : Exa Z Z.heap w_V "[Lcom/example/vacuum/vacuum/model/PrunePolicy$Method;") (V_V : Arv Z Z.heap w_V k_V (.object "com/example/vacuum/vacuum/model/PrunePolicy$Method") (2 : Int32) [(.ref w_N), (.ref w_K)] .null) (w_NS : Addr) (F_NS : Fld Z Z.heap w_N "com/example/vacuum/vacuum/model/PrunePolicy$Method" "wireName" "Ljava/lang/String;" (.ref w_NS)) (X_NS : Exa Z Z.heap w_NS "java/lang/String") (I_NS_coder : Fld Z Z.heap w_NS "java/lang/String" "coder" "B" (.int (0 : Int32))) (w_NB : Addr) (k_NB : ClassId) (F_NB : Fld Z Z.heap w_NS "java/lang/String" "value" "[B" (.ref w_NB)) (V_NB : Arv Z Z.heap w_NB k_NB .byte (14 : Int32) [(.int (110 : Int32)), (.int (117 : Int32)), (.int (109 : Int32)), (.int (98 : Int32)), (.int (101 : Int32)), (.int (114 : Int32)), (.int (95 : Int32)), (.int (111 : Int32)), (.int (102 : Int32)), (.int (95 : Int32)), (.int (116 : Int32)), (.int (97 : Int32)), (.int (103 : Int32)), (.int (115 : Int32))] (.int (0 : Int32))) (w_KS : Addr) (F_KS : Fld Z Z.heap w_K "com/example/vacuum/vacuum/model/PrunePolicy$Method" "wireName" "Ljava/lang/String;" (.ref w_KS)) (X_KS : Exa Z Z.heap w_KS "java/lang/String") (I_KS_coder : Fld Z Z.heap w_KS "java/lang/String" "coder" "B" (.int (0 : Int32))) (w_KB : Addr) (k_KB : ClassId) (F_KB : Fld Z Z.heap w_KS "java/lang/String" "value" "[B" (.ref w_KB)) (V_KB : Arv Z Z.heap w_KB k_KB .byte (13 : Int32) [(.int (99 : Int32)), (.int (114 : Int32)), (.int (101 : Int32)), (.int (97 : Int32)), (.int (116 : Int32)), (.int (105 : Int32)), (.int (111 : Int32)), (.int (110 : Int32)), (.int (95 : Int32)), (.int (100 : Int32)), (.int (97 : Int32)), (.int (116 : Int32)), (.int (101 : Int32))] (.int (0 : Int32))) (w_OE : Addr) (S_OE : Sta Z Z.heap "java/util/Optional" "EMPTY" "Ljava/util/Optional;" (.ref w_OE)) (X_OE : Exa Z Z.heap w_OE "java/util/Optional") (I_OE_value : Fld Z Z.heap w_OE "java/util/Optional" "value" "Ljava/lang/Object;" .null) (g_CS : Int32) (S_CS : Sta Z Z.heap "java/lang/String" "COMPACT_STRINGS" "Z" (.int g_CS)) (nz_CS : ¬ (g_CS = (0 : Int32))) (g_SF : Value) (S_SF : Sta Z Z.heap "jdk/internal/util/Preconditions" "SIOOBE_FORMATTER" "Ljava/util/function/BiFunction;" g_SF) (r_SF : g_SF.isRef = true) (p0 : Addr) (p1 : Addr) (p2 : Int32) (p3 : Int32) (p4 : Int32) (ka : ClassId) (pcs : List Int32) (pv : Addr) (pk : ClassId) (h0 : Heap) (n0 : Nat) (X00 : Old Z n0 h0) (hp0 : Arv Z h0 p0 ka .char (14 : Int32) [(.int (0 : Int32)), (.int (0 : Int32)), (.int (0 : Int32)), (.int (0 : Int32)), (.int (0 : Int32)), (.int (0 : Int32)), (.int (0 : Int32)), (.int (0 : Int32)), (.int (0 : Int32)), (.int (0 : Int32)), (.int (0 : Int32)), (.int (0 : Int32)), (.int (0 : Int32)), (.int (0 : Int32))] (.int (0 : Int32))) (hp1 : n0 ≤ p0) (hp2 : Exa Z h0 p1 "java/lang/String") (hp3 : Fld Z h0 p1 "java/lang/String" "coder" "B" (.int (0 : Int32))) (hp4 : Fld Z h0 p1 "java/lang/String" "value" "[B" (.ref pv)) (hp5 : Arv Z h0 pv pk .byte (Int32.ofNat pcs.length) ((pcs.map StrChars.lo8).map Value.int) (.int (0 : Int32))) (hpc1 : ∀ c ∈ pcs, ¬ c < 0 ∧ ¬ (255 : Int32) < c) (hle1 : pcs.length ≤ 4000) (hp8 : pv ≠ p0) (hs3 : (¬ p3 < 0 ∧ ¬ (255 : Int32) < p3)) (hs4 : (¬ p4 < 0 ∧ ¬ (255 : Int32) < p4)) :
    MetFree l (⟨"com/example/vacuum/vacuum/model/MethodOfWireNamePinLaw", "fillChars", "([CLjava/lang/String;ICC)V"⟩ : MethodName) (head1 (Jvm.Cond.code (⟨"com/example/vacuum/vacuum/model/MethodOfWireNamePinLaw", "fillChars", "([CLjava/lang/String;ICC)V"⟩ : MethodName) method_4_code 5 none :: ws) ({ frames := 5, cells := 0, slots := 0, locals := 71 } : Room)) (fun a U => a = #[(.ref p0), (.ref p1), (.int p2), (.int p3), (.int p4)] ∧ Z.Warmed39 U.vm ∧ U.heap = h0) (fun _ _ _ _ _ => True) (fun _ U o U' => ∃ v L, o = .returned v ∧ Q_rm_fc14 Z w_N w_K w_V k_V w_NS w_NB k_NB w_KS w_KB k_KB w_OE g_CS g_SF p0 p1 p2 p3 p4 ka pcs pv pk h0 n0 v U'.heap L ∧ FrameEnd U o U' L ({ frames := 5, cells := 0, slots := 0, locals := 71 } : Room).cells ({ frames := 5, cells := 0, slots := 0, locals := 71 } : Room).slots) := by
  refine MetFree.of_bodySF (plainFor_of_name own_pn4) hisR ?_
  intro p e s m args below meth c s₁ Bd hml0 hP hK
  obtain ⟨rfl, hZ, hh⟩ := hP
  have hx := Bd.exec
  have hby := Bd.bytes
  have hml : c.maxLocals = 5 := hml0
  have hown : s.vm.findClass "com/example/vacuum/vacuum/model/MethodOfWireNamePinLaw" = some m.cls := findClass_of_methodNamed Bd.named
  have hnm := (name_of_methodNamed Bd.named Bd.method).1
  have X0 : Stand p l e ({ frames := 5, cells := 0, slots := 0, locals := 71 } : Room) s m #[(.ref p0), (.ref p1), (.int p2), (.int p3), (.int p4)] below meth c s₁ [] 0 0 := Stand.of_body Bd
  have e0 : s₁.heap = h0 := by rw [← hh, Bd.state]; rfl
  have N0 := Fr.nil n0
  refine Go.start fun P hPend => ?_
  refine Go.st (fun _ k => castTop (own_ef_rm_fc14 m p0 p1 p2 p3 p4) k) ?_
  show Go p.tables e below P (s₁.setTop (mkF m 0 #[lR p0, lR p1, lI p2, lI p3, lI p4] []))
  refine Go.st (fun _ => XS.aloadN X0.here hx rfl (hb hby own_d_method_4_code_0) rfl rfl) ?_
  show Go p.tables e below P (s₁.setTop (mkF m 1 #[lR p0, lR p1, lI p2, lI p3, lI p4] [(.ref p0)]))
  refine Go.st (fun _ => XS.iconst X0.here hx rfl (hb hby own_d_method_4_code_1)) ?_
  show Go p.tables e below P (s₁.setTop (mkF m 2 #[lR p0, lR p1, lI p2, lI p3, lI p4] [(.int (0 : Int32)), (.ref p0)]))
  refine Go.st (fun _ => XS.aloadN X0.here hx rfl (hb hby own_d_method_4_code_2) rfl rfl) ?_
  show Go p.tables e below P (s₁.setTop (mkF m 3 #[lR p0, lR p1, lI p2, lI p3, lI p4] [(.ref p1), (.int (0 : Int32)), (.ref p0)]))
  refine Go.st (fun _ => XS.iconst X0.here hx rfl (hb hby own_d_method_4_code_3)) ?_
  show Go p.tables e below P (s₁.setTop (mkF m 4 #[lR p0, lR p1, lI p2, lI p3, lI p4] [(.int (0 : Int32)), (.ref p1), (.int (0 : Int32)), (.ref p0)]))
  refine Go.st (fun _ => XS.iloadN X0.here hx rfl (hb hby own_d_method_4_code_4) rfl) ?_
  show Go p.tables e below P (s₁.setTop (mkF m 5 #[lR p0, lR p1, lI p2, lI p3, lI p4] [(.int p2), (.int (0 : Int32)), (.ref p1), (.int (0 : Int32)), (.ref p0)]))
  refine Go.st (fun _ => XS.iloadN X0.here hx rfl (hb hby own_d_method_4_code_5) rfl) ?_
  show Go p.tables e below P (s₁.setTop (mkF m 6 #[lR p0, lR p1, lI p2, lI p3, lI p4] [(.int p3), (.int p2), (.int (0 : Int32)), (.ref p1), (.int (0 : Int32)), (.ref p0)]))
  refine Go.st (fun _ => XS.iload X0.here hx rfl (hb hby own_d_method_4_code_6) rfl) ?_
  show Go p.tables e below P (s₁.setTop (mkF m 8 #[lR p0, lR p1, lI p2, lI p3, lI p4] [(.int p4), (.int p3), (.int p2), (.int (0 : Int32)), (.ref p1), (.int (0 : Int32)), (.ref p0)]))
  obtain ⟨_, _, ⟨T1, L1, k1, n1⟩, -, X1, ⟨Lc1, hQ1, l1, y1, z1⟩, st1⟩ := Jvm.LawKit.callS X0 hx (y := (⟨"com/example/vacuum/vacuum/model/MethodOfWireNamePinLaw", "at", "(Ljava/lang/String;IICC)C"⟩ : MethodName)) hown (mvT hZ (ow hw 13 rfl)) (mvT hZ (ow hw 14 rfl)) (mvT hZ (ow hw 11 rfl)) (mvT hZ (ow hw 15 rfl)) (by decide) (backOf (W := 2) (rm_at l Z a0 hw [] w_N S_N X_N w_K S_K X_K w_V k_V S_V X_V V_V w_NS F_NS X_NS I_NS_coder w_NB k_NB F_NB V_NB w_KS F_KS X_KS I_KS_coder w_KB k_KB F_KB V_KB w_OE S_OE X_OE I_OE_value g_CS S_CS nz_CS g_SF S_SF r_SF p1 (0 : Int32) p2 p3 p4 pcs pv pk h0 n0 X00 hp2 hp3 hp4 hp5 hpc1 hle1 hs3 hs4 (by decide)) hZ (ow hw 15 rfl) (ow hw 11 rfl) (by decide) (by decide)) (g := (mkF m 8 #[.val (.ref p0), .val (.ref p1), .val (.int p2), .val (.int p3), .val (.int p4)] [(.int p4), (.int p3), (.int p2), (.int (0 : Int32)), (.ref p1), (.int (0 : Int32)), (.ref p0)])) rfl (by rw [hml]; rfl) (argsL := [(.ref p1), (.int (0 : Int32)), (.int p2), (.int p3), (.int p4)]) (rest := [(.int (0 : Int32)), (.ref p0)]) (lenOf own_pd9 rfl) rfl (by show 2 * 0 + _ ≤ _; exact Nat.le_of_eq rfl) (hb hby own_d_method_4_code_8) (fun _ _ => ⟨rfl, e0, (by decide : 0 + 0 ≤ _), (by decide : 0 + 0 ≤ _)⟩)
  dsimp only [Pt.U, Pt.locs, Pt.cells, Pt.slots] at X1 l1 y1 z1 st1 hQ1
  subst y1 z1
  refine Go.st st1 ?_
  obtain ⟨rc_2, rfl, N1q, e1, q1_0⟩ := hQ1
  have N1 : Fr n0 L1 := by rw [l1]; exact Fr.app N0 N1q
  show Go p.tables e below P (T1.setTop (mkF m 11 #[lR p0, lR p1, lI p2, lI p3, lI p4] [(.int rc_2), (.int (0 : Int32)), (.ref p0)]))
  obtain ⟨T3, h3, X3, e3, W3, V3, st3⟩ := own_stC X1 hx hZ e1 hp0 (j := (0 : Int32)) (i := 0) (by decide) (by decide) (Nat.le_of_ble_eq_true rfl) (g := (mkF m 11 #[.val (.ref p0), .val (.ref p1), .val (.int p2), .val (.int p3), .val (.int p4)] [(.int rc_2), (.int (0 : Int32)), (.ref p0)])) rfl rfl (hb hby own_d_method_4_code_11)
  refine Go.st st3 ?_
  rw [own_narC q1_0] at V3
  have K3 : Keep h0 h3 [p0] := (Keep.refl h0 [p0]).wr W3 (Or.inl (List.mem_of_getElem? (i := 0) rfl))
  have O3 := X00.wr W3 hp1
  have N3 := Fr.snoc X3 N1 hp1
  have V3' : Arv Z h3 p0 ka .char (14 : Int32) [(.int rc_2), (.int (0 : Int32)), (.int (0 : Int32)), (.int (0 : Int32)), (.int (0 : Int32)), (.int (0 : Int32)), (.int (0 : Int32)), (.int (0 : Int32)), (.int (0 : Int32)), (.int (0 : Int32)), (.int (0 : Int32)), (.int (0 : Int32)), (.int (0 : Int32)), (.int (0 : Int32))] (.int (0 : Int32)) := V3
  show Go p.tables e below P (T3.setTop (mkF m 12 #[lR p0, lR p1, lI p2, lI p3, lI p4] []))
  refine Go.st (fun _ => XS.aloadN X3.here hx rfl (hb hby own_d_method_4_code_12) rfl rfl) ?_
  show Go p.tables e below P (T3.setTop (mkF m 13 #[lR p0, lR p1, lI p2, lI p3, lI p4] [(.ref p0)]))
  refine Go.st (fun _ => XS.iconst X3.here hx rfl (hb hby own_d_method_4_code_13)) ?_
  show Go p.tables e below P (T3.setTop (mkF m 14 #[lR p0, lR p1, lI p2, lI p3, lI p4] [(.int (1 : Int32)), (.ref p0)]))
  refine Go.st (fun _ => XS.aloadN X3.here hx rfl (hb hby own_d_method_4_code_14) rfl rfl) ?_
  show Go p.tables e below P (T3.setTop (mkF m 15 #[lR p0, lR p1, lI p2, lI p3, lI p4] [(.ref p1), (.int (1 : Int32)), (.ref p0)]))
  refine Go.st (fun _ => XS.iconst X3.here hx rfl (hb hby own_d_method_4_code_15)) ?_
  show Go p.tables e below P (T3.setTop (mkF m 16 #[lR p0, lR p1, lI p2, lI p3, lI p4] [(.int (1 : Int32)), (.ref p1), (.int (1 : Int32)), (.ref p0)]))
  refine Go.st (fun _ => XS.iloadN X3.here hx rfl (hb hby own_d_method_4_code_16) rfl) ?_
  show Go p.tables e below P (T3.setTop (mkF m 17 #[lR p0, lR p1, lI p2, lI p3, lI p4] [(.int p2), (.int (1 : Int32)), (.ref p1), (.int (1 : Int32)), (.ref p0)]))
  refine Go.st (fun _ => XS.iloadN X3.here hx rfl (hb hby own_d_method_4_code_17) rfl) ?_
  show Go p.tables e below P (T3.setTop (mkF m 18 #[lR p0, lR p1, lI p2, lI p3, lI p4] [(.int p3), (.int p2), (.int (1 : Int32)), (.ref p1), (.int (1 : Int32)), (.ref p0)]))
  refine Go.st (fun _ => XS.iload X3.here hx rfl (hb hby own_d_method_4_code_18) rfl) ?_
  show Go p.tables e below P (T3.setTop (mkF m 20 #[lR p0, lR p1, lI p2, lI p3, lI p4] [(.int p4), (.int p3), (.int p2), (.int (1 : Int32)), (.ref p1), (.int (1 : Int32)), (.ref p0)]))
  have c5 := (hp2.wr W3)
  have c6 := (hp3.other W3 (Or.inl (Exa.neArv hp2 hp0 (ow hw 2 rfl))))
  have c7 := (hp4.other W3 (Or.inl (Exa.neArv hp2 hp0 (ow hw 2 rfl))))
  have c8 := (hp5.other W3 hp8)
  obtain ⟨_, _, ⟨T4, L4, k4, n4⟩, -, X4, ⟨Lc4, hQ4, l4, y4, z4⟩, st4⟩ := Jvm.LawKit.callS X3 hx (y := (⟨"com/example/vacuum/vacuum/model/MethodOfWireNamePinLaw", "at", "(Ljava/lang/String;IICC)C"⟩ : MethodName)) hown (mvT hZ (ow hw 13 rfl)) (mvT hZ (ow hw 14 rfl)) (mvT hZ (ow hw 11 rfl)) (mvT hZ (ow hw 15 rfl)) (by decide) (backOf (W := 2) (rm_at l Z a0 hw [] w_N S_N X_N w_K S_K X_K w_V k_V S_V X_V V_V w_NS F_NS X_NS I_NS_coder w_NB k_NB F_NB V_NB w_KS F_KS X_KS I_KS_coder w_KB k_KB F_KB V_KB w_OE S_OE X_OE I_OE_value g_CS S_CS nz_CS g_SF S_SF r_SF p1 (1 : Int32) p2 p3 p4 pcs pv pk h3 n0 O3 c5 c6 c7 c8 hpc1 hle1 hs3 hs4 (by decide)) hZ (ow hw 15 rfl) (ow hw 11 rfl) (by decide) (by decide)) (g := (mkF m 20 #[.val (.ref p0), .val (.ref p1), .val (.int p2), .val (.int p3), .val (.int p4)] [(.int p4), (.int p3), (.int p2), (.int (1 : Int32)), (.ref p1), (.int (1 : Int32)), (.ref p0)])) rfl (by rw [hml]; rfl) (argsL := [(.ref p1), (.int (1 : Int32)), (.int p2), (.int p3), (.int p4)]) (rest := [(.int (1 : Int32)), (.ref p0)]) (lenOf own_pd9 rfl) rfl (by show 2 * 0 + _ ≤ _; exact Nat.le_of_eq rfl) (hb hby own_d_method_4_code_20) (fun _ _ => ⟨rfl, e3, (by decide : 0 + 0 ≤ _), (by decide : 0 + 0 ≤ _)⟩)
  dsimp only [Pt.U, Pt.locs, Pt.cells, Pt.slots] at X4 l4 y4 z4 st4 hQ4
  subst y4 z4
  refine Go.st st4 ?_
  obtain ⟨rc_9, rfl, N4q, e4, q4_0⟩ := hQ4
  have N4 : Fr n0 L4 := by rw [l4]; exact Fr.app N3 N4q
  show Go p.tables e below P (T4.setTop (mkF m 23 #[lR p0, lR p1, lI p2, lI p3, lI p4] [(.int rc_9), (.int (1 : Int32)), (.ref p0)]))
  obtain ⟨T10, h10, X10, e10, W10, V10, st10⟩ := own_stC X4 hx hZ e4 V3' (j := (1 : Int32)) (i := 1) (by decide) (by decide) (Nat.le_of_ble_eq_true rfl) (g := (mkF m 23 #[.val (.ref p0), .val (.ref p1), .val (.int p2), .val (.int p3), .val (.int p4)] [(.int rc_9), (.int (1 : Int32)), (.ref p0)])) rfl rfl (hb hby own_d_method_4_code_23)
  refine Go.st st10 ?_
  rw [own_narC q4_0] at V10
  have K10 : Keep h0 h10 [p0] := K3.wr W10 (Or.inl (List.mem_of_getElem? (i := 0) rfl))
  have O10 := O3.wr W10 hp1
  have N10 := Fr.snoc X10 N4 hp1
  have V10' : Arv Z h10 p0 ka .char (14 : Int32) [(.int rc_2), (.int rc_9), (.int (0 : Int32)), (.int (0 : Int32)), (.int (0 : Int32)), (.int (0 : Int32)), (.int (0 : Int32)), (.int (0 : Int32)), (.int (0 : Int32)), (.int (0 : Int32)), (.int (0 : Int32)), (.int (0 : Int32)), (.int (0 : Int32)), (.int (0 : Int32))] (.int (0 : Int32)) := V10
  show Go p.tables e below P (T10.setTop (mkF m 24 #[lR p0, lR p1, lI p2, lI p3, lI p4] []))
  refine Go.st (fun _ => XS.aloadN X10.here hx rfl (hb hby own_d_method_4_code_24) rfl rfl) ?_
  show Go p.tables e below P (T10.setTop (mkF m 25 #[lR p0, lR p1, lI p2, lI p3, lI p4] [(.ref p0)]))
  refine Go.st (fun _ => XS.iconst X10.here hx rfl (hb hby own_d_method_4_code_25)) ?_
  show Go p.tables e below P (T10.setTop (mkF m 26 #[lR p0, lR p1, lI p2, lI p3, lI p4] [(.int (2 : Int32)), (.ref p0)]))
  refine Go.st (fun _ => XS.aloadN X10.here hx rfl (hb hby own_d_method_4_code_26) rfl rfl) ?_
  show Go p.tables e below P (T10.setTop (mkF m 27 #[lR p0, lR p1, lI p2, lI p3, lI p4] [(.ref p1), (.int (2 : Int32)), (.ref p0)]))
  refine Go.st (fun _ => XS.iconst X10.here hx rfl (hb hby own_d_method_4_code_27)) ?_
  show Go p.tables e below P (T10.setTop (mkF m 28 #[lR p0, lR p1, lI p2, lI p3, lI p4] [(.int (2 : Int32)), (.ref p1), (.int (2 : Int32)), (.ref p0)]))
  refine Go.st (fun _ => XS.iloadN X10.here hx rfl (hb hby own_d_method_4_code_28) rfl) ?_
  show Go p.tables e below P (T10.setTop (mkF m 29 #[lR p0, lR p1, lI p2, lI p3, lI p4] [(.int p2), (.int (2 : Int32)), (.ref p1), (.int (2 : Int32)), (.ref p0)]))
  refine Go.st (fun _ => XS.iloadN X10.here hx rfl (hb hby own_d_method_4_code_29) rfl) ?_
  show Go p.tables e below P (T10.setTop (mkF m 30 #[lR p0, lR p1, lI p2, lI p3, lI p4] [(.int p3), (.int p2), (.int (2 : Int32)), (.ref p1), (.int (2 : Int32)), (.ref p0)]))
  refine Go.st (fun _ => XS.iload X10.here hx rfl (hb hby own_d_method_4_code_30) rfl) ?_
  show Go p.tables e below P (T10.setTop (mkF m 32 #[lR p0, lR p1, lI p2, lI p3, lI p4] [(.int p4), (.int p3), (.int p2), (.int (2 : Int32)), (.ref p1), (.int (2 : Int32)), (.ref p0)]))
  have c12 := (c5.wr W10)
  have c13 := (c6.other W10 (Or.inl (Exa.neArv hp2 hp0 (ow hw 2 rfl))))
  have c14 := (c7.other W10 (Or.inl (Exa.neArv hp2 hp0 (ow hw 2 rfl))))
  have c15 := (c8.other W10 hp8)
  obtain ⟨_, _, ⟨T11, L11, k11, n11⟩, -, X11, ⟨Lc11, hQ11, l11, y11, z11⟩, st11⟩ := Jvm.LawKit.callS X10 hx (y := (⟨"com/example/vacuum/vacuum/model/MethodOfWireNamePinLaw", "at", "(Ljava/lang/String;IICC)C"⟩ : MethodName)) hown (mvT hZ (ow hw 13 rfl)) (mvT hZ (ow hw 14 rfl)) (mvT hZ (ow hw 11 rfl)) (mvT hZ (ow hw 15 rfl)) (by decide) (backOf (W := 2) (rm_at l Z a0 hw [] w_N S_N X_N w_K S_K X_K w_V k_V S_V X_V V_V w_NS F_NS X_NS I_NS_coder w_NB k_NB F_NB V_NB w_KS F_KS X_KS I_KS_coder w_KB k_KB F_KB V_KB w_OE S_OE X_OE I_OE_value g_CS S_CS nz_CS g_SF S_SF r_SF p1 (2 : Int32) p2 p3 p4 pcs pv pk h10 n0 O10 c12 c13 c14 c15 hpc1 hle1 hs3 hs4 (by decide)) hZ (ow hw 15 rfl) (ow hw 11 rfl) (by decide) (by decide)) (g := (mkF m 32 #[.val (.ref p0), .val (.ref p1), .val (.int p2), .val (.int p3), .val (.int p4)] [(.int p4), (.int p3), (.int p2), (.int (2 : Int32)), (.ref p1), (.int (2 : Int32)), (.ref p0)])) rfl (by rw [hml]; rfl) (argsL := [(.ref p1), (.int (2 : Int32)), (.int p2), (.int p3), (.int p4)]) (rest := [(.int (2 : Int32)), (.ref p0)]) (lenOf own_pd9 rfl) rfl (by show 2 * 0 + _ ≤ _; exact Nat.le_of_eq rfl) (hb hby own_d_method_4_code_32) (fun _ _ => ⟨rfl, e10, (by decide : 0 + 0 ≤ _), (by decide : 0 + 0 ≤ _)⟩)
  dsimp only [Pt.U, Pt.locs, Pt.cells, Pt.slots] at X11 l11 y11 z11 st11 hQ11
  subst y11 z11
  refine Go.st st11 ?_
  obtain ⟨rc_16, rfl, N11q, e11, q11_0⟩ := hQ11
  have N11 : Fr n0 L11 := by rw [l11]; exact Fr.app N10 N11q
  show Go p.tables e below P (T11.setTop (mkF m 35 #[lR p0, lR p1, lI p2, lI p3, lI p4] [(.int rc_16), (.int (2 : Int32)), (.ref p0)]))
  obtain ⟨T17, h17, X17, e17, W17, V17, st17⟩ := own_stC X11 hx hZ e11 V10' (j := (2 : Int32)) (i := 2) (by decide) (by decide) (Nat.le_of_ble_eq_true rfl) (g := (mkF m 35 #[.val (.ref p0), .val (.ref p1), .val (.int p2), .val (.int p3), .val (.int p4)] [(.int rc_16), (.int (2 : Int32)), (.ref p0)])) rfl rfl (hb hby own_d_method_4_code_35)
  refine Go.st st17 ?_
  rw [own_narC q11_0] at V17
  have K17 : Keep h0 h17 [p0] := K10.wr W17 (Or.inl (List.mem_of_getElem? (i := 0) rfl))
  have O17 := O10.wr W17 hp1
  have N17 := Fr.snoc X17 N11 hp1
  have V17' : Arv Z h17 p0 ka .char (14 : Int32) [(.int rc_2), (.int rc_9), (.int rc_16), (.int (0 : Int32)), (.int (0 : Int32)), (.int (0 : Int32)), (.int (0 : Int32)), (.int (0 : Int32)), (.int (0 : Int32)), (.int (0 : Int32)), (.int (0 : Int32)), (.int (0 : Int32)), (.int (0 : Int32)), (.int (0 : Int32))] (.int (0 : Int32)) := V17
  show Go p.tables e below P (T17.setTop (mkF m 36 #[lR p0, lR p1, lI p2, lI p3, lI p4] []))
  refine Go.st (fun _ => XS.aloadN X17.here hx rfl (hb hby own_d_method_4_code_36) rfl rfl) ?_
  show Go p.tables e below P (T17.setTop (mkF m 37 #[lR p0, lR p1, lI p2, lI p3, lI p4] [(.ref p0)]))
  refine Go.st (fun _ => XS.iconst X17.here hx rfl (hb hby own_d_method_4_code_37)) ?_
  show Go p.tables e below P (T17.setTop (mkF m 38 #[lR p0, lR p1, lI p2, lI p3, lI p4] [(.int (3 : Int32)), (.ref p0)]))
  refine Go.st (fun _ => XS.aloadN X17.here hx rfl (hb hby own_d_method_4_code_38) rfl rfl) ?_
  show Go p.tables e below P (T17.setTop (mkF m 39 #[lR p0, lR p1, lI p2, lI p3, lI p4] [(.ref p1), (.int (3 : Int32)), (.ref p0)]))
  refine Go.st (fun _ => XS.iconst X17.here hx rfl (hb hby own_d_method_4_code_39)) ?_
  show Go p.tables e below P (T17.setTop (mkF m 40 #[lR p0, lR p1, lI p2, lI p3, lI p4] [(.int (3 : Int32)), (.ref p1), (.int (3 : Int32)), (.ref p0)]))
  refine Go.st (fun _ => XS.iloadN X17.here hx rfl (hb hby own_d_method_4_code_40) rfl) ?_
  show Go p.tables e below P (T17.setTop (mkF m 41 #[lR p0, lR p1, lI p2, lI p3, lI p4] [(.int p2), (.int (3 : Int32)), (.ref p1), (.int (3 : Int32)), (.ref p0)]))
  refine Go.st (fun _ => XS.iloadN X17.here hx rfl (hb hby own_d_method_4_code_41) rfl) ?_
  show Go p.tables e below P (T17.setTop (mkF m 42 #[lR p0, lR p1, lI p2, lI p3, lI p4] [(.int p3), (.int p2), (.int (3 : Int32)), (.ref p1), (.int (3 : Int32)), (.ref p0)]))
  refine Go.st (fun _ => XS.iload X17.here hx rfl (hb hby own_d_method_4_code_42) rfl) ?_
  show Go p.tables e below P (T17.setTop (mkF m 44 #[lR p0, lR p1, lI p2, lI p3, lI p4] [(.int p4), (.int p3), (.int p2), (.int (3 : Int32)), (.ref p1), (.int (3 : Int32)), (.ref p0)]))
  have c19 := (c12.wr W17)
  have c20 := (c13.other W17 (Or.inl (Exa.neArv hp2 hp0 (ow hw 2 rfl))))
  have c21 := (c14.other W17 (Or.inl (Exa.neArv hp2 hp0 (ow hw 2 rfl))))
  have c22 := (c15.other W17 hp8)
  obtain ⟨_, _, ⟨T18, L18, k18, n18⟩, -, X18, ⟨Lc18, hQ18, l18, y18, z18⟩, st18⟩ := Jvm.LawKit.callS X17 hx (y := (⟨"com/example/vacuum/vacuum/model/MethodOfWireNamePinLaw", "at", "(Ljava/lang/String;IICC)C"⟩ : MethodName)) hown (mvT hZ (ow hw 13 rfl)) (mvT hZ (ow hw 14 rfl)) (mvT hZ (ow hw 11 rfl)) (mvT hZ (ow hw 15 rfl)) (by decide) (backOf (W := 2) (rm_at l Z a0 hw [] w_N S_N X_N w_K S_K X_K w_V k_V S_V X_V V_V w_NS F_NS X_NS I_NS_coder w_NB k_NB F_NB V_NB w_KS F_KS X_KS I_KS_coder w_KB k_KB F_KB V_KB w_OE S_OE X_OE I_OE_value g_CS S_CS nz_CS g_SF S_SF r_SF p1 (3 : Int32) p2 p3 p4 pcs pv pk h17 n0 O17 c19 c20 c21 c22 hpc1 hle1 hs3 hs4 (by decide)) hZ (ow hw 15 rfl) (ow hw 11 rfl) (by decide) (by decide)) (g := (mkF m 44 #[.val (.ref p0), .val (.ref p1), .val (.int p2), .val (.int p3), .val (.int p4)] [(.int p4), (.int p3), (.int p2), (.int (3 : Int32)), (.ref p1), (.int (3 : Int32)), (.ref p0)])) rfl (by rw [hml]; rfl) (argsL := [(.ref p1), (.int (3 : Int32)), (.int p2), (.int p3), (.int p4)]) (rest := [(.int (3 : Int32)), (.ref p0)]) (lenOf own_pd9 rfl) rfl (by show 2 * 0 + _ ≤ _; exact Nat.le_of_eq rfl) (hb hby own_d_method_4_code_44) (fun _ _ => ⟨rfl, e17, (by decide : 0 + 0 ≤ _), (by decide : 0 + 0 ≤ _)⟩)
  dsimp only [Pt.U, Pt.locs, Pt.cells, Pt.slots] at X18 l18 y18 z18 st18 hQ18
  subst y18 z18
  refine Go.st st18 ?_
  obtain ⟨rc_23, rfl, N18q, e18, q18_0⟩ := hQ18
  have N18 : Fr n0 L18 := by rw [l18]; exact Fr.app N17 N18q
  show Go p.tables e below P (T18.setTop (mkF m 47 #[lR p0, lR p1, lI p2, lI p3, lI p4] [(.int rc_23), (.int (3 : Int32)), (.ref p0)]))
  obtain ⟨T24, h24, X24, e24, W24, V24, st24⟩ := own_stC X18 hx hZ e18 V17' (j := (3 : Int32)) (i := 3) (by decide) (by decide) (Nat.le_of_ble_eq_true rfl) (g := (mkF m 47 #[.val (.ref p0), .val (.ref p1), .val (.int p2), .val (.int p3), .val (.int p4)] [(.int rc_23), (.int (3 : Int32)), (.ref p0)])) rfl rfl (hb hby own_d_method_4_code_47)
  refine Go.st st24 ?_
  rw [own_narC q18_0] at V24
  have K24 : Keep h0 h24 [p0] := K17.wr W24 (Or.inl (List.mem_of_getElem? (i := 0) rfl))
  have O24 := O17.wr W24 hp1
  have N24 := Fr.snoc X24 N18 hp1
  have V24' : Arv Z h24 p0 ka .char (14 : Int32) [(.int rc_2), (.int rc_9), (.int rc_16), (.int rc_23), (.int (0 : Int32)), (.int (0 : Int32)), (.int (0 : Int32)), (.int (0 : Int32)), (.int (0 : Int32)), (.int (0 : Int32)), (.int (0 : Int32)), (.int (0 : Int32)), (.int (0 : Int32)), (.int (0 : Int32))] (.int (0 : Int32)) := V24
  show Go p.tables e below P (T24.setTop (mkF m 48 #[lR p0, lR p1, lI p2, lI p3, lI p4] []))
  refine Go.st (fun _ => XS.aloadN X24.here hx rfl (hb hby own_d_method_4_code_48) rfl rfl) ?_
  show Go p.tables e below P (T24.setTop (mkF m 49 #[lR p0, lR p1, lI p2, lI p3, lI p4] [(.ref p0)]))
  refine Go.st (fun _ => XS.iconst X24.here hx rfl (hb hby own_d_method_4_code_49)) ?_
  show Go p.tables e below P (T24.setTop (mkF m 50 #[lR p0, lR p1, lI p2, lI p3, lI p4] [(.int (4 : Int32)), (.ref p0)]))
  refine Go.st (fun _ => XS.aloadN X24.here hx rfl (hb hby own_d_method_4_code_50) rfl rfl) ?_
  show Go p.tables e below P (T24.setTop (mkF m 51 #[lR p0, lR p1, lI p2, lI p3, lI p4] [(.ref p1), (.int (4 : Int32)), (.ref p0)]))
  refine Go.st (fun _ => XS.iconst X24.here hx rfl (hb hby own_d_method_4_code_51)) ?_
  show Go p.tables e below P (T24.setTop (mkF m 52 #[lR p0, lR p1, lI p2, lI p3, lI p4] [(.int (4 : Int32)), (.ref p1), (.int (4 : Int32)), (.ref p0)]))
  refine Go.st (fun _ => XS.iloadN X24.here hx rfl (hb hby own_d_method_4_code_52) rfl) ?_
  show Go p.tables e below P (T24.setTop (mkF m 53 #[lR p0, lR p1, lI p2, lI p3, lI p4] [(.int p2), (.int (4 : Int32)), (.ref p1), (.int (4 : Int32)), (.ref p0)]))
  refine Go.st (fun _ => XS.iloadN X24.here hx rfl (hb hby own_d_method_4_code_53) rfl) ?_
  show Go p.tables e below P (T24.setTop (mkF m 54 #[lR p0, lR p1, lI p2, lI p3, lI p4] [(.int p3), (.int p2), (.int (4 : Int32)), (.ref p1), (.int (4 : Int32)), (.ref p0)]))
  refine Go.st (fun _ => XS.iload X24.here hx rfl (hb hby own_d_method_4_code_54) rfl) ?_
  show Go p.tables e below P (T24.setTop (mkF m 56 #[lR p0, lR p1, lI p2, lI p3, lI p4] [(.int p4), (.int p3), (.int p2), (.int (4 : Int32)), (.ref p1), (.int (4 : Int32)), (.ref p0)]))
  have c26 := (c19.wr W24)
  have c27 := (c20.other W24 (Or.inl (Exa.neArv hp2 hp0 (ow hw 2 rfl))))
  have c28 := (c21.other W24 (Or.inl (Exa.neArv hp2 hp0 (ow hw 2 rfl))))
  have c29 := (c22.other W24 hp8)
  obtain ⟨_, _, ⟨T25, L25, k25, n25⟩, -, X25, ⟨Lc25, hQ25, l25, y25, z25⟩, st25⟩ := Jvm.LawKit.callS X24 hx (y := (⟨"com/example/vacuum/vacuum/model/MethodOfWireNamePinLaw", "at", "(Ljava/lang/String;IICC)C"⟩ : MethodName)) hown (mvT hZ (ow hw 13 rfl)) (mvT hZ (ow hw 14 rfl)) (mvT hZ (ow hw 11 rfl)) (mvT hZ (ow hw 15 rfl)) (by decide) (backOf (W := 2) (rm_at l Z a0 hw [] w_N S_N X_N w_K S_K X_K w_V k_V S_V X_V V_V w_NS F_NS X_NS I_NS_coder w_NB k_NB F_NB V_NB w_KS F_KS X_KS I_KS_coder w_KB k_KB F_KB V_KB w_OE S_OE X_OE I_OE_value g_CS S_CS nz_CS g_SF S_SF r_SF p1 (4 : Int32) p2 p3 p4 pcs pv pk h24 n0 O24 c26 c27 c28 c29 hpc1 hle1 hs3 hs4 (by decide)) hZ (ow hw 15 rfl) (ow hw 11 rfl) (by decide) (by decide)) (g := (mkF m 56 #[.val (.ref p0), .val (.ref p1), .val (.int p2), .val (.int p3), .val (.int p4)] [(.int p4), (.int p3), (.int p2), (.int (4 : Int32)), (.ref p1), (.int (4 : Int32)), (.ref p0)])) rfl (by rw [hml]; rfl) (argsL := [(.ref p1), (.int (4 : Int32)), (.int p2), (.int p3), (.int p4)]) (rest := [(.int (4 : Int32)), (.ref p0)]) (lenOf own_pd9 rfl) rfl (by show 2 * 0 + _ ≤ _; exact Nat.le_of_eq rfl) (hb hby own_d_method_4_code_56) (fun _ _ => ⟨rfl, e24, (by decide : 0 + 0 ≤ _), (by decide : 0 + 0 ≤ _)⟩)
  dsimp only [Pt.U, Pt.locs, Pt.cells, Pt.slots] at X25 l25 y25 z25 st25 hQ25
  subst y25 z25
  refine Go.st st25 ?_
  obtain ⟨rc_30, rfl, N25q, e25, q25_0⟩ := hQ25
  have N25 : Fr n0 L25 := by rw [l25]; exact Fr.app N24 N25q
  show Go p.tables e below P (T25.setTop (mkF m 59 #[lR p0, lR p1, lI p2, lI p3, lI p4] [(.int rc_30), (.int (4 : Int32)), (.ref p0)]))
  obtain ⟨T31, h31, X31, e31, W31, V31, st31⟩ := own_stC X25 hx hZ e25 V24' (j := (4 : Int32)) (i := 4) (by decide) (by decide) (Nat.le_of_ble_eq_true rfl) (g := (mkF m 59 #[.val (.ref p0), .val (.ref p1), .val (.int p2), .val (.int p3), .val (.int p4)] [(.int rc_30), (.int (4 : Int32)), (.ref p0)])) rfl rfl (hb hby own_d_method_4_code_59)
  refine Go.st st31 ?_
  rw [own_narC q25_0] at V31
  have K31 : Keep h0 h31 [p0] := K24.wr W31 (Or.inl (List.mem_of_getElem? (i := 0) rfl))
  have O31 := O24.wr W31 hp1
  have N31 := Fr.snoc X31 N25 hp1
  have V31' : Arv Z h31 p0 ka .char (14 : Int32) [(.int rc_2), (.int rc_9), (.int rc_16), (.int rc_23), (.int rc_30), (.int (0 : Int32)), (.int (0 : Int32)), (.int (0 : Int32)), (.int (0 : Int32)), (.int (0 : Int32)), (.int (0 : Int32)), (.int (0 : Int32)), (.int (0 : Int32)), (.int (0 : Int32))] (.int (0 : Int32)) := V31
  show Go p.tables e below P (T31.setTop (mkF m 60 #[lR p0, lR p1, lI p2, lI p3, lI p4] []))
  refine Go.st (fun _ => XS.aloadN X31.here hx rfl (hb hby own_d_method_4_code_60) rfl rfl) ?_
  show Go p.tables e below P (T31.setTop (mkF m 61 #[lR p0, lR p1, lI p2, lI p3, lI p4] [(.ref p0)]))
  refine Go.st (fun _ => XS.iconst X31.here hx rfl (hb hby own_d_method_4_code_61)) ?_
  show Go p.tables e below P (T31.setTop (mkF m 62 #[lR p0, lR p1, lI p2, lI p3, lI p4] [(.int (5 : Int32)), (.ref p0)]))
  refine Go.st (fun _ => XS.aloadN X31.here hx rfl (hb hby own_d_method_4_code_62) rfl rfl) ?_
  show Go p.tables e below P (T31.setTop (mkF m 63 #[lR p0, lR p1, lI p2, lI p3, lI p4] [(.ref p1), (.int (5 : Int32)), (.ref p0)]))
  refine Go.st (fun _ => XS.iconst X31.here hx rfl (hb hby own_d_method_4_code_63)) ?_
  show Go p.tables e below P (T31.setTop (mkF m 64 #[lR p0, lR p1, lI p2, lI p3, lI p4] [(.int (5 : Int32)), (.ref p1), (.int (5 : Int32)), (.ref p0)]))
  refine Go.st (fun _ => XS.iloadN X31.here hx rfl (hb hby own_d_method_4_code_64) rfl) ?_
  show Go p.tables e below P (T31.setTop (mkF m 65 #[lR p0, lR p1, lI p2, lI p3, lI p4] [(.int p2), (.int (5 : Int32)), (.ref p1), (.int (5 : Int32)), (.ref p0)]))
  refine Go.st (fun _ => XS.iloadN X31.here hx rfl (hb hby own_d_method_4_code_65) rfl) ?_
  show Go p.tables e below P (T31.setTop (mkF m 66 #[lR p0, lR p1, lI p2, lI p3, lI p4] [(.int p3), (.int p2), (.int (5 : Int32)), (.ref p1), (.int (5 : Int32)), (.ref p0)]))
  refine Go.st (fun _ => XS.iload X31.here hx rfl (hb hby own_d_method_4_code_66) rfl) ?_
  show Go p.tables e below P (T31.setTop (mkF m 68 #[lR p0, lR p1, lI p2, lI p3, lI p4] [(.int p4), (.int p3), (.int p2), (.int (5 : Int32)), (.ref p1), (.int (5 : Int32)), (.ref p0)]))
  have c33 := (c26.wr W31)
  have c34 := (c27.other W31 (Or.inl (Exa.neArv hp2 hp0 (ow hw 2 rfl))))
  have c35 := (c28.other W31 (Or.inl (Exa.neArv hp2 hp0 (ow hw 2 rfl))))
  have c36 := (c29.other W31 hp8)
  obtain ⟨_, _, ⟨T32, L32, k32, n32⟩, -, X32, ⟨Lc32, hQ32, l32, y32, z32⟩, st32⟩ := Jvm.LawKit.callS X31 hx (y := (⟨"com/example/vacuum/vacuum/model/MethodOfWireNamePinLaw", "at", "(Ljava/lang/String;IICC)C"⟩ : MethodName)) hown (mvT hZ (ow hw 13 rfl)) (mvT hZ (ow hw 14 rfl)) (mvT hZ (ow hw 11 rfl)) (mvT hZ (ow hw 15 rfl)) (by decide) (backOf (W := 2) (rm_at l Z a0 hw [] w_N S_N X_N w_K S_K X_K w_V k_V S_V X_V V_V w_NS F_NS X_NS I_NS_coder w_NB k_NB F_NB V_NB w_KS F_KS X_KS I_KS_coder w_KB k_KB F_KB V_KB w_OE S_OE X_OE I_OE_value g_CS S_CS nz_CS g_SF S_SF r_SF p1 (5 : Int32) p2 p3 p4 pcs pv pk h31 n0 O31 c33 c34 c35 c36 hpc1 hle1 hs3 hs4 (by decide)) hZ (ow hw 15 rfl) (ow hw 11 rfl) (by decide) (by decide)) (g := (mkF m 68 #[.val (.ref p0), .val (.ref p1), .val (.int p2), .val (.int p3), .val (.int p4)] [(.int p4), (.int p3), (.int p2), (.int (5 : Int32)), (.ref p1), (.int (5 : Int32)), (.ref p0)])) rfl (by rw [hml]; rfl) (argsL := [(.ref p1), (.int (5 : Int32)), (.int p2), (.int p3), (.int p4)]) (rest := [(.int (5 : Int32)), (.ref p0)]) (lenOf own_pd9 rfl) rfl (by show 2 * 0 + _ ≤ _; exact Nat.le_of_eq rfl) (hb hby own_d_method_4_code_68) (fun _ _ => ⟨rfl, e31, (by decide : 0 + 0 ≤ _), (by decide : 0 + 0 ≤ _)⟩)
  dsimp only [Pt.U, Pt.locs, Pt.cells, Pt.slots] at X32 l32 y32 z32 st32 hQ32
  subst y32 z32
  refine Go.st st32 ?_
  obtain ⟨rc_37, rfl, N32q, e32, q32_0⟩ := hQ32
  have N32 : Fr n0 L32 := by rw [l32]; exact Fr.app N31 N32q
  show Go p.tables e below P (T32.setTop (mkF m 71 #[lR p0, lR p1, lI p2, lI p3, lI p4] [(.int rc_37), (.int (5 : Int32)), (.ref p0)]))
  obtain ⟨T38, h38, X38, e38, W38, V38, st38⟩ := own_stC X32 hx hZ e32 V31' (j := (5 : Int32)) (i := 5) (by decide) (by decide) (Nat.le_of_ble_eq_true rfl) (g := (mkF m 71 #[.val (.ref p0), .val (.ref p1), .val (.int p2), .val (.int p3), .val (.int p4)] [(.int rc_37), (.int (5 : Int32)), (.ref p0)])) rfl rfl (hb hby own_d_method_4_code_71)
  refine Go.st st38 ?_
  rw [own_narC q32_0] at V38
  have K38 : Keep h0 h38 [p0] := K31.wr W38 (Or.inl (List.mem_of_getElem? (i := 0) rfl))
  have O38 := O31.wr W38 hp1
  have N38 := Fr.snoc X38 N32 hp1
  have V38' : Arv Z h38 p0 ka .char (14 : Int32) [(.int rc_2), (.int rc_9), (.int rc_16), (.int rc_23), (.int rc_30), (.int rc_37), (.int (0 : Int32)), (.int (0 : Int32)), (.int (0 : Int32)), (.int (0 : Int32)), (.int (0 : Int32)), (.int (0 : Int32)), (.int (0 : Int32)), (.int (0 : Int32))] (.int (0 : Int32)) := V38
  show Go p.tables e below P (T38.setTop (mkF m 72 #[lR p0, lR p1, lI p2, lI p3, lI p4] []))
  refine Go.st (fun _ => XS.aloadN X38.here hx rfl (hb hby own_d_method_4_code_72) rfl rfl) ?_
  show Go p.tables e below P (T38.setTop (mkF m 73 #[lR p0, lR p1, lI p2, lI p3, lI p4] [(.ref p0)]))
  refine Go.st (fun _ => XS.bipush X38.here hx rfl (hb hby own_d_method_4_code_73)) ?_
  show Go p.tables e below P (T38.setTop (mkF m 75 #[lR p0, lR p1, lI p2, lI p3, lI p4] [(.int (6 : Int32)), (.ref p0)]))
  refine Go.st (fun _ => XS.aloadN X38.here hx rfl (hb hby own_d_method_4_code_75) rfl rfl) ?_
  show Go p.tables e below P (T38.setTop (mkF m 76 #[lR p0, lR p1, lI p2, lI p3, lI p4] [(.ref p1), (.int (6 : Int32)), (.ref p0)]))
  refine Go.st (fun _ => XS.bipush X38.here hx rfl (hb hby own_d_method_4_code_76)) ?_
  show Go p.tables e below P (T38.setTop (mkF m 78 #[lR p0, lR p1, lI p2, lI p3, lI p4] [(.int (6 : Int32)), (.ref p1), (.int (6 : Int32)), (.ref p0)]))
  refine Go.st (fun _ => XS.iloadN X38.here hx rfl (hb hby own_d_method_4_code_78) rfl) ?_
  show Go p.tables e below P (T38.setTop (mkF m 79 #[lR p0, lR p1, lI p2, lI p3, lI p4] [(.int p2), (.int (6 : Int32)), (.ref p1), (.int (6 : Int32)), (.ref p0)]))
  refine Go.st (fun _ => XS.iloadN X38.here hx rfl (hb hby own_d_method_4_code_79) rfl) ?_
  show Go p.tables e below P (T38.setTop (mkF m 80 #[lR p0, lR p1, lI p2, lI p3, lI p4] [(.int p3), (.int p2), (.int (6 : Int32)), (.ref p1), (.int (6 : Int32)), (.ref p0)]))
  refine Go.st (fun _ => XS.iload X38.here hx rfl (hb hby own_d_method_4_code_80) rfl) ?_
  show Go p.tables e below P (T38.setTop (mkF m 82 #[lR p0, lR p1, lI p2, lI p3, lI p4] [(.int p4), (.int p3), (.int p2), (.int (6 : Int32)), (.ref p1), (.int (6 : Int32)), (.ref p0)]))
  have c40 := (c33.wr W38)
  have c41 := (c34.other W38 (Or.inl (Exa.neArv hp2 hp0 (ow hw 2 rfl))))
  have c42 := (c35.other W38 (Or.inl (Exa.neArv hp2 hp0 (ow hw 2 rfl))))
  have c43 := (c36.other W38 hp8)
  obtain ⟨_, _, ⟨T39, L39, k39, n39⟩, -, X39, ⟨Lc39, hQ39, l39, y39, z39⟩, st39⟩ := Jvm.LawKit.callS X38 hx (y := (⟨"com/example/vacuum/vacuum/model/MethodOfWireNamePinLaw", "at", "(Ljava/lang/String;IICC)C"⟩ : MethodName)) hown (mvT hZ (ow hw 13 rfl)) (mvT hZ (ow hw 14 rfl)) (mvT hZ (ow hw 11 rfl)) (mvT hZ (ow hw 15 rfl)) (by decide) (backOf (W := 2) (rm_at l Z a0 hw [] w_N S_N X_N w_K S_K X_K w_V k_V S_V X_V V_V w_NS F_NS X_NS I_NS_coder w_NB k_NB F_NB V_NB w_KS F_KS X_KS I_KS_coder w_KB k_KB F_KB V_KB w_OE S_OE X_OE I_OE_value g_CS S_CS nz_CS g_SF S_SF r_SF p1 (6 : Int32) p2 p3 p4 pcs pv pk h38 n0 O38 c40 c41 c42 c43 hpc1 hle1 hs3 hs4 (by decide)) hZ (ow hw 15 rfl) (ow hw 11 rfl) (by decide) (by decide)) (g := (mkF m 82 #[.val (.ref p0), .val (.ref p1), .val (.int p2), .val (.int p3), .val (.int p4)] [(.int p4), (.int p3), (.int p2), (.int (6 : Int32)), (.ref p1), (.int (6 : Int32)), (.ref p0)])) rfl (by rw [hml]; rfl) (argsL := [(.ref p1), (.int (6 : Int32)), (.int p2), (.int p3), (.int p4)]) (rest := [(.int (6 : Int32)), (.ref p0)]) (lenOf own_pd9 rfl) rfl (by show 2 * 0 + _ ≤ _; exact Nat.le_of_eq rfl) (hb hby own_d_method_4_code_82) (fun _ _ => ⟨rfl, e38, (by decide : 0 + 0 ≤ _), (by decide : 0 + 0 ≤ _)⟩)
  dsimp only [Pt.U, Pt.locs, Pt.cells, Pt.slots] at X39 l39 y39 z39 st39 hQ39
  subst y39 z39
  refine Go.st st39 ?_
  obtain ⟨rc_44, rfl, N39q, e39, q39_0⟩ := hQ39
  have N39 : Fr n0 L39 := by rw [l39]; exact Fr.app N38 N39q
  show Go p.tables e below P (T39.setTop (mkF m 85 #[lR p0, lR p1, lI p2, lI p3, lI p4] [(.int rc_44), (.int (6 : Int32)), (.ref p0)]))
  obtain ⟨T45, h45, X45, e45, W45, V45, st45⟩ := own_stC X39 hx hZ e39 V38' (j := (6 : Int32)) (i := 6) (by decide) (by decide) (Nat.le_of_ble_eq_true rfl) (g := (mkF m 85 #[.val (.ref p0), .val (.ref p1), .val (.int p2), .val (.int p3), .val (.int p4)] [(.int rc_44), (.int (6 : Int32)), (.ref p0)])) rfl rfl (hb hby own_d_method_4_code_85)
  refine Go.st st45 ?_
  rw [own_narC q39_0] at V45
  have K45 : Keep h0 h45 [p0] := K38.wr W45 (Or.inl (List.mem_of_getElem? (i := 0) rfl))
  have O45 := O38.wr W45 hp1
  have N45 := Fr.snoc X45 N39 hp1
  have V45' : Arv Z h45 p0 ka .char (14 : Int32) [(.int rc_2), (.int rc_9), (.int rc_16), (.int rc_23), (.int rc_30), (.int rc_37), (.int rc_44), (.int (0 : Int32)), (.int (0 : Int32)), (.int (0 : Int32)), (.int (0 : Int32)), (.int (0 : Int32)), (.int (0 : Int32)), (.int (0 : Int32))] (.int (0 : Int32)) := V45
  show Go p.tables e below P (T45.setTop (mkF m 86 #[lR p0, lR p1, lI p2, lI p3, lI p4] []))
  refine Go.st (fun _ => XS.aloadN X45.here hx rfl (hb hby own_d_method_4_code_86) rfl rfl) ?_
  show Go p.tables e below P (T45.setTop (mkF m 87 #[lR p0, lR p1, lI p2, lI p3, lI p4] [(.ref p0)]))
  refine Go.st (fun _ => XS.bipush X45.here hx rfl (hb hby own_d_method_4_code_87)) ?_
  show Go p.tables e below P (T45.setTop (mkF m 89 #[lR p0, lR p1, lI p2, lI p3, lI p4] [(.int (7 : Int32)), (.ref p0)]))
  refine Go.st (fun _ => XS.aloadN X45.here hx rfl (hb hby own_d_method_4_code_89) rfl rfl) ?_
  show Go p.tables e below P (T45.setTop (mkF m 90 #[lR p0, lR p1, lI p2, lI p3, lI p4] [(.ref p1), (.int (7 : Int32)), (.ref p0)]))
  refine Go.st (fun _ => XS.bipush X45.here hx rfl (hb hby own_d_method_4_code_90)) ?_
  show Go p.tables e below P (T45.setTop (mkF m 92 #[lR p0, lR p1, lI p2, lI p3, lI p4] [(.int (7 : Int32)), (.ref p1), (.int (7 : Int32)), (.ref p0)]))
  refine Go.st (fun _ => XS.iloadN X45.here hx rfl (hb hby own_d_method_4_code_92) rfl) ?_
  show Go p.tables e below P (T45.setTop (mkF m 93 #[lR p0, lR p1, lI p2, lI p3, lI p4] [(.int p2), (.int (7 : Int32)), (.ref p1), (.int (7 : Int32)), (.ref p0)]))
  refine Go.st (fun _ => XS.iloadN X45.here hx rfl (hb hby own_d_method_4_code_93) rfl) ?_
  show Go p.tables e below P (T45.setTop (mkF m 94 #[lR p0, lR p1, lI p2, lI p3, lI p4] [(.int p3), (.int p2), (.int (7 : Int32)), (.ref p1), (.int (7 : Int32)), (.ref p0)]))
  refine Go.st (fun _ => XS.iload X45.here hx rfl (hb hby own_d_method_4_code_94) rfl) ?_
  show Go p.tables e below P (T45.setTop (mkF m 96 #[lR p0, lR p1, lI p2, lI p3, lI p4] [(.int p4), (.int p3), (.int p2), (.int (7 : Int32)), (.ref p1), (.int (7 : Int32)), (.ref p0)]))
  have c47 := (c40.wr W45)
  have c48 := (c41.other W45 (Or.inl (Exa.neArv hp2 hp0 (ow hw 2 rfl))))
  have c49 := (c42.other W45 (Or.inl (Exa.neArv hp2 hp0 (ow hw 2 rfl))))
  have c50 := (c43.other W45 hp8)
  obtain ⟨_, _, ⟨T46, L46, k46, n46⟩, -, X46, ⟨Lc46, hQ46, l46, y46, z46⟩, st46⟩ := Jvm.LawKit.callS X45 hx (y := (⟨"com/example/vacuum/vacuum/model/MethodOfWireNamePinLaw", "at", "(Ljava/lang/String;IICC)C"⟩ : MethodName)) hown (mvT hZ (ow hw 13 rfl)) (mvT hZ (ow hw 14 rfl)) (mvT hZ (ow hw 11 rfl)) (mvT hZ (ow hw 15 rfl)) (by decide) (backOf (W := 2) (rm_at l Z a0 hw [] w_N S_N X_N w_K S_K X_K w_V k_V S_V X_V V_V w_NS F_NS X_NS I_NS_coder w_NB k_NB F_NB V_NB w_KS F_KS X_KS I_KS_coder w_KB k_KB F_KB V_KB w_OE S_OE X_OE I_OE_value g_CS S_CS nz_CS g_SF S_SF r_SF p1 (7 : Int32) p2 p3 p4 pcs pv pk h45 n0 O45 c47 c48 c49 c50 hpc1 hle1 hs3 hs4 (by decide)) hZ (ow hw 15 rfl) (ow hw 11 rfl) (by decide) (by decide)) (g := (mkF m 96 #[.val (.ref p0), .val (.ref p1), .val (.int p2), .val (.int p3), .val (.int p4)] [(.int p4), (.int p3), (.int p2), (.int (7 : Int32)), (.ref p1), (.int (7 : Int32)), (.ref p0)])) rfl (by rw [hml]; rfl) (argsL := [(.ref p1), (.int (7 : Int32)), (.int p2), (.int p3), (.int p4)]) (rest := [(.int (7 : Int32)), (.ref p0)]) (lenOf own_pd9 rfl) rfl (by show 2 * 0 + _ ≤ _; exact Nat.le_of_eq rfl) (hb hby own_d_method_4_code_96) (fun _ _ => ⟨rfl, e45, (by decide : 0 + 0 ≤ _), (by decide : 0 + 0 ≤ _)⟩)
  dsimp only [Pt.U, Pt.locs, Pt.cells, Pt.slots] at X46 l46 y46 z46 st46 hQ46
  subst y46 z46
  refine Go.st st46 ?_
  obtain ⟨rc_51, rfl, N46q, e46, q46_0⟩ := hQ46
  have N46 : Fr n0 L46 := by rw [l46]; exact Fr.app N45 N46q
  show Go p.tables e below P (T46.setTop (mkF m 99 #[lR p0, lR p1, lI p2, lI p3, lI p4] [(.int rc_51), (.int (7 : Int32)), (.ref p0)]))
  obtain ⟨T52, h52, X52, e52, W52, V52, st52⟩ := own_stC X46 hx hZ e46 V45' (j := (7 : Int32)) (i := 7) (by decide) (by decide) (Nat.le_of_ble_eq_true rfl) (g := (mkF m 99 #[.val (.ref p0), .val (.ref p1), .val (.int p2), .val (.int p3), .val (.int p4)] [(.int rc_51), (.int (7 : Int32)), (.ref p0)])) rfl rfl (hb hby own_d_method_4_code_99)
  refine Go.st st52 ?_
  rw [own_narC q46_0] at V52
  have K52 : Keep h0 h52 [p0] := K45.wr W52 (Or.inl (List.mem_of_getElem? (i := 0) rfl))
  have O52 := O45.wr W52 hp1
  have N52 := Fr.snoc X52 N46 hp1
  have V52' : Arv Z h52 p0 ka .char (14 : Int32) [(.int rc_2), (.int rc_9), (.int rc_16), (.int rc_23), (.int rc_30), (.int rc_37), (.int rc_44), (.int rc_51), (.int (0 : Int32)), (.int (0 : Int32)), (.int (0 : Int32)), (.int (0 : Int32)), (.int (0 : Int32)), (.int (0 : Int32))] (.int (0 : Int32)) := V52
  show Go p.tables e below P (T52.setTop (mkF m 100 #[lR p0, lR p1, lI p2, lI p3, lI p4] []))
  refine Go.st (fun _ => XS.aloadN X52.here hx rfl (hb hby own_d_method_4_code_100) rfl rfl) ?_
  show Go p.tables e below P (T52.setTop (mkF m 101 #[lR p0, lR p1, lI p2, lI p3, lI p4] [(.ref p0)]))
  refine Go.st (fun _ => XS.bipush X52.here hx rfl (hb hby own_d_method_4_code_101)) ?_
  show Go p.tables e below P (T52.setTop (mkF m 103 #[lR p0, lR p1, lI p2, lI p3, lI p4] [(.int (8 : Int32)), (.ref p0)]))
  refine Go.st (fun _ => XS.aloadN X52.here hx rfl (hb hby own_d_method_4_code_103) rfl rfl) ?_
  show Go p.tables e below P (T52.setTop (mkF m 104 #[lR p0, lR p1, lI p2, lI p3, lI p4] [(.ref p1), (.int (8 : Int32)), (.ref p0)]))
  refine Go.st (fun _ => XS.bipush X52.here hx rfl (hb hby own_d_method_4_code_104)) ?_
  show Go p.tables e below P (T52.setTop (mkF m 106 #[lR p0, lR p1, lI p2, lI p3, lI p4] [(.int (8 : Int32)), (.ref p1), (.int (8 : Int32)), (.ref p0)]))
  refine Go.st (fun _ => XS.iloadN X52.here hx rfl (hb hby own_d_method_4_code_106) rfl) ?_
  show Go p.tables e below P (T52.setTop (mkF m 107 #[lR p0, lR p1, lI p2, lI p3, lI p4] [(.int p2), (.int (8 : Int32)), (.ref p1), (.int (8 : Int32)), (.ref p0)]))
  refine Go.st (fun _ => XS.iloadN X52.here hx rfl (hb hby own_d_method_4_code_107) rfl) ?_
  show Go p.tables e below P (T52.setTop (mkF m 108 #[lR p0, lR p1, lI p2, lI p3, lI p4] [(.int p3), (.int p2), (.int (8 : Int32)), (.ref p1), (.int (8 : Int32)), (.ref p0)]))
  refine Go.st (fun _ => XS.iload X52.here hx rfl (hb hby own_d_method_4_code_108) rfl) ?_
  show Go p.tables e below P (T52.setTop (mkF m 110 #[lR p0, lR p1, lI p2, lI p3, lI p4] [(.int p4), (.int p3), (.int p2), (.int (8 : Int32)), (.ref p1), (.int (8 : Int32)), (.ref p0)]))
  have c54 := (c47.wr W52)
  have c55 := (c48.other W52 (Or.inl (Exa.neArv hp2 hp0 (ow hw 2 rfl))))
  have c56 := (c49.other W52 (Or.inl (Exa.neArv hp2 hp0 (ow hw 2 rfl))))
  have c57 := (c50.other W52 hp8)
  obtain ⟨_, _, ⟨T53, L53, k53, n53⟩, -, X53, ⟨Lc53, hQ53, l53, y53, z53⟩, st53⟩ := Jvm.LawKit.callS X52 hx (y := (⟨"com/example/vacuum/vacuum/model/MethodOfWireNamePinLaw", "at", "(Ljava/lang/String;IICC)C"⟩ : MethodName)) hown (mvT hZ (ow hw 13 rfl)) (mvT hZ (ow hw 14 rfl)) (mvT hZ (ow hw 11 rfl)) (mvT hZ (ow hw 15 rfl)) (by decide) (backOf (W := 2) (rm_at l Z a0 hw [] w_N S_N X_N w_K S_K X_K w_V k_V S_V X_V V_V w_NS F_NS X_NS I_NS_coder w_NB k_NB F_NB V_NB w_KS F_KS X_KS I_KS_coder w_KB k_KB F_KB V_KB w_OE S_OE X_OE I_OE_value g_CS S_CS nz_CS g_SF S_SF r_SF p1 (8 : Int32) p2 p3 p4 pcs pv pk h52 n0 O52 c54 c55 c56 c57 hpc1 hle1 hs3 hs4 (by decide)) hZ (ow hw 15 rfl) (ow hw 11 rfl) (by decide) (by decide)) (g := (mkF m 110 #[.val (.ref p0), .val (.ref p1), .val (.int p2), .val (.int p3), .val (.int p4)] [(.int p4), (.int p3), (.int p2), (.int (8 : Int32)), (.ref p1), (.int (8 : Int32)), (.ref p0)])) rfl (by rw [hml]; rfl) (argsL := [(.ref p1), (.int (8 : Int32)), (.int p2), (.int p3), (.int p4)]) (rest := [(.int (8 : Int32)), (.ref p0)]) (lenOf own_pd9 rfl) rfl (by show 2 * 0 + _ ≤ _; exact Nat.le_of_eq rfl) (hb hby own_d_method_4_code_110) (fun _ _ => ⟨rfl, e52, (by decide : 0 + 0 ≤ _), (by decide : 0 + 0 ≤ _)⟩)
  dsimp only [Pt.U, Pt.locs, Pt.cells, Pt.slots] at X53 l53 y53 z53 st53 hQ53
  subst y53 z53
  refine Go.st st53 ?_
  obtain ⟨rc_58, rfl, N53q, e53, q53_0⟩ := hQ53
  have N53 : Fr n0 L53 := by rw [l53]; exact Fr.app N52 N53q
  show Go p.tables e below P (T53.setTop (mkF m 113 #[lR p0, lR p1, lI p2, lI p3, lI p4] [(.int rc_58), (.int (8 : Int32)), (.ref p0)]))
  obtain ⟨T59, h59, X59, e59, W59, V59, st59⟩ := own_stC X53 hx hZ e53 V52' (j := (8 : Int32)) (i := 8) (by decide) (by decide) (Nat.le_of_ble_eq_true rfl) (g := (mkF m 113 #[.val (.ref p0), .val (.ref p1), .val (.int p2), .val (.int p3), .val (.int p4)] [(.int rc_58), (.int (8 : Int32)), (.ref p0)])) rfl rfl (hb hby own_d_method_4_code_113)
  refine Go.st st59 ?_
  rw [own_narC q53_0] at V59
  have K59 : Keep h0 h59 [p0] := K52.wr W59 (Or.inl (List.mem_of_getElem? (i := 0) rfl))
  have O59 := O52.wr W59 hp1
  have N59 := Fr.snoc X59 N53 hp1
  have V59' : Arv Z h59 p0 ka .char (14 : Int32) [(.int rc_2), (.int rc_9), (.int rc_16), (.int rc_23), (.int rc_30), (.int rc_37), (.int rc_44), (.int rc_51), (.int rc_58), (.int (0 : Int32)), (.int (0 : Int32)), (.int (0 : Int32)), (.int (0 : Int32)), (.int (0 : Int32))] (.int (0 : Int32)) := V59
  show Go p.tables e below P (T59.setTop (mkF m 114 #[lR p0, lR p1, lI p2, lI p3, lI p4] []))
  refine Go.st (fun _ => XS.aloadN X59.here hx rfl (hb hby own_d_method_4_code_114) rfl rfl) ?_
  show Go p.tables e below P (T59.setTop (mkF m 115 #[lR p0, lR p1, lI p2, lI p3, lI p4] [(.ref p0)]))
  refine Go.st (fun _ => XS.bipush X59.here hx rfl (hb hby own_d_method_4_code_115)) ?_
  show Go p.tables e below P (T59.setTop (mkF m 117 #[lR p0, lR p1, lI p2, lI p3, lI p4] [(.int (9 : Int32)), (.ref p0)]))
  refine Go.st (fun _ => XS.aloadN X59.here hx rfl (hb hby own_d_method_4_code_117) rfl rfl) ?_
  show Go p.tables e below P (T59.setTop (mkF m 118 #[lR p0, lR p1, lI p2, lI p3, lI p4] [(.ref p1), (.int (9 : Int32)), (.ref p0)]))
  refine Go.st (fun _ => XS.bipush X59.here hx rfl (hb hby own_d_method_4_code_118)) ?_
  show Go p.tables e below P (T59.setTop (mkF m 120 #[lR p0, lR p1, lI p2, lI p3, lI p4] [(.int (9 : Int32)), (.ref p1), (.int (9 : Int32)), (.ref p0)]))
  refine Go.st (fun _ => XS.iloadN X59.here hx rfl (hb hby own_d_method_4_code_120) rfl) ?_
  show Go p.tables e below P (T59.setTop (mkF m 121 #[lR p0, lR p1, lI p2, lI p3, lI p4] [(.int p2), (.int (9 : Int32)), (.ref p1), (.int (9 : Int32)), (.ref p0)]))
  refine Go.st (fun _ => XS.iloadN X59.here hx rfl (hb hby own_d_method_4_code_121) rfl) ?_
  show Go p.tables e below P (T59.setTop (mkF m 122 #[lR p0, lR p1, lI p2, lI p3, lI p4] [(.int p3), (.int p2), (.int (9 : Int32)), (.ref p1), (.int (9 : Int32)), (.ref p0)]))
  refine Go.st (fun _ => XS.iload X59.here hx rfl (hb hby own_d_method_4_code_122) rfl) ?_
  show Go p.tables e below P (T59.setTop (mkF m 124 #[lR p0, lR p1, lI p2, lI p3, lI p4] [(.int p4), (.int p3), (.int p2), (.int (9 : Int32)), (.ref p1), (.int (9 : Int32)), (.ref p0)]))
  have c61 := (c54.wr W59)
  have c62 := (c55.other W59 (Or.inl (Exa.neArv hp2 hp0 (ow hw 2 rfl))))
  have c63 := (c56.other W59 (Or.inl (Exa.neArv hp2 hp0 (ow hw 2 rfl))))
  have c64 := (c57.other W59 hp8)
  obtain ⟨_, _, ⟨T60, L60, k60, n60⟩, -, X60, ⟨Lc60, hQ60, l60, y60, z60⟩, st60⟩ := Jvm.LawKit.callS X59 hx (y := (⟨"com/example/vacuum/vacuum/model/MethodOfWireNamePinLaw", "at", "(Ljava/lang/String;IICC)C"⟩ : MethodName)) hown (mvT hZ (ow hw 13 rfl)) (mvT hZ (ow hw 14 rfl)) (mvT hZ (ow hw 11 rfl)) (mvT hZ (ow hw 15 rfl)) (by decide) (backOf (W := 2) (rm_at l Z a0 hw [] w_N S_N X_N w_K S_K X_K w_V k_V S_V X_V V_V w_NS F_NS X_NS I_NS_coder w_NB k_NB F_NB V_NB w_KS F_KS X_KS I_KS_coder w_KB k_KB F_KB V_KB w_OE S_OE X_OE I_OE_value g_CS S_CS nz_CS g_SF S_SF r_SF p1 (9 : Int32) p2 p3 p4 pcs pv pk h59 n0 O59 c61 c62 c63 c64 hpc1 hle1 hs3 hs4 (by decide)) hZ (ow hw 15 rfl) (ow hw 11 rfl) (by decide) (by decide)) (g := (mkF m 124 #[.val (.ref p0), .val (.ref p1), .val (.int p2), .val (.int p3), .val (.int p4)] [(.int p4), (.int p3), (.int p2), (.int (9 : Int32)), (.ref p1), (.int (9 : Int32)), (.ref p0)])) rfl (by rw [hml]; rfl) (argsL := [(.ref p1), (.int (9 : Int32)), (.int p2), (.int p3), (.int p4)]) (rest := [(.int (9 : Int32)), (.ref p0)]) (lenOf own_pd9 rfl) rfl (by show 2 * 0 + _ ≤ _; exact Nat.le_of_eq rfl) (hb hby own_d_method_4_code_124) (fun _ _ => ⟨rfl, e59, (by decide : 0 + 0 ≤ _), (by decide : 0 + 0 ≤ _)⟩)
  dsimp only [Pt.U, Pt.locs, Pt.cells, Pt.slots] at X60 l60 y60 z60 st60 hQ60
  subst y60 z60
  refine Go.st st60 ?_
  obtain ⟨rc_65, rfl, N60q, e60, q60_0⟩ := hQ60
  have N60 : Fr n0 L60 := by rw [l60]; exact Fr.app N59 N60q
  show Go p.tables e below P (T60.setTop (mkF m 127 #[lR p0, lR p1, lI p2, lI p3, lI p4] [(.int rc_65), (.int (9 : Int32)), (.ref p0)]))
  obtain ⟨T66, h66, X66, e66, W66, V66, st66⟩ := own_stC X60 hx hZ e60 V59' (j := (9 : Int32)) (i := 9) (by decide) (by decide) (Nat.le_of_ble_eq_true rfl) (g := (mkF m 127 #[.val (.ref p0), .val (.ref p1), .val (.int p2), .val (.int p3), .val (.int p4)] [(.int rc_65), (.int (9 : Int32)), (.ref p0)])) rfl rfl (hb hby own_d_method_4_code_127)
  refine Go.st st66 ?_
  rw [own_narC q60_0] at V66
  have K66 : Keep h0 h66 [p0] := K59.wr W66 (Or.inl (List.mem_of_getElem? (i := 0) rfl))
  have O66 := O59.wr W66 hp1
  have N66 := Fr.snoc X66 N60 hp1
  have V66' : Arv Z h66 p0 ka .char (14 : Int32) [(.int rc_2), (.int rc_9), (.int rc_16), (.int rc_23), (.int rc_30), (.int rc_37), (.int rc_44), (.int rc_51), (.int rc_58), (.int rc_65), (.int (0 : Int32)), (.int (0 : Int32)), (.int (0 : Int32)), (.int (0 : Int32))] (.int (0 : Int32)) := V66
  show Go p.tables e below P (T66.setTop (mkF m 128 #[lR p0, lR p1, lI p2, lI p3, lI p4] []))
  refine Go.st (fun _ => XS.aloadN X66.here hx rfl (hb hby own_d_method_4_code_128) rfl rfl) ?_
  show Go p.tables e below P (T66.setTop (mkF m 129 #[lR p0, lR p1, lI p2, lI p3, lI p4] [(.ref p0)]))
  refine Go.st (fun _ => XS.bipush X66.here hx rfl (hb hby own_d_method_4_code_129)) ?_
  show Go p.tables e below P (T66.setTop (mkF m 131 #[lR p0, lR p1, lI p2, lI p3, lI p4] [(.int (10 : Int32)), (.ref p0)]))
  refine Go.st (fun _ => XS.aloadN X66.here hx rfl (hb hby own_d_method_4_code_131) rfl rfl) ?_
  show Go p.tables e below P (T66.setTop (mkF m 132 #[lR p0, lR p1, lI p2, lI p3, lI p4] [(.ref p1), (.int (10 : Int32)), (.ref p0)]))
  refine Go.st (fun _ => XS.bipush X66.here hx rfl (hb hby own_d_method_4_code_132)) ?_
  show Go p.tables e below P (T66.setTop (mkF m 134 #[lR p0, lR p1, lI p2, lI p3, lI p4] [(.int (10 : Int32)), (.ref p1), (.int (10 : Int32)), (.ref p0)]))
  refine Go.st (fun _ => XS.iloadN X66.here hx rfl (hb hby own_d_method_4_code_134) rfl) ?_
  show Go p.tables e below P (T66.setTop (mkF m 135 #[lR p0, lR p1, lI p2, lI p3, lI p4] [(.int p2), (.int (10 : Int32)), (.ref p1), (.int (10 : Int32)), (.ref p0)]))
  refine Go.st (fun _ => XS.iloadN X66.here hx rfl (hb hby own_d_method_4_code_135) rfl) ?_
  show Go p.tables e below P (T66.setTop (mkF m 136 #[lR p0, lR p1, lI p2, lI p3, lI p4] [(.int p3), (.int p2), (.int (10 : Int32)), (.ref p1), (.int (10 : Int32)), (.ref p0)]))
  refine Go.st (fun _ => XS.iload X66.here hx rfl (hb hby own_d_method_4_code_136) rfl) ?_
  show Go p.tables e below P (T66.setTop (mkF m 138 #[lR p0, lR p1, lI p2, lI p3, lI p4] [(.int p4), (.int p3), (.int p2), (.int (10 : Int32)), (.ref p1), (.int (10 : Int32)), (.ref p0)]))
  have c68 := (c61.wr W66)
  have c69 := (c62.other W66 (Or.inl (Exa.neArv hp2 hp0 (ow hw 2 rfl))))
  have c70 := (c63.other W66 (Or.inl (Exa.neArv hp2 hp0 (ow hw 2 rfl))))
  have c71 := (c64.other W66 hp8)
  obtain ⟨_, _, ⟨T67, L67, k67, n67⟩, -, X67, ⟨Lc67, hQ67, l67, y67, z67⟩, st67⟩ := Jvm.LawKit.callS X66 hx (y := (⟨"com/example/vacuum/vacuum/model/MethodOfWireNamePinLaw", "at", "(Ljava/lang/String;IICC)C"⟩ : MethodName)) hown (mvT hZ (ow hw 13 rfl)) (mvT hZ (ow hw 14 rfl)) (mvT hZ (ow hw 11 rfl)) (mvT hZ (ow hw 15 rfl)) (by decide) (backOf (W := 2) (rm_at l Z a0 hw [] w_N S_N X_N w_K S_K X_K w_V k_V S_V X_V V_V w_NS F_NS X_NS I_NS_coder w_NB k_NB F_NB V_NB w_KS F_KS X_KS I_KS_coder w_KB k_KB F_KB V_KB w_OE S_OE X_OE I_OE_value g_CS S_CS nz_CS g_SF S_SF r_SF p1 (10 : Int32) p2 p3 p4 pcs pv pk h66 n0 O66 c68 c69 c70 c71 hpc1 hle1 hs3 hs4 (by decide)) hZ (ow hw 15 rfl) (ow hw 11 rfl) (by decide) (by decide)) (g := (mkF m 138 #[.val (.ref p0), .val (.ref p1), .val (.int p2), .val (.int p3), .val (.int p4)] [(.int p4), (.int p3), (.int p2), (.int (10 : Int32)), (.ref p1), (.int (10 : Int32)), (.ref p0)])) rfl (by rw [hml]; rfl) (argsL := [(.ref p1), (.int (10 : Int32)), (.int p2), (.int p3), (.int p4)]) (rest := [(.int (10 : Int32)), (.ref p0)]) (lenOf own_pd9 rfl) rfl (by show 2 * 0 + _ ≤ _; exact Nat.le_of_eq rfl) (hb hby own_d_method_4_code_138) (fun _ _ => ⟨rfl, e66, (by decide : 0 + 0 ≤ _), (by decide : 0 + 0 ≤ _)⟩)
  dsimp only [Pt.U, Pt.locs, Pt.cells, Pt.slots] at X67 l67 y67 z67 st67 hQ67
  subst y67 z67
  refine Go.st st67 ?_
  obtain ⟨rc_72, rfl, N67q, e67, q67_0⟩ := hQ67
  have N67 : Fr n0 L67 := by rw [l67]; exact Fr.app N66 N67q
  show Go p.tables e below P (T67.setTop (mkF m 141 #[lR p0, lR p1, lI p2, lI p3, lI p4] [(.int rc_72), (.int (10 : Int32)), (.ref p0)]))
  obtain ⟨T73, h73, X73, e73, W73, V73, st73⟩ := own_stC X67 hx hZ e67 V66' (j := (10 : Int32)) (i := 10) (by decide) (by decide) (Nat.le_of_ble_eq_true rfl) (g := (mkF m 141 #[.val (.ref p0), .val (.ref p1), .val (.int p2), .val (.int p3), .val (.int p4)] [(.int rc_72), (.int (10 : Int32)), (.ref p0)])) rfl rfl (hb hby own_d_method_4_code_141)
  refine Go.st st73 ?_
  rw [own_narC q67_0] at V73
  have K73 : Keep h0 h73 [p0] := K66.wr W73 (Or.inl (List.mem_of_getElem? (i := 0) rfl))
  have O73 := O66.wr W73 hp1
  have N73 := Fr.snoc X73 N67 hp1
  have V73' : Arv Z h73 p0 ka .char (14 : Int32) [(.int rc_2), (.int rc_9), (.int rc_16), (.int rc_23), (.int rc_30), (.int rc_37), (.int rc_44), (.int rc_51), (.int rc_58), (.int rc_65), (.int rc_72), (.int (0 : Int32)), (.int (0 : Int32)), (.int (0 : Int32))] (.int (0 : Int32)) := V73
  show Go p.tables e below P (T73.setTop (mkF m 142 #[lR p0, lR p1, lI p2, lI p3, lI p4] []))
  refine Go.st (fun _ => XS.aloadN X73.here hx rfl (hb hby own_d_method_4_code_142) rfl rfl) ?_
  show Go p.tables e below P (T73.setTop (mkF m 143 #[lR p0, lR p1, lI p2, lI p3, lI p4] [(.ref p0)]))
  refine Go.st (fun _ => XS.bipush X73.here hx rfl (hb hby own_d_method_4_code_143)) ?_
  show Go p.tables e below P (T73.setTop (mkF m 145 #[lR p0, lR p1, lI p2, lI p3, lI p4] [(.int (11 : Int32)), (.ref p0)]))
  refine Go.st (fun _ => XS.aloadN X73.here hx rfl (hb hby own_d_method_4_code_145) rfl rfl) ?_
  show Go p.tables e below P (T73.setTop (mkF m 146 #[lR p0, lR p1, lI p2, lI p3, lI p4] [(.ref p1), (.int (11 : Int32)), (.ref p0)]))
  refine Go.st (fun _ => XS.bipush X73.here hx rfl (hb hby own_d_method_4_code_146)) ?_
  show Go p.tables e below P (T73.setTop (mkF m 148 #[lR p0, lR p1, lI p2, lI p3, lI p4] [(.int (11 : Int32)), (.ref p1), (.int (11 : Int32)), (.ref p0)]))
  refine Go.st (fun _ => XS.iloadN X73.here hx rfl (hb hby own_d_method_4_code_148) rfl) ?_
  show Go p.tables e below P (T73.setTop (mkF m 149 #[lR p0, lR p1, lI p2, lI p3, lI p4] [(.int p2), (.int (11 : Int32)), (.ref p1), (.int (11 : Int32)), (.ref p0)]))
  refine Go.st (fun _ => XS.iloadN X73.here hx rfl (hb hby own_d_method_4_code_149) rfl) ?_
  show Go p.tables e below P (T73.setTop (mkF m 150 #[lR p0, lR p1, lI p2, lI p3, lI p4] [(.int p3), (.int p2), (.int (11 : Int32)), (.ref p1), (.int (11 : Int32)), (.ref p0)]))
  refine Go.st (fun _ => XS.iload X73.here hx rfl (hb hby own_d_method_4_code_150) rfl) ?_
  show Go p.tables e below P (T73.setTop (mkF m 152 #[lR p0, lR p1, lI p2, lI p3, lI p4] [(.int p4), (.int p3), (.int p2), (.int (11 : Int32)), (.ref p1), (.int (11 : Int32)), (.ref p0)]))
  have c75 := (c68.wr W73)
  have c76 := (c69.other W73 (Or.inl (Exa.neArv hp2 hp0 (ow hw 2 rfl))))
  have c77 := (c70.other W73 (Or.inl (Exa.neArv hp2 hp0 (ow hw 2 rfl))))
  have c78 := (c71.other W73 hp8)
  obtain ⟨_, _, ⟨T74, L74, k74, n74⟩, -, X74, ⟨Lc74, hQ74, l74, y74, z74⟩, st74⟩ := Jvm.LawKit.callS X73 hx (y := (⟨"com/example/vacuum/vacuum/model/MethodOfWireNamePinLaw", "at", "(Ljava/lang/String;IICC)C"⟩ : MethodName)) hown (mvT hZ (ow hw 13 rfl)) (mvT hZ (ow hw 14 rfl)) (mvT hZ (ow hw 11 rfl)) (mvT hZ (ow hw 15 rfl)) (by decide) (backOf (W := 2) (rm_at l Z a0 hw [] w_N S_N X_N w_K S_K X_K w_V k_V S_V X_V V_V w_NS F_NS X_NS I_NS_coder w_NB k_NB F_NB V_NB w_KS F_KS X_KS I_KS_coder w_KB k_KB F_KB V_KB w_OE S_OE X_OE I_OE_value g_CS S_CS nz_CS g_SF S_SF r_SF p1 (11 : Int32) p2 p3 p4 pcs pv pk h73 n0 O73 c75 c76 c77 c78 hpc1 hle1 hs3 hs4 (by decide)) hZ (ow hw 15 rfl) (ow hw 11 rfl) (by decide) (by decide)) (g := (mkF m 152 #[.val (.ref p0), .val (.ref p1), .val (.int p2), .val (.int p3), .val (.int p4)] [(.int p4), (.int p3), (.int p2), (.int (11 : Int32)), (.ref p1), (.int (11 : Int32)), (.ref p0)])) rfl (by rw [hml]; rfl) (argsL := [(.ref p1), (.int (11 : Int32)), (.int p2), (.int p3), (.int p4)]) (rest := [(.int (11 : Int32)), (.ref p0)]) (lenOf own_pd9 rfl) rfl (by show 2 * 0 + _ ≤ _; exact Nat.le_of_eq rfl) (hb hby own_d_method_4_code_152) (fun _ _ => ⟨rfl, e73, (by decide : 0 + 0 ≤ _), (by decide : 0 + 0 ≤ _)⟩)
  dsimp only [Pt.U, Pt.locs, Pt.cells, Pt.slots] at X74 l74 y74 z74 st74 hQ74
  subst y74 z74
  refine Go.st st74 ?_
  obtain ⟨rc_79, rfl, N74q, e74, q74_0⟩ := hQ74
  have N74 : Fr n0 L74 := by rw [l74]; exact Fr.app N73 N74q
  show Go p.tables e below P (T74.setTop (mkF m 155 #[lR p0, lR p1, lI p2, lI p3, lI p4] [(.int rc_79), (.int (11 : Int32)), (.ref p0)]))
  obtain ⟨T80, h80, X80, e80, W80, V80, st80⟩ := own_stC X74 hx hZ e74 V73' (j := (11 : Int32)) (i := 11) (by decide) (by decide) (Nat.le_of_ble_eq_true rfl) (g := (mkF m 155 #[.val (.ref p0), .val (.ref p1), .val (.int p2), .val (.int p3), .val (.int p4)] [(.int rc_79), (.int (11 : Int32)), (.ref p0)])) rfl rfl (hb hby own_d_method_4_code_155)
  refine Go.st st80 ?_
  rw [own_narC q74_0] at V80
  have K80 : Keep h0 h80 [p0] := K73.wr W80 (Or.inl (List.mem_of_getElem? (i := 0) rfl))
  have O80 := O73.wr W80 hp1
  have N80 := Fr.snoc X80 N74 hp1
  have V80' : Arv Z h80 p0 ka .char (14 : Int32) [(.int rc_2), (.int rc_9), (.int rc_16), (.int rc_23), (.int rc_30), (.int rc_37), (.int rc_44), (.int rc_51), (.int rc_58), (.int rc_65), (.int rc_72), (.int rc_79), (.int (0 : Int32)), (.int (0 : Int32))] (.int (0 : Int32)) := V80
  show Go p.tables e below P (T80.setTop (mkF m 156 #[lR p0, lR p1, lI p2, lI p3, lI p4] []))
  refine Go.st (fun _ => XS.aloadN X80.here hx rfl (hb hby own_d_method_4_code_156) rfl rfl) ?_
  show Go p.tables e below P (T80.setTop (mkF m 157 #[lR p0, lR p1, lI p2, lI p3, lI p4] [(.ref p0)]))
  refine Go.st (fun _ => own_len X80 hx hZ e80 V80' (g := (mkF m 157 #[.val (.ref p0), .val (.ref p1), .val (.int p2), .val (.int p3), .val (.int p4)] [(.ref p0)])) rfl rfl (hb hby own_d_method_4_code_157) _) ?_
  show Go p.tables e below P (T80.setTop (mkF m 158 #[lR p0, lR p1, lI p2, lI p3, lI p4] [(.int (14 : Int32))]))
  refine Go.st (fun _ => XS.bipush X80.here hx rfl (hb hby own_d_method_4_code_158)) ?_
  show Go p.tables e below P (T80.setTop (mkF m 160 #[lR p0, lR p1, lI p2, lI p3, lI p4] [(.int (12 : Int32)), (.int (14 : Int32))]))
  refine Go.st (fun _ => XS.icmpNo X80.here hx rfl (hb hby own_d_method_4_code_160) rfl (tlt (by decide)).2.2.2) ?_
  show Go p.tables e below P (T80.setTop (mkF m 163 #[lR p0, lR p1, lI p2, lI p3, lI p4] []))
  refine Go.st (fun _ => XS.aloadN X80.here hx rfl (hb hby own_d_method_4_code_163) rfl rfl) ?_
  show Go p.tables e below P (T80.setTop (mkF m 164 #[lR p0, lR p1, lI p2, lI p3, lI p4] [(.ref p0)]))
  refine Go.st (fun _ => XS.bipush X80.here hx rfl (hb hby own_d_method_4_code_164)) ?_
  show Go p.tables e below P (T80.setTop (mkF m 166 #[lR p0, lR p1, lI p2, lI p3, lI p4] [(.int (12 : Int32)), (.ref p0)]))
  refine Go.st (fun _ => XS.aloadN X80.here hx rfl (hb hby own_d_method_4_code_166) rfl rfl) ?_
  show Go p.tables e below P (T80.setTop (mkF m 167 #[lR p0, lR p1, lI p2, lI p3, lI p4] [(.ref p1), (.int (12 : Int32)), (.ref p0)]))
  refine Go.st (fun _ => XS.bipush X80.here hx rfl (hb hby own_d_method_4_code_167)) ?_
  show Go p.tables e below P (T80.setTop (mkF m 169 #[lR p0, lR p1, lI p2, lI p3, lI p4] [(.int (12 : Int32)), (.ref p1), (.int (12 : Int32)), (.ref p0)]))
  refine Go.st (fun _ => XS.iloadN X80.here hx rfl (hb hby own_d_method_4_code_169) rfl) ?_
  show Go p.tables e below P (T80.setTop (mkF m 170 #[lR p0, lR p1, lI p2, lI p3, lI p4] [(.int p2), (.int (12 : Int32)), (.ref p1), (.int (12 : Int32)), (.ref p0)]))
  refine Go.st (fun _ => XS.iloadN X80.here hx rfl (hb hby own_d_method_4_code_170) rfl) ?_
  show Go p.tables e below P (T80.setTop (mkF m 171 #[lR p0, lR p1, lI p2, lI p3, lI p4] [(.int p3), (.int p2), (.int (12 : Int32)), (.ref p1), (.int (12 : Int32)), (.ref p0)]))
  refine Go.st (fun _ => XS.iload X80.here hx rfl (hb hby own_d_method_4_code_171) rfl) ?_
  show Go p.tables e below P (T80.setTop (mkF m 173 #[lR p0, lR p1, lI p2, lI p3, lI p4] [(.int p4), (.int p3), (.int p2), (.int (12 : Int32)), (.ref p1), (.int (12 : Int32)), (.ref p0)]))
  have c82 := (c75.wr W80)
  have c83 := (c76.other W80 (Or.inl (Exa.neArv hp2 hp0 (ow hw 2 rfl))))
  have c84 := (c77.other W80 (Or.inl (Exa.neArv hp2 hp0 (ow hw 2 rfl))))
  have c85 := (c78.other W80 hp8)
  obtain ⟨_, _, ⟨T81, L81, k81, n81⟩, -, X81, ⟨Lc81, hQ81, l81, y81, z81⟩, st81⟩ := Jvm.LawKit.callS X80 hx (y := (⟨"com/example/vacuum/vacuum/model/MethodOfWireNamePinLaw", "at", "(Ljava/lang/String;IICC)C"⟩ : MethodName)) hown (mvT hZ (ow hw 13 rfl)) (mvT hZ (ow hw 14 rfl)) (mvT hZ (ow hw 11 rfl)) (mvT hZ (ow hw 15 rfl)) (by decide) (backOf (W := 2) (rm_at l Z a0 hw [] w_N S_N X_N w_K S_K X_K w_V k_V S_V X_V V_V w_NS F_NS X_NS I_NS_coder w_NB k_NB F_NB V_NB w_KS F_KS X_KS I_KS_coder w_KB k_KB F_KB V_KB w_OE S_OE X_OE I_OE_value g_CS S_CS nz_CS g_SF S_SF r_SF p1 (12 : Int32) p2 p3 p4 pcs pv pk h80 n0 O80 c82 c83 c84 c85 hpc1 hle1 hs3 hs4 (by decide)) hZ (ow hw 15 rfl) (ow hw 11 rfl) (by decide) (by decide)) (g := (mkF m 173 #[.val (.ref p0), .val (.ref p1), .val (.int p2), .val (.int p3), .val (.int p4)] [(.int p4), (.int p3), (.int p2), (.int (12 : Int32)), (.ref p1), (.int (12 : Int32)), (.ref p0)])) rfl (by rw [hml]; rfl) (argsL := [(.ref p1), (.int (12 : Int32)), (.int p2), (.int p3), (.int p4)]) (rest := [(.int (12 : Int32)), (.ref p0)]) (lenOf own_pd9 rfl) rfl (by show 2 * 0 + _ ≤ _; exact Nat.le_of_eq rfl) (hb hby own_d_method_4_code_173) (fun _ _ => ⟨rfl, e80, (by decide : 0 + 0 ≤ _), (by decide : 0 + 0 ≤ _)⟩)
  dsimp only [Pt.U, Pt.locs, Pt.cells, Pt.slots] at X81 l81 y81 z81 st81 hQ81
  subst y81 z81
  refine Go.st st81 ?_
  obtain ⟨rc_86, rfl, N81q, e81, q81_0⟩ := hQ81
  have N81 : Fr n0 L81 := by rw [l81]; exact Fr.app N80 N81q
  show Go p.tables e below P (T81.setTop (mkF m 176 #[lR p0, lR p1, lI p2, lI p3, lI p4] [(.int rc_86), (.int (12 : Int32)), (.ref p0)]))
  obtain ⟨T87, h87, X87, e87, W87, V87, st87⟩ := own_stC X81 hx hZ e81 V80' (j := (12 : Int32)) (i := 12) (by decide) (by decide) (Nat.le_of_ble_eq_true rfl) (g := (mkF m 176 #[.val (.ref p0), .val (.ref p1), .val (.int p2), .val (.int p3), .val (.int p4)] [(.int rc_86), (.int (12 : Int32)), (.ref p0)])) rfl rfl (hb hby own_d_method_4_code_176)
  refine Go.st st87 ?_
  rw [own_narC q81_0] at V87
  have K87 : Keep h0 h87 [p0] := K80.wr W87 (Or.inl (List.mem_of_getElem? (i := 0) rfl))
  have O87 := O80.wr W87 hp1
  have N87 := Fr.snoc X87 N81 hp1
  have V87' : Arv Z h87 p0 ka .char (14 : Int32) [(.int rc_2), (.int rc_9), (.int rc_16), (.int rc_23), (.int rc_30), (.int rc_37), (.int rc_44), (.int rc_51), (.int rc_58), (.int rc_65), (.int rc_72), (.int rc_79), (.int rc_86), (.int (0 : Int32))] (.int (0 : Int32)) := V87
  show Go p.tables e below P (T87.setTop (mkF m 177 #[lR p0, lR p1, lI p2, lI p3, lI p4] []))
  refine Go.st (fun _ => XS.aloadN X87.here hx rfl (hb hby own_d_method_4_code_177) rfl rfl) ?_
  show Go p.tables e below P (T87.setTop (mkF m 178 #[lR p0, lR p1, lI p2, lI p3, lI p4] [(.ref p0)]))
  refine Go.st (fun _ => own_len X87 hx hZ e87 V87' (g := (mkF m 178 #[.val (.ref p0), .val (.ref p1), .val (.int p2), .val (.int p3), .val (.int p4)] [(.ref p0)])) rfl rfl (hb hby own_d_method_4_code_178) _) ?_
  show Go p.tables e below P (T87.setTop (mkF m 179 #[lR p0, lR p1, lI p2, lI p3, lI p4] [(.int (14 : Int32))]))
  refine Go.st (fun _ => XS.bipush X87.here hx rfl (hb hby own_d_method_4_code_179)) ?_
  show Go p.tables e below P (T87.setTop (mkF m 181 #[lR p0, lR p1, lI p2, lI p3, lI p4] [(.int (13 : Int32)), (.int (14 : Int32))]))
  refine Go.st (fun _ => XS.icmpNo X87.here hx rfl (hb hby own_d_method_4_code_181) rfl (tlt (by decide)).2.2.2) ?_
  show Go p.tables e below P (T87.setTop (mkF m 184 #[lR p0, lR p1, lI p2, lI p3, lI p4] []))
  refine Go.st (fun _ => XS.aloadN X87.here hx rfl (hb hby own_d_method_4_code_184) rfl rfl) ?_
  show Go p.tables e below P (T87.setTop (mkF m 185 #[lR p0, lR p1, lI p2, lI p3, lI p4] [(.ref p0)]))
  refine Go.st (fun _ => XS.bipush X87.here hx rfl (hb hby own_d_method_4_code_185)) ?_
  show Go p.tables e below P (T87.setTop (mkF m 187 #[lR p0, lR p1, lI p2, lI p3, lI p4] [(.int (13 : Int32)), (.ref p0)]))
  refine Go.st (fun _ => XS.aloadN X87.here hx rfl (hb hby own_d_method_4_code_187) rfl rfl) ?_
  show Go p.tables e below P (T87.setTop (mkF m 188 #[lR p0, lR p1, lI p2, lI p3, lI p4] [(.ref p1), (.int (13 : Int32)), (.ref p0)]))
  refine Go.st (fun _ => XS.bipush X87.here hx rfl (hb hby own_d_method_4_code_188)) ?_
  show Go p.tables e below P (T87.setTop (mkF m 190 #[lR p0, lR p1, lI p2, lI p3, lI p4] [(.int (13 : Int32)), (.ref p1), (.int (13 : Int32)), (.ref p0)]))
  refine Go.st (fun _ => XS.iloadN X87.here hx rfl (hb hby own_d_method_4_code_190) rfl) ?_
  show Go p.tables e below P (T87.setTop (mkF m 191 #[lR p0, lR p1, lI p2, lI p3, lI p4] [(.int p2), (.int (13 : Int32)), (.ref p1), (.int (13 : Int32)), (.ref p0)]))
  refine Go.st (fun _ => XS.iloadN X87.here hx rfl (hb hby own_d_method_4_code_191) rfl) ?_
  show Go p.tables e below P (T87.setTop (mkF m 192 #[lR p0, lR p1, lI p2, lI p3, lI p4] [(.int p3), (.int p2), (.int (13 : Int32)), (.ref p1), (.int (13 : Int32)), (.ref p0)]))
  refine Go.st (fun _ => XS.iload X87.here hx rfl (hb hby own_d_method_4_code_192) rfl) ?_
  show Go p.tables e below P (T87.setTop (mkF m 194 #[lR p0, lR p1, lI p2, lI p3, lI p4] [(.int p4), (.int p3), (.int p2), (.int (13 : Int32)), (.ref p1), (.int (13 : Int32)), (.ref p0)]))
  have c89 := (c82.wr W87)
  have c90 := (c83.other W87 (Or.inl (Exa.neArv hp2 hp0 (ow hw 2 rfl))))
  have c91 := (c84.other W87 (Or.inl (Exa.neArv hp2 hp0 (ow hw 2 rfl))))
  have c92 := (c85.other W87 hp8)
  obtain ⟨_, _, ⟨T88, L88, k88, n88⟩, -, X88, ⟨Lc88, hQ88, l88, y88, z88⟩, st88⟩ := Jvm.LawKit.callS X87 hx (y := (⟨"com/example/vacuum/vacuum/model/MethodOfWireNamePinLaw", "at", "(Ljava/lang/String;IICC)C"⟩ : MethodName)) hown (mvT hZ (ow hw 13 rfl)) (mvT hZ (ow hw 14 rfl)) (mvT hZ (ow hw 11 rfl)) (mvT hZ (ow hw 15 rfl)) (by decide) (backOf (W := 2) (rm_at l Z a0 hw [] w_N S_N X_N w_K S_K X_K w_V k_V S_V X_V V_V w_NS F_NS X_NS I_NS_coder w_NB k_NB F_NB V_NB w_KS F_KS X_KS I_KS_coder w_KB k_KB F_KB V_KB w_OE S_OE X_OE I_OE_value g_CS S_CS nz_CS g_SF S_SF r_SF p1 (13 : Int32) p2 p3 p4 pcs pv pk h87 n0 O87 c89 c90 c91 c92 hpc1 hle1 hs3 hs4 (by decide)) hZ (ow hw 15 rfl) (ow hw 11 rfl) (by decide) (by decide)) (g := (mkF m 194 #[.val (.ref p0), .val (.ref p1), .val (.int p2), .val (.int p3), .val (.int p4)] [(.int p4), (.int p3), (.int p2), (.int (13 : Int32)), (.ref p1), (.int (13 : Int32)), (.ref p0)])) rfl (by rw [hml]; rfl) (argsL := [(.ref p1), (.int (13 : Int32)), (.int p2), (.int p3), (.int p4)]) (rest := [(.int (13 : Int32)), (.ref p0)]) (lenOf own_pd9 rfl) rfl (by show 2 * 0 + _ ≤ _; exact Nat.le_of_eq rfl) (hb hby own_d_method_4_code_194) (fun _ _ => ⟨rfl, e87, (by decide : 0 + 0 ≤ _), (by decide : 0 + 0 ≤ _)⟩)
  dsimp only [Pt.U, Pt.locs, Pt.cells, Pt.slots] at X88 l88 y88 z88 st88 hQ88
  subst y88 z88
  refine Go.st st88 ?_
  obtain ⟨rc_93, rfl, N88q, e88, q88_0⟩ := hQ88
  have N88 : Fr n0 L88 := by rw [l88]; exact Fr.app N87 N88q
  show Go p.tables e below P (T88.setTop (mkF m 197 #[lR p0, lR p1, lI p2, lI p3, lI p4] [(.int rc_93), (.int (13 : Int32)), (.ref p0)]))
  obtain ⟨T94, h94, X94, e94, W94, V94, st94⟩ := own_stC X88 hx hZ e88 V87' (j := (13 : Int32)) (i := 13) (by decide) (by decide) (Nat.le_of_ble_eq_true rfl) (g := (mkF m 197 #[.val (.ref p0), .val (.ref p1), .val (.int p2), .val (.int p3), .val (.int p4)] [(.int rc_93), (.int (13 : Int32)), (.ref p0)])) rfl rfl (hb hby own_d_method_4_code_197)
  refine Go.st st94 ?_
  rw [own_narC q88_0] at V94
  have K94 : Keep h0 h94 [p0] := K87.wr W94 (Or.inl (List.mem_of_getElem? (i := 0) rfl))
  have O94 := O87.wr W94 hp1
  have N94 := Fr.snoc X94 N88 hp1
  have V94' : Arv Z h94 p0 ka .char (14 : Int32) [(.int rc_2), (.int rc_9), (.int rc_16), (.int rc_23), (.int rc_30), (.int rc_37), (.int rc_44), (.int rc_51), (.int rc_58), (.int rc_65), (.int rc_72), (.int rc_79), (.int rc_86), (.int rc_93)] (.int (0 : Int32)) := V94
  show Go p.tables e below P (T94.setTop (mkF m 198 #[lR p0, lR p1, lI p2, lI p3, lI p4] []))
  refine Go.st (fun _ => XS.aloadN X94.here hx rfl (hb hby own_d_method_4_code_198) rfl rfl) ?_
  show Go p.tables e below P (T94.setTop (mkF m 199 #[lR p0, lR p1, lI p2, lI p3, lI p4] [(.ref p0)]))
  refine Go.st (fun _ => own_len X94 hx hZ e94 V94' (g := (mkF m 199 #[.val (.ref p0), .val (.ref p1), .val (.int p2), .val (.int p3), .val (.int p4)] [(.ref p0)])) rfl rfl (hb hby own_d_method_4_code_199) _) ?_
  show Go p.tables e below P (T94.setTop (mkF m 200 #[lR p0, lR p1, lI p2, lI p3, lI p4] [(.int (14 : Int32))]))
  refine Go.st (fun _ => XS.bipush X94.here hx rfl (hb hby own_d_method_4_code_200)) ?_
  show Go p.tables e below P (T94.setTop (mkF m 202 #[lR p0, lR p1, lI p2, lI p3, lI p4] [(.int (14 : Int32)), (.int (14 : Int32))]))
  refine Go.st (fun _ => XS.icmpYes X94.here hx rfl (pc0 := 202) (pc' := 219) rfl (hb hby own_d_method_4_code_202) rfl (flt (by decide)).2.2.2 (by decide) (by decide)) ?_
  show Go p.tables e below P (T94.setTop (mkF m 219 #[lR p0, lR p1, lI p2, lI p3, lI p4] []))
  obtain ⟨fs, hr, hrun, hended, hW, hsame⟩ := X94.leave (v := none) (fun _ => rfl)
  refine ⟨_, ?_, hPend _ _ hrun hended ⟨_, _, rfl, ?_, ⟨_, rfl⟩, hW, hsame.mono (by decide) (by decide)⟩⟩
  · exact X94.returnOut hx Bd.returns (hb hby own_d_method_4_code_219) hr
  · show Q_rm_fc14 Z _ _ _ _ _ _ _ _ _ _ _ _ _ _ _ _ _ _ _ _ _ _ h0 n0 _ T94.heap _
    rw [e94]
    exact ⟨rc_2, rc_9, rc_16, rc_23, rc_30, rc_37, rc_44, rc_51, rc_58, rc_65, rc_72, rc_79, rc_86, rc_93, rfl, N94, K94, V94', q1_0, q4_0, q11_0, q18_0, q25_0, q32_0, q39_0, q46_0, q53_0, q60_0, q67_0, q74_0, q81_0, q88_0⟩
theorem own_ef_rm_fc15 (m : MethodId) (x0 : Addr) (x1 : Addr) (x2 : Int32) (x3 : Int32) (x4 : Int32) : entryFrame m #[(.ref x0), (.ref x1), (.int x2), (.int x3), (.int x4)] 5 = mkF m 0 #[.val (.ref x0), .val (.ref x1), .val (.int x2), .val (.int x3), .val (.int x4)] [] := by first | (simp [entryFrame, mkF, argsToLocals, Value.category]; done) | rfl
theorem own_d_method_4_code_205 : decode method_4_code 205 = .ok (.aload_n 0, 1) := by decide +kernel
theorem own_d_method_4_code_206 : decode method_4_code 206 = .ok (.bipush 14, 2) := by decide +kernel
theorem own_d_method_4_code_208 : decode method_4_code 208 = .ok (.aload_n 1, 1) := by decide +kernel
theorem own_d_method_4_code_209 : decode method_4_code 209 = .ok (.bipush 14, 2) := by decide +kernel
theorem own_d_method_4_code_211 : decode method_4_code 211 = .ok (.iload_n 2, 1) := by decide +kernel
theorem own_d_method_4_code_212 : decode method_4_code 212 = .ok (.iload_n 3, 1) := by decide +kernel
theorem own_d_method_4_code_213 : decode method_4_code 213 = .ok (.iload 4, 2) := by decide +kernel
theorem own_d_method_4_code_215 : decode method_4_code 215 = .ok (.invokestatic 59, 3) := by decide +kernel
theorem own_d_method_4_code_218 : decode method_4_code 218 = .ok (.castore, 1) := by decide +kernel
def Q_rm_fc15 (Z : State) (w_N : Addr) (w_K : Addr) (w_V : Addr) (k_V : ClassId) (w_NS : Addr) (w_NB : Addr) (k_NB : ClassId) (w_KS : Addr) (w_KB : Addr) (k_KB : ClassId) (w_OE : Addr) (g_CS : Int32) (g_SF : Value) (p0 : Addr) (p1 : Addr) (p2 : Int32) (p3 : Int32) (p4 : Int32) (ka : ClassId) (pcs : List Int32) (pv : Addr) (pk : ClassId) (h0 : Heap) (n0 : Nat) (v : Option Value) (h : Heap) (L : List Loc) : Prop := ∃ (c0 : Int32) (c1 : Int32) (c2 : Int32) (c3 : Int32) (c4 : Int32) (c5 : Int32) (c6 : Int32) (c7 : Int32) (c8 : Int32) (c9 : Int32) (c10 : Int32) (c11 : Int32) (c12 : Int32) (c13 : Int32) (c14 : Int32), v = none ∧ Fr n0 L ∧ Keep h0 h [p0] ∧ Arv Z h p0 ka .char (15 : Int32) [(.int c0), (.int c1), (.int c2), (.int c3), (.int c4), (.int c5), (.int c6), (.int c7), (.int c8), (.int c9), (.int c10), (.int c11), (.int c12), (.int c13), (.int c14)] (.int (0 : Int32)) ∧ (¬ c0 < 0 ∧ ¬ (255 : Int32) < c0) ∧ (¬ c1 < 0 ∧ ¬ (255 : Int32) < c1) ∧ (¬ c2 < 0 ∧ ¬ (255 : Int32) < c2) ∧ (¬ c3 < 0 ∧ ¬ (255 : Int32) < c3) ∧ (¬ c4 < 0 ∧ ¬ (255 : Int32) < c4) ∧ (¬ c5 < 0 ∧ ¬ (255 : Int32) < c5) ∧ (¬ c6 < 0 ∧ ¬ (255 : Int32) < c6) ∧ (¬ c7 < 0 ∧ ¬ (255 : Int32) < c7) ∧ (¬ c8 < 0 ∧ ¬ (255 : Int32) < c8) ∧ (¬ c9 < 0 ∧ ¬ (255 : Int32) < c9) ∧ (¬ c10 < 0 ∧ ¬ (255 : Int32) < c10) ∧ (¬ c11 < 0 ∧ ¬ (255 : Int32) < c11) ∧ (¬ c12 < 0 ∧ ¬ (255 : Int32) < c12) ∧ (¬ c13 < 0 ∧ ¬ (255 : Int32) < c13) ∧ (¬ c14 < 0 ∧ ¬ (255 : Int32) < c14)
set_option maxRecDepth 65536 in
set_option maxHeartbeats 40000000 in
theorem rm_fc15 (l : Launch) (Z : State) (a0 : Array Value) (hw : ∀ d ∈ tables_1, d.before a0 Z = true) (ws : List Jvm.Cond) (w_N : Addr) (S_N : Sta Z Z.heap "com/example/vacuum/vacuum/model/PrunePolicy$Method" "NUMBER_OF_TAGS" "Lcom/example/vacuum/vacuum/model/PrunePolicy$Method;" (.ref w_N)) (X_N : Exa Z Z.heap w_N "com/example/vacuum/vacuum/model/PrunePolicy$Method") (w_K : Addr) (S_K : Sta Z Z.heap "com/example/vacuum/vacuum/model/PrunePolicy$Method" "CREATION_DATE" "Lcom/example/vacuum/vacuum/model/PrunePolicy$Method;" (.ref w_K)) (X_K : Exa Z Z.heap w_K "com/example/vacuum/vacuum/model/PrunePolicy$Method") (w_V : Addr) (k_V : ClassId) (S_V : Sta Z Z.heap "com/example/vacuum/vacuum/model/PrunePolicy$Method" "$VALUES" "[Lcom/example/vacuum/vacuum/model/PrunePolicy$Method;" (.ref w_V)) (X_V : Exa Z Z.heap w_V "[Lcom/example/vacuum/vacuum/model/PrunePolicy$Method;") (V_V : Arv Z Z.heap w_V k_V (.object "com/example/vacuum/vacuum/model/PrunePolicy$Method") (2 : Int32) [(.ref w_N), (.ref w_K)] .null) (w_NS : Addr) (F_NS : Fld Z Z.heap w_N "com/example/vacuum/vacuum/model/PrunePolicy$Method" "wireName" "Ljava/lang/String;" (.ref w_NS)) (X_NS : Exa Z Z.heap w_NS "java/lang/String") (I_NS_coder : Fld Z Z.heap w_NS "java/lang/String" "coder" "B" (.int (0 : Int32))) (w_NB : Addr) (k_NB : ClassId) (F_NB : Fld Z Z.heap w_NS "java/lang/String" "value" "[B" (.ref w_NB)) (V_NB : Arv Z Z.heap w_NB k_NB .byte (14 : Int32) [(.int (110 : Int32)), (.int (117 : Int32)), (.int (109 : Int32)), (.int (98 : Int32)), (.int (101 : Int32)), (.int (114 : Int32)), (.int (95 : Int32)), (.int (111 : Int32)), (.int (102 : Int32)), (.int (95 : Int32)), (.int (116 : Int32)), (.int (97 : Int32)), (.int (103 : Int32)), (.int (115 : Int32))] (.int (0 : Int32))) (w_KS : Addr) (F_KS : Fld Z Z.heap w_K "com/example/vacuum/vacuum/model/PrunePolicy$Method" "wireName" "Ljava/lang/String;" (.ref w_KS)) (X_KS : Exa Z Z.heap w_KS "java/lang/String") (I_KS_coder : Fld Z Z.heap w_KS "java/lang/String" "coder" "B" (.int (0 : Int32))) (w_KB : Addr) (k_KB : ClassId) (F_KB : Fld Z Z.heap w_KS "java/lang/String" "value" "[B" (.ref w_KB)) (V_KB : Arv Z Z.heap w_KB k_KB .byte (13 : Int32) [(.int (99 : Int32)), (.int (114 : Int32)), (.int (101 : Int32)), (.int (97 : Int32)), (.int (116 : Int32)), (.int (105 : Int32)), (.int (111 : Int32)), (.int (110 : Int32)), (.int (95 : Int32)), (.int (100 : Int32)), (.int (97 : Int32)), (.int (116 : Int32)), (.int (101 : Int32))] (.int (0 : Int32))) (w_OE : Addr) (S_OE : Sta Z Z.heap "java/util/Optional" "EMPTY" "Ljava/util/Optional;" (.ref w_OE)) (X_OE : Exa Z Z.heap w_OE "java/util/Optional") (I_OE_value : Fld Z Z.heap w_OE "java/util/Optional" "value" "Ljava/lang/Object;" .null) (g_CS : Int32) (S_CS : Sta Z Z.heap "java/lang/String" "COMPACT_STRINGS" "Z" (.int g_CS)) (nz_CS : ¬ (g_CS = (0 : Int32))) (g_SF : Value) (S_SF : Sta Z Z.heap "jdk/internal/util/Preconditions" "SIOOBE_FORMATTER" "Ljava/util/function/BiFunction;" g_SF) (r_SF : g_SF.isRef = true) (p0 : Addr) (p1 : Addr) (p2 : Int32) (p3 : Int32) (p4 : Int32) (ka : ClassId) (pcs : List Int32) (pv : Addr) (pk : ClassId) (h0 : Heap) (n0 : Nat) (X00 : Old Z n0 h0) (hp0 : Arv Z h0 p0 ka .char (15 : Int32) [(.int (0 : Int32)), (.int (0 : Int32)), (.int (0 : Int32)), (.int (0 : Int32)), (.int (0 : Int32)), (.int (0 : Int32)), (.int (0 : Int32)), (.int (0 : Int32)), (.int (0 : Int32)), (.int (0 : Int32)), (.int (0 : Int32)), (.int (0 : Int32)), (.int (0 : Int32)), (.int (0 : Int32)), (.int (0 : Int32))] (.int (0 : Int32))) (hp1 : n0 ≤ p0) (hp2 : Exa Z h0 p1 "java/lang/String") (hp3 : Fld Z h0 p1 "java/lang/String" "coder" "B" (.int (0 : Int32))) (hp4 : Fld Z h0 p1 "java/lang/String" "value" "[B" (.ref pv)) (hp5 : Arv Z h0 pv pk .byte (Int32.ofNat pcs.length) ((pcs.map StrChars.lo8).map Value.int) (.int (0 : Int32))) (hpc1 : ∀ c ∈ pcs, ¬ c < 0 ∧ ¬ (255 : Int32) < c) (hle1 : pcs.length ≤ 4000) (hp8 : pv ≠ p0) (hs3 : (¬ p3 < 0 ∧ ¬ (255 : Int32) < p3)) (hs4 : (¬ p4 < 0 ∧ ¬ (255 : Int32) < p4)) :
    MetFree l (⟨"com/example/vacuum/vacuum/model/MethodOfWireNamePinLaw", "fillChars", "([CLjava/lang/String;ICC)V"⟩ : MethodName) (head1 (Jvm.Cond.code (⟨"com/example/vacuum/vacuum/model/MethodOfWireNamePinLaw", "fillChars", "([CLjava/lang/String;ICC)V"⟩ : MethodName) method_4_code 5 none :: ws) ({ frames := 5, cells := 0, slots := 0, locals := 71 } : Room)) (fun a U => a = #[(.ref p0), (.ref p1), (.int p2), (.int p3), (.int p4)] ∧ Z.Warmed39 U.vm ∧ U.heap = h0) (fun _ _ _ _ _ => True) (fun _ U o U' => ∃ v L, o = .returned v ∧ Q_rm_fc15 Z w_N w_K w_V k_V w_NS w_NB k_NB w_KS w_KB k_KB w_OE g_CS g_SF p0 p1 p2 p3 p4 ka pcs pv pk h0 n0 v U'.heap L ∧ FrameEnd U o U' L ({ frames := 5, cells := 0, slots := 0, locals := 71 } : Room).cells ({ frames := 5, cells := 0, slots := 0, locals := 71 } : Room).slots) := by
  refine MetFree.of_bodySF (plainFor_of_name own_pn4) hisR ?_
  intro p e s m args below meth c s₁ Bd hml0 hP hK
  obtain ⟨rfl, hZ, hh⟩ := hP
  have hx := Bd.exec
  have hby := Bd.bytes
  have hml : c.maxLocals = 5 := hml0
  have hown : s.vm.findClass "com/example/vacuum/vacuum/model/MethodOfWireNamePinLaw" = some m.cls := findClass_of_methodNamed Bd.named
  have hnm := (name_of_methodNamed Bd.named Bd.method).1
  have X0 : Stand p l e ({ frames := 5, cells := 0, slots := 0, locals := 71 } : Room) s m #[(.ref p0), (.ref p1), (.int p2), (.int p3), (.int p4)] below meth c s₁ [] 0 0 := Stand.of_body Bd
  have e0 : s₁.heap = h0 := by rw [← hh, Bd.state]; rfl
  have N0 := Fr.nil n0
  refine Go.start fun P hPend => ?_
  refine Go.st (fun _ k => castTop (own_ef_rm_fc15 m p0 p1 p2 p3 p4) k) ?_
  show Go p.tables e below P (s₁.setTop (mkF m 0 #[lR p0, lR p1, lI p2, lI p3, lI p4] []))
  refine Go.st (fun _ => XS.aloadN X0.here hx rfl (hb hby own_d_method_4_code_0) rfl rfl) ?_
  show Go p.tables e below P (s₁.setTop (mkF m 1 #[lR p0, lR p1, lI p2, lI p3, lI p4] [(.ref p0)]))
  refine Go.st (fun _ => XS.iconst X0.here hx rfl (hb hby own_d_method_4_code_1)) ?_
  show Go p.tables e below P (s₁.setTop (mkF m 2 #[lR p0, lR p1, lI p2, lI p3, lI p4] [(.int (0 : Int32)), (.ref p0)]))
  refine Go.st (fun _ => XS.aloadN X0.here hx rfl (hb hby own_d_method_4_code_2) rfl rfl) ?_
  show Go p.tables e below P (s₁.setTop (mkF m 3 #[lR p0, lR p1, lI p2, lI p3, lI p4] [(.ref p1), (.int (0 : Int32)), (.ref p0)]))
  refine Go.st (fun _ => XS.iconst X0.here hx rfl (hb hby own_d_method_4_code_3)) ?_
  show Go p.tables e below P (s₁.setTop (mkF m 4 #[lR p0, lR p1, lI p2, lI p3, lI p4] [(.int (0 : Int32)), (.ref p1), (.int (0 : Int32)), (.ref p0)]))
  refine Go.st (fun _ => XS.iloadN X0.here hx rfl (hb hby own_d_method_4_code_4) rfl) ?_
  show Go p.tables e below P (s₁.setTop (mkF m 5 #[lR p0, lR p1, lI p2, lI p3, lI p4] [(.int p2), (.int (0 : Int32)), (.ref p1), (.int (0 : Int32)), (.ref p0)]))
  refine Go.st (fun _ => XS.iloadN X0.here hx rfl (hb hby own_d_method_4_code_5) rfl) ?_
  show Go p.tables e below P (s₁.setTop (mkF m 6 #[lR p0, lR p1, lI p2, lI p3, lI p4] [(.int p3), (.int p2), (.int (0 : Int32)), (.ref p1), (.int (0 : Int32)), (.ref p0)]))
  refine Go.st (fun _ => XS.iload X0.here hx rfl (hb hby own_d_method_4_code_6) rfl) ?_
  show Go p.tables e below P (s₁.setTop (mkF m 8 #[lR p0, lR p1, lI p2, lI p3, lI p4] [(.int p4), (.int p3), (.int p2), (.int (0 : Int32)), (.ref p1), (.int (0 : Int32)), (.ref p0)]))
  obtain ⟨_, _, ⟨T1, L1, k1, n1⟩, -, X1, ⟨Lc1, hQ1, l1, y1, z1⟩, st1⟩ := Jvm.LawKit.callS X0 hx (y := (⟨"com/example/vacuum/vacuum/model/MethodOfWireNamePinLaw", "at", "(Ljava/lang/String;IICC)C"⟩ : MethodName)) hown (mvT hZ (ow hw 13 rfl)) (mvT hZ (ow hw 14 rfl)) (mvT hZ (ow hw 11 rfl)) (mvT hZ (ow hw 15 rfl)) (by decide) (backOf (W := 2) (rm_at l Z a0 hw [] w_N S_N X_N w_K S_K X_K w_V k_V S_V X_V V_V w_NS F_NS X_NS I_NS_coder w_NB k_NB F_NB V_NB w_KS F_KS X_KS I_KS_coder w_KB k_KB F_KB V_KB w_OE S_OE X_OE I_OE_value g_CS S_CS nz_CS g_SF S_SF r_SF p1 (0 : Int32) p2 p3 p4 pcs pv pk h0 n0 X00 hp2 hp3 hp4 hp5 hpc1 hle1 hs3 hs4 (by decide)) hZ (ow hw 15 rfl) (ow hw 11 rfl) (by decide) (by decide)) (g := (mkF m 8 #[.val (.ref p0), .val (.ref p1), .val (.int p2), .val (.int p3), .val (.int p4)] [(.int p4), (.int p3), (.int p2), (.int (0 : Int32)), (.ref p1), (.int (0 : Int32)), (.ref p0)])) rfl (by rw [hml]; rfl) (argsL := [(.ref p1), (.int (0 : Int32)), (.int p2), (.int p3), (.int p4)]) (rest := [(.int (0 : Int32)), (.ref p0)]) (lenOf own_pd9 rfl) rfl (by show 2 * 0 + _ ≤ _; exact Nat.le_of_eq rfl) (hb hby own_d_method_4_code_8) (fun _ _ => ⟨rfl, e0, (by decide : 0 + 0 ≤ _), (by decide : 0 + 0 ≤ _)⟩)
  dsimp only [Pt.U, Pt.locs, Pt.cells, Pt.slots] at X1 l1 y1 z1 st1 hQ1
  subst y1 z1
  refine Go.st st1 ?_
  obtain ⟨rc_2, rfl, N1q, e1, q1_0⟩ := hQ1
  have N1 : Fr n0 L1 := by rw [l1]; exact Fr.app N0 N1q
  show Go p.tables e below P (T1.setTop (mkF m 11 #[lR p0, lR p1, lI p2, lI p3, lI p4] [(.int rc_2), (.int (0 : Int32)), (.ref p0)]))
  obtain ⟨T3, h3, X3, e3, W3, V3, st3⟩ := own_stC X1 hx hZ e1 hp0 (j := (0 : Int32)) (i := 0) (by decide) (by decide) (Nat.le_of_ble_eq_true rfl) (g := (mkF m 11 #[.val (.ref p0), .val (.ref p1), .val (.int p2), .val (.int p3), .val (.int p4)] [(.int rc_2), (.int (0 : Int32)), (.ref p0)])) rfl rfl (hb hby own_d_method_4_code_11)
  refine Go.st st3 ?_
  rw [own_narC q1_0] at V3
  have K3 : Keep h0 h3 [p0] := (Keep.refl h0 [p0]).wr W3 (Or.inl (List.mem_of_getElem? (i := 0) rfl))
  have O3 := X00.wr W3 hp1
  have N3 := Fr.snoc X3 N1 hp1
  have V3' : Arv Z h3 p0 ka .char (15 : Int32) [(.int rc_2), (.int (0 : Int32)), (.int (0 : Int32)), (.int (0 : Int32)), (.int (0 : Int32)), (.int (0 : Int32)), (.int (0 : Int32)), (.int (0 : Int32)), (.int (0 : Int32)), (.int (0 : Int32)), (.int (0 : Int32)), (.int (0 : Int32)), (.int (0 : Int32)), (.int (0 : Int32)), (.int (0 : Int32))] (.int (0 : Int32)) := V3
  show Go p.tables e below P (T3.setTop (mkF m 12 #[lR p0, lR p1, lI p2, lI p3, lI p4] []))
  refine Go.st (fun _ => XS.aloadN X3.here hx rfl (hb hby own_d_method_4_code_12) rfl rfl) ?_
  show Go p.tables e below P (T3.setTop (mkF m 13 #[lR p0, lR p1, lI p2, lI p3, lI p4] [(.ref p0)]))
  refine Go.st (fun _ => XS.iconst X3.here hx rfl (hb hby own_d_method_4_code_13)) ?_
  show Go p.tables e below P (T3.setTop (mkF m 14 #[lR p0, lR p1, lI p2, lI p3, lI p4] [(.int (1 : Int32)), (.ref p0)]))
  refine Go.st (fun _ => XS.aloadN X3.here hx rfl (hb hby own_d_method_4_code_14) rfl rfl) ?_
  show Go p.tables e below P (T3.setTop (mkF m 15 #[lR p0, lR p1, lI p2, lI p3, lI p4] [(.ref p1), (.int (1 : Int32)), (.ref p0)]))
  refine Go.st (fun _ => XS.iconst X3.here hx rfl (hb hby own_d_method_4_code_15)) ?_
  show Go p.tables e below P (T3.setTop (mkF m 16 #[lR p0, lR p1, lI p2, lI p3, lI p4] [(.int (1 : Int32)), (.ref p1), (.int (1 : Int32)), (.ref p0)]))
  refine Go.st (fun _ => XS.iloadN X3.here hx rfl (hb hby own_d_method_4_code_16) rfl) ?_
  show Go p.tables e below P (T3.setTop (mkF m 17 #[lR p0, lR p1, lI p2, lI p3, lI p4] [(.int p2), (.int (1 : Int32)), (.ref p1), (.int (1 : Int32)), (.ref p0)]))
  refine Go.st (fun _ => XS.iloadN X3.here hx rfl (hb hby own_d_method_4_code_17) rfl) ?_
  show Go p.tables e below P (T3.setTop (mkF m 18 #[lR p0, lR p1, lI p2, lI p3, lI p4] [(.int p3), (.int p2), (.int (1 : Int32)), (.ref p1), (.int (1 : Int32)), (.ref p0)]))
  refine Go.st (fun _ => XS.iload X3.here hx rfl (hb hby own_d_method_4_code_18) rfl) ?_
  show Go p.tables e below P (T3.setTop (mkF m 20 #[lR p0, lR p1, lI p2, lI p3, lI p4] [(.int p4), (.int p3), (.int p2), (.int (1 : Int32)), (.ref p1), (.int (1 : Int32)), (.ref p0)]))
  have c5 := (hp2.wr W3)
  have c6 := (hp3.other W3 (Or.inl (Exa.neArv hp2 hp0 (ow hw 2 rfl))))
  have c7 := (hp4.other W3 (Or.inl (Exa.neArv hp2 hp0 (ow hw 2 rfl))))
  have c8 := (hp5.other W3 hp8)
  obtain ⟨_, _, ⟨T4, L4, k4, n4⟩, -, X4, ⟨Lc4, hQ4, l4, y4, z4⟩, st4⟩ := Jvm.LawKit.callS X3 hx (y := (⟨"com/example/vacuum/vacuum/model/MethodOfWireNamePinLaw", "at", "(Ljava/lang/String;IICC)C"⟩ : MethodName)) hown (mvT hZ (ow hw 13 rfl)) (mvT hZ (ow hw 14 rfl)) (mvT hZ (ow hw 11 rfl)) (mvT hZ (ow hw 15 rfl)) (by decide) (backOf (W := 2) (rm_at l Z a0 hw [] w_N S_N X_N w_K S_K X_K w_V k_V S_V X_V V_V w_NS F_NS X_NS I_NS_coder w_NB k_NB F_NB V_NB w_KS F_KS X_KS I_KS_coder w_KB k_KB F_KB V_KB w_OE S_OE X_OE I_OE_value g_CS S_CS nz_CS g_SF S_SF r_SF p1 (1 : Int32) p2 p3 p4 pcs pv pk h3 n0 O3 c5 c6 c7 c8 hpc1 hle1 hs3 hs4 (by decide)) hZ (ow hw 15 rfl) (ow hw 11 rfl) (by decide) (by decide)) (g := (mkF m 20 #[.val (.ref p0), .val (.ref p1), .val (.int p2), .val (.int p3), .val (.int p4)] [(.int p4), (.int p3), (.int p2), (.int (1 : Int32)), (.ref p1), (.int (1 : Int32)), (.ref p0)])) rfl (by rw [hml]; rfl) (argsL := [(.ref p1), (.int (1 : Int32)), (.int p2), (.int p3), (.int p4)]) (rest := [(.int (1 : Int32)), (.ref p0)]) (lenOf own_pd9 rfl) rfl (by show 2 * 0 + _ ≤ _; exact Nat.le_of_eq rfl) (hb hby own_d_method_4_code_20) (fun _ _ => ⟨rfl, e3, (by decide : 0 + 0 ≤ _), (by decide : 0 + 0 ≤ _)⟩)
  dsimp only [Pt.U, Pt.locs, Pt.cells, Pt.slots] at X4 l4 y4 z4 st4 hQ4
  subst y4 z4
  refine Go.st st4 ?_
  obtain ⟨rc_9, rfl, N4q, e4, q4_0⟩ := hQ4
  have N4 : Fr n0 L4 := by rw [l4]; exact Fr.app N3 N4q
  show Go p.tables e below P (T4.setTop (mkF m 23 #[lR p0, lR p1, lI p2, lI p3, lI p4] [(.int rc_9), (.int (1 : Int32)), (.ref p0)]))
  obtain ⟨T10, h10, X10, e10, W10, V10, st10⟩ := own_stC X4 hx hZ e4 V3' (j := (1 : Int32)) (i := 1) (by decide) (by decide) (Nat.le_of_ble_eq_true rfl) (g := (mkF m 23 #[.val (.ref p0), .val (.ref p1), .val (.int p2), .val (.int p3), .val (.int p4)] [(.int rc_9), (.int (1 : Int32)), (.ref p0)])) rfl rfl (hb hby own_d_method_4_code_23)
  refine Go.st st10 ?_
  rw [own_narC q4_0] at V10
  have K10 : Keep h0 h10 [p0] := K3.wr W10 (Or.inl (List.mem_of_getElem? (i := 0) rfl))
  have O10 := O3.wr W10 hp1
  have N10 := Fr.snoc X10 N4 hp1
  have V10' : Arv Z h10 p0 ka .char (15 : Int32) [(.int rc_2), (.int rc_9), (.int (0 : Int32)), (.int (0 : Int32)), (.int (0 : Int32)), (.int (0 : Int32)), (.int (0 : Int32)), (.int (0 : Int32)), (.int (0 : Int32)), (.int (0 : Int32)), (.int (0 : Int32)), (.int (0 : Int32)), (.int (0 : Int32)), (.int (0 : Int32)), (.int (0 : Int32))] (.int (0 : Int32)) := V10
  show Go p.tables e below P (T10.setTop (mkF m 24 #[lR p0, lR p1, lI p2, lI p3, lI p4] []))
  refine Go.st (fun _ => XS.aloadN X10.here hx rfl (hb hby own_d_method_4_code_24) rfl rfl) ?_
  show Go p.tables e below P (T10.setTop (mkF m 25 #[lR p0, lR p1, lI p2, lI p3, lI p4] [(.ref p0)]))
  refine Go.st (fun _ => XS.iconst X10.here hx rfl (hb hby own_d_method_4_code_25)) ?_
  show Go p.tables e below P (T10.setTop (mkF m 26 #[lR p0, lR p1, lI p2, lI p3, lI p4] [(.int (2 : Int32)), (.ref p0)]))
  refine Go.st (fun _ => XS.aloadN X10.here hx rfl (hb hby own_d_method_4_code_26) rfl rfl) ?_
  show Go p.tables e below P (T10.setTop (mkF m 27 #[lR p0, lR p1, lI p2, lI p3, lI p4] [(.ref p1), (.int (2 : Int32)), (.ref p0)]))
  refine Go.st (fun _ => XS.iconst X10.here hx rfl (hb hby own_d_method_4_code_27)) ?_
  show Go p.tables e below P (T10.setTop (mkF m 28 #[lR p0, lR p1, lI p2, lI p3, lI p4] [(.int (2 : Int32)), (.ref p1), (.int (2 : Int32)), (.ref p0)]))
  refine Go.st (fun _ => XS.iloadN X10.here hx rfl (hb hby own_d_method_4_code_28) rfl) ?_
  show Go p.tables e below P (T10.setTop (mkF m 29 #[lR p0, lR p1, lI p2, lI p3, lI p4] [(.int p2), (.int (2 : Int32)), (.ref p1), (.int (2 : Int32)), (.ref p0)]))
  refine Go.st (fun _ => XS.iloadN X10.here hx rfl (hb hby own_d_method_4_code_29) rfl) ?_
  show Go p.tables e below P (T10.setTop (mkF m 30 #[lR p0, lR p1, lI p2, lI p3, lI p4] [(.int p3), (.int p2), (.int (2 : Int32)), (.ref p1), (.int (2 : Int32)), (.ref p0)]))
  refine Go.st (fun _ => XS.iload X10.here hx rfl (hb hby own_d_method_4_code_30) rfl) ?_
  show Go p.tables e below P (T10.setTop (mkF m 32 #[lR p0, lR p1, lI p2, lI p3, lI p4] [(.int p4), (.int p3), (.int p2), (.int (2 : Int32)), (.ref p1), (.int (2 : Int32)), (.ref p0)]))
  have c12 := (c5.wr W10)
  have c13 := (c6.other W10 (Or.inl (Exa.neArv hp2 hp0 (ow hw 2 rfl))))
  have c14 := (c7.other W10 (Or.inl (Exa.neArv hp2 hp0 (ow hw 2 rfl))))
  have c15 := (c8.other W10 hp8)
  obtain ⟨_, _, ⟨T11, L11, k11, n11⟩, -, X11, ⟨Lc11, hQ11, l11, y11, z11⟩, st11⟩ := Jvm.LawKit.callS X10 hx (y := (⟨"com/example/vacuum/vacuum/model/MethodOfWireNamePinLaw", "at", "(Ljava/lang/String;IICC)C"⟩ : MethodName)) hown (mvT hZ (ow hw 13 rfl)) (mvT hZ (ow hw 14 rfl)) (mvT hZ (ow hw 11 rfl)) (mvT hZ (ow hw 15 rfl)) (by decide) (backOf (W := 2) (rm_at l Z a0 hw [] w_N S_N X_N w_K S_K X_K w_V k_V S_V X_V V_V w_NS F_NS X_NS I_NS_coder w_NB k_NB F_NB V_NB w_KS F_KS X_KS I_KS_coder w_KB k_KB F_KB V_KB w_OE S_OE X_OE I_OE_value g_CS S_CS nz_CS g_SF S_SF r_SF p1 (2 : Int32) p2 p3 p4 pcs pv pk h10 n0 O10 c12 c13 c14 c15 hpc1 hle1 hs3 hs4 (by decide)) hZ (ow hw 15 rfl) (ow hw 11 rfl) (by decide) (by decide)) (g := (mkF m 32 #[.val (.ref p0), .val (.ref p1), .val (.int p2), .val (.int p3), .val (.int p4)] [(.int p4), (.int p3), (.int p2), (.int (2 : Int32)), (.ref p1), (.int (2 : Int32)), (.ref p0)])) rfl (by rw [hml]; rfl) (argsL := [(.ref p1), (.int (2 : Int32)), (.int p2), (.int p3), (.int p4)]) (rest := [(.int (2 : Int32)), (.ref p0)]) (lenOf own_pd9 rfl) rfl (by show 2 * 0 + _ ≤ _; exact Nat.le_of_eq rfl) (hb hby own_d_method_4_code_32) (fun _ _ => ⟨rfl, e10, (by decide : 0 + 0 ≤ _), (by decide : 0 + 0 ≤ _)⟩)
  dsimp only [Pt.U, Pt.locs, Pt.cells, Pt.slots] at X11 l11 y11 z11 st11 hQ11
  subst y11 z11
  refine Go.st st11 ?_
  obtain ⟨rc_16, rfl, N11q, e11, q11_0⟩ := hQ11
  have N11 : Fr n0 L11 := by rw [l11]; exact Fr.app N10 N11q
  show Go p.tables e below P (T11.setTop (mkF m 35 #[lR p0, lR p1, lI p2, lI p3, lI p4] [(.int rc_16), (.int (2 : Int32)), (.ref p0)]))
  obtain ⟨T17, h17, X17, e17, W17, V17, st17⟩ := own_stC X11 hx hZ e11 V10' (j := (2 : Int32)) (i := 2) (by decide) (by decide) (Nat.le_of_ble_eq_true rfl) (g := (mkF m 35 #[.val (.ref p0), .val (.ref p1), .val (.int p2), .val (.int p3), .val (.int p4)] [(.int rc_16), (.int (2 : Int32)), (.ref p0)])) rfl rfl (hb hby own_d_method_4_code_35)
  refine Go.st st17 ?_
  rw [own_narC q11_0] at V17
  have K17 : Keep h0 h17 [p0] := K10.wr W17 (Or.inl (List.mem_of_getElem? (i := 0) rfl))
  have O17 := O10.wr W17 hp1
  have N17 := Fr.snoc X17 N11 hp1
  have V17' : Arv Z h17 p0 ka .char (15 : Int32) [(.int rc_2), (.int rc_9), (.int rc_16), (.int (0 : Int32)), (.int (0 : Int32)), (.int (0 : Int32)), (.int (0 : Int32)), (.int (0 : Int32)), (.int (0 : Int32)), (.int (0 : Int32)), (.int (0 : Int32)), (.int (0 : Int32)), (.int (0 : Int32)), (.int (0 : Int32)), (.int (0 : Int32))] (.int (0 : Int32)) := V17
  show Go p.tables e below P (T17.setTop (mkF m 36 #[lR p0, lR p1, lI p2, lI p3, lI p4] []))
  refine Go.st (fun _ => XS.aloadN X17.here hx rfl (hb hby own_d_method_4_code_36) rfl rfl) ?_
  show Go p.tables e below P (T17.setTop (mkF m 37 #[lR p0, lR p1, lI p2, lI p3, lI p4] [(.ref p0)]))
  refine Go.st (fun _ => XS.iconst X17.here hx rfl (hb hby own_d_method_4_code_37)) ?_
  show Go p.tables e below P (T17.setTop (mkF m 38 #[lR p0, lR p1, lI p2, lI p3, lI p4] [(.int (3 : Int32)), (.ref p0)]))
  refine Go.st (fun _ => XS.aloadN X17.here hx rfl (hb hby own_d_method_4_code_38) rfl rfl) ?_
  show Go p.tables e below P (T17.setTop (mkF m 39 #[lR p0, lR p1, lI p2, lI p3, lI p4] [(.ref p1), (.int (3 : Int32)), (.ref p0)]))
  refine Go.st (fun _ => XS.iconst X17.here hx rfl (hb hby own_d_method_4_code_39)) ?_
  show Go p.tables e below P (T17.setTop (mkF m 40 #[lR p0, lR p1, lI p2, lI p3, lI p4] [(.int (3 : Int32)), (.ref p1), (.int (3 : Int32)), (.ref p0)]))
  refine Go.st (fun _ => XS.iloadN X17.here hx rfl (hb hby own_d_method_4_code_40) rfl) ?_
  show Go p.tables e below P (T17.setTop (mkF m 41 #[lR p0, lR p1, lI p2, lI p3, lI p4] [(.int p2), (.int (3 : Int32)), (.ref p1), (.int (3 : Int32)), (.ref p0)]))
  refine Go.st (fun _ => XS.iloadN X17.here hx rfl (hb hby own_d_method_4_code_41) rfl) ?_
  show Go p.tables e below P (T17.setTop (mkF m 42 #[lR p0, lR p1, lI p2, lI p3, lI p4] [(.int p3), (.int p2), (.int (3 : Int32)), (.ref p1), (.int (3 : Int32)), (.ref p0)]))
  refine Go.st (fun _ => XS.iload X17.here hx rfl (hb hby own_d_method_4_code_42) rfl) ?_
  show Go p.tables e below P (T17.setTop (mkF m 44 #[lR p0, lR p1, lI p2, lI p3, lI p4] [(.int p4), (.int p3), (.int p2), (.int (3 : Int32)), (.ref p1), (.int (3 : Int32)), (.ref p0)]))
  have c19 := (c12.wr W17)
  have c20 := (c13.other W17 (Or.inl (Exa.neArv hp2 hp0 (ow hw 2 rfl))))
  have c21 := (c14.other W17 (Or.inl (Exa.neArv hp2 hp0 (ow hw 2 rfl))))
  have c22 := (c15.other W17 hp8)
  obtain ⟨_, _, ⟨T18, L18, k18, n18⟩, -, X18, ⟨Lc18, hQ18, l18, y18, z18⟩, st18⟩ := Jvm.LawKit.callS X17 hx (y := (⟨"com/example/vacuum/vacuum/model/MethodOfWireNamePinLaw", "at", "(Ljava/lang/String;IICC)C"⟩ : MethodName)) hown (mvT hZ (ow hw 13 rfl)) (mvT hZ (ow hw 14 rfl)) (mvT hZ (ow hw 11 rfl)) (mvT hZ (ow hw 15 rfl)) (by decide) (backOf (W := 2) (rm_at l Z a0 hw [] w_N S_N X_N w_K S_K X_K w_V k_V S_V X_V V_V w_NS F_NS X_NS I_NS_coder w_NB k_NB F_NB V_NB w_KS F_KS X_KS I_KS_coder w_KB k_KB F_KB V_KB w_OE S_OE X_OE I_OE_value g_CS S_CS nz_CS g_SF S_SF r_SF p1 (3 : Int32) p2 p3 p4 pcs pv pk h17 n0 O17 c19 c20 c21 c22 hpc1 hle1 hs3 hs4 (by decide)) hZ (ow hw 15 rfl) (ow hw 11 rfl) (by decide) (by decide)) (g := (mkF m 44 #[.val (.ref p0), .val (.ref p1), .val (.int p2), .val (.int p3), .val (.int p4)] [(.int p4), (.int p3), (.int p2), (.int (3 : Int32)), (.ref p1), (.int (3 : Int32)), (.ref p0)])) rfl (by rw [hml]; rfl) (argsL := [(.ref p1), (.int (3 : Int32)), (.int p2), (.int p3), (.int p4)]) (rest := [(.int (3 : Int32)), (.ref p0)]) (lenOf own_pd9 rfl) rfl (by show 2 * 0 + _ ≤ _; exact Nat.le_of_eq rfl) (hb hby own_d_method_4_code_44) (fun _ _ => ⟨rfl, e17, (by decide : 0 + 0 ≤ _), (by decide : 0 + 0 ≤ _)⟩)
  dsimp only [Pt.U, Pt.locs, Pt.cells, Pt.slots] at X18 l18 y18 z18 st18 hQ18
  subst y18 z18
  refine Go.st st18 ?_
  obtain ⟨rc_23, rfl, N18q, e18, q18_0⟩ := hQ18
  have N18 : Fr n0 L18 := by rw [l18]; exact Fr.app N17 N18q
  show Go p.tables e below P (T18.setTop (mkF m 47 #[lR p0, lR p1, lI p2, lI p3, lI p4] [(.int rc_23), (.int (3 : Int32)), (.ref p0)]))
  obtain ⟨T24, h24, X24, e24, W24, V24, st24⟩ := own_stC X18 hx hZ e18 V17' (j := (3 : Int32)) (i := 3) (by decide) (by decide) (Nat.le_of_ble_eq_true rfl) (g := (mkF m 47 #[.val (.ref p0), .val (.ref p1), .val (.int p2), .val (.int p3), .val (.int p4)] [(.int rc_23), (.int (3 : Int32)), (.ref p0)])) rfl rfl (hb hby own_d_method_4_code_47)
  refine Go.st st24 ?_
  rw [own_narC q18_0] at V24
  have K24 : Keep h0 h24 [p0] := K17.wr W24 (Or.inl (List.mem_of_getElem? (i := 0) rfl))
  have O24 := O17.wr W24 hp1
  have N24 := Fr.snoc X24 N18 hp1
  have V24' : Arv Z h24 p0 ka .char (15 : Int32) [(.int rc_2), (.int rc_9), (.int rc_16), (.int rc_23), (.int (0 : Int32)), (.int (0 : Int32)), (.int (0 : Int32)), (.int (0 : Int32)), (.int (0 : Int32)), (.int (0 : Int32)), (.int (0 : Int32)), (.int (0 : Int32)), (.int (0 : Int32)), (.int (0 : Int32)), (.int (0 : Int32))] (.int (0 : Int32)) := V24
  show Go p.tables e below P (T24.setTop (mkF m 48 #[lR p0, lR p1, lI p2, lI p3, lI p4] []))
  refine Go.st (fun _ => XS.aloadN X24.here hx rfl (hb hby own_d_method_4_code_48) rfl rfl) ?_
  show Go p.tables e below P (T24.setTop (mkF m 49 #[lR p0, lR p1, lI p2, lI p3, lI p4] [(.ref p0)]))
  refine Go.st (fun _ => XS.iconst X24.here hx rfl (hb hby own_d_method_4_code_49)) ?_
  show Go p.tables e below P (T24.setTop (mkF m 50 #[lR p0, lR p1, lI p2, lI p3, lI p4] [(.int (4 : Int32)), (.ref p0)]))
  refine Go.st (fun _ => XS.aloadN X24.here hx rfl (hb hby own_d_method_4_code_50) rfl rfl) ?_
  show Go p.tables e below P (T24.setTop (mkF m 51 #[lR p0, lR p1, lI p2, lI p3, lI p4] [(.ref p1), (.int (4 : Int32)), (.ref p0)]))
  refine Go.st (fun _ => XS.iconst X24.here hx rfl (hb hby own_d_method_4_code_51)) ?_
  show Go p.tables e below P (T24.setTop (mkF m 52 #[lR p0, lR p1, lI p2, lI p3, lI p4] [(.int (4 : Int32)), (.ref p1), (.int (4 : Int32)), (.ref p0)]))
  refine Go.st (fun _ => XS.iloadN X24.here hx rfl (hb hby own_d_method_4_code_52) rfl) ?_
  show Go p.tables e below P (T24.setTop (mkF m 53 #[lR p0, lR p1, lI p2, lI p3, lI p4] [(.int p2), (.int (4 : Int32)), (.ref p1), (.int (4 : Int32)), (.ref p0)]))
  refine Go.st (fun _ => XS.iloadN X24.here hx rfl (hb hby own_d_method_4_code_53) rfl) ?_
  show Go p.tables e below P (T24.setTop (mkF m 54 #[lR p0, lR p1, lI p2, lI p3, lI p4] [(.int p3), (.int p2), (.int (4 : Int32)), (.ref p1), (.int (4 : Int32)), (.ref p0)]))
  refine Go.st (fun _ => XS.iload X24.here hx rfl (hb hby own_d_method_4_code_54) rfl) ?_
  show Go p.tables e below P (T24.setTop (mkF m 56 #[lR p0, lR p1, lI p2, lI p3, lI p4] [(.int p4), (.int p3), (.int p2), (.int (4 : Int32)), (.ref p1), (.int (4 : Int32)), (.ref p0)]))
  have c26 := (c19.wr W24)
  have c27 := (c20.other W24 (Or.inl (Exa.neArv hp2 hp0 (ow hw 2 rfl))))
  have c28 := (c21.other W24 (Or.inl (Exa.neArv hp2 hp0 (ow hw 2 rfl))))
  have c29 := (c22.other W24 hp8)
  obtain ⟨_, _, ⟨T25, L25, k25, n25⟩, -, X25, ⟨Lc25, hQ25, l25, y25, z25⟩, st25⟩ := Jvm.LawKit.callS X24 hx (y := (⟨"com/example/vacuum/vacuum/model/MethodOfWireNamePinLaw", "at", "(Ljava/lang/String;IICC)C"⟩ : MethodName)) hown (mvT hZ (ow hw 13 rfl)) (mvT hZ (ow hw 14 rfl)) (mvT hZ (ow hw 11 rfl)) (mvT hZ (ow hw 15 rfl)) (by decide) (backOf (W := 2) (rm_at l Z a0 hw [] w_N S_N X_N w_K S_K X_K w_V k_V S_V X_V V_V w_NS F_NS X_NS I_NS_coder w_NB k_NB F_NB V_NB w_KS F_KS X_KS I_KS_coder w_KB k_KB F_KB V_KB w_OE S_OE X_OE I_OE_value g_CS S_CS nz_CS g_SF S_SF r_SF p1 (4 : Int32) p2 p3 p4 pcs pv pk h24 n0 O24 c26 c27 c28 c29 hpc1 hle1 hs3 hs4 (by decide)) hZ (ow hw 15 rfl) (ow hw 11 rfl) (by decide) (by decide)) (g := (mkF m 56 #[.val (.ref p0), .val (.ref p1), .val (.int p2), .val (.int p3), .val (.int p4)] [(.int p4), (.int p3), (.int p2), (.int (4 : Int32)), (.ref p1), (.int (4 : Int32)), (.ref p0)])) rfl (by rw [hml]; rfl) (argsL := [(.ref p1), (.int (4 : Int32)), (.int p2), (.int p3), (.int p4)]) (rest := [(.int (4 : Int32)), (.ref p0)]) (lenOf own_pd9 rfl) rfl (by show 2 * 0 + _ ≤ _; exact Nat.le_of_eq rfl) (hb hby own_d_method_4_code_56) (fun _ _ => ⟨rfl, e24, (by decide : 0 + 0 ≤ _), (by decide : 0 + 0 ≤ _)⟩)
  dsimp only [Pt.U, Pt.locs, Pt.cells, Pt.slots] at X25 l25 y25 z25 st25 hQ25
  subst y25 z25
  refine Go.st st25 ?_
  obtain ⟨rc_30, rfl, N25q, e25, q25_0⟩ := hQ25
  have N25 : Fr n0 L25 := by rw [l25]; exact Fr.app N24 N25q
  show Go p.tables e below P (T25.setTop (mkF m 59 #[lR p0, lR p1, lI p2, lI p3, lI p4] [(.int rc_30), (.int (4 : Int32)), (.ref p0)]))
  obtain ⟨T31, h31, X31, e31, W31, V31, st31⟩ := own_stC X25 hx hZ e25 V24' (j := (4 : Int32)) (i := 4) (by decide) (by decide) (Nat.le_of_ble_eq_true rfl) (g := (mkF m 59 #[.val (.ref p0), .val (.ref p1), .val (.int p2), .val (.int p3), .val (.int p4)] [(.int rc_30), (.int (4 : Int32)), (.ref p0)])) rfl rfl (hb hby own_d_method_4_code_59)
  refine Go.st st31 ?_
  rw [own_narC q25_0] at V31
  have K31 : Keep h0 h31 [p0] := K24.wr W31 (Or.inl (List.mem_of_getElem? (i := 0) rfl))
  have O31 := O24.wr W31 hp1
  have N31 := Fr.snoc X31 N25 hp1
  have V31' : Arv Z h31 p0 ka .char (15 : Int32) [(.int rc_2), (.int rc_9), (.int rc_16), (.int rc_23), (.int rc_30), (.int (0 : Int32)), (.int (0 : Int32)), (.int (0 : Int32)), (.int (0 : Int32)), (.int (0 : Int32)), (.int (0 : Int32)), (.int (0 : Int32)), (.int (0 : Int32)), (.int (0 : Int32)), (.int (0 : Int32))] (.int (0 : Int32)) := V31
  show Go p.tables e below P (T31.setTop (mkF m 60 #[lR p0, lR p1, lI p2, lI p3, lI p4] []))
  refine Go.st (fun _ => XS.aloadN X31.here hx rfl (hb hby own_d_method_4_code_60) rfl rfl) ?_
  show Go p.tables e below P (T31.setTop (mkF m 61 #[lR p0, lR p1, lI p2, lI p3, lI p4] [(.ref p0)]))
  refine Go.st (fun _ => XS.iconst X31.here hx rfl (hb hby own_d_method_4_code_61)) ?_
  show Go p.tables e below P (T31.setTop (mkF m 62 #[lR p0, lR p1, lI p2, lI p3, lI p4] [(.int (5 : Int32)), (.ref p0)]))
  refine Go.st (fun _ => XS.aloadN X31.here hx rfl (hb hby own_d_method_4_code_62) rfl rfl) ?_
  show Go p.tables e below P (T31.setTop (mkF m 63 #[lR p0, lR p1, lI p2, lI p3, lI p4] [(.ref p1), (.int (5 : Int32)), (.ref p0)]))
  refine Go.st (fun _ => XS.iconst X31.here hx rfl (hb hby own_d_method_4_code_63)) ?_
  show Go p.tables e below P (T31.setTop (mkF m 64 #[lR p0, lR p1, lI p2, lI p3, lI p4] [(.int (5 : Int32)), (.ref p1), (.int (5 : Int32)), (.ref p0)]))
  refine Go.st (fun _ => XS.iloadN X31.here hx rfl (hb hby own_d_method_4_code_64) rfl) ?_
  show Go p.tables e below P (T31.setTop (mkF m 65 #[lR p0, lR p1, lI p2, lI p3, lI p4] [(.int p2), (.int (5 : Int32)), (.ref p1), (.int (5 : Int32)), (.ref p0)]))
  refine Go.st (fun _ => XS.iloadN X31.here hx rfl (hb hby own_d_method_4_code_65) rfl) ?_
  show Go p.tables e below P (T31.setTop (mkF m 66 #[lR p0, lR p1, lI p2, lI p3, lI p4] [(.int p3), (.int p2), (.int (5 : Int32)), (.ref p1), (.int (5 : Int32)), (.ref p0)]))
  refine Go.st (fun _ => XS.iload X31.here hx rfl (hb hby own_d_method_4_code_66) rfl) ?_
  show Go p.tables e below P (T31.setTop (mkF m 68 #[lR p0, lR p1, lI p2, lI p3, lI p4] [(.int p4), (.int p3), (.int p2), (.int (5 : Int32)), (.ref p1), (.int (5 : Int32)), (.ref p0)]))
  have c33 := (c26.wr W31)
  have c34 := (c27.other W31 (Or.inl (Exa.neArv hp2 hp0 (ow hw 2 rfl))))
  have c35 := (c28.other W31 (Or.inl (Exa.neArv hp2 hp0 (ow hw 2 rfl))))
  have c36 := (c29.other W31 hp8)
  obtain ⟨_, _, ⟨T32, L32, k32, n32⟩, -, X32, ⟨Lc32, hQ32, l32, y32, z32⟩, st32⟩ := Jvm.LawKit.callS X31 hx (y := (⟨"com/example/vacuum/vacuum/model/MethodOfWireNamePinLaw", "at", "(Ljava/lang/String;IICC)C"⟩ : MethodName)) hown (mvT hZ (ow hw 13 rfl)) (mvT hZ (ow hw 14 rfl)) (mvT hZ (ow hw 11 rfl)) (mvT hZ (ow hw 15 rfl)) (by decide) (backOf (W := 2) (rm_at l Z a0 hw [] w_N S_N X_N w_K S_K X_K w_V k_V S_V X_V V_V w_NS F_NS X_NS I_NS_coder w_NB k_NB F_NB V_NB w_KS F_KS X_KS I_KS_coder w_KB k_KB F_KB V_KB w_OE S_OE X_OE I_OE_value g_CS S_CS nz_CS g_SF S_SF r_SF p1 (5 : Int32) p2 p3 p4 pcs pv pk h31 n0 O31 c33 c34 c35 c36 hpc1 hle1 hs3 hs4 (by decide)) hZ (ow hw 15 rfl) (ow hw 11 rfl) (by decide) (by decide)) (g := (mkF m 68 #[.val (.ref p0), .val (.ref p1), .val (.int p2), .val (.int p3), .val (.int p4)] [(.int p4), (.int p3), (.int p2), (.int (5 : Int32)), (.ref p1), (.int (5 : Int32)), (.ref p0)])) rfl (by rw [hml]; rfl) (argsL := [(.ref p1), (.int (5 : Int32)), (.int p2), (.int p3), (.int p4)]) (rest := [(.int (5 : Int32)), (.ref p0)]) (lenOf own_pd9 rfl) rfl (by show 2 * 0 + _ ≤ _; exact Nat.le_of_eq rfl) (hb hby own_d_method_4_code_68) (fun _ _ => ⟨rfl, e31, (by decide : 0 + 0 ≤ _), (by decide : 0 + 0 ≤ _)⟩)
  dsimp only [Pt.U, Pt.locs, Pt.cells, Pt.slots] at X32 l32 y32 z32 st32 hQ32
  subst y32 z32
  refine Go.st st32 ?_
  obtain ⟨rc_37, rfl, N32q, e32, q32_0⟩ := hQ32
  have N32 : Fr n0 L32 := by rw [l32]; exact Fr.app N31 N32q
  show Go p.tables e below P (T32.setTop (mkF m 71 #[lR p0, lR p1, lI p2, lI p3, lI p4] [(.int rc_37), (.int (5 : Int32)), (.ref p0)]))
  obtain ⟨T38, h38, X38, e38, W38, V38, st38⟩ := own_stC X32 hx hZ e32 V31' (j := (5 : Int32)) (i := 5) (by decide) (by decide) (Nat.le_of_ble_eq_true rfl) (g := (mkF m 71 #[.val (.ref p0), .val (.ref p1), .val (.int p2), .val (.int p3), .val (.int p4)] [(.int rc_37), (.int (5 : Int32)), (.ref p0)])) rfl rfl (hb hby own_d_method_4_code_71)
  refine Go.st st38 ?_
  rw [own_narC q32_0] at V38
  have K38 : Keep h0 h38 [p0] := K31.wr W38 (Or.inl (List.mem_of_getElem? (i := 0) rfl))
  have O38 := O31.wr W38 hp1
  have N38 := Fr.snoc X38 N32 hp1
  have V38' : Arv Z h38 p0 ka .char (15 : Int32) [(.int rc_2), (.int rc_9), (.int rc_16), (.int rc_23), (.int rc_30), (.int rc_37), (.int (0 : Int32)), (.int (0 : Int32)), (.int (0 : Int32)), (.int (0 : Int32)), (.int (0 : Int32)), (.int (0 : Int32)), (.int (0 : Int32)), (.int (0 : Int32)), (.int (0 : Int32))] (.int (0 : Int32)) := V38
  show Go p.tables e below P (T38.setTop (mkF m 72 #[lR p0, lR p1, lI p2, lI p3, lI p4] []))
  refine Go.st (fun _ => XS.aloadN X38.here hx rfl (hb hby own_d_method_4_code_72) rfl rfl) ?_
  show Go p.tables e below P (T38.setTop (mkF m 73 #[lR p0, lR p1, lI p2, lI p3, lI p4] [(.ref p0)]))
  refine Go.st (fun _ => XS.bipush X38.here hx rfl (hb hby own_d_method_4_code_73)) ?_
  show Go p.tables e below P (T38.setTop (mkF m 75 #[lR p0, lR p1, lI p2, lI p3, lI p4] [(.int (6 : Int32)), (.ref p0)]))
  refine Go.st (fun _ => XS.aloadN X38.here hx rfl (hb hby own_d_method_4_code_75) rfl rfl) ?_
  show Go p.tables e below P (T38.setTop (mkF m 76 #[lR p0, lR p1, lI p2, lI p3, lI p4] [(.ref p1), (.int (6 : Int32)), (.ref p0)]))
  refine Go.st (fun _ => XS.bipush X38.here hx rfl (hb hby own_d_method_4_code_76)) ?_
  show Go p.tables e below P (T38.setTop (mkF m 78 #[lR p0, lR p1, lI p2, lI p3, lI p4] [(.int (6 : Int32)), (.ref p1), (.int (6 : Int32)), (.ref p0)]))
  refine Go.st (fun _ => XS.iloadN X38.here hx rfl (hb hby own_d_method_4_code_78) rfl) ?_
  show Go p.tables e below P (T38.setTop (mkF m 79 #[lR p0, lR p1, lI p2, lI p3, lI p4] [(.int p2), (.int (6 : Int32)), (.ref p1), (.int (6 : Int32)), (.ref p0)]))
  refine Go.st (fun _ => XS.iloadN X38.here hx rfl (hb hby own_d_method_4_code_79) rfl) ?_
  show Go p.tables e below P (T38.setTop (mkF m 80 #[lR p0, lR p1, lI p2, lI p3, lI p4] [(.int p3), (.int p2), (.int (6 : Int32)), (.ref p1), (.int (6 : Int32)), (.ref p0)]))
  refine Go.st (fun _ => XS.iload X38.here hx rfl (hb hby own_d_method_4_code_80) rfl) ?_
  show Go p.tables e below P (T38.setTop (mkF m 82 #[lR p0, lR p1, lI p2, lI p3, lI p4] [(.int p4), (.int p3), (.int p2), (.int (6 : Int32)), (.ref p1), (.int (6 : Int32)), (.ref p0)]))
  have c40 := (c33.wr W38)
  have c41 := (c34.other W38 (Or.inl (Exa.neArv hp2 hp0 (ow hw 2 rfl))))
  have c42 := (c35.other W38 (Or.inl (Exa.neArv hp2 hp0 (ow hw 2 rfl))))
  have c43 := (c36.other W38 hp8)
  obtain ⟨_, _, ⟨T39, L39, k39, n39⟩, -, X39, ⟨Lc39, hQ39, l39, y39, z39⟩, st39⟩ := Jvm.LawKit.callS X38 hx (y := (⟨"com/example/vacuum/vacuum/model/MethodOfWireNamePinLaw", "at", "(Ljava/lang/String;IICC)C"⟩ : MethodName)) hown (mvT hZ (ow hw 13 rfl)) (mvT hZ (ow hw 14 rfl)) (mvT hZ (ow hw 11 rfl)) (mvT hZ (ow hw 15 rfl)) (by decide) (backOf (W := 2) (rm_at l Z a0 hw [] w_N S_N X_N w_K S_K X_K w_V k_V S_V X_V V_V w_NS F_NS X_NS I_NS_coder w_NB k_NB F_NB V_NB w_KS F_KS X_KS I_KS_coder w_KB k_KB F_KB V_KB w_OE S_OE X_OE I_OE_value g_CS S_CS nz_CS g_SF S_SF r_SF p1 (6 : Int32) p2 p3 p4 pcs pv pk h38 n0 O38 c40 c41 c42 c43 hpc1 hle1 hs3 hs4 (by decide)) hZ (ow hw 15 rfl) (ow hw 11 rfl) (by decide) (by decide)) (g := (mkF m 82 #[.val (.ref p0), .val (.ref p1), .val (.int p2), .val (.int p3), .val (.int p4)] [(.int p4), (.int p3), (.int p2), (.int (6 : Int32)), (.ref p1), (.int (6 : Int32)), (.ref p0)])) rfl (by rw [hml]; rfl) (argsL := [(.ref p1), (.int (6 : Int32)), (.int p2), (.int p3), (.int p4)]) (rest := [(.int (6 : Int32)), (.ref p0)]) (lenOf own_pd9 rfl) rfl (by show 2 * 0 + _ ≤ _; exact Nat.le_of_eq rfl) (hb hby own_d_method_4_code_82) (fun _ _ => ⟨rfl, e38, (by decide : 0 + 0 ≤ _), (by decide : 0 + 0 ≤ _)⟩)
  dsimp only [Pt.U, Pt.locs, Pt.cells, Pt.slots] at X39 l39 y39 z39 st39 hQ39
  subst y39 z39
  refine Go.st st39 ?_
  obtain ⟨rc_44, rfl, N39q, e39, q39_0⟩ := hQ39
  have N39 : Fr n0 L39 := by rw [l39]; exact Fr.app N38 N39q
  show Go p.tables e below P (T39.setTop (mkF m 85 #[lR p0, lR p1, lI p2, lI p3, lI p4] [(.int rc_44), (.int (6 : Int32)), (.ref p0)]))
  obtain ⟨T45, h45, X45, e45, W45, V45, st45⟩ := own_stC X39 hx hZ e39 V38' (j := (6 : Int32)) (i := 6) (by decide) (by decide) (Nat.le_of_ble_eq_true rfl) (g := (mkF m 85 #[.val (.ref p0), .val (.ref p1), .val (.int p2), .val (.int p3), .val (.int p4)] [(.int rc_44), (.int (6 : Int32)), (.ref p0)])) rfl rfl (hb hby own_d_method_4_code_85)
  refine Go.st st45 ?_
  rw [own_narC q39_0] at V45
  have K45 : Keep h0 h45 [p0] := K38.wr W45 (Or.inl (List.mem_of_getElem? (i := 0) rfl))
  have O45 := O38.wr W45 hp1
  have N45 := Fr.snoc X45 N39 hp1
  have V45' : Arv Z h45 p0 ka .char (15 : Int32) [(.int rc_2), (.int rc_9), (.int rc_16), (.int rc_23), (.int rc_30), (.int rc_37), (.int rc_44), (.int (0 : Int32)), (.int (0 : Int32)), (.int (0 : Int32)), (.int (0 : Int32)), (.int (0 : Int32)), (.int (0 : Int32)), (.int (0 : Int32)), (.int (0 : Int32))] (.int (0 : Int32)) := V45
  show Go p.tables e below P (T45.setTop (mkF m 86 #[lR p0, lR p1, lI p2, lI p3, lI p4] []))
  refine Go.st (fun _ => XS.aloadN X45.here hx rfl (hb hby own_d_method_4_code_86) rfl rfl) ?_
  show Go p.tables e below P (T45.setTop (mkF m 87 #[lR p0, lR p1, lI p2, lI p3, lI p4] [(.ref p0)]))
  refine Go.st (fun _ => XS.bipush X45.here hx rfl (hb hby own_d_method_4_code_87)) ?_
  show Go p.tables e below P (T45.setTop (mkF m 89 #[lR p0, lR p1, lI p2, lI p3, lI p4] [(.int (7 : Int32)), (.ref p0)]))
  refine Go.st (fun _ => XS.aloadN X45.here hx rfl (hb hby own_d_method_4_code_89) rfl rfl) ?_
  show Go p.tables e below P (T45.setTop (mkF m 90 #[lR p0, lR p1, lI p2, lI p3, lI p4] [(.ref p1), (.int (7 : Int32)), (.ref p0)]))
  refine Go.st (fun _ => XS.bipush X45.here hx rfl (hb hby own_d_method_4_code_90)) ?_
  show Go p.tables e below P (T45.setTop (mkF m 92 #[lR p0, lR p1, lI p2, lI p3, lI p4] [(.int (7 : Int32)), (.ref p1), (.int (7 : Int32)), (.ref p0)]))
  refine Go.st (fun _ => XS.iloadN X45.here hx rfl (hb hby own_d_method_4_code_92) rfl) ?_
  show Go p.tables e below P (T45.setTop (mkF m 93 #[lR p0, lR p1, lI p2, lI p3, lI p4] [(.int p2), (.int (7 : Int32)), (.ref p1), (.int (7 : Int32)), (.ref p0)]))
  refine Go.st (fun _ => XS.iloadN X45.here hx rfl (hb hby own_d_method_4_code_93) rfl) ?_
  show Go p.tables e below P (T45.setTop (mkF m 94 #[lR p0, lR p1, lI p2, lI p3, lI p4] [(.int p3), (.int p2), (.int (7 : Int32)), (.ref p1), (.int (7 : Int32)), (.ref p0)]))
  refine Go.st (fun _ => XS.iload X45.here hx rfl (hb hby own_d_method_4_code_94) rfl) ?_
  show Go p.tables e below P (T45.setTop (mkF m 96 #[lR p0, lR p1, lI p2, lI p3, lI p4] [(.int p4), (.int p3), (.int p2), (.int (7 : Int32)), (.ref p1), (.int (7 : Int32)), (.ref p0)]))
  have c47 := (c40.wr W45)
  have c48 := (c41.other W45 (Or.inl (Exa.neArv hp2 hp0 (ow hw 2 rfl))))
  have c49 := (c42.other W45 (Or.inl (Exa.neArv hp2 hp0 (ow hw 2 rfl))))
  have c50 := (c43.other W45 hp8)
  obtain ⟨_, _, ⟨T46, L46, k46, n46⟩, -, X46, ⟨Lc46, hQ46, l46, y46, z46⟩, st46⟩ := Jvm.LawKit.callS X45 hx (y := (⟨"com/example/vacuum/vacuum/model/MethodOfWireNamePinLaw", "at", "(Ljava/lang/String;IICC)C"⟩ : MethodName)) hown (mvT hZ (ow hw 13 rfl)) (mvT hZ (ow hw 14 rfl)) (mvT hZ (ow hw 11 rfl)) (mvT hZ (ow hw 15 rfl)) (by decide) (backOf (W := 2) (rm_at l Z a0 hw [] w_N S_N X_N w_K S_K X_K w_V k_V S_V X_V V_V w_NS F_NS X_NS I_NS_coder w_NB k_NB F_NB V_NB w_KS F_KS X_KS I_KS_coder w_KB k_KB F_KB V_KB w_OE S_OE X_OE I_OE_value g_CS S_CS nz_CS g_SF S_SF r_SF p1 (7 : Int32) p2 p3 p4 pcs pv pk h45 n0 O45 c47 c48 c49 c50 hpc1 hle1 hs3 hs4 (by decide)) hZ (ow hw 15 rfl) (ow hw 11 rfl) (by decide) (by decide)) (g := (mkF m 96 #[.val (.ref p0), .val (.ref p1), .val (.int p2), .val (.int p3), .val (.int p4)] [(.int p4), (.int p3), (.int p2), (.int (7 : Int32)), (.ref p1), (.int (7 : Int32)), (.ref p0)])) rfl (by rw [hml]; rfl) (argsL := [(.ref p1), (.int (7 : Int32)), (.int p2), (.int p3), (.int p4)]) (rest := [(.int (7 : Int32)), (.ref p0)]) (lenOf own_pd9 rfl) rfl (by show 2 * 0 + _ ≤ _; exact Nat.le_of_eq rfl) (hb hby own_d_method_4_code_96) (fun _ _ => ⟨rfl, e45, (by decide : 0 + 0 ≤ _), (by decide : 0 + 0 ≤ _)⟩)
  dsimp only [Pt.U, Pt.locs, Pt.cells, Pt.slots] at X46 l46 y46 z46 st46 hQ46
  subst y46 z46
  refine Go.st st46 ?_
  obtain ⟨rc_51, rfl, N46q, e46, q46_0⟩ := hQ46
  have N46 : Fr n0 L46 := by rw [l46]; exact Fr.app N45 N46q
  show Go p.tables e below P (T46.setTop (mkF m 99 #[lR p0, lR p1, lI p2, lI p3, lI p4] [(.int rc_51), (.int (7 : Int32)), (.ref p0)]))
  obtain ⟨T52, h52, X52, e52, W52, V52, st52⟩ := own_stC X46 hx hZ e46 V45' (j := (7 : Int32)) (i := 7) (by decide) (by decide) (Nat.le_of_ble_eq_true rfl) (g := (mkF m 99 #[.val (.ref p0), .val (.ref p1), .val (.int p2), .val (.int p3), .val (.int p4)] [(.int rc_51), (.int (7 : Int32)), (.ref p0)])) rfl rfl (hb hby own_d_method_4_code_99)
  refine Go.st st52 ?_
  rw [own_narC q46_0] at V52
  have K52 : Keep h0 h52 [p0] := K45.wr W52 (Or.inl (List.mem_of_getElem? (i := 0) rfl))
  have O52 := O45.wr W52 hp1
  have N52 := Fr.snoc X52 N46 hp1
  have V52' : Arv Z h52 p0 ka .char (15 : Int32) [(.int rc_2), (.int rc_9), (.int rc_16), (.int rc_23), (.int rc_30), (.int rc_37), (.int rc_44), (.int rc_51), (.int (0 : Int32)), (.int (0 : Int32)), (.int (0 : Int32)), (.int (0 : Int32)), (.int (0 : Int32)), (.int (0 : Int32)), (.int (0 : Int32))] (.int (0 : Int32)) := V52
  show Go p.tables e below P (T52.setTop (mkF m 100 #[lR p0, lR p1, lI p2, lI p3, lI p4] []))
  refine Go.st (fun _ => XS.aloadN X52.here hx rfl (hb hby own_d_method_4_code_100) rfl rfl) ?_
  show Go p.tables e below P (T52.setTop (mkF m 101 #[lR p0, lR p1, lI p2, lI p3, lI p4] [(.ref p0)]))
  refine Go.st (fun _ => XS.bipush X52.here hx rfl (hb hby own_d_method_4_code_101)) ?_
  show Go p.tables e below P (T52.setTop (mkF m 103 #[lR p0, lR p1, lI p2, lI p3, lI p4] [(.int (8 : Int32)), (.ref p0)]))
  refine Go.st (fun _ => XS.aloadN X52.here hx rfl (hb hby own_d_method_4_code_103) rfl rfl) ?_
  show Go p.tables e below P (T52.setTop (mkF m 104 #[lR p0, lR p1, lI p2, lI p3, lI p4] [(.ref p1), (.int (8 : Int32)), (.ref p0)]))
  refine Go.st (fun _ => XS.bipush X52.here hx rfl (hb hby own_d_method_4_code_104)) ?_
  show Go p.tables e below P (T52.setTop (mkF m 106 #[lR p0, lR p1, lI p2, lI p3, lI p4] [(.int (8 : Int32)), (.ref p1), (.int (8 : Int32)), (.ref p0)]))
  refine Go.st (fun _ => XS.iloadN X52.here hx rfl (hb hby own_d_method_4_code_106) rfl) ?_
  show Go p.tables e below P (T52.setTop (mkF m 107 #[lR p0, lR p1, lI p2, lI p3, lI p4] [(.int p2), (.int (8 : Int32)), (.ref p1), (.int (8 : Int32)), (.ref p0)]))
  refine Go.st (fun _ => XS.iloadN X52.here hx rfl (hb hby own_d_method_4_code_107) rfl) ?_
  show Go p.tables e below P (T52.setTop (mkF m 108 #[lR p0, lR p1, lI p2, lI p3, lI p4] [(.int p3), (.int p2), (.int (8 : Int32)), (.ref p1), (.int (8 : Int32)), (.ref p0)]))
  refine Go.st (fun _ => XS.iload X52.here hx rfl (hb hby own_d_method_4_code_108) rfl) ?_
  show Go p.tables e below P (T52.setTop (mkF m 110 #[lR p0, lR p1, lI p2, lI p3, lI p4] [(.int p4), (.int p3), (.int p2), (.int (8 : Int32)), (.ref p1), (.int (8 : Int32)), (.ref p0)]))
  have c54 := (c47.wr W52)
  have c55 := (c48.other W52 (Or.inl (Exa.neArv hp2 hp0 (ow hw 2 rfl))))
  have c56 := (c49.other W52 (Or.inl (Exa.neArv hp2 hp0 (ow hw 2 rfl))))
  have c57 := (c50.other W52 hp8)
  obtain ⟨_, _, ⟨T53, L53, k53, n53⟩, -, X53, ⟨Lc53, hQ53, l53, y53, z53⟩, st53⟩ := Jvm.LawKit.callS X52 hx (y := (⟨"com/example/vacuum/vacuum/model/MethodOfWireNamePinLaw", "at", "(Ljava/lang/String;IICC)C"⟩ : MethodName)) hown (mvT hZ (ow hw 13 rfl)) (mvT hZ (ow hw 14 rfl)) (mvT hZ (ow hw 11 rfl)) (mvT hZ (ow hw 15 rfl)) (by decide) (backOf (W := 2) (rm_at l Z a0 hw [] w_N S_N X_N w_K S_K X_K w_V k_V S_V X_V V_V w_NS F_NS X_NS I_NS_coder w_NB k_NB F_NB V_NB w_KS F_KS X_KS I_KS_coder w_KB k_KB F_KB V_KB w_OE S_OE X_OE I_OE_value g_CS S_CS nz_CS g_SF S_SF r_SF p1 (8 : Int32) p2 p3 p4 pcs pv pk h52 n0 O52 c54 c55 c56 c57 hpc1 hle1 hs3 hs4 (by decide)) hZ (ow hw 15 rfl) (ow hw 11 rfl) (by decide) (by decide)) (g := (mkF m 110 #[.val (.ref p0), .val (.ref p1), .val (.int p2), .val (.int p3), .val (.int p4)] [(.int p4), (.int p3), (.int p2), (.int (8 : Int32)), (.ref p1), (.int (8 : Int32)), (.ref p0)])) rfl (by rw [hml]; rfl) (argsL := [(.ref p1), (.int (8 : Int32)), (.int p2), (.int p3), (.int p4)]) (rest := [(.int (8 : Int32)), (.ref p0)]) (lenOf own_pd9 rfl) rfl (by show 2 * 0 + _ ≤ _; exact Nat.le_of_eq rfl) (hb hby own_d_method_4_code_110) (fun _ _ => ⟨rfl, e52, (by decide : 0 + 0 ≤ _), (by decide : 0 + 0 ≤ _)⟩)
  dsimp only [Pt.U, Pt.locs, Pt.cells, Pt.slots] at X53 l53 y53 z53 st53 hQ53
  subst y53 z53
  refine Go.st st53 ?_
  obtain ⟨rc_58, rfl, N53q, e53, q53_0⟩ := hQ53
  have N53 : Fr n0 L53 := by rw [l53]; exact Fr.app N52 N53q
  show Go p.tables e below P (T53.setTop (mkF m 113 #[lR p0, lR p1, lI p2, lI p3, lI p4] [(.int rc_58), (.int (8 : Int32)), (.ref p0)]))
  obtain ⟨T59, h59, X59, e59, W59, V59, st59⟩ := own_stC X53 hx hZ e53 V52' (j := (8 : Int32)) (i := 8) (by decide) (by decide) (Nat.le_of_ble_eq_true rfl) (g := (mkF m 113 #[.val (.ref p0), .val (.ref p1), .val (.int p2), .val (.int p3), .val (.int p4)] [(.int rc_58), (.int (8 : Int32)), (.ref p0)])) rfl rfl (hb hby own_d_method_4_code_113)
  refine Go.st st59 ?_
  rw [own_narC q53_0] at V59
  have K59 : Keep h0 h59 [p0] := K52.wr W59 (Or.inl (List.mem_of_getElem? (i := 0) rfl))
  have O59 := O52.wr W59 hp1
  have N59 := Fr.snoc X59 N53 hp1
  have V59' : Arv Z h59 p0 ka .char (15 : Int32) [(.int rc_2), (.int rc_9), (.int rc_16), (.int rc_23), (.int rc_30), (.int rc_37), (.int rc_44), (.int rc_51), (.int rc_58), (.int (0 : Int32)), (.int (0 : Int32)), (.int (0 : Int32)), (.int (0 : Int32)), (.int (0 : Int32)), (.int (0 : Int32))] (.int (0 : Int32)) := V59
  show Go p.tables e below P (T59.setTop (mkF m 114 #[lR p0, lR p1, lI p2, lI p3, lI p4] []))
  refine Go.st (fun _ => XS.aloadN X59.here hx rfl (hb hby own_d_method_4_code_114) rfl rfl) ?_
  show Go p.tables e below P (T59.setTop (mkF m 115 #[lR p0, lR p1, lI p2, lI p3, lI p4] [(.ref p0)]))
  refine Go.st (fun _ => XS.bipush X59.here hx rfl (hb hby own_d_method_4_code_115)) ?_
  show Go p.tables e below P (T59.setTop (mkF m 117 #[lR p0, lR p1, lI p2, lI p3, lI p4] [(.int (9 : Int32)), (.ref p0)]))
  refine Go.st (fun _ => XS.aloadN X59.here hx rfl (hb hby own_d_method_4_code_117) rfl rfl) ?_
  show Go p.tables e below P (T59.setTop (mkF m 118 #[lR p0, lR p1, lI p2, lI p3, lI p4] [(.ref p1), (.int (9 : Int32)), (.ref p0)]))
  refine Go.st (fun _ => XS.bipush X59.here hx rfl (hb hby own_d_method_4_code_118)) ?_
  show Go p.tables e below P (T59.setTop (mkF m 120 #[lR p0, lR p1, lI p2, lI p3, lI p4] [(.int (9 : Int32)), (.ref p1), (.int (9 : Int32)), (.ref p0)]))
  refine Go.st (fun _ => XS.iloadN X59.here hx rfl (hb hby own_d_method_4_code_120) rfl) ?_
  show Go p.tables e below P (T59.setTop (mkF m 121 #[lR p0, lR p1, lI p2, lI p3, lI p4] [(.int p2), (.int (9 : Int32)), (.ref p1), (.int (9 : Int32)), (.ref p0)]))
  refine Go.st (fun _ => XS.iloadN X59.here hx rfl (hb hby own_d_method_4_code_121) rfl) ?_
  show Go p.tables e below P (T59.setTop (mkF m 122 #[lR p0, lR p1, lI p2, lI p3, lI p4] [(.int p3), (.int p2), (.int (9 : Int32)), (.ref p1), (.int (9 : Int32)), (.ref p0)]))
  refine Go.st (fun _ => XS.iload X59.here hx rfl (hb hby own_d_method_4_code_122) rfl) ?_
  show Go p.tables e below P (T59.setTop (mkF m 124 #[lR p0, lR p1, lI p2, lI p3, lI p4] [(.int p4), (.int p3), (.int p2), (.int (9 : Int32)), (.ref p1), (.int (9 : Int32)), (.ref p0)]))
  have c61 := (c54.wr W59)
  have c62 := (c55.other W59 (Or.inl (Exa.neArv hp2 hp0 (ow hw 2 rfl))))
  have c63 := (c56.other W59 (Or.inl (Exa.neArv hp2 hp0 (ow hw 2 rfl))))
  have c64 := (c57.other W59 hp8)
  obtain ⟨_, _, ⟨T60, L60, k60, n60⟩, -, X60, ⟨Lc60, hQ60, l60, y60, z60⟩, st60⟩ := Jvm.LawKit.callS X59 hx (y := (⟨"com/example/vacuum/vacuum/model/MethodOfWireNamePinLaw", "at", "(Ljava/lang/String;IICC)C"⟩ : MethodName)) hown (mvT hZ (ow hw 13 rfl)) (mvT hZ (ow hw 14 rfl)) (mvT hZ (ow hw 11 rfl)) (mvT hZ (ow hw 15 rfl)) (by decide) (backOf (W := 2) (rm_at l Z a0 hw [] w_N S_N X_N w_K S_K X_K w_V k_V S_V X_V V_V w_NS F_NS X_NS I_NS_coder w_NB k_NB F_NB V_NB w_KS F_KS X_KS I_KS_coder w_KB k_KB F_KB V_KB w_OE S_OE X_OE I_OE_value g_CS S_CS nz_CS g_SF S_SF r_SF p1 (9 : Int32) p2 p3 p4 pcs pv pk h59 n0 O59 c61 c62 c63 c64 hpc1 hle1 hs3 hs4 (by decide)) hZ (ow hw 15 rfl) (ow hw 11 rfl) (by decide) (by decide)) (g := (mkF m 124 #[.val (.ref p0), .val (.ref p1), .val (.int p2), .val (.int p3), .val (.int p4)] [(.int p4), (.int p3), (.int p2), (.int (9 : Int32)), (.ref p1), (.int (9 : Int32)), (.ref p0)])) rfl (by rw [hml]; rfl) (argsL := [(.ref p1), (.int (9 : Int32)), (.int p2), (.int p3), (.int p4)]) (rest := [(.int (9 : Int32)), (.ref p0)]) (lenOf own_pd9 rfl) rfl (by show 2 * 0 + _ ≤ _; exact Nat.le_of_eq rfl) (hb hby own_d_method_4_code_124) (fun _ _ => ⟨rfl, e59, (by decide : 0 + 0 ≤ _), (by decide : 0 + 0 ≤ _)⟩)
  dsimp only [Pt.U, Pt.locs, Pt.cells, Pt.slots] at X60 l60 y60 z60 st60 hQ60
  subst y60 z60
  refine Go.st st60 ?_
  obtain ⟨rc_65, rfl, N60q, e60, q60_0⟩ := hQ60
  have N60 : Fr n0 L60 := by rw [l60]; exact Fr.app N59 N60q
  show Go p.tables e below P (T60.setTop (mkF m 127 #[lR p0, lR p1, lI p2, lI p3, lI p4] [(.int rc_65), (.int (9 : Int32)), (.ref p0)]))
  obtain ⟨T66, h66, X66, e66, W66, V66, st66⟩ := own_stC X60 hx hZ e60 V59' (j := (9 : Int32)) (i := 9) (by decide) (by decide) (Nat.le_of_ble_eq_true rfl) (g := (mkF m 127 #[.val (.ref p0), .val (.ref p1), .val (.int p2), .val (.int p3), .val (.int p4)] [(.int rc_65), (.int (9 : Int32)), (.ref p0)])) rfl rfl (hb hby own_d_method_4_code_127)
  refine Go.st st66 ?_
  rw [own_narC q60_0] at V66
  have K66 : Keep h0 h66 [p0] := K59.wr W66 (Or.inl (List.mem_of_getElem? (i := 0) rfl))
  have O66 := O59.wr W66 hp1
  have N66 := Fr.snoc X66 N60 hp1
  have V66' : Arv Z h66 p0 ka .char (15 : Int32) [(.int rc_2), (.int rc_9), (.int rc_16), (.int rc_23), (.int rc_30), (.int rc_37), (.int rc_44), (.int rc_51), (.int rc_58), (.int rc_65), (.int (0 : Int32)), (.int (0 : Int32)), (.int (0 : Int32)), (.int (0 : Int32)), (.int (0 : Int32))] (.int (0 : Int32)) := V66
  show Go p.tables e below P (T66.setTop (mkF m 128 #[lR p0, lR p1, lI p2, lI p3, lI p4] []))
  refine Go.st (fun _ => XS.aloadN X66.here hx rfl (hb hby own_d_method_4_code_128) rfl rfl) ?_
  show Go p.tables e below P (T66.setTop (mkF m 129 #[lR p0, lR p1, lI p2, lI p3, lI p4] [(.ref p0)]))
  refine Go.st (fun _ => XS.bipush X66.here hx rfl (hb hby own_d_method_4_code_129)) ?_
  show Go p.tables e below P (T66.setTop (mkF m 131 #[lR p0, lR p1, lI p2, lI p3, lI p4] [(.int (10 : Int32)), (.ref p0)]))
  refine Go.st (fun _ => XS.aloadN X66.here hx rfl (hb hby own_d_method_4_code_131) rfl rfl) ?_
  show Go p.tables e below P (T66.setTop (mkF m 132 #[lR p0, lR p1, lI p2, lI p3, lI p4] [(.ref p1), (.int (10 : Int32)), (.ref p0)]))
  refine Go.st (fun _ => XS.bipush X66.here hx rfl (hb hby own_d_method_4_code_132)) ?_
  show Go p.tables e below P (T66.setTop (mkF m 134 #[lR p0, lR p1, lI p2, lI p3, lI p4] [(.int (10 : Int32)), (.ref p1), (.int (10 : Int32)), (.ref p0)]))
  refine Go.st (fun _ => XS.iloadN X66.here hx rfl (hb hby own_d_method_4_code_134) rfl) ?_
  show Go p.tables e below P (T66.setTop (mkF m 135 #[lR p0, lR p1, lI p2, lI p3, lI p4] [(.int p2), (.int (10 : Int32)), (.ref p1), (.int (10 : Int32)), (.ref p0)]))
  refine Go.st (fun _ => XS.iloadN X66.here hx rfl (hb hby own_d_method_4_code_135) rfl) ?_
  show Go p.tables e below P (T66.setTop (mkF m 136 #[lR p0, lR p1, lI p2, lI p3, lI p4] [(.int p3), (.int p2), (.int (10 : Int32)), (.ref p1), (.int (10 : Int32)), (.ref p0)]))
  refine Go.st (fun _ => XS.iload X66.here hx rfl (hb hby own_d_method_4_code_136) rfl) ?_
  show Go p.tables e below P (T66.setTop (mkF m 138 #[lR p0, lR p1, lI p2, lI p3, lI p4] [(.int p4), (.int p3), (.int p2), (.int (10 : Int32)), (.ref p1), (.int (10 : Int32)), (.ref p0)]))
  have c68 := (c61.wr W66)
  have c69 := (c62.other W66 (Or.inl (Exa.neArv hp2 hp0 (ow hw 2 rfl))))
  have c70 := (c63.other W66 (Or.inl (Exa.neArv hp2 hp0 (ow hw 2 rfl))))
  have c71 := (c64.other W66 hp8)
  obtain ⟨_, _, ⟨T67, L67, k67, n67⟩, -, X67, ⟨Lc67, hQ67, l67, y67, z67⟩, st67⟩ := Jvm.LawKit.callS X66 hx (y := (⟨"com/example/vacuum/vacuum/model/MethodOfWireNamePinLaw", "at", "(Ljava/lang/String;IICC)C"⟩ : MethodName)) hown (mvT hZ (ow hw 13 rfl)) (mvT hZ (ow hw 14 rfl)) (mvT hZ (ow hw 11 rfl)) (mvT hZ (ow hw 15 rfl)) (by decide) (backOf (W := 2) (rm_at l Z a0 hw [] w_N S_N X_N w_K S_K X_K w_V k_V S_V X_V V_V w_NS F_NS X_NS I_NS_coder w_NB k_NB F_NB V_NB w_KS F_KS X_KS I_KS_coder w_KB k_KB F_KB V_KB w_OE S_OE X_OE I_OE_value g_CS S_CS nz_CS g_SF S_SF r_SF p1 (10 : Int32) p2 p3 p4 pcs pv pk h66 n0 O66 c68 c69 c70 c71 hpc1 hle1 hs3 hs4 (by decide)) hZ (ow hw 15 rfl) (ow hw 11 rfl) (by decide) (by decide)) (g := (mkF m 138 #[.val (.ref p0), .val (.ref p1), .val (.int p2), .val (.int p3), .val (.int p4)] [(.int p4), (.int p3), (.int p2), (.int (10 : Int32)), (.ref p1), (.int (10 : Int32)), (.ref p0)])) rfl (by rw [hml]; rfl) (argsL := [(.ref p1), (.int (10 : Int32)), (.int p2), (.int p3), (.int p4)]) (rest := [(.int (10 : Int32)), (.ref p0)]) (lenOf own_pd9 rfl) rfl (by show 2 * 0 + _ ≤ _; exact Nat.le_of_eq rfl) (hb hby own_d_method_4_code_138) (fun _ _ => ⟨rfl, e66, (by decide : 0 + 0 ≤ _), (by decide : 0 + 0 ≤ _)⟩)
  dsimp only [Pt.U, Pt.locs, Pt.cells, Pt.slots] at X67 l67 y67 z67 st67 hQ67
  subst y67 z67
  refine Go.st st67 ?_
  obtain ⟨rc_72, rfl, N67q, e67, q67_0⟩ := hQ67
  have N67 : Fr n0 L67 := by rw [l67]; exact Fr.app N66 N67q
  show Go p.tables e below P (T67.setTop (mkF m 141 #[lR p0, lR p1, lI p2, lI p3, lI p4] [(.int rc_72), (.int (10 : Int32)), (.ref p0)]))
  obtain ⟨T73, h73, X73, e73, W73, V73, st73⟩ := own_stC X67 hx hZ e67 V66' (j := (10 : Int32)) (i := 10) (by decide) (by decide) (Nat.le_of_ble_eq_true rfl) (g := (mkF m 141 #[.val (.ref p0), .val (.ref p1), .val (.int p2), .val (.int p3), .val (.int p4)] [(.int rc_72), (.int (10 : Int32)), (.ref p0)])) rfl rfl (hb hby own_d_method_4_code_141)
  refine Go.st st73 ?_
  rw [own_narC q67_0] at V73
  have K73 : Keep h0 h73 [p0] := K66.wr W73 (Or.inl (List.mem_of_getElem? (i := 0) rfl))
  have O73 := O66.wr W73 hp1
  have N73 := Fr.snoc X73 N67 hp1
  have V73' : Arv Z h73 p0 ka .char (15 : Int32) [(.int rc_2), (.int rc_9), (.int rc_16), (.int rc_23), (.int rc_30), (.int rc_37), (.int rc_44), (.int rc_51), (.int rc_58), (.int rc_65), (.int rc_72), (.int (0 : Int32)), (.int (0 : Int32)), (.int (0 : Int32)), (.int (0 : Int32))] (.int (0 : Int32)) := V73
  show Go p.tables e below P (T73.setTop (mkF m 142 #[lR p0, lR p1, lI p2, lI p3, lI p4] []))
  refine Go.st (fun _ => XS.aloadN X73.here hx rfl (hb hby own_d_method_4_code_142) rfl rfl) ?_
  show Go p.tables e below P (T73.setTop (mkF m 143 #[lR p0, lR p1, lI p2, lI p3, lI p4] [(.ref p0)]))
  refine Go.st (fun _ => XS.bipush X73.here hx rfl (hb hby own_d_method_4_code_143)) ?_
  show Go p.tables e below P (T73.setTop (mkF m 145 #[lR p0, lR p1, lI p2, lI p3, lI p4] [(.int (11 : Int32)), (.ref p0)]))
  refine Go.st (fun _ => XS.aloadN X73.here hx rfl (hb hby own_d_method_4_code_145) rfl rfl) ?_
  show Go p.tables e below P (T73.setTop (mkF m 146 #[lR p0, lR p1, lI p2, lI p3, lI p4] [(.ref p1), (.int (11 : Int32)), (.ref p0)]))
  refine Go.st (fun _ => XS.bipush X73.here hx rfl (hb hby own_d_method_4_code_146)) ?_
  show Go p.tables e below P (T73.setTop (mkF m 148 #[lR p0, lR p1, lI p2, lI p3, lI p4] [(.int (11 : Int32)), (.ref p1), (.int (11 : Int32)), (.ref p0)]))
  refine Go.st (fun _ => XS.iloadN X73.here hx rfl (hb hby own_d_method_4_code_148) rfl) ?_
  show Go p.tables e below P (T73.setTop (mkF m 149 #[lR p0, lR p1, lI p2, lI p3, lI p4] [(.int p2), (.int (11 : Int32)), (.ref p1), (.int (11 : Int32)), (.ref p0)]))
  refine Go.st (fun _ => XS.iloadN X73.here hx rfl (hb hby own_d_method_4_code_149) rfl) ?_
  show Go p.tables e below P (T73.setTop (mkF m 150 #[lR p0, lR p1, lI p2, lI p3, lI p4] [(.int p3), (.int p2), (.int (11 : Int32)), (.ref p1), (.int (11 : Int32)), (.ref p0)]))
  refine Go.st (fun _ => XS.iload X73.here hx rfl (hb hby own_d_method_4_code_150) rfl) ?_
  show Go p.tables e below P (T73.setTop (mkF m 152 #[lR p0, lR p1, lI p2, lI p3, lI p4] [(.int p4), (.int p3), (.int p2), (.int (11 : Int32)), (.ref p1), (.int (11 : Int32)), (.ref p0)]))
  have c75 := (c68.wr W73)
  have c76 := (c69.other W73 (Or.inl (Exa.neArv hp2 hp0 (ow hw 2 rfl))))
  have c77 := (c70.other W73 (Or.inl (Exa.neArv hp2 hp0 (ow hw 2 rfl))))
  have c78 := (c71.other W73 hp8)
  obtain ⟨_, _, ⟨T74, L74, k74, n74⟩, -, X74, ⟨Lc74, hQ74, l74, y74, z74⟩, st74⟩ := Jvm.LawKit.callS X73 hx (y := (⟨"com/example/vacuum/vacuum/model/MethodOfWireNamePinLaw", "at", "(Ljava/lang/String;IICC)C"⟩ : MethodName)) hown (mvT hZ (ow hw 13 rfl)) (mvT hZ (ow hw 14 rfl)) (mvT hZ (ow hw 11 rfl)) (mvT hZ (ow hw 15 rfl)) (by decide) (backOf (W := 2) (rm_at l Z a0 hw [] w_N S_N X_N w_K S_K X_K w_V k_V S_V X_V V_V w_NS F_NS X_NS I_NS_coder w_NB k_NB F_NB V_NB w_KS F_KS X_KS I_KS_coder w_KB k_KB F_KB V_KB w_OE S_OE X_OE I_OE_value g_CS S_CS nz_CS g_SF S_SF r_SF p1 (11 : Int32) p2 p3 p4 pcs pv pk h73 n0 O73 c75 c76 c77 c78 hpc1 hle1 hs3 hs4 (by decide)) hZ (ow hw 15 rfl) (ow hw 11 rfl) (by decide) (by decide)) (g := (mkF m 152 #[.val (.ref p0), .val (.ref p1), .val (.int p2), .val (.int p3), .val (.int p4)] [(.int p4), (.int p3), (.int p2), (.int (11 : Int32)), (.ref p1), (.int (11 : Int32)), (.ref p0)])) rfl (by rw [hml]; rfl) (argsL := [(.ref p1), (.int (11 : Int32)), (.int p2), (.int p3), (.int p4)]) (rest := [(.int (11 : Int32)), (.ref p0)]) (lenOf own_pd9 rfl) rfl (by show 2 * 0 + _ ≤ _; exact Nat.le_of_eq rfl) (hb hby own_d_method_4_code_152) (fun _ _ => ⟨rfl, e73, (by decide : 0 + 0 ≤ _), (by decide : 0 + 0 ≤ _)⟩)
  dsimp only [Pt.U, Pt.locs, Pt.cells, Pt.slots] at X74 l74 y74 z74 st74 hQ74
  subst y74 z74
  refine Go.st st74 ?_
  obtain ⟨rc_79, rfl, N74q, e74, q74_0⟩ := hQ74
  have N74 : Fr n0 L74 := by rw [l74]; exact Fr.app N73 N74q
  show Go p.tables e below P (T74.setTop (mkF m 155 #[lR p0, lR p1, lI p2, lI p3, lI p4] [(.int rc_79), (.int (11 : Int32)), (.ref p0)]))
  obtain ⟨T80, h80, X80, e80, W80, V80, st80⟩ := own_stC X74 hx hZ e74 V73' (j := (11 : Int32)) (i := 11) (by decide) (by decide) (Nat.le_of_ble_eq_true rfl) (g := (mkF m 155 #[.val (.ref p0), .val (.ref p1), .val (.int p2), .val (.int p3), .val (.int p4)] [(.int rc_79), (.int (11 : Int32)), (.ref p0)])) rfl rfl (hb hby own_d_method_4_code_155)
  refine Go.st st80 ?_
  rw [own_narC q74_0] at V80
  have K80 : Keep h0 h80 [p0] := K73.wr W80 (Or.inl (List.mem_of_getElem? (i := 0) rfl))
  have O80 := O73.wr W80 hp1
  have N80 := Fr.snoc X80 N74 hp1
  have V80' : Arv Z h80 p0 ka .char (15 : Int32) [(.int rc_2), (.int rc_9), (.int rc_16), (.int rc_23), (.int rc_30), (.int rc_37), (.int rc_44), (.int rc_51), (.int rc_58), (.int rc_65), (.int rc_72), (.int rc_79), (.int (0 : Int32)), (.int (0 : Int32)), (.int (0 : Int32))] (.int (0 : Int32)) := V80
  show Go p.tables e below P (T80.setTop (mkF m 156 #[lR p0, lR p1, lI p2, lI p3, lI p4] []))
  refine Go.st (fun _ => XS.aloadN X80.here hx rfl (hb hby own_d_method_4_code_156) rfl rfl) ?_
  show Go p.tables e below P (T80.setTop (mkF m 157 #[lR p0, lR p1, lI p2, lI p3, lI p4] [(.ref p0)]))
  refine Go.st (fun _ => own_len X80 hx hZ e80 V80' (g := (mkF m 157 #[.val (.ref p0), .val (.ref p1), .val (.int p2), .val (.int p3), .val (.int p4)] [(.ref p0)])) rfl rfl (hb hby own_d_method_4_code_157) _) ?_
  show Go p.tables e below P (T80.setTop (mkF m 158 #[lR p0, lR p1, lI p2, lI p3, lI p4] [(.int (15 : Int32))]))
  refine Go.st (fun _ => XS.bipush X80.here hx rfl (hb hby own_d_method_4_code_158)) ?_
  show Go p.tables e below P (T80.setTop (mkF m 160 #[lR p0, lR p1, lI p2, lI p3, lI p4] [(.int (12 : Int32)), (.int (15 : Int32))]))
  refine Go.st (fun _ => XS.icmpNo X80.here hx rfl (hb hby own_d_method_4_code_160) rfl (tlt (by decide)).2.2.2) ?_
  show Go p.tables e below P (T80.setTop (mkF m 163 #[lR p0, lR p1, lI p2, lI p3, lI p4] []))
  refine Go.st (fun _ => XS.aloadN X80.here hx rfl (hb hby own_d_method_4_code_163) rfl rfl) ?_
  show Go p.tables e below P (T80.setTop (mkF m 164 #[lR p0, lR p1, lI p2, lI p3, lI p4] [(.ref p0)]))
  refine Go.st (fun _ => XS.bipush X80.here hx rfl (hb hby own_d_method_4_code_164)) ?_
  show Go p.tables e below P (T80.setTop (mkF m 166 #[lR p0, lR p1, lI p2, lI p3, lI p4] [(.int (12 : Int32)), (.ref p0)]))
  refine Go.st (fun _ => XS.aloadN X80.here hx rfl (hb hby own_d_method_4_code_166) rfl rfl) ?_
  show Go p.tables e below P (T80.setTop (mkF m 167 #[lR p0, lR p1, lI p2, lI p3, lI p4] [(.ref p1), (.int (12 : Int32)), (.ref p0)]))
  refine Go.st (fun _ => XS.bipush X80.here hx rfl (hb hby own_d_method_4_code_167)) ?_
  show Go p.tables e below P (T80.setTop (mkF m 169 #[lR p0, lR p1, lI p2, lI p3, lI p4] [(.int (12 : Int32)), (.ref p1), (.int (12 : Int32)), (.ref p0)]))
  refine Go.st (fun _ => XS.iloadN X80.here hx rfl (hb hby own_d_method_4_code_169) rfl) ?_
  show Go p.tables e below P (T80.setTop (mkF m 170 #[lR p0, lR p1, lI p2, lI p3, lI p4] [(.int p2), (.int (12 : Int32)), (.ref p1), (.int (12 : Int32)), (.ref p0)]))
  refine Go.st (fun _ => XS.iloadN X80.here hx rfl (hb hby own_d_method_4_code_170) rfl) ?_
  show Go p.tables e below P (T80.setTop (mkF m 171 #[lR p0, lR p1, lI p2, lI p3, lI p4] [(.int p3), (.int p2), (.int (12 : Int32)), (.ref p1), (.int (12 : Int32)), (.ref p0)]))
  refine Go.st (fun _ => XS.iload X80.here hx rfl (hb hby own_d_method_4_code_171) rfl) ?_
  show Go p.tables e below P (T80.setTop (mkF m 173 #[lR p0, lR p1, lI p2, lI p3, lI p4] [(.int p4), (.int p3), (.int p2), (.int (12 : Int32)), (.ref p1), (.int (12 : Int32)), (.ref p0)]))
  have c82 := (c75.wr W80)
  have c83 := (c76.other W80 (Or.inl (Exa.neArv hp2 hp0 (ow hw 2 rfl))))
  have c84 := (c77.other W80 (Or.inl (Exa.neArv hp2 hp0 (ow hw 2 rfl))))
  have c85 := (c78.other W80 hp8)
  obtain ⟨_, _, ⟨T81, L81, k81, n81⟩, -, X81, ⟨Lc81, hQ81, l81, y81, z81⟩, st81⟩ := Jvm.LawKit.callS X80 hx (y := (⟨"com/example/vacuum/vacuum/model/MethodOfWireNamePinLaw", "at", "(Ljava/lang/String;IICC)C"⟩ : MethodName)) hown (mvT hZ (ow hw 13 rfl)) (mvT hZ (ow hw 14 rfl)) (mvT hZ (ow hw 11 rfl)) (mvT hZ (ow hw 15 rfl)) (by decide) (backOf (W := 2) (rm_at l Z a0 hw [] w_N S_N X_N w_K S_K X_K w_V k_V S_V X_V V_V w_NS F_NS X_NS I_NS_coder w_NB k_NB F_NB V_NB w_KS F_KS X_KS I_KS_coder w_KB k_KB F_KB V_KB w_OE S_OE X_OE I_OE_value g_CS S_CS nz_CS g_SF S_SF r_SF p1 (12 : Int32) p2 p3 p4 pcs pv pk h80 n0 O80 c82 c83 c84 c85 hpc1 hle1 hs3 hs4 (by decide)) hZ (ow hw 15 rfl) (ow hw 11 rfl) (by decide) (by decide)) (g := (mkF m 173 #[.val (.ref p0), .val (.ref p1), .val (.int p2), .val (.int p3), .val (.int p4)] [(.int p4), (.int p3), (.int p2), (.int (12 : Int32)), (.ref p1), (.int (12 : Int32)), (.ref p0)])) rfl (by rw [hml]; rfl) (argsL := [(.ref p1), (.int (12 : Int32)), (.int p2), (.int p3), (.int p4)]) (rest := [(.int (12 : Int32)), (.ref p0)]) (lenOf own_pd9 rfl) rfl (by show 2 * 0 + _ ≤ _; exact Nat.le_of_eq rfl) (hb hby own_d_method_4_code_173) (fun _ _ => ⟨rfl, e80, (by decide : 0 + 0 ≤ _), (by decide : 0 + 0 ≤ _)⟩)
  dsimp only [Pt.U, Pt.locs, Pt.cells, Pt.slots] at X81 l81 y81 z81 st81 hQ81
  subst y81 z81
  refine Go.st st81 ?_
  obtain ⟨rc_86, rfl, N81q, e81, q81_0⟩ := hQ81
  have N81 : Fr n0 L81 := by rw [l81]; exact Fr.app N80 N81q
  show Go p.tables e below P (T81.setTop (mkF m 176 #[lR p0, lR p1, lI p2, lI p3, lI p4] [(.int rc_86), (.int (12 : Int32)), (.ref p0)]))
  obtain ⟨T87, h87, X87, e87, W87, V87, st87⟩ := own_stC X81 hx hZ e81 V80' (j := (12 : Int32)) (i := 12) (by decide) (by decide) (Nat.le_of_ble_eq_true rfl) (g := (mkF m 176 #[.val (.ref p0), .val (.ref p1), .val (.int p2), .val (.int p3), .val (.int p4)] [(.int rc_86), (.int (12 : Int32)), (.ref p0)])) rfl rfl (hb hby own_d_method_4_code_176)
  refine Go.st st87 ?_
  rw [own_narC q81_0] at V87
  have K87 : Keep h0 h87 [p0] := K80.wr W87 (Or.inl (List.mem_of_getElem? (i := 0) rfl))
  have O87 := O80.wr W87 hp1
  have N87 := Fr.snoc X87 N81 hp1
  have V87' : Arv Z h87 p0 ka .char (15 : Int32) [(.int rc_2), (.int rc_9), (.int rc_16), (.int rc_23), (.int rc_30), (.int rc_37), (.int rc_44), (.int rc_51), (.int rc_58), (.int rc_65), (.int rc_72), (.int rc_79), (.int rc_86), (.int (0 : Int32)), (.int (0 : Int32))] (.int (0 : Int32)) := V87
  show Go p.tables e below P (T87.setTop (mkF m 177 #[lR p0, lR p1, lI p2, lI p3, lI p4] []))
  refine Go.st (fun _ => XS.aloadN X87.here hx rfl (hb hby own_d_method_4_code_177) rfl rfl) ?_
  show Go p.tables e below P (T87.setTop (mkF m 178 #[lR p0, lR p1, lI p2, lI p3, lI p4] [(.ref p0)]))
  refine Go.st (fun _ => own_len X87 hx hZ e87 V87' (g := (mkF m 178 #[.val (.ref p0), .val (.ref p1), .val (.int p2), .val (.int p3), .val (.int p4)] [(.ref p0)])) rfl rfl (hb hby own_d_method_4_code_178) _) ?_
  show Go p.tables e below P (T87.setTop (mkF m 179 #[lR p0, lR p1, lI p2, lI p3, lI p4] [(.int (15 : Int32))]))
  refine Go.st (fun _ => XS.bipush X87.here hx rfl (hb hby own_d_method_4_code_179)) ?_
  show Go p.tables e below P (T87.setTop (mkF m 181 #[lR p0, lR p1, lI p2, lI p3, lI p4] [(.int (13 : Int32)), (.int (15 : Int32))]))
  refine Go.st (fun _ => XS.icmpNo X87.here hx rfl (hb hby own_d_method_4_code_181) rfl (tlt (by decide)).2.2.2) ?_
  show Go p.tables e below P (T87.setTop (mkF m 184 #[lR p0, lR p1, lI p2, lI p3, lI p4] []))
  refine Go.st (fun _ => XS.aloadN X87.here hx rfl (hb hby own_d_method_4_code_184) rfl rfl) ?_
  show Go p.tables e below P (T87.setTop (mkF m 185 #[lR p0, lR p1, lI p2, lI p3, lI p4] [(.ref p0)]))
  refine Go.st (fun _ => XS.bipush X87.here hx rfl (hb hby own_d_method_4_code_185)) ?_
  show Go p.tables e below P (T87.setTop (mkF m 187 #[lR p0, lR p1, lI p2, lI p3, lI p4] [(.int (13 : Int32)), (.ref p0)]))
  refine Go.st (fun _ => XS.aloadN X87.here hx rfl (hb hby own_d_method_4_code_187) rfl rfl) ?_
  show Go p.tables e below P (T87.setTop (mkF m 188 #[lR p0, lR p1, lI p2, lI p3, lI p4] [(.ref p1), (.int (13 : Int32)), (.ref p0)]))
  refine Go.st (fun _ => XS.bipush X87.here hx rfl (hb hby own_d_method_4_code_188)) ?_
  show Go p.tables e below P (T87.setTop (mkF m 190 #[lR p0, lR p1, lI p2, lI p3, lI p4] [(.int (13 : Int32)), (.ref p1), (.int (13 : Int32)), (.ref p0)]))
  refine Go.st (fun _ => XS.iloadN X87.here hx rfl (hb hby own_d_method_4_code_190) rfl) ?_
  show Go p.tables e below P (T87.setTop (mkF m 191 #[lR p0, lR p1, lI p2, lI p3, lI p4] [(.int p2), (.int (13 : Int32)), (.ref p1), (.int (13 : Int32)), (.ref p0)]))
  refine Go.st (fun _ => XS.iloadN X87.here hx rfl (hb hby own_d_method_4_code_191) rfl) ?_
  show Go p.tables e below P (T87.setTop (mkF m 192 #[lR p0, lR p1, lI p2, lI p3, lI p4] [(.int p3), (.int p2), (.int (13 : Int32)), (.ref p1), (.int (13 : Int32)), (.ref p0)]))
  refine Go.st (fun _ => XS.iload X87.here hx rfl (hb hby own_d_method_4_code_192) rfl) ?_
  show Go p.tables e below P (T87.setTop (mkF m 194 #[lR p0, lR p1, lI p2, lI p3, lI p4] [(.int p4), (.int p3), (.int p2), (.int (13 : Int32)), (.ref p1), (.int (13 : Int32)), (.ref p0)]))
  have c89 := (c82.wr W87)
  have c90 := (c83.other W87 (Or.inl (Exa.neArv hp2 hp0 (ow hw 2 rfl))))
  have c91 := (c84.other W87 (Or.inl (Exa.neArv hp2 hp0 (ow hw 2 rfl))))
  have c92 := (c85.other W87 hp8)
  obtain ⟨_, _, ⟨T88, L88, k88, n88⟩, -, X88, ⟨Lc88, hQ88, l88, y88, z88⟩, st88⟩ := Jvm.LawKit.callS X87 hx (y := (⟨"com/example/vacuum/vacuum/model/MethodOfWireNamePinLaw", "at", "(Ljava/lang/String;IICC)C"⟩ : MethodName)) hown (mvT hZ (ow hw 13 rfl)) (mvT hZ (ow hw 14 rfl)) (mvT hZ (ow hw 11 rfl)) (mvT hZ (ow hw 15 rfl)) (by decide) (backOf (W := 2) (rm_at l Z a0 hw [] w_N S_N X_N w_K S_K X_K w_V k_V S_V X_V V_V w_NS F_NS X_NS I_NS_coder w_NB k_NB F_NB V_NB w_KS F_KS X_KS I_KS_coder w_KB k_KB F_KB V_KB w_OE S_OE X_OE I_OE_value g_CS S_CS nz_CS g_SF S_SF r_SF p1 (13 : Int32) p2 p3 p4 pcs pv pk h87 n0 O87 c89 c90 c91 c92 hpc1 hle1 hs3 hs4 (by decide)) hZ (ow hw 15 rfl) (ow hw 11 rfl) (by decide) (by decide)) (g := (mkF m 194 #[.val (.ref p0), .val (.ref p1), .val (.int p2), .val (.int p3), .val (.int p4)] [(.int p4), (.int p3), (.int p2), (.int (13 : Int32)), (.ref p1), (.int (13 : Int32)), (.ref p0)])) rfl (by rw [hml]; rfl) (argsL := [(.ref p1), (.int (13 : Int32)), (.int p2), (.int p3), (.int p4)]) (rest := [(.int (13 : Int32)), (.ref p0)]) (lenOf own_pd9 rfl) rfl (by show 2 * 0 + _ ≤ _; exact Nat.le_of_eq rfl) (hb hby own_d_method_4_code_194) (fun _ _ => ⟨rfl, e87, (by decide : 0 + 0 ≤ _), (by decide : 0 + 0 ≤ _)⟩)
  dsimp only [Pt.U, Pt.locs, Pt.cells, Pt.slots] at X88 l88 y88 z88 st88 hQ88
  subst y88 z88
  refine Go.st st88 ?_
  obtain ⟨rc_93, rfl, N88q, e88, q88_0⟩ := hQ88
  have N88 : Fr n0 L88 := by rw [l88]; exact Fr.app N87 N88q
  show Go p.tables e below P (T88.setTop (mkF m 197 #[lR p0, lR p1, lI p2, lI p3, lI p4] [(.int rc_93), (.int (13 : Int32)), (.ref p0)]))
  obtain ⟨T94, h94, X94, e94, W94, V94, st94⟩ := own_stC X88 hx hZ e88 V87' (j := (13 : Int32)) (i := 13) (by decide) (by decide) (Nat.le_of_ble_eq_true rfl) (g := (mkF m 197 #[.val (.ref p0), .val (.ref p1), .val (.int p2), .val (.int p3), .val (.int p4)] [(.int rc_93), (.int (13 : Int32)), (.ref p0)])) rfl rfl (hb hby own_d_method_4_code_197)
  refine Go.st st94 ?_
  rw [own_narC q88_0] at V94
  have K94 : Keep h0 h94 [p0] := K87.wr W94 (Or.inl (List.mem_of_getElem? (i := 0) rfl))
  have O94 := O87.wr W94 hp1
  have N94 := Fr.snoc X94 N88 hp1
  have V94' : Arv Z h94 p0 ka .char (15 : Int32) [(.int rc_2), (.int rc_9), (.int rc_16), (.int rc_23), (.int rc_30), (.int rc_37), (.int rc_44), (.int rc_51), (.int rc_58), (.int rc_65), (.int rc_72), (.int rc_79), (.int rc_86), (.int rc_93), (.int (0 : Int32))] (.int (0 : Int32)) := V94
  show Go p.tables e below P (T94.setTop (mkF m 198 #[lR p0, lR p1, lI p2, lI p3, lI p4] []))
  refine Go.st (fun _ => XS.aloadN X94.here hx rfl (hb hby own_d_method_4_code_198) rfl rfl) ?_
  show Go p.tables e below P (T94.setTop (mkF m 199 #[lR p0, lR p1, lI p2, lI p3, lI p4] [(.ref p0)]))
  refine Go.st (fun _ => own_len X94 hx hZ e94 V94' (g := (mkF m 199 #[.val (.ref p0), .val (.ref p1), .val (.int p2), .val (.int p3), .val (.int p4)] [(.ref p0)])) rfl rfl (hb hby own_d_method_4_code_199) _) ?_
  show Go p.tables e below P (T94.setTop (mkF m 200 #[lR p0, lR p1, lI p2, lI p3, lI p4] [(.int (15 : Int32))]))
  refine Go.st (fun _ => XS.bipush X94.here hx rfl (hb hby own_d_method_4_code_200)) ?_
  show Go p.tables e below P (T94.setTop (mkF m 202 #[lR p0, lR p1, lI p2, lI p3, lI p4] [(.int (14 : Int32)), (.int (15 : Int32))]))
  refine Go.st (fun _ => XS.icmpNo X94.here hx rfl (hb hby own_d_method_4_code_202) rfl (tlt (by decide)).2.2.2) ?_
  show Go p.tables e below P (T94.setTop (mkF m 205 #[lR p0, lR p1, lI p2, lI p3, lI p4] []))
  refine Go.st (fun _ => XS.aloadN X94.here hx rfl (hb hby own_d_method_4_code_205) rfl rfl) ?_
  show Go p.tables e below P (T94.setTop (mkF m 206 #[lR p0, lR p1, lI p2, lI p3, lI p4] [(.ref p0)]))
  refine Go.st (fun _ => XS.bipush X94.here hx rfl (hb hby own_d_method_4_code_206)) ?_
  show Go p.tables e below P (T94.setTop (mkF m 208 #[lR p0, lR p1, lI p2, lI p3, lI p4] [(.int (14 : Int32)), (.ref p0)]))
  refine Go.st (fun _ => XS.aloadN X94.here hx rfl (hb hby own_d_method_4_code_208) rfl rfl) ?_
  show Go p.tables e below P (T94.setTop (mkF m 209 #[lR p0, lR p1, lI p2, lI p3, lI p4] [(.ref p1), (.int (14 : Int32)), (.ref p0)]))
  refine Go.st (fun _ => XS.bipush X94.here hx rfl (hb hby own_d_method_4_code_209)) ?_
  show Go p.tables e below P (T94.setTop (mkF m 211 #[lR p0, lR p1, lI p2, lI p3, lI p4] [(.int (14 : Int32)), (.ref p1), (.int (14 : Int32)), (.ref p0)]))
  refine Go.st (fun _ => XS.iloadN X94.here hx rfl (hb hby own_d_method_4_code_211) rfl) ?_
  show Go p.tables e below P (T94.setTop (mkF m 212 #[lR p0, lR p1, lI p2, lI p3, lI p4] [(.int p2), (.int (14 : Int32)), (.ref p1), (.int (14 : Int32)), (.ref p0)]))
  refine Go.st (fun _ => XS.iloadN X94.here hx rfl (hb hby own_d_method_4_code_212) rfl) ?_
  show Go p.tables e below P (T94.setTop (mkF m 213 #[lR p0, lR p1, lI p2, lI p3, lI p4] [(.int p3), (.int p2), (.int (14 : Int32)), (.ref p1), (.int (14 : Int32)), (.ref p0)]))
  refine Go.st (fun _ => XS.iload X94.here hx rfl (hb hby own_d_method_4_code_213) rfl) ?_
  show Go p.tables e below P (T94.setTop (mkF m 215 #[lR p0, lR p1, lI p2, lI p3, lI p4] [(.int p4), (.int p3), (.int p2), (.int (14 : Int32)), (.ref p1), (.int (14 : Int32)), (.ref p0)]))
  have c96 := (c89.wr W94)
  have c97 := (c90.other W94 (Or.inl (Exa.neArv hp2 hp0 (ow hw 2 rfl))))
  have c98 := (c91.other W94 (Or.inl (Exa.neArv hp2 hp0 (ow hw 2 rfl))))
  have c99 := (c92.other W94 hp8)
  obtain ⟨_, _, ⟨T95, L95, k95, n95⟩, -, X95, ⟨Lc95, hQ95, l95, y95, z95⟩, st95⟩ := Jvm.LawKit.callS X94 hx (y := (⟨"com/example/vacuum/vacuum/model/MethodOfWireNamePinLaw", "at", "(Ljava/lang/String;IICC)C"⟩ : MethodName)) hown (mvT hZ (ow hw 13 rfl)) (mvT hZ (ow hw 14 rfl)) (mvT hZ (ow hw 11 rfl)) (mvT hZ (ow hw 15 rfl)) (by decide) (backOf (W := 2) (rm_at l Z a0 hw [] w_N S_N X_N w_K S_K X_K w_V k_V S_V X_V V_V w_NS F_NS X_NS I_NS_coder w_NB k_NB F_NB V_NB w_KS F_KS X_KS I_KS_coder w_KB k_KB F_KB V_KB w_OE S_OE X_OE I_OE_value g_CS S_CS nz_CS g_SF S_SF r_SF p1 (14 : Int32) p2 p3 p4 pcs pv pk h94 n0 O94 c96 c97 c98 c99 hpc1 hle1 hs3 hs4 (by decide)) hZ (ow hw 15 rfl) (ow hw 11 rfl) (by decide) (by decide)) (g := (mkF m 215 #[.val (.ref p0), .val (.ref p1), .val (.int p2), .val (.int p3), .val (.int p4)] [(.int p4), (.int p3), (.int p2), (.int (14 : Int32)), (.ref p1), (.int (14 : Int32)), (.ref p0)])) rfl (by rw [hml]; rfl) (argsL := [(.ref p1), (.int (14 : Int32)), (.int p2), (.int p3), (.int p4)]) (rest := [(.int (14 : Int32)), (.ref p0)]) (lenOf own_pd9 rfl) rfl (by show 2 * 0 + _ ≤ _; exact Nat.le_of_eq rfl) (hb hby own_d_method_4_code_215) (fun _ _ => ⟨rfl, e94, (by decide : 0 + 0 ≤ _), (by decide : 0 + 0 ≤ _)⟩)
  dsimp only [Pt.U, Pt.locs, Pt.cells, Pt.slots] at X95 l95 y95 z95 st95 hQ95
  subst y95 z95
  refine Go.st st95 ?_
  obtain ⟨rc_100, rfl, N95q, e95, q95_0⟩ := hQ95
  have N95 : Fr n0 L95 := by rw [l95]; exact Fr.app N94 N95q
  show Go p.tables e below P (T95.setTop (mkF m 218 #[lR p0, lR p1, lI p2, lI p3, lI p4] [(.int rc_100), (.int (14 : Int32)), (.ref p0)]))
  obtain ⟨T101, h101, X101, e101, W101, V101, st101⟩ := own_stC X95 hx hZ e95 V94' (j := (14 : Int32)) (i := 14) (by decide) (by decide) (Nat.le_of_ble_eq_true rfl) (g := (mkF m 218 #[.val (.ref p0), .val (.ref p1), .val (.int p2), .val (.int p3), .val (.int p4)] [(.int rc_100), (.int (14 : Int32)), (.ref p0)])) rfl rfl (hb hby own_d_method_4_code_218)
  refine Go.st st101 ?_
  rw [own_narC q95_0] at V101
  have K101 : Keep h0 h101 [p0] := K94.wr W101 (Or.inl (List.mem_of_getElem? (i := 0) rfl))
  have O101 := O94.wr W101 hp1
  have N101 := Fr.snoc X101 N95 hp1
  have V101' : Arv Z h101 p0 ka .char (15 : Int32) [(.int rc_2), (.int rc_9), (.int rc_16), (.int rc_23), (.int rc_30), (.int rc_37), (.int rc_44), (.int rc_51), (.int rc_58), (.int rc_65), (.int rc_72), (.int rc_79), (.int rc_86), (.int rc_93), (.int rc_100)] (.int (0 : Int32)) := V101
  show Go p.tables e below P (T101.setTop (mkF m 219 #[lR p0, lR p1, lI p2, lI p3, lI p4] []))
  obtain ⟨fs, hr, hrun, hended, hW, hsame⟩ := X101.leave (v := none) (fun _ => rfl)
  refine ⟨_, ?_, hPend _ _ hrun hended ⟨_, _, rfl, ?_, ⟨_, rfl⟩, hW, hsame.mono (by decide) (by decide)⟩⟩
  · exact X101.returnOut hx Bd.returns (hb hby own_d_method_4_code_219) hr
  · show Q_rm_fc15 Z _ _ _ _ _ _ _ _ _ _ _ _ _ _ _ _ _ _ _ _ _ _ h0 n0 _ T101.heap _
    rw [e101]
    exact ⟨rc_2, rc_9, rc_16, rc_23, rc_30, rc_37, rc_44, rc_51, rc_58, rc_65, rc_72, rc_79, rc_86, rc_93, rc_100, rfl, N101, K101, V101', q1_0, q4_0, q11_0, q18_0, q25_0, q32_0, q39_0, q46_0, q53_0, q60_0, q67_0, q74_0, q81_0, q88_0, q95_0⟩
def own_TX (Z : State) (h : Heap) (v : Value) : Prop := v = .null ∨ ∃ (a b : Addr) (k : ClassId) (cs : List Int32), v = .ref a ∧ Exa Z h a "java/lang/String" ∧ Fld Z h a "java/lang/String" "coder" "B" (.int (0 : Int32)) ∧ Fld Z h a "java/lang/String" "value" "[B" (.ref b) ∧ Arv Z h b k .byte (Int32.ofNat cs.length) ((cs.map StrChars.lo8).map Value.int) (.int (0 : Int32)) ∧ (∀ c ∈ cs, ¬ c < 0 ∧ ¬ (255 : Int32) < c) ∧ cs.length ≤ 4000
theorem own_ef_rm_law (m : MethodId) (x0 : Int32) (x1 : Int32) (x2 : Int32) (x3 : Int32) (x4 : Int32) : entryFrame m #[(.int x0), (.int x1), (.int x2), (.int x3), (.int x4)] maxLocals = mkF m 0 #[.val (.int x0), .val (.int x1), .val (.int x2), .val (.int x3), .val (.int x4), .unset, .unset, .unset, .unset, .unset, .unset, .unset, .unset, .unset] [] := by first | (simp [entryFrame, mkF, argsToLocals, Value.category, maxLocals]; done) | rfl
theorem own_pd10 : parseMethodDescriptor "(Ljava/lang/String;)Ljava/util/Optional;" = some ⟨[(.object "java/lang/String")], some (.object "java/util/Optional")⟩ := by decide +kernel
theorem own_pd11 : parseMethodDescriptor "()Z" = some ⟨[], some .boolean⟩ := by decide +kernel
theorem own_pd12 : parseMethodDescriptor "([CLjava/lang/String;ICC)V" = some ⟨[(.array .char), (.object "java/lang/String"), .int, .char, .char], none⟩ := by decide +kernel
theorem own_pd13 : parseMethodDescriptor "([C)V" = some ⟨[(.array .char)], none⟩ := by decide +kernel
def Q_rm_law (Z : State) (w_N : Addr) (w_K : Addr) (w_V : Addr) (k_V : ClassId) (w_NS : Addr) (w_NB : Addr) (k_NB : ClassId) (w_KS : Addr) (w_KB : Addr) (k_KB : ClassId) (w_OE : Addr) (g_CS : Int32) (g_SF : Value) (p0 : Int32) (p1 : Int32) (p2 : Int32) (p3 : Int32) (p4 : Int32) (h0 : Heap) (n0 : Nat) (v : Option Value) (h : Heap) (L : List Loc) : Prop := v = some (.int (1 : Int32)) ∧ Fr n0 L ∧ Keep h0 h []
set_option maxRecDepth 65536 in
set_option maxHeartbeats 40000000 in
theorem rm_law (l : Launch) (Z : State) (a0 : Array Value) (hw : ∀ d ∈ tables_1, d.before a0 Z = true) (ws : List Jvm.Cond) (w_N : Addr) (S_N : Sta Z Z.heap "com/example/vacuum/vacuum/model/PrunePolicy$Method" "NUMBER_OF_TAGS" "Lcom/example/vacuum/vacuum/model/PrunePolicy$Method;" (.ref w_N)) (X_N : Exa Z Z.heap w_N "com/example/vacuum/vacuum/model/PrunePolicy$Method") (w_K : Addr) (S_K : Sta Z Z.heap "com/example/vacuum/vacuum/model/PrunePolicy$Method" "CREATION_DATE" "Lcom/example/vacuum/vacuum/model/PrunePolicy$Method;" (.ref w_K)) (X_K : Exa Z Z.heap w_K "com/example/vacuum/vacuum/model/PrunePolicy$Method") (w_V : Addr) (k_V : ClassId) (S_V : Sta Z Z.heap "com/example/vacuum/vacuum/model/PrunePolicy$Method" "$VALUES" "[Lcom/example/vacuum/vacuum/model/PrunePolicy$Method;" (.ref w_V)) (X_V : Exa Z Z.heap w_V "[Lcom/example/vacuum/vacuum/model/PrunePolicy$Method;") (V_V : Arv Z Z.heap w_V k_V (.object "com/example/vacuum/vacuum/model/PrunePolicy$Method") (2 : Int32) [(.ref w_N), (.ref w_K)] .null) (w_NS : Addr) (F_NS : Fld Z Z.heap w_N "com/example/vacuum/vacuum/model/PrunePolicy$Method" "wireName" "Ljava/lang/String;" (.ref w_NS)) (X_NS : Exa Z Z.heap w_NS "java/lang/String") (I_NS_coder : Fld Z Z.heap w_NS "java/lang/String" "coder" "B" (.int (0 : Int32))) (w_NB : Addr) (k_NB : ClassId) (F_NB : Fld Z Z.heap w_NS "java/lang/String" "value" "[B" (.ref w_NB)) (V_NB : Arv Z Z.heap w_NB k_NB .byte (14 : Int32) [(.int (110 : Int32)), (.int (117 : Int32)), (.int (109 : Int32)), (.int (98 : Int32)), (.int (101 : Int32)), (.int (114 : Int32)), (.int (95 : Int32)), (.int (111 : Int32)), (.int (102 : Int32)), (.int (95 : Int32)), (.int (116 : Int32)), (.int (97 : Int32)), (.int (103 : Int32)), (.int (115 : Int32))] (.int (0 : Int32))) (w_KS : Addr) (F_KS : Fld Z Z.heap w_K "com/example/vacuum/vacuum/model/PrunePolicy$Method" "wireName" "Ljava/lang/String;" (.ref w_KS)) (X_KS : Exa Z Z.heap w_KS "java/lang/String") (I_KS_coder : Fld Z Z.heap w_KS "java/lang/String" "coder" "B" (.int (0 : Int32))) (w_KB : Addr) (k_KB : ClassId) (F_KB : Fld Z Z.heap w_KS "java/lang/String" "value" "[B" (.ref w_KB)) (V_KB : Arv Z Z.heap w_KB k_KB .byte (13 : Int32) [(.int (99 : Int32)), (.int (114 : Int32)), (.int (101 : Int32)), (.int (97 : Int32)), (.int (116 : Int32)), (.int (105 : Int32)), (.int (111 : Int32)), (.int (110 : Int32)), (.int (95 : Int32)), (.int (100 : Int32)), (.int (97 : Int32)), (.int (116 : Int32)), (.int (101 : Int32))] (.int (0 : Int32))) (w_OE : Addr) (S_OE : Sta Z Z.heap "java/util/Optional" "EMPTY" "Ljava/util/Optional;" (.ref w_OE)) (X_OE : Exa Z Z.heap w_OE "java/util/Optional") (I_OE_value : Fld Z Z.heap w_OE "java/util/Optional" "value" "Ljava/lang/Object;" .null) (g_CS : Int32) (S_CS : Sta Z Z.heap "java/lang/String" "COMPACT_STRINGS" "Z" (.int g_CS)) (nz_CS : ¬ (g_CS = (0 : Int32))) (g_SF : Value) (S_SF : Sta Z Z.heap "jdk/internal/util/Preconditions" "SIOOBE_FORMATTER" "Ljava/util/function/BiFunction;" g_SF) (r_SF : g_SF.isRef = true) (p0 : Int32) (p1 : Int32) (p2 : Int32) (p3 : Int32) (p4 : Int32) (h0 : Heap) (n0 : Nat) (X00 : Old Z n0 h0)  :
    MetFree l x (head1 (Jvm.Cond.code x code maxLocals ret :: ws) room_1) (fun a U => a = #[(.int p0), (.int p1), (.int p2), (.int p3), (.int p4)] ∧ Z.Warmed39 U.vm ∧ U.heap = h0 ∧ CHv Z consts_1 U.vm h0) (fun _ _ _ _ _ => True) (fun _ U o U' => ∃ v L, o = .returned v ∧ Q_rm_law Z w_N w_K w_V k_V w_NS w_NB k_NB w_KS w_KB k_KB w_OE g_CS g_SF p0 p1 p2 p3 p4 h0 n0 v U'.heap L ∧ CHr Z consts_1 U.vm U.heap U'.vm U'.heap ∧ ReturnedEndW U o U' L 15 213) := by
  refine MetFree.of_bodySF (plainFor_of_name own_pn4) hisR ?_
  intro p e s m args below meth c s₁ Bd hml0 hP hK
  obtain ⟨rfl, hZ, hh, hCH⟩ := hP
  have hEL := own_EW Z a0 hw
  have CR0 : CHr Z consts_1 s.vm h0 s.vm h0 := CHr.refl hCH
  have hx := Bd.exec
  have hby := Bd.bytes
  have hml : c.maxLocals = 14 := hml0
  have hown : s.vm.findClass "com/example/vacuum/vacuum/model/MethodOfWireNamePinLaw" = some m.cls := findClass_of_methodNamed Bd.named
  have hnm := (name_of_methodNamed Bd.named Bd.method).1
  have X0 : Stand p l e room_1 (s.setVm s.vm) m #[(.int p0), (.int p1), (.int p2), (.int p3), (.int p4)] below meth c s₁ [] 0 0 := Stand.of_body Bd
  have e0 : s₁.heap = h0 := by rw [← hh, Bd.state]; rfl
  have N0 := Fr.nil n0
  have hS0 : s.Since s.vm 0 := own_since s
  have hk0 : 0 ≤ h0.size := Nat.zero_le _
  have hZ : Z.Warmed39 (s.setVm s.vm).vm := hZ
  have hown : (s.setVm s.vm).vm.findClass "com/example/vacuum/vacuum/model/MethodOfWireNamePinLaw" = some m.cls := hown
  refine Go.start fun P hPend => ?_
  refine Go.st (fun _ k => castTop (own_ef_rm_law m p0 p1 p2 p3 p4) k) ?_
  show Go p.tables e below P (s₁.setTop (mkF m 0 #[lI p0, lI p1, lI p2, lI p3, lI p4, lU, lU, lU, lU, lU, lU, lU, lU, lU] []))
  refine Go.st (fun _ => XS.iloadN X0.here hx rfl (hb hby at_0) rfl) ?_
  show Go p.tables e below P (s₁.setTop (mkF m 1 #[lI p0, lI p1, lI p2, lI p3, lI p4, lU, lU, lU, lU, lU, lU, lU, lU, lU] [(.int p0)]))
  refine Go.st (fun _ => XS.iconst X0.here hx rfl (hb hby at_1)) ?_
  show Go p.tables e below P (s₁.setTop (mkF m 2 #[lI p0, lI p1, lI p2, lI p3, lI p4, lU, lU, lU, lU, lU, lU, lU, lU, lU] [(.int (3 : Int32)), (.int p0)]))
  refine Go.st (fun _ => XS.iand X0.here hx rfl (hb hby at_2) rfl) ?_
  show Go p.tables e below P (s₁.setTop (mkF m 3 #[lI p0, lI p1, lI p2, lI p3, lI p4, lU, lU, lU, lU, lU, lU, lU, lU, lU] [(.int (p0 &&& (3 : Int32)))]))
  refine Go.st (fun _ => XS.istore X0.here hx rfl (hb hby at_3) rfl (l' := #[.val (.int p0), .val (.int p1), .val (.int p2), .val (.int p3), .val (.int p4), .val (.int (p0 &&& (3 : Int32))), .unset, .unset, .unset, .unset, .unset, .unset, .unset, .unset]) rfl) ?_
  show Go p.tables e below P (s₁.setTop (mkF m 5 #[lI p0, lI p1, lI p2, lI p3, lI p4, lI (p0 &&& (3 : Int32)), lU, lU, lU, lU, lU, lU, lU, lU] []))
  refine Go.st (fun _ => XS.iload X0.here hx rfl (hb hby at_5) rfl) ?_
  show Go p.tables e below P (s₁.setTop (mkF m 7 #[lI p0, lI p1, lI p2, lI p3, lI p4, lI (p0 &&& (3 : Int32)), lU, lU, lU, lU, lU, lU, lU, lU] [(.int (p0 &&& (3 : Int32)))]))
  have J1 : ∀ (Tj1 : State) (hj1 : Heap) (Lj1 : List Loc) (vmj1 : Vm) (kj1 : Nat) (Xj1 : Stand p l e room_1 (s.setVm vmj1) m #[(.int p0), (.int p1), (.int p2), (.int p3), (.int p4)] below meth c Tj1 Lj1 2 60) (ej1 : Tj1.heap = hj1) (Kj1 : Keep h0 hj1 []) (Oj1 : Old Z n0 hj1) (Nj1 : Fr n0 Lj1) (hSj1 : s.Since vmj1 kj1) (hkj1 : kj1 ≤ hj1.size) (hZj1 : Z.Warmed39 (s.setVm vmj1).vm) (hownj1 : (s.setVm vmj1).vm.findClass "com/example/vacuum/vacuum/model/MethodOfWireNamePinLaw" = some m.cls) (CRj1 : CHr Z consts_1 s.vm h0 vmj1 hj1) (jb : Addr) (jbc : List Int32) (jbv : Addr) (jbk : ClassId) (hEb : Exa Z hj1 jb "java/lang/String") (hCb : Fld Z hj1 jb "java/lang/String" "coder" "B" (.int (0 : Int32))) (hVb : Fld Z hj1 jb "java/lang/String" "value" "[B" (.ref jbv)) (hAb : Arv Z hj1 jbv jbk .byte (Int32.ofNat jbc.length) ((jbc.map StrChars.lo8).map Value.int) (.int (0 : Int32))) (hpcb : ∀ c ∈ jbc, ¬ c < 0 ∧ ¬ (255 : Int32) < c) (hleb : jbc.length ≤ 4000), Go p.tables e below P (Tj1.setTop (mkF m 39 #[.val (.int p0), .val (.int p1), .val (.int p2), .val (.int p3), .val (.int p4), .val (.int (p0 &&& (3 : Int32))), .unset, .unset, .unset, .unset, .unset, .unset, .unset, .unset] [(.ref jb)])) := by
    intro Tj1 hj1 Lj1 vmj1 kj1 Xj1 ej1 Kj1 Oj1 Nj1 hSj1 hkj1 hZj1 hownj1 CRj1 jb jbc jbv jbk hEb hCb hVb hAb hpcb hleb
    show Go p.tables e below P (Tj1.setTop (mkF m 39 #[lI p0, lI p1, lI p2, lI p3, lI p4, lI (p0 &&& (3 : Int32)), lU, lU, lU, lU, lU, lU, lU, lU] [(.ref jb)]))
    refine Go.st (fun _ => XS.astore Xj1.here hx rfl (hb hby at_39) rfl rfl (l' := #[.val (.int p0), .val (.int p1), .val (.int p2), .val (.int p3), .val (.int p4), .val (.int (p0 &&& (3 : Int32))), .val (.ref jb), .unset, .unset, .unset, .unset, .unset, .unset, .unset]) rfl) ?_
    show Go p.tables e below P (Tj1.setTop (mkF m 41 #[lI p0, lI p1, lI p2, lI p3, lI p4, lI (p0 &&& (3 : Int32)), lR jb, lU, lU, lU, lU, lU, lU, lU] []))
    refine Go.st (fun _ => XS.iloadN Xj1.here hx rfl (hb hby at_41) rfl) ?_
    show Go p.tables e below P (Tj1.setTop (mkF m 42 #[lI p0, lI p1, lI p2, lI p3, lI p4, lI (p0 &&& (3 : Int32)), lR jb, lU, lU, lU, lU, lU, lU, lU] [(.int p0)]))
    refine Go.st (fun _ => XS.iconst Xj1.here hx rfl (hb hby at_42)) ?_
    show Go p.tables e below P (Tj1.setTop (mkF m 43 #[lI p0, lI p1, lI p2, lI p3, lI p4, lI (p0 &&& (3 : Int32)), lR jb, lU, lU, lU, lU, lU, lU, lU] [(.int (2 : Int32)), (.int p0)]))
    refine Go.st (fun _ => XS.iushr Xj1.here hx rfl (hb hby at_43) rfl) ?_
    show Go p.tables e below P (Tj1.setTop (mkF m 44 #[lI p0, lI p1, lI p2, lI p3, lI p4, lI (p0 &&& (3 : Int32)), lR jb, lU, lU, lU, lU, lU, lU, lU] [(.int ((p0.toUInt32 >>> ((2 : Int32) &&& 31).toUInt32).toInt32))]))
    refine Go.st (fun _ => XS.bipush Xj1.here hx rfl (hb hby at_44)) ?_
    show Go p.tables e below P (Tj1.setTop (mkF m 46 #[lI p0, lI p1, lI p2, lI p3, lI p4, lI (p0 &&& (3 : Int32)), lR jb, lU, lU, lU, lU, lU, lU, lU] [(.int (7 : Int32)), (.int ((p0.toUInt32 >>> ((2 : Int32) &&& 31).toUInt32).toInt32))]))
    refine Go.st (fun _ => XS.iand Xj1.here hx rfl (hb hby at_46) rfl) ?_
    show Go p.tables e below P (Tj1.setTop (mkF m 47 #[lI p0, lI p1, lI p2, lI p3, lI p4, lI (p0 &&& (3 : Int32)), lR jb, lU, lU, lU, lU, lU, lU, lU] [(.int (((p0.toUInt32 >>> ((2 : Int32) &&& 31).toUInt32).toInt32) &&& (7 : Int32)))]))
    refine Go.st (fun _ => XS.istore Xj1.here hx rfl (hb hby at_47) rfl (l' := #[.val (.int p0), .val (.int p1), .val (.int p2), .val (.int p3), .val (.int p4), .val (.int (p0 &&& (3 : Int32))), .val (.ref jb), .val (.int (((p0.toUInt32 >>> ((2 : Int32) &&& 31).toUInt32).toInt32) &&& (7 : Int32))), .unset, .unset, .unset, .unset, .unset, .unset]) rfl) ?_
    show Go p.tables e below P (Tj1.setTop (mkF m 49 #[lI p0, lI p1, lI p2, lI p3, lI p4, lI (p0 &&& (3 : Int32)), lR jb, lI (((p0.toUInt32 >>> ((2 : Int32) &&& 31).toUInt32).toInt32) &&& (7 : Int32)), lU, lU, lU, lU, lU, lU] []))
    refine Go.st (fun _ => XS.iloadN Xj1.here hx rfl (hb hby at_49) rfl) ?_
    show Go p.tables e below P (Tj1.setTop (mkF m 50 #[lI p0, lI p1, lI p2, lI p3, lI p4, lI (p0 &&& (3 : Int32)), lR jb, lI (((p0.toUInt32 >>> ((2 : Int32) &&& 31).toUInt32).toInt32) &&& (7 : Int32)), lU, lU, lU, lU, lU, lU] [(.int p1)]))
    refine Go.st (fun _ => XS.iconst Xj1.here hx rfl (hb hby at_50)) ?_
    show Go p.tables e below P (Tj1.setTop (mkF m 51 #[lI p0, lI p1, lI p2, lI p3, lI p4, lI (p0 &&& (3 : Int32)), lR jb, lI (((p0.toUInt32 >>> ((2 : Int32) &&& 31).toUInt32).toInt32) &&& (7 : Int32)), lU, lU, lU, lU, lU, lU] [(.int (3 : Int32)), (.int p1)]))
    refine Go.st (fun _ => XS.iand Xj1.here hx rfl (hb hby at_51) rfl) ?_
    show Go p.tables e below P (Tj1.setTop (mkF m 52 #[lI p0, lI p1, lI p2, lI p3, lI p4, lI (p0 &&& (3 : Int32)), lR jb, lI (((p0.toUInt32 >>> ((2 : Int32) &&& 31).toUInt32).toInt32) &&& (7 : Int32)), lU, lU, lU, lU, lU, lU] [(.int (p1 &&& (3 : Int32)))]))
    refine Go.st (fun _ => XS.istore Xj1.here hx rfl (hb hby at_52) rfl (l' := #[.val (.int p0), .val (.int p1), .val (.int p2), .val (.int p3), .val (.int p4), .val (.int (p0 &&& (3 : Int32))), .val (.ref jb), .val (.int (((p0.toUInt32 >>> ((2 : Int32) &&& 31).toUInt32).toInt32) &&& (7 : Int32))), .val (.int (p1 &&& (3 : Int32))), .unset, .unset, .unset, .unset, .unset]) rfl) ?_
    show Go p.tables e below P (Tj1.setTop (mkF m 54 #[lI p0, lI p1, lI p2, lI p3, lI p4, lI (p0 &&& (3 : Int32)), lR jb, lI (((p0.toUInt32 >>> ((2 : Int32) &&& 31).toUInt32).toInt32) &&& (7 : Int32)), lI (p1 &&& (3 : Int32)), lU, lU, lU, lU, lU] []))
    refine Go.st (fun _ => XS.iload Xj1.here hx rfl (hb hby at_54) rfl) ?_
    show Go p.tables e below P (Tj1.setTop (mkF m 56 #[lI p0, lI p1, lI p2, lI p3, lI p4, lI (p0 &&& (3 : Int32)), lR jb, lI (((p0.toUInt32 >>> ((2 : Int32) &&& 31).toUInt32).toInt32) &&& (7 : Int32)), lI (p1 &&& (3 : Int32)), lU, lU, lU, lU, lU] [(.int (p1 &&& (3 : Int32)))]))
    have J2 : ∀ (Tj2 : State) (hj2 : Heap) (Lj2 : List Loc) (vmj2 : Vm) (kj2 : Nat) (Xj2 : Stand p l e room_1 (s.setVm vmj2) m #[(.int p0), (.int p1), (.int p2), (.int p3), (.int p4)] below meth c Tj2 Lj2 9 94) (ej2 : Tj2.heap = hj2) (Kj2 : Keep h0 hj2 []) (Oj2 : Old Z n0 hj2) (Nj2 : Fr n0 Lj2) (hSj2 : s.Since vmj2 kj2) (hkj2 : kj2 ≤ hj2.size) (hZj2 : Z.Warmed39 (s.setVm vmj2).vm) (hownj2 : (s.setVm vmj2).vm.findClass "com/example/vacuum/vacuum/model/MethodOfWireNamePinLaw" = some m.cls) (CRj2 : CHr Z consts_1 s.vm h0 vmj2 hj2) (jarr : Addr) (jt : Value) (hr_jt : jt.isRef = true) (hjt : own_TX Z hj2 jt), Go p.tables e below P (Tj2.setTop (mkF m 165 #[.val (.int p0), .val (.int p1), .val (.int p2), .val (.int p3), .val (.int p4), .val (.int (p0 &&& (3 : Int32))), .val (.ref jb), .val (.int (((p0.toUInt32 >>> ((2 : Int32) &&& 31).toUInt32).toInt32) &&& (7 : Int32))), .val (.int (p1 &&& (3 : Int32))), .val (.ref jarr), .val jt, .unset, .unset, .unset] [])) := by
      intro Tj2 hj2 Lj2 vmj2 kj2 Xj2 ej2 Kj2 Oj2 Nj2 hSj2 hkj2 hZj2 hownj2 CRj2 jarr jt hr_jt hjt
      show Go p.tables e below P (Tj2.setTop (mkF m 165 #[lI p0, lI p1, lI p2, lI p3, lI p4, lI (p0 &&& (3 : Int32)), lR jb, lI (((p0.toUInt32 >>> ((2 : Int32) &&& 31).toUInt32).toInt32) &&& (7 : Int32)), lI (p1 &&& (3 : Int32)), lR jarr, .val jt, lU, lU, lU] []))
      rcases hjt with rfl | ⟨ta, tb, tk, tcs, rfl, hEt, hCt, hVt, hAt, hpct, hlet⟩
      · skip
        show Go p.tables e below P (Tj2.setTop (mkF m 165 #[lI p0, lI p1, lI p2, lI p3, lI p4, lI (p0 &&& (3 : Int32)), lR jb, lI (((p0.toUInt32 >>> ((2 : Int32) &&& 31).toUInt32).toInt32) &&& (7 : Int32)), lI (p1 &&& (3 : Int32)), lR jarr, lN, lU, lU, lU] []))
        refine Go.st (fun _ => XS.aload Xj2.here hx rfl (hb hby at_165) rfl rfl) ?_
        show Go p.tables e below P (Tj2.setTop (mkF m 167 #[lI p0, lI p1, lI p2, lI p3, lI p4, lI (p0 &&& (3 : Int32)), lR jb, lI (((p0.toUInt32 >>> ((2 : Int32) &&& 31).toUInt32).toInt32) &&& (7 : Int32)), lI (p1 &&& (3 : Int32)), lR jarr, lN, lU, lU, lU] [.null]))
        obtain ⟨_, _, ⟨T3, L3, k3, n3⟩, -, X3, ⟨Lc3, hQ3, l3, y3, z3⟩, st3⟩ := Jvm.LawKit.callS Xj2 hx (y := (⟨"com/example/vacuum/vacuum/model/PrunePolicy$Method", "ofWireName", "(Ljava/lang/String;)Ljava/util/Optional;"⟩ : MethodName)) hownj2 (mvT hZj2 (ow hw 51 rfl)) (mvT hZj2 (ow hw 52 rfl)) (mvT hZj2 (ow hw 53 rfl)) (mvT hZj2 (ow hw 54 rfl)) (by decide) (backOf (W := 0) (rm_owN l Z a0 hw [] w_N S_N X_N w_K S_K X_K w_V k_V S_V X_V V_V w_NS F_NS X_NS I_NS_coder w_NB k_NB F_NB V_NB w_KS F_KS X_KS I_KS_coder w_KB k_KB F_KB V_KB w_OE S_OE X_OE I_OE_value g_CS S_CS nz_CS g_SF S_SF r_SF hj2 n0 Oj2 ) hZj2 (ow hw 54 rfl) (ow hw 53 rfl) (by decide) (by decide)) (g := (mkF m 167 #[.val (.int p0), .val (.int p1), .val (.int p2), .val (.int p3), .val (.int p4), .val (.int (p0 &&& (3 : Int32))), .val (.ref jb), .val (.int (((p0.toUInt32 >>> ((2 : Int32) &&& 31).toUInt32).toInt32) &&& (7 : Int32))), .val (.int (p1 &&& (3 : Int32))), .val (.ref jarr), .val .null, .unset, .unset, .unset] [.null])) rfl (by rw [hml]; rfl) (argsL := [.null]) (rest := []) (lenOf own_pd10 rfl) rfl (by show 2 * 0 + _ ≤ _; exact Nat.le_of_eq rfl) (hb hby at_167) (fun _ _ => ⟨rfl, ej2, (by decide : 9 + 1 ≤ _), (by decide : 94 + 2 ≤ _)⟩)
        dsimp only [Pt.U, Pt.locs, Pt.cells, Pt.slots] at X3 l3 y3 z3 st3 hQ3
        subst y3 z3
        refine Go.st st3 ?_
        obtain ⟨rfl, N3q, K3q⟩ := hQ3
        have N3 : Fr n0 L3 := by rw [l3]; exact Fr.app Nj2 N3q
        have O3 := Oj2.keep K3q all0
        have K3 : Keep h0 T3.heap [] := Kj2.trans K3q all0
        have CR3 := CRj2.trans (CHr.keep K3q sf0 CRj2.1)
        show Go p.tables e below P (T3.setTop (mkF m 170 #[lI p0, lI p1, lI p2, lI p3, lI p4, lI (p0 &&& (3 : Int32)), lR jb, lI (((p0.toUInt32 >>> ((2 : Int32) &&& 31).toUInt32).toInt32) &&& (7 : Int32)), lI (p1 &&& (3 : Int32)), lR jarr, lN, lU, lU, lU] [(.ref w_OE)]))
        refine Go.st (fun _ => XS.astore X3.here hx rfl (hb hby at_170) rfl rfl (l' := #[.val (.int p0), .val (.int p1), .val (.int p2), .val (.int p3), .val (.int p4), .val (.int (p0 &&& (3 : Int32))), .val (.ref jb), .val (.int (((p0.toUInt32 >>> ((2 : Int32) &&& 31).toUInt32).toInt32) &&& (7 : Int32))), .val (.int (p1 &&& (3 : Int32))), .val (.ref jarr), .val .null, .val (.ref w_OE), .unset, .unset]) rfl) ?_
        show Go p.tables e below P (T3.setTop (mkF m 172 #[lI p0, lI p1, lI p2, lI p3, lI p4, lI (p0 &&& (3 : Int32)), lR jb, lI (((p0.toUInt32 >>> ((2 : Int32) &&& 31).toUInt32).toInt32) &&& (7 : Int32)), lI (p1 &&& (3 : Int32)), lR jarr, lN, lR w_OE, lU, lU] []))
        obtain ⟨a4, T4, h4, kk4, b4, kb4, X4, e4, E4, hS4, hk4, hZ4, hown4, Ea4, Ca4, Va4, Ab4, alt4, blt4, hCR4, Li4, hne4, st4⟩ := ldcCH X3 hx hZj2 hownj2 (ow hw 0 rfl) (fun a ha => hw a (own_strAtoms a ha)) rfl hSj2 (Nat.le_trans hkj2 K3q.1) hEL (by decide +kernel) CR3.1 (vs := [(.int (110 : Int32)), (.int (117 : Int32)), (.int (109 : Int32)), (.int (98 : Int32)), (.int (101 : Int32)), (.int (114 : Int32)), (.int (95 : Int32)), (.int (111 : Int32)), (.int (102 : Int32)), (.int (95 : Int32)), (.int (116 : Int32)), (.int (97 : Int32)), (.int (103 : Int32)), (.int (115 : Int32))]) (z := (14 : Int32)) (by decide +kernel) (by decide) rfl (g := (mkF m 172 #[.val (.int p0), .val (.int p1), .val (.int p2), .val (.int p3), .val (.int p4), .val (.int (p0 &&& (3 : Int32))), .val (.ref jb), .val (.int (((p0.toUInt32 >>> ((2 : Int32) &&& 31).toUInt32).toInt32) &&& (7 : Int32))), .val (.int (p1 &&& (3 : Int32))), .val (.ref jarr), .val .null, .val (.ref w_OE), .unset, .unset] [])) rfl (hb hby at_172) (n := 56) (by decide +kernel) (by decide) (by decide) (by decide)
        refine Go.st st4 ?_
        have K4 : Keep h0 h4 [] := K3.ext E4
        have O4 := O3.ext E4
        have CR4 := CR3.trans hCR4
        show Go p.tables e below P (T4.setTop (mkF m 174 #[lI p0, lI p1, lI p2, lI p3, lI p4, lI (p0 &&& (3 : Int32)), lR jb, lI (((p0.toUInt32 >>> ((2 : Int32) &&& 31).toUInt32).toInt32) &&& (7 : Int32)), lI (p1 &&& (3 : Int32)), lR jarr, lN, lR w_OE, lU, lU] [(.ref a4)]))
        refine Go.st (fun _ => XS.aload X4.here hx rfl (hb hby at_174) rfl rfl) ?_
        show Go p.tables e below P (T4.setTop (mkF m 176 #[lI p0, lI p1, lI p2, lI p3, lI p4, lI (p0 &&& (3 : Int32)), lR jb, lI (((p0.toUInt32 >>> ((2 : Int32) &&& 31).toUInt32).toInt32) &&& (7 : Int32)), lI (p1 &&& (3 : Int32)), lR jarr, lN, lR w_OE, lU, lU] [.null, (.ref a4)]))
        obtain ⟨cq5, kq5, q5a, q5b, q5c⟩ := isOf hZ4 e4 Ea4
        obtain ⟨_, _, ⟨T5, L5, k5, n5⟩, -, X5, ⟨Lc5, hQ5, l5, y5, z5⟩, st5⟩ := X4.virtualBack hx (y := (⟨"java/lang/String", "equals", "(Ljava/lang/Object;)Z"⟩ : MethodName)) (z := (⟨"java/lang/String", "equals", "(Ljava/lang/Object;)Z"⟩ : MethodName)) hown4 (mvT hZ4 (ow hw 84 rfl)) (mvT hZ4 (ow hw 75 rfl)) (notFace_of_selects (args := #[]) (mvT hZ4 (ow hw 77 rfl))) (mvT hZ4 (ow hw 77 rfl)) (mvT hZ4 (ow hw 76 rfl)) (by decide) (backOf (W := 0) (rm_eqn l Z a0 hw [] w_N S_N X_N w_K S_K X_K w_V k_V S_V X_V V_V w_NS F_NS X_NS I_NS_coder w_NB k_NB F_NB V_NB w_KS F_KS X_KS I_KS_coder w_KB k_KB F_KB V_KB w_OE S_OE X_OE I_OE_value g_CS S_CS nz_CS g_SF S_SF r_SF a4 h4 n0 O4 ) hZ4 (ow hw 78 rfl) (ow hw 1 rfl) (by decide) (by decide)) q5a q5c (g := (mkF m 176 #[.val (.int p0), .val (.int p1), .val (.int p2), .val (.int p3), .val (.int p4), .val (.int (p0 &&& (3 : Int32))), .val (.ref jb), .val (.int (((p0.toUInt32 >>> ((2 : Int32) &&& 31).toUInt32).toInt32) &&& (7 : Int32))), .val (.int (p1 &&& (3 : Int32))), .val (.ref jarr), .val .null, .val (.ref w_OE), .unset, .unset] [.null, (.ref a4)])) rfl (by rw [hml]; rfl) (Steps.refl _) (argsL := [.null]) (rest := []) (lenOf own_pd4 rfl) rfl (by show 2 * 0 + _ ≤ _; exact Nat.le_of_eq rfl) (hb hby at_176) (fun _ _ => ⟨rfl, e4, (by decide : 12 + 0 ≤ _), (by decide : 156 + 0 ≤ _)⟩)
        dsimp only [Pt.U, Pt.locs, Pt.cells, Pt.slots] at X5 l5 y5 z5 st5 hQ5
        subst y5 z5
        refine Go.tr st5 ?_
        obtain ⟨rfl, N5q, e5⟩ := hQ5
        have N5 : Fr n0 L5 := by rw [l5]; exact Fr.app N3 N5q
        show Go p.tables e below P (T5.setTop (mkF m 179 #[lI p0, lI p1, lI p2, lI p3, lI p4, lI (p0 &&& (3 : Int32)), lR jb, lI (((p0.toUInt32 >>> ((2 : Int32) &&& 31).toUInt32).toInt32) &&& (7 : Int32)), lI (p1 &&& (3 : Int32)), lR jarr, lN, lR w_OE, lU, lU] [(.int (0 : Int32))]))
        refine Go.st (fun _ => XS.istore X5.here hx rfl (hb hby at_179) rfl (l' := #[.val (.int p0), .val (.int p1), .val (.int p2), .val (.int p3), .val (.int p4), .val (.int (p0 &&& (3 : Int32))), .val (.ref jb), .val (.int (((p0.toUInt32 >>> ((2 : Int32) &&& 31).toUInt32).toInt32) &&& (7 : Int32))), .val (.int (p1 &&& (3 : Int32))), .val (.ref jarr), .val .null, .val (.ref w_OE), .val (.int (0 : Int32)), .unset]) rfl) ?_
        show Go p.tables e below P (T5.setTop (mkF m 181 #[lI p0, lI p1, lI p2, lI p3, lI p4, lI (p0 &&& (3 : Int32)), lR jb, lI (((p0.toUInt32 >>> ((2 : Int32) &&& 31).toUInt32).toInt32) &&& (7 : Int32)), lI (p1 &&& (3 : Int32)), lR jarr, lN, lR w_OE, lI (0 : Int32), lU] []))
        obtain ⟨a6, T6, h6, kk6, b6, kb6, X6, e6, E6, hS6, hk6, hZ6, hown6, Ea6, Ca6, Va6, Ab6, alt6, blt6, hCR6, Li6, hne6, st6⟩ := ldcCH X5 hx hZ4 hown4 (ow hw 85 rfl) (fun a ha => hw a (own_strAtoms a ha)) e5 hS4 hk4 hEL (by decide +kernel) CR4.1 (vs := [(.int (99 : Int32)), (.int (114 : Int32)), (.int (101 : Int32)), (.int (97 : Int32)), (.int (116 : Int32)), (.int (105 : Int32)), (.int (111 : Int32)), (.int (110 : Int32)), (.int (95 : Int32)), (.int (100 : Int32)), (.int (97 : Int32)), (.int (116 : Int32)), (.int (101 : Int32))]) (z := (13 : Int32)) (by decide +kernel) (by decide) rfl (g := (mkF m 181 #[.val (.int p0), .val (.int p1), .val (.int p2), .val (.int p3), .val (.int p4), .val (.int (p0 &&& (3 : Int32))), .val (.ref jb), .val (.int (((p0.toUInt32 >>> ((2 : Int32) &&& 31).toUInt32).toInt32) &&& (7 : Int32))), .val (.int (p1 &&& (3 : Int32))), .val (.ref jarr), .val .null, .val (.ref w_OE), .val (.int (0 : Int32)), .unset] [])) rfl (hb hby at_181) (n := 52) (by decide +kernel) (by decide) (by decide) (by decide)
        refine Go.st st6 ?_
        have K6 : Keep h0 h6 [] := K4.ext E6
        have O6 := O4.ext E6
        have CR6 := CR4.trans hCR6
        show Go p.tables e below P (T6.setTop (mkF m 183 #[lI p0, lI p1, lI p2, lI p3, lI p4, lI (p0 &&& (3 : Int32)), lR jb, lI (((p0.toUInt32 >>> ((2 : Int32) &&& 31).toUInt32).toInt32) &&& (7 : Int32)), lI (p1 &&& (3 : Int32)), lR jarr, lN, lR w_OE, lI (0 : Int32), lU] [(.ref a6)]))
        refine Go.st (fun _ => XS.aload X6.here hx rfl (hb hby at_183) rfl rfl) ?_
        show Go p.tables e below P (T6.setTop (mkF m 185 #[lI p0, lI p1, lI p2, lI p3, lI p4, lI (p0 &&& (3 : Int32)), lR jb, lI (((p0.toUInt32 >>> ((2 : Int32) &&& 31).toUInt32).toInt32) &&& (7 : Int32)), lI (p1 &&& (3 : Int32)), lR jarr, lN, lR w_OE, lI (0 : Int32), lU] [.null, (.ref a6)]))
        obtain ⟨cq7, kq7, q7a, q7b, q7c⟩ := isOf hZ6 e6 Ea6
        obtain ⟨_, _, ⟨T7, L7, k7, n7⟩, -, X7, ⟨Lc7, hQ7, l7, y7, z7⟩, st7⟩ := X6.virtualBack hx (y := (⟨"java/lang/String", "equals", "(Ljava/lang/Object;)Z"⟩ : MethodName)) (z := (⟨"java/lang/String", "equals", "(Ljava/lang/Object;)Z"⟩ : MethodName)) hown6 (mvT hZ6 (ow hw 84 rfl)) (mvT hZ6 (ow hw 75 rfl)) (notFace_of_selects (args := #[]) (mvT hZ6 (ow hw 77 rfl))) (mvT hZ6 (ow hw 77 rfl)) (mvT hZ6 (ow hw 76 rfl)) (by decide) (backOf (W := 0) (rm_eqn l Z a0 hw [] w_N S_N X_N w_K S_K X_K w_V k_V S_V X_V V_V w_NS F_NS X_NS I_NS_coder w_NB k_NB F_NB V_NB w_KS F_KS X_KS I_KS_coder w_KB k_KB F_KB V_KB w_OE S_OE X_OE I_OE_value g_CS S_CS nz_CS g_SF S_SF r_SF a6 h6 n0 O6 ) hZ6 (ow hw 78 rfl) (ow hw 1 rfl) (by decide) (by decide)) q7a q7c (g := (mkF m 185 #[.val (.int p0), .val (.int p1), .val (.int p2), .val (.int p3), .val (.int p4), .val (.int (p0 &&& (3 : Int32))), .val (.ref jb), .val (.int (((p0.toUInt32 >>> ((2 : Int32) &&& 31).toUInt32).toInt32) &&& (7 : Int32))), .val (.int (p1 &&& (3 : Int32))), .val (.ref jarr), .val .null, .val (.ref w_OE), .val (.int (0 : Int32)), .unset] [.null, (.ref a6)])) rfl (by rw [hml]; rfl) (Steps.refl _) (argsL := [.null]) (rest := []) (lenOf own_pd4 rfl) rfl (by show 2 * 0 + _ ≤ _; exact Nat.le_of_eq rfl) (hb hby at_185) (fun _ _ => ⟨rfl, e6, (by decide : 14 + 0 ≤ _), (by decide : 212 + 0 ≤ _)⟩)
        dsimp only [Pt.U, Pt.locs, Pt.cells, Pt.slots] at X7 l7 y7 z7 st7 hQ7
        subst y7 z7
        refine Go.tr st7 ?_
        obtain ⟨rfl, N7q, e7⟩ := hQ7
        have N7 : Fr n0 L7 := by rw [l7]; exact Fr.app N5 N7q
        show Go p.tables e below P (T7.setTop (mkF m 188 #[lI p0, lI p1, lI p2, lI p3, lI p4, lI (p0 &&& (3 : Int32)), lR jb, lI (((p0.toUInt32 >>> ((2 : Int32) &&& 31).toUInt32).toInt32) &&& (7 : Int32)), lI (p1 &&& (3 : Int32)), lR jarr, lN, lR w_OE, lI (0 : Int32), lU] [(.int (0 : Int32))]))
        refine Go.st (fun _ => XS.istore X7.here hx rfl (hb hby at_188) rfl (l' := #[.val (.int p0), .val (.int p1), .val (.int p2), .val (.int p3), .val (.int p4), .val (.int (p0 &&& (3 : Int32))), .val (.ref jb), .val (.int (((p0.toUInt32 >>> ((2 : Int32) &&& 31).toUInt32).toInt32) &&& (7 : Int32))), .val (.int (p1 &&& (3 : Int32))), .val (.ref jarr), .val .null, .val (.ref w_OE), .val (.int (0 : Int32)), .val (.int (0 : Int32))]) rfl) ?_
        show Go p.tables e below P (T7.setTop (mkF m 190 #[lI p0, lI p1, lI p2, lI p3, lI p4, lI (p0 &&& (3 : Int32)), lR jb, lI (((p0.toUInt32 >>> ((2 : Int32) &&& 31).toUInt32).toInt32) &&& (7 : Int32)), lI (p1 &&& (3 : Int32)), lR jarr, lN, lR w_OE, lI (0 : Int32), lI (0 : Int32)] []))
        refine Go.st (fun _ => XS.iload X7.here hx rfl (hb hby at_190) rfl) ?_
        show Go p.tables e below P (T7.setTop (mkF m 192 #[lI p0, lI p1, lI p2, lI p3, lI p4, lI (p0 &&& (3 : Int32)), lR jb, lI (((p0.toUInt32 >>> ((2 : Int32) &&& 31).toUInt32).toInt32) &&& (7 : Int32)), lI (p1 &&& (3 : Int32)), lR jarr, lN, lR w_OE, lI (0 : Int32), lI (0 : Int32)] [(.int (0 : Int32))]))
        refine Go.st (fun _ => XS.ifYes X7.here hx rfl (pc0 := 192) (pc' := 213) rfl (hb hby at_192) rfl ((if0 _ _).trans (teq (by decide)).1) (by decide) (by decide)) ?_
        show Go p.tables e below P (T7.setTop (mkF m 213 #[lI p0, lI p1, lI p2, lI p3, lI p4, lI (p0 &&& (3 : Int32)), lR jb, lI (((p0.toUInt32 >>> ((2 : Int32) &&& 31).toUInt32).toInt32) &&& (7 : Int32)), lI (p1 &&& (3 : Int32)), lR jarr, lN, lR w_OE, lI (0 : Int32), lI (0 : Int32)] []))
        refine Go.st (fun _ => XS.iload X7.here hx rfl (hb hby at_213) rfl) ?_
        show Go p.tables e below P (T7.setTop (mkF m 215 #[lI p0, lI p1, lI p2, lI p3, lI p4, lI (p0 &&& (3 : Int32)), lR jb, lI (((p0.toUInt32 >>> ((2 : Int32) &&& 31).toUInt32).toInt32) &&& (7 : Int32)), lI (p1 &&& (3 : Int32)), lR jarr, lN, lR w_OE, lI (0 : Int32), lI (0 : Int32)] [(.int (0 : Int32))]))
        refine Go.st (fun _ => XS.ifYes X7.here hx rfl (pc0 := 215) (pc' := 236) rfl (hb hby at_215) rfl ((if0 _ _).trans (teq (by decide)).1) (by decide) (by decide)) ?_
        show Go p.tables e below P (T7.setTop (mkF m 236 #[lI p0, lI p1, lI p2, lI p3, lI p4, lI (p0 &&& (3 : Int32)), lR jb, lI (((p0.toUInt32 >>> ((2 : Int32) &&& 31).toUInt32).toInt32) &&& (7 : Int32)), lI (p1 &&& (3 : Int32)), lR jarr, lN, lR w_OE, lI (0 : Int32), lI (0 : Int32)] []))
        refine Go.st (fun _ => XS.aload X7.here hx rfl (hb hby at_236) rfl rfl) ?_
        show Go p.tables e below P (T7.setTop (mkF m 238 #[lI p0, lI p1, lI p2, lI p3, lI p4, lI (p0 &&& (3 : Int32)), lR jb, lI (((p0.toUInt32 >>> ((2 : Int32) &&& 31).toUInt32).toInt32) &&& (7 : Int32)), lI (p1 &&& (3 : Int32)), lR jarr, lN, lR w_OE, lI (0 : Int32), lI (0 : Int32)] [(.ref w_OE)]))
        obtain ⟨cq8, kq8, q8a, q8b, q8c⟩ := isOf hZ6 e7 (X_OE.ext O6.2)
        obtain ⟨_, _, ⟨T8, L8, k8, n8⟩, -, X8, ⟨Lc8, hQ8, l8, y8, z8⟩, st8⟩ := X7.virtualBack hx (y := (⟨"java/util/Optional", "isEmpty", "()Z"⟩ : MethodName)) (z := (⟨"java/util/Optional", "isEmpty", "()Z"⟩ : MethodName)) hown6 (mvT hZ6 (ow hw 86 rfl)) (mvT hZ6 (ow hw 87 rfl)) (notFace_of_selects (args := #[]) (mvT hZ6 (ow hw 89 rfl))) (mvT hZ6 (ow hw 89 rfl)) (mvT hZ6 (ow hw 88 rfl)) (by decide) (backOf (W := 0) (rm_oie l Z a0 hw [] w_N S_N X_N w_K S_K X_K w_V k_V S_V X_V V_V w_NS F_NS X_NS I_NS_coder w_NB k_NB F_NB V_NB w_KS F_KS X_KS I_KS_coder w_KB k_KB F_KB V_KB w_OE S_OE X_OE I_OE_value g_CS S_CS nz_CS g_SF S_SF r_SF w_OE h6 n0 O6 (I_OE_value.ext O6.2)) hZ6 (ow hw 90 rfl) (ow hw 81 rfl) (by decide) (by decide)) q8a q8c (g := (mkF m 238 #[.val (.int p0), .val (.int p1), .val (.int p2), .val (.int p3), .val (.int p4), .val (.int (p0 &&& (3 : Int32))), .val (.ref jb), .val (.int (((p0.toUInt32 >>> ((2 : Int32) &&& 31).toUInt32).toInt32) &&& (7 : Int32))), .val (.int (p1 &&& (3 : Int32))), .val (.ref jarr), .val .null, .val (.ref w_OE), .val (.int (0 : Int32)), .val (.int (0 : Int32))] [(.ref w_OE)])) rfl (by rw [hml]; rfl) (Steps.refl _) (argsL := []) (rest := []) (lenOf own_pd11 rfl) rfl (by show 2 * 0 + _ ≤ _; exact Nat.le_of_eq rfl) (hb hby at_238) (fun _ _ => ⟨rfl, e7, (by decide : 14 + 0 ≤ _), (by decide : 212 + 0 ≤ _)⟩)
        dsimp only [Pt.U, Pt.locs, Pt.cells, Pt.slots] at X8 l8 y8 z8 st8 hQ8
        subst y8 z8
        refine Go.tr st8 ?_
        obtain ⟨rfl, N8q, e8⟩ := hQ8
        have N8 : Fr n0 L8 := by rw [l8]; exact Fr.app N7 N8q
        show Go p.tables e below P (T8.setTop (mkF m 241 #[lI p0, lI p1, lI p2, lI p3, lI p4, lI (p0 &&& (3 : Int32)), lR jb, lI (((p0.toUInt32 >>> ((2 : Int32) &&& 31).toUInt32).toInt32) &&& (7 : Int32)), lI (p1 &&& (3 : Int32)), lR jarr, lN, lR w_OE, lI (0 : Int32), lI (0 : Int32)] [(.int (1 : Int32))]))
        obtain ⟨fs, hr, hrun, hended, -, hW, hpair, hsame⟩ := X8.leaveW hS6 (by rw [e8]; exact hk6) (v := some (.int (1 : Int32))) (fun h => by rw [Bd.returns] at h; cases h)
        have hCRe := CR6.trans (CHv.at X8 hZ6 hEL CR6.1)
        refine ⟨_, ?_, hPend _ _ hrun hended ⟨_, _, rfl, ?_, ?_, ⟨_, rfl⟩, hW, hpair, hsame.mono (by decide) (by decide)⟩⟩
        · exact retN X8 hx (t := .boolean) Bd.returns (by simp) (hb hby at_241) hr
        · show Q_rm_law Z _ _ _ _ _ _ _ _ _ _ _ _ _ _ _ _ _ _ h0 n0 _ T8.heap _
          rw [e8]
          exact ⟨rfl, N8, K6⟩
        · show CHr Z consts_1 s.vm s.heap T8.vm T8.heap
          rw [hh, e8]
          exact hCRe
      · skip
        by_cases hcn : ([(110 : Int32), (117 : Int32), (109 : Int32), (98 : Int32), (101 : Int32), (114 : Int32), (95 : Int32), (111 : Int32), (102 : Int32), (95 : Int32), (116 : Int32), (97 : Int32), (103 : Int32), (115 : Int32)] : List Int32) = tcs
        · skip
          show Go p.tables e below P (Tj2.setTop (mkF m 165 #[lI p0, lI p1, lI p2, lI p3, lI p4, lI (p0 &&& (3 : Int32)), lR jb, lI (((p0.toUInt32 >>> ((2 : Int32) &&& 31).toUInt32).toInt32) &&& (7 : Int32)), lI (p1 &&& (3 : Int32)), lR jarr, lR ta, lU, lU, lU] []))
          refine Go.st (fun _ => XS.aload Xj2.here hx rfl (hb hby at_165) rfl rfl) ?_
          show Go p.tables e below P (Tj2.setTop (mkF m 167 #[lI p0, lI p1, lI p2, lI p3, lI p4, lI (p0 &&& (3 : Int32)), lR jb, lI (((p0.toUInt32 >>> ((2 : Int32) &&& 31).toUInt32).toInt32) &&& (7 : Int32)), lI (p1 &&& (3 : Int32)), lR jarr, lR ta, lU, lU, lU] [(.ref ta)]))
          obtain ⟨_, _, ⟨T9, L9, k9, n9⟩, -, X9, ⟨Lc9, hQ9, l9, y9, z9⟩, st9⟩ := Jvm.LawKit.callS Xj2 hx (y := (⟨"com/example/vacuum/vacuum/model/PrunePolicy$Method", "ofWireName", "(Ljava/lang/String;)Ljava/util/Optional;"⟩ : MethodName)) hownj2 (mvT hZj2 (ow hw 51 rfl)) (mvT hZj2 (ow hw 52 rfl)) (mvT hZj2 (ow hw 53 rfl)) (mvT hZj2 (ow hw 54 rfl)) (by decide) (backOf (W := 0) (rm_own l Z a0 hw [] w_N S_N X_N w_K S_K X_K w_V k_V S_V X_V V_V w_NS F_NS X_NS I_NS_coder w_NB k_NB F_NB V_NB w_KS F_KS X_KS I_KS_coder w_KB k_KB F_KB V_KB w_OE S_OE X_OE I_OE_value g_CS S_CS nz_CS g_SF S_SF r_SF ta tcs tb tk hj2 n0 Oj2 hEt hCt hVt hAt hpct hlet hcn) hZj2 (ow hw 54 rfl) (ow hw 53 rfl) (by decide) (by decide)) (g := (mkF m 167 #[.val (.int p0), .val (.int p1), .val (.int p2), .val (.int p3), .val (.int p4), .val (.int (p0 &&& (3 : Int32))), .val (.ref jb), .val (.int (((p0.toUInt32 >>> ((2 : Int32) &&& 31).toUInt32).toInt32) &&& (7 : Int32))), .val (.int (p1 &&& (3 : Int32))), .val (.ref jarr), .val (.ref ta), .unset, .unset, .unset] [(.ref ta)])) rfl (by rw [hml]; rfl) (argsL := [(.ref ta)]) (rest := []) (lenOf own_pd10 rfl) rfl (by show 2 * 0 + _ ≤ _; exact Nat.le_of_eq rfl) (hb hby at_167) (fun _ _ => ⟨rfl, ej2, (by decide : 9 + 2 ≤ _), (by decide : 94 + 3 ≤ _)⟩)
          dsimp only [Pt.U, Pt.locs, Pt.cells, Pt.slots] at X9 l9 y9 z9 st9 hQ9
          subst y9 z9
          refine Go.st st9 ?_
          obtain ⟨ob_10, rfl, N9q, K9q, q9_0, q9_1, q9_2⟩ := hQ9
          have N9 : Fr n0 L9 := by rw [l9]; exact Fr.app Nj2 N9q
          have O9 := Oj2.keep K9q all0
          have K9 : Keep h0 T9.heap [] := Kj2.trans K9q all0
          have CR9 := CRj2.trans (CHr.keep K9q sf0 CRj2.1)
          have sz_ob_10 : h0.size ≤ ob_10 := Nat.le_trans Kj2.1 q9_0
          have g_ob_10 : n0 ≤ ob_10 := Nat.le_trans (own_oldsz X00) sz_ob_10
          show Go p.tables e below P (T9.setTop (mkF m 170 #[lI p0, lI p1, lI p2, lI p3, lI p4, lI (p0 &&& (3 : Int32)), lR jb, lI (((p0.toUInt32 >>> ((2 : Int32) &&& 31).toUInt32).toInt32) &&& (7 : Int32)), lI (p1 &&& (3 : Int32)), lR jarr, lR ta, lU, lU, lU] [(.ref ob_10)]))
          refine Go.st (fun _ => XS.astore X9.here hx rfl (hb hby at_170) rfl rfl (l' := #[.val (.int p0), .val (.int p1), .val (.int p2), .val (.int p3), .val (.int p4), .val (.int (p0 &&& (3 : Int32))), .val (.ref jb), .val (.int (((p0.toUInt32 >>> ((2 : Int32) &&& 31).toUInt32).toInt32) &&& (7 : Int32))), .val (.int (p1 &&& (3 : Int32))), .val (.ref jarr), .val (.ref ta), .val (.ref ob_10), .unset, .unset]) rfl) ?_
          show Go p.tables e below P (T9.setTop (mkF m 172 #[lI p0, lI p1, lI p2, lI p3, lI p4, lI (p0 &&& (3 : Int32)), lR jb, lI (((p0.toUInt32 >>> ((2 : Int32) &&& 31).toUInt32).toInt32) &&& (7 : Int32)), lI (p1 &&& (3 : Int32)), lR jarr, lR ta, lR ob_10, lU, lU] []))
          have c12 := (hEt.keep K9q)
          have c13 := (hAt.keep K9q nin0)
          obtain ⟨a11, T11, h11, kk11, b11, kb11, X11, e11, E11, hS11, hk11, hZ11, hown11, Ea11, Ca11, Va11, Ab11, alt11, blt11, hCR11, Li11, hne11, st11⟩ := ldcCH X9 hx hZj2 hownj2 (ow hw 0 rfl) (fun a ha => hw a (own_strAtoms a ha)) rfl hSj2 (Nat.le_trans hkj2 K9q.1) hEL (by decide +kernel) CR9.1 (vs := [(.int (110 : Int32)), (.int (117 : Int32)), (.int (109 : Int32)), (.int (98 : Int32)), (.int (101 : Int32)), (.int (114 : Int32)), (.int (95 : Int32)), (.int (111 : Int32)), (.int (102 : Int32)), (.int (95 : Int32)), (.int (116 : Int32)), (.int (97 : Int32)), (.int (103 : Int32)), (.int (115 : Int32))]) (z := (14 : Int32)) (by decide +kernel) (by decide) rfl (g := (mkF m 172 #[.val (.int p0), .val (.int p1), .val (.int p2), .val (.int p3), .val (.int p4), .val (.int (p0 &&& (3 : Int32))), .val (.ref jb), .val (.int (((p0.toUInt32 >>> ((2 : Int32) &&& 31).toUInt32).toInt32) &&& (7 : Int32))), .val (.int (p1 &&& (3 : Int32))), .val (.ref jarr), .val (.ref ta), .val (.ref ob_10), .unset, .unset] [])) rfl (hb hby at_172) (n := 56) (by decide +kernel) (by decide) (by decide) (by decide)
          refine Go.st st11 ?_
          have K11 : Keep h0 h11 [] := K9.ext E11
          have O11 := O9.ext E11
          have CR11 := CR9.trans hCR11
          have c14 := (q9_1.ext E11)
          have ne15 := hne11 ob_10 (Safe.exa hZ11.alike c14 (by decide) (by decide))
          show Go p.tables e below P (T11.setTop (mkF m 174 #[lI p0, lI p1, lI p2, lI p3, lI p4, lI (p0 &&& (3 : Int32)), lR jb, lI (((p0.toUInt32 >>> ((2 : Int32) &&& 31).toUInt32).toInt32) &&& (7 : Int32)), lI (p1 &&& (3 : Int32)), lR jarr, lR ta, lR ob_10, lU, lU] [(.ref a11)]))
          refine Go.st (fun _ => XS.aload X11.here hx rfl (hb hby at_174) rfl rfl) ?_
          show Go p.tables e below P (T11.setTop (mkF m 176 #[lI p0, lI p1, lI p2, lI p3, lI p4, lI (p0 &&& (3 : Int32)), lR jb, lI (((p0.toUInt32 >>> ((2 : Int32) &&& 31).toUInt32).toInt32) &&& (7 : Int32)), lI (p1 &&& (3 : Int32)), lR jarr, lR ta, lR ob_10, lU, lU] [(.ref ta), (.ref a11)]))
          have hcd16 : StrChars.Road.CodA ([(110 : Int32), (117 : Int32), (109 : Int32), (98 : Int32), (101 : Int32), (114 : Int32), (95 : Int32), (111 : Int32), (102 : Int32), (95 : Int32), (116 : Int32), (97 : Int32), (103 : Int32), (115 : Int32)] : List Int32) 0 (14 : Int32) [(.int (110 : Int32)), (.int (117 : Int32)), (.int (109 : Int32)), (.int (98 : Int32)), (.int (101 : Int32)), (.int (114 : Int32)), (.int (95 : Int32)), (.int (111 : Int32)), (.int (102 : Int32)), (.int (95 : Int32)), (.int (116 : Int32)), (.int (97 : Int32)), (.int (103 : Int32)), (.int (115 : Int32))] := StrChars.Road.codOf (n := 14) rfl (fun c hc => ((show ∀ c ∈ ([(110 : Int32), (117 : Int32), (109 : Int32), (98 : Int32), (101 : Int32), (114 : Int32), (95 : Int32), (111 : Int32), (102 : Int32), (95 : Int32), (116 : Int32), (97 : Int32), (103 : Int32), (115 : Int32)] : List Int32), ¬ c < 0 ∧ ¬ (255 : Int32) < c by decide) c hc).2)
          have c17 := (c12.ext E11)
          have c18 := ((hVt.keep K9q nin0).ext E11)
          have c19 := ((hCt.keep K9q nin0).ext E11)
          have c20 := (c13.ext E11)
          have hcd16b : StrChars.Road.CodA tcs 0 (Int32.ofNat tcs.length) ((tcs.map StrChars.lo8).map Value.int) := StrChars.Road.codOf (n := tcs.length) rfl (fun c hc => (hpct c hc).2)
          obtain ⟨cq16, kq16, q16a, q16b, q16c⟩ := isOf hZ11 e11 Ea11
          obtain ⟨_, _, ⟨T16, L16, k16, n16⟩, -, X16, ⟨Lc16, hQ16, l16, y16, z16⟩, st16⟩ := X11.virtualBack hx (y := (⟨"java/lang/String", "equals", "(Ljava/lang/Object;)Z"⟩ : MethodName)) (z := (⟨"java/lang/String", "equals", "(Ljava/lang/Object;)Z"⟩ : MethodName)) hown11 (mvT hZ11 (ow hw 84 rfl)) (mvT hZ11 (ow hw 75 rfl)) (notFace_of_selects (args := #[]) (mvT hZ11 (ow hw 77 rfl))) (mvT hZ11 (ow hw 77 rfl)) (mvT hZ11 (ow hw 76 rfl)) (by decide) (StrChars.Road.eqW (W := 0) hZ11 (fun d hd => hw d (own_wEq d hd)) (kI := 4) (ow hw 2 rfl) Ea11 Va11 Ca11 Ab11 hcd16 (own_up _ (show ∀ c ∈ ([(110 : Int32), (117 : Int32), (109 : Int32), (98 : Int32), (101 : Int32), (114 : Int32), (95 : Int32), (111 : Int32), (102 : Int32), (95 : Int32), (116 : Int32), (97 : Int32), (103 : Int32), (115 : Int32)] : List Int32), ¬ c < 0 ∧ ¬ (255 : Int32) < c by decide)) (Nat.le_of_ble_eq_true rfl) c17 c18 c19 c20 hcd16b (own_up _ hpct) hlet (S_CS.ext O11.2) nz_CS (by decide) (by decide)) q16a q16c (g := (mkF m 176 #[.val (.int p0), .val (.int p1), .val (.int p2), .val (.int p3), .val (.int p4), .val (.int (p0 &&& (3 : Int32))), .val (.ref jb), .val (.int (((p0.toUInt32 >>> ((2 : Int32) &&& 31).toUInt32).toInt32) &&& (7 : Int32))), .val (.int (p1 &&& (3 : Int32))), .val (.ref jarr), .val (.ref ta), .val (.ref ob_10), .unset, .unset] [(.ref ta), (.ref a11)])) rfl (by rw [hml]; rfl) (Steps.refl _) (argsL := [(.ref ta)]) (rest := []) (lenOf own_pd4 rfl) rfl (by show 2 * 0 + _ ≤ _; exact Nat.le_of_eq rfl) (hb hby at_176) (fun _ _ => ⟨rfl, e11, (by decide : 13 + 0 ≤ _), (by decide : 157 + 0 ≤ _)⟩)
          dsimp only [Pt.U, Pt.locs, Pt.cells, Pt.slots] at X16 l16 y16 z16 st16 hQ16
          subst y16 z16
          refine Go.tr st16 ?_
          obtain ⟨hor16, rfl, e16⟩ := hQ16
          have N16 : Fr n0 L16 := by rw [l16]; exact Fr.app N9 (Fr.nil n0)
          obtain ⟨rfl, heq16⟩ : _ ∧ ([(110 : Int32), (117 : Int32), (109 : Int32), (98 : Int32), (101 : Int32), (114 : Int32), (95 : Int32), (111 : Int32), (102 : Int32), (95 : Int32), (116 : Int32), (97 : Int32), (103 : Int32), (115 : Int32)] : List Int32) = tcs := hor16.elim id (fun q => absurd hcn q.2)
          show Go p.tables e below P (T16.setTop (mkF m 179 #[lI p0, lI p1, lI p2, lI p3, lI p4, lI (p0 &&& (3 : Int32)), lR jb, lI (((p0.toUInt32 >>> ((2 : Int32) &&& 31).toUInt32).toInt32) &&& (7 : Int32)), lI (p1 &&& (3 : Int32)), lR jarr, lR ta, lR ob_10, lU, lU] [(.int (1 : Int32))]))
          refine Go.st (fun _ => XS.istore X16.here hx rfl (hb hby at_179) rfl (l' := #[.val (.int p0), .val (.int p1), .val (.int p2), .val (.int p3), .val (.int p4), .val (.int (p0 &&& (3 : Int32))), .val (.ref jb), .val (.int (((p0.toUInt32 >>> ((2 : Int32) &&& 31).toUInt32).toInt32) &&& (7 : Int32))), .val (.int (p1 &&& (3 : Int32))), .val (.ref jarr), .val (.ref ta), .val (.ref ob_10), .val (.int (1 : Int32)), .unset]) rfl) ?_
          show Go p.tables e below P (T16.setTop (mkF m 181 #[lI p0, lI p1, lI p2, lI p3, lI p4, lI (p0 &&& (3 : Int32)), lR jb, lI (((p0.toUInt32 >>> ((2 : Int32) &&& 31).toUInt32).toInt32) &&& (7 : Int32)), lI (p1 &&& (3 : Int32)), lR jarr, lR ta, lR ob_10, lI (1 : Int32), lU] []))
          obtain ⟨a21, T21, h21, kk21, b21, kb21, X21, e21, E21, hS21, hk21, hZ21, hown21, Ea21, Ca21, Va21, Ab21, alt21, blt21, hCR21, Li21, hne21, st21⟩ := ldcCH X16 hx hZ11 hown11 (ow hw 85 rfl) (fun a ha => hw a (own_strAtoms a ha)) e16 hS11 hk11 hEL (by decide +kernel) CR11.1 (vs := [(.int (99 : Int32)), (.int (114 : Int32)), (.int (101 : Int32)), (.int (97 : Int32)), (.int (116 : Int32)), (.int (105 : Int32)), (.int (111 : Int32)), (.int (110 : Int32)), (.int (95 : Int32)), (.int (100 : Int32)), (.int (97 : Int32)), (.int (116 : Int32)), (.int (101 : Int32))]) (z := (13 : Int32)) (by decide +kernel) (by decide) rfl (g := (mkF m 181 #[.val (.int p0), .val (.int p1), .val (.int p2), .val (.int p3), .val (.int p4), .val (.int (p0 &&& (3 : Int32))), .val (.ref jb), .val (.int (((p0.toUInt32 >>> ((2 : Int32) &&& 31).toUInt32).toInt32) &&& (7 : Int32))), .val (.int (p1 &&& (3 : Int32))), .val (.ref jarr), .val (.ref ta), .val (.ref ob_10), .val (.int (1 : Int32)), .unset] [])) rfl (hb hby at_181) (n := 52) (by decide +kernel) (by decide) (by decide) (by decide)
          refine Go.st st21 ?_
          have K21 : Keep h0 h21 [] := K11.ext E21
          have O21 := O11.ext E21
          have CR21 := CR11.trans hCR21
          have c22 := (c14.ext E21)
          have ne23 := hne21 ob_10 (Safe.exa hZ21.alike c22 (by decide) (by decide))
          show Go p.tables e below P (T21.setTop (mkF m 183 #[lI p0, lI p1, lI p2, lI p3, lI p4, lI (p0 &&& (3 : Int32)), lR jb, lI (((p0.toUInt32 >>> ((2 : Int32) &&& 31).toUInt32).toInt32) &&& (7 : Int32)), lI (p1 &&& (3 : Int32)), lR jarr, lR ta, lR ob_10, lI (1 : Int32), lU] [(.ref a21)]))
          refine Go.st (fun _ => XS.aload X21.here hx rfl (hb hby at_183) rfl rfl) ?_
          show Go p.tables e below P (T21.setTop (mkF m 185 #[lI p0, lI p1, lI p2, lI p3, lI p4, lI (p0 &&& (3 : Int32)), lR jb, lI (((p0.toUInt32 >>> ((2 : Int32) &&& 31).toUInt32).toInt32) &&& (7 : Int32)), lI (p1 &&& (3 : Int32)), lR jarr, lR ta, lR ob_10, lI (1 : Int32), lU] [(.ref ta), (.ref a21)]))
          have hcd24 : StrChars.Road.CodA ([(99 : Int32), (114 : Int32), (101 : Int32), (97 : Int32), (116 : Int32), (105 : Int32), (111 : Int32), (110 : Int32), (95 : Int32), (100 : Int32), (97 : Int32), (116 : Int32), (101 : Int32)] : List Int32) 0 (13 : Int32) [(.int (99 : Int32)), (.int (114 : Int32)), (.int (101 : Int32)), (.int (97 : Int32)), (.int (116 : Int32)), (.int (105 : Int32)), (.int (111 : Int32)), (.int (110 : Int32)), (.int (95 : Int32)), (.int (100 : Int32)), (.int (97 : Int32)), (.int (116 : Int32)), (.int (101 : Int32))] := StrChars.Road.codOf (n := 13) rfl (fun c hc => ((show ∀ c ∈ ([(99 : Int32), (114 : Int32), (101 : Int32), (97 : Int32), (116 : Int32), (105 : Int32), (111 : Int32), (110 : Int32), (95 : Int32), (100 : Int32), (97 : Int32), (116 : Int32), (101 : Int32)] : List Int32), ¬ c < 0 ∧ ¬ (255 : Int32) < c by decide) c hc).2)
          have c25 := (c17.ext E21)
          have c26 := (c18.ext E21)
          have c27 := (c19.ext E21)
          have c28 := (c20.ext E21)
          have hcd24b : StrChars.Road.CodA tcs 0 (Int32.ofNat tcs.length) ((tcs.map StrChars.lo8).map Value.int) := StrChars.Road.codOf (n := tcs.length) rfl (fun c hc => (hpct c hc).2)
          obtain ⟨cq24, kq24, q24a, q24b, q24c⟩ := isOf hZ21 e21 Ea21
          obtain ⟨_, _, ⟨T24, L24, k24, n24⟩, -, X24, ⟨Lc24, hQ24, l24, y24, z24⟩, st24⟩ := X21.virtualBack hx (y := (⟨"java/lang/String", "equals", "(Ljava/lang/Object;)Z"⟩ : MethodName)) (z := (⟨"java/lang/String", "equals", "(Ljava/lang/Object;)Z"⟩ : MethodName)) hown21 (mvT hZ21 (ow hw 84 rfl)) (mvT hZ21 (ow hw 75 rfl)) (notFace_of_selects (args := #[]) (mvT hZ21 (ow hw 77 rfl))) (mvT hZ21 (ow hw 77 rfl)) (mvT hZ21 (ow hw 76 rfl)) (by decide) (StrChars.Road.eqW (W := 0) hZ21 (fun d hd => hw d (own_wEq d hd)) (kI := 4) (ow hw 2 rfl) Ea21 Va21 Ca21 Ab21 hcd24 (own_up _ (show ∀ c ∈ ([(99 : Int32), (114 : Int32), (101 : Int32), (97 : Int32), (116 : Int32), (105 : Int32), (111 : Int32), (110 : Int32), (95 : Int32), (100 : Int32), (97 : Int32), (116 : Int32), (101 : Int32)] : List Int32), ¬ c < 0 ∧ ¬ (255 : Int32) < c by decide)) (Nat.le_of_ble_eq_true rfl) c25 c26 c27 c28 hcd24b (own_up _ hpct) hlet (S_CS.ext O21.2) nz_CS (by decide) (by decide)) q24a q24c (g := (mkF m 185 #[.val (.int p0), .val (.int p1), .val (.int p2), .val (.int p3), .val (.int p4), .val (.int (p0 &&& (3 : Int32))), .val (.ref jb), .val (.int (((p0.toUInt32 >>> ((2 : Int32) &&& 31).toUInt32).toInt32) &&& (7 : Int32))), .val (.int (p1 &&& (3 : Int32))), .val (.ref jarr), .val (.ref ta), .val (.ref ob_10), .val (.int (1 : Int32)), .unset] [(.ref ta), (.ref a21)])) rfl (by rw [hml]; rfl) (Steps.refl _) (argsL := [(.ref ta)]) (rest := []) (lenOf own_pd4 rfl) rfl (by show 2 * 0 + _ ≤ _; exact Nat.le_of_eq rfl) (hb hby at_185) (fun _ _ => ⟨rfl, e21, (by decide : 15 + 0 ≤ _), (by decide : 213 + 0 ≤ _)⟩)
          dsimp only [Pt.U, Pt.locs, Pt.cells, Pt.slots] at X24 l24 y24 z24 st24 hQ24
          subst y24 z24
          refine Go.tr st24 ?_
          obtain ⟨hor24, rfl, e24⟩ := hQ24
          have N24 : Fr n0 L24 := by rw [l24]; exact Fr.app N16 (Fr.nil n0)
          obtain ⟨rfl, heq24⟩ := hor24.elim (fun q => absurd q.2 (fun q => absurd (hcn.trans q.symm) (by decide))) id
          show Go p.tables e below P (T24.setTop (mkF m 188 #[lI p0, lI p1, lI p2, lI p3, lI p4, lI (p0 &&& (3 : Int32)), lR jb, lI (((p0.toUInt32 >>> ((2 : Int32) &&& 31).toUInt32).toInt32) &&& (7 : Int32)), lI (p1 &&& (3 : Int32)), lR jarr, lR ta, lR ob_10, lI (1 : Int32), lU] [(.int (0 : Int32))]))
          refine Go.st (fun _ => XS.istore X24.here hx rfl (hb hby at_188) rfl (l' := #[.val (.int p0), .val (.int p1), .val (.int p2), .val (.int p3), .val (.int p4), .val (.int (p0 &&& (3 : Int32))), .val (.ref jb), .val (.int (((p0.toUInt32 >>> ((2 : Int32) &&& 31).toUInt32).toInt32) &&& (7 : Int32))), .val (.int (p1 &&& (3 : Int32))), .val (.ref jarr), .val (.ref ta), .val (.ref ob_10), .val (.int (1 : Int32)), .val (.int (0 : Int32))]) rfl) ?_
          show Go p.tables e below P (T24.setTop (mkF m 190 #[lI p0, lI p1, lI p2, lI p3, lI p4, lI (p0 &&& (3 : Int32)), lR jb, lI (((p0.toUInt32 >>> ((2 : Int32) &&& 31).toUInt32).toInt32) &&& (7 : Int32)), lI (p1 &&& (3 : Int32)), lR jarr, lR ta, lR ob_10, lI (1 : Int32), lI (0 : Int32)] []))
          refine Go.st (fun _ => XS.iload X24.here hx rfl (hb hby at_190) rfl) ?_
          show Go p.tables e below P (T24.setTop (mkF m 192 #[lI p0, lI p1, lI p2, lI p3, lI p4, lI (p0 &&& (3 : Int32)), lR jb, lI (((p0.toUInt32 >>> ((2 : Int32) &&& 31).toUInt32).toInt32) &&& (7 : Int32)), lI (p1 &&& (3 : Int32)), lR jarr, lR ta, lR ob_10, lI (1 : Int32), lI (0 : Int32)] [(.int (1 : Int32))]))
          refine Go.st (fun _ => XS.ifNo X24.here hx rfl (hb hby at_192) rfl ((if0 _ _).trans (feq (by decide)).1)) ?_
          show Go p.tables e below P (T24.setTop (mkF m 195 #[lI p0, lI p1, lI p2, lI p3, lI p4, lI (p0 &&& (3 : Int32)), lR jb, lI (((p0.toUInt32 >>> ((2 : Int32) &&& 31).toUInt32).toInt32) &&& (7 : Int32)), lI (p1 &&& (3 : Int32)), lR jarr, lR ta, lR ob_10, lI (1 : Int32), lI (0 : Int32)] []))
          refine Go.st (fun _ => XS.aload X24.here hx rfl (hb hby at_195) rfl rfl) ?_
          show Go p.tables e below P (T24.setTop (mkF m 197 #[lI p0, lI p1, lI p2, lI p3, lI p4, lI (p0 &&& (3 : Int32)), lR jb, lI (((p0.toUInt32 >>> ((2 : Int32) &&& 31).toUInt32).toInt32) &&& (7 : Int32)), lI (p1 &&& (3 : Int32)), lR jarr, lR ta, lR ob_10, lI (1 : Int32), lI (0 : Int32)] [(.ref ob_10)]))
          refine Go.st (fun _ => XS.aconstNull X24.here hx rfl (hb hby at_197)) ?_
          show Go p.tables e below P (T24.setTop (mkF m 198 #[lI p0, lI p1, lI p2, lI p3, lI p4, lI (p0 &&& (3 : Int32)), lR jb, lI (((p0.toUInt32 >>> ((2 : Int32) &&& 31).toUInt32).toInt32) &&& (7 : Int32)), lI (p1 &&& (3 : Int32)), lR jarr, lR ta, lR ob_10, lI (1 : Int32), lI (0 : Int32)] [.null, (.ref ob_10)]))
          have c30 := ((q9_2.ext E11).ext E21)
          obtain ⟨cq29, kq29, q29a, q29b, q29c⟩ := isOf hZ21 e24 c22
          obtain ⟨_, _, ⟨T29, L29, k29, n29⟩, -, X29, ⟨Lc29, hQ29, l29, y29, z29⟩, st29⟩ := X24.virtualBack hx (y := (⟨"java/util/Optional", "orElse", "(Ljava/lang/Object;)Ljava/lang/Object;"⟩ : MethodName)) (z := (⟨"java/util/Optional", "orElse", "(Ljava/lang/Object;)Ljava/lang/Object;"⟩ : MethodName)) hown21 (mvT hZ21 (ow hw 135 rfl)) (mvT hZ21 (ow hw 136 rfl)) (notFace_of_selects (args := #[]) (mvT hZ21 (ow hw 138 rfl))) (mvT hZ21 (ow hw 138 rfl)) (mvT hZ21 (ow hw 137 rfl)) (by decide) (backOf (W := 0) (rm_ore l Z a0 hw [] w_N S_N X_N w_K S_K X_K w_V k_V S_V X_V V_V w_NS F_NS X_NS I_NS_coder w_NB k_NB F_NB V_NB w_KS F_KS X_KS I_KS_coder w_KB k_KB F_KB V_KB w_OE S_OE X_OE I_OE_value g_CS S_CS nz_CS g_SF S_SF r_SF ob_10 w_N h21 n0 O21 c30) hZ21 (ow hw 139 rfl) (ow hw 81 rfl) (by decide) (by decide)) q29a q29c (g := (mkF m 198 #[.val (.int p0), .val (.int p1), .val (.int p2), .val (.int p3), .val (.int p4), .val (.int (p0 &&& (3 : Int32))), .val (.ref jb), .val (.int (((p0.toUInt32 >>> ((2 : Int32) &&& 31).toUInt32).toInt32) &&& (7 : Int32))), .val (.int (p1 &&& (3 : Int32))), .val (.ref jarr), .val (.ref ta), .val (.ref ob_10), .val (.int (1 : Int32)), .val (.int (0 : Int32))] [.null, (.ref ob_10)])) rfl (by rw [hml]; rfl) (Steps.refl _) (argsL := [.null]) (rest := []) (lenOf own_pd1 rfl) rfl (by show 2 * 0 + _ ≤ _; exact Nat.le_of_eq rfl) (hb hby at_198) (fun _ _ => ⟨rfl, e24, (by decide : 15 + 0 ≤ _), (by decide : 213 + 0 ≤ _)⟩)
          dsimp only [Pt.U, Pt.locs, Pt.cells, Pt.slots] at X29 l29 y29 z29 st29 hQ29
          subst y29 z29
          refine Go.tr st29 ?_
          obtain ⟨rfl, N29q, e29⟩ := hQ29
          have N29 : Fr n0 L29 := by rw [l29]; exact Fr.app N24 N29q
          show Go p.tables e below P (T29.setTop (mkF m 201 #[lI p0, lI p1, lI p2, lI p3, lI p4, lI (p0 &&& (3 : Int32)), lR jb, lI (((p0.toUInt32 >>> ((2 : Int32) &&& 31).toUInt32).toInt32) &&& (7 : Int32)), lI (p1 &&& (3 : Int32)), lR jarr, lR ta, lR ob_10, lI (1 : Int32), lI (0 : Int32)] [(.ref w_N)]))
          obtain ⟨T31, X31, e31, st31⟩ := getS2 X29 hx hZ21 hown21 (host := "") (Or.inl (ow hw 140 rfl)) Via.refl e29 (S_N.ext O21.2) (g := (mkF m 201 #[.val (.int p0), .val (.int p1), .val (.int p2), .val (.int p3), .val (.int p4), .val (.int (p0 &&& (3 : Int32))), .val (.ref jb), .val (.int (((p0.toUInt32 >>> ((2 : Int32) &&& 31).toUInt32).toInt32) &&& (7 : Int32))), .val (.int (p1 &&& (3 : Int32))), .val (.ref jarr), .val (.ref ta), .val (.ref ob_10), .val (.int (1 : Int32)), .val (.int (0 : Int32))] [(.ref w_N)])) rfl (hb hby at_201)
          refine Go.st st31 ?_
          show Go p.tables e below P (T31.setTop (mkF m 204 #[lI p0, lI p1, lI p2, lI p3, lI p4, lI (p0 &&& (3 : Int32)), lR jb, lI (((p0.toUInt32 >>> ((2 : Int32) &&& 31).toUInt32).toInt32) &&& (7 : Int32)), lI (p1 &&& (3 : Int32)), lR jarr, lR ta, lR ob_10, lI (1 : Int32), lI (0 : Int32)] [(.ref w_N), (.ref w_N)]))
          refine Go.st (fun _ => Jvm.RoadKit.acmp (g := (mkF m 204 #[.val (.int p0), .val (.int p1), .val (.int p2), .val (.int p3), .val (.int p4), .val (.int (p0 &&& (3 : Int32))), .val (.ref jb), .val (.int (((p0.toUInt32 >>> ((2 : Int32) &&& 31).toUInt32).toInt32) &&& (7 : Int32))), .val (.int (p1 &&& (3 : Int32))), .val (.ref jarr), .val (.ref ta), .val (.ref ob_10), .val (.int (1 : Int32)), .val (.int (0 : Int32))] [(.ref w_N), (.ref w_N)])) X31 hx rfl rfl rfl (pc0 := 204) (pc' := 207) (same := true) rfl (hb hby at_204) rfl (decide_eq_true rfl) (by decide) (by decide)) ?_
          show Go p.tables e below P (T31.setTop (mkF m 207 #[lI p0, lI p1, lI p2, lI p3, lI p4, lI (p0 &&& (3 : Int32)), lR jb, lI (((p0.toUInt32 >>> ((2 : Int32) &&& 31).toUInt32).toInt32) &&& (7 : Int32)), lI (p1 &&& (3 : Int32)), lR jarr, lR ta, lR ob_10, lI (1 : Int32), lI (0 : Int32)] []))
          refine Go.st (fun _ => XS.iconst X31.here hx rfl (hb hby at_207)) ?_
          show Go p.tables e below P (T31.setTop (mkF m 208 #[lI p0, lI p1, lI p2, lI p3, lI p4, lI (p0 &&& (3 : Int32)), lR jb, lI (((p0.toUInt32 >>> ((2 : Int32) &&& 31).toUInt32).toInt32) &&& (7 : Int32)), lI (p1 &&& (3 : Int32)), lR jarr, lR ta, lR ob_10, lI (1 : Int32), lI (0 : Int32)] [(.int (1 : Int32))]))
          refine Go.st (fun _ => XS.goto X31.here hx rfl (pc0 := 208) (pc' := 212) rfl (hb hby at_208) (by decide) (by decide)) ?_
          show Go p.tables e below P (T31.setTop (mkF m 212 #[lI p0, lI p1, lI p2, lI p3, lI p4, lI (p0 &&& (3 : Int32)), lR jb, lI (((p0.toUInt32 >>> ((2 : Int32) &&& 31).toUInt32).toInt32) &&& (7 : Int32)), lI (p1 &&& (3 : Int32)), lR jarr, lR ta, lR ob_10, lI (1 : Int32), lI (0 : Int32)] [(.int (1 : Int32))]))
          obtain ⟨fs, hr, hrun, hended, -, hW, hpair, hsame⟩ := X31.leaveW hS21 (by rw [e31]; exact hk21) (v := some (.int (1 : Int32))) (fun h => by rw [Bd.returns] at h; cases h)
          have hCRe := CR21.trans (CHv.at X31 hZ21 hEL CR21.1)
          refine ⟨_, ?_, hPend _ _ hrun hended ⟨_, _, rfl, ?_, ?_, ⟨_, rfl⟩, hW, hpair, hsame.mono (by decide) (by decide)⟩⟩
          · exact retN X31 hx (t := .boolean) Bd.returns (by simp) (hb hby at_212) hr
          · show Q_rm_law Z _ _ _ _ _ _ _ _ _ _ _ _ _ _ _ _ _ _ h0 n0 _ T31.heap _
            rw [e31]
            exact ⟨rfl, N29, K21⟩
          · show CHr Z consts_1 s.vm s.heap T31.vm T31.heap
            rw [hh, e31]
            exact hCRe
        · skip
          by_cases hcc : ([(99 : Int32), (114 : Int32), (101 : Int32), (97 : Int32), (116 : Int32), (105 : Int32), (111 : Int32), (110 : Int32), (95 : Int32), (100 : Int32), (97 : Int32), (116 : Int32), (101 : Int32)] : List Int32) = tcs
          · skip
            show Go p.tables e below P (Tj2.setTop (mkF m 165 #[lI p0, lI p1, lI p2, lI p3, lI p4, lI (p0 &&& (3 : Int32)), lR jb, lI (((p0.toUInt32 >>> ((2 : Int32) &&& 31).toUInt32).toInt32) &&& (7 : Int32)), lI (p1 &&& (3 : Int32)), lR jarr, lR ta, lU, lU, lU] []))
            refine Go.st (fun _ => XS.aload Xj2.here hx rfl (hb hby at_165) rfl rfl) ?_
            show Go p.tables e below P (Tj2.setTop (mkF m 167 #[lI p0, lI p1, lI p2, lI p3, lI p4, lI (p0 &&& (3 : Int32)), lR jb, lI (((p0.toUInt32 >>> ((2 : Int32) &&& 31).toUInt32).toInt32) &&& (7 : Int32)), lI (p1 &&& (3 : Int32)), lR jarr, lR ta, lU, lU, lU] [(.ref ta)]))
            obtain ⟨_, _, ⟨T32, L32, k32, n32⟩, -, X32, ⟨Lc32, hQ32, l32, y32, z32⟩, st32⟩ := Jvm.LawKit.callS Xj2 hx (y := (⟨"com/example/vacuum/vacuum/model/PrunePolicy$Method", "ofWireName", "(Ljava/lang/String;)Ljava/util/Optional;"⟩ : MethodName)) hownj2 (mvT hZj2 (ow hw 51 rfl)) (mvT hZj2 (ow hw 52 rfl)) (mvT hZj2 (ow hw 53 rfl)) (mvT hZj2 (ow hw 54 rfl)) (by decide) (backOf (W := 0) (rm_owc l Z a0 hw [] w_N S_N X_N w_K S_K X_K w_V k_V S_V X_V V_V w_NS F_NS X_NS I_NS_coder w_NB k_NB F_NB V_NB w_KS F_KS X_KS I_KS_coder w_KB k_KB F_KB V_KB w_OE S_OE X_OE I_OE_value g_CS S_CS nz_CS g_SF S_SF r_SF ta tcs tb tk hj2 n0 Oj2 hEt hCt hVt hAt hpct hlet hcn hcc) hZj2 (ow hw 54 rfl) (ow hw 53 rfl) (by decide) (by decide)) (g := (mkF m 167 #[.val (.int p0), .val (.int p1), .val (.int p2), .val (.int p3), .val (.int p4), .val (.int (p0 &&& (3 : Int32))), .val (.ref jb), .val (.int (((p0.toUInt32 >>> ((2 : Int32) &&& 31).toUInt32).toInt32) &&& (7 : Int32))), .val (.int (p1 &&& (3 : Int32))), .val (.ref jarr), .val (.ref ta), .unset, .unset, .unset] [(.ref ta)])) rfl (by rw [hml]; rfl) (argsL := [(.ref ta)]) (rest := []) (lenOf own_pd10 rfl) rfl (by show 2 * 0 + _ ≤ _; exact Nat.le_of_eq rfl) (hb hby at_167) (fun _ _ => ⟨rfl, ej2, (by decide : 9 + 2 ≤ _), (by decide : 94 + 3 ≤ _)⟩)
            dsimp only [Pt.U, Pt.locs, Pt.cells, Pt.slots] at X32 l32 y32 z32 st32 hQ32
            subst y32 z32
            refine Go.st st32 ?_
            obtain ⟨ob_33, rfl, N32q, K32q, q32_0, q32_1, q32_2⟩ := hQ32
            have N32 : Fr n0 L32 := by rw [l32]; exact Fr.app Nj2 N32q
            have O32 := Oj2.keep K32q all0
            have K32 : Keep h0 T32.heap [] := Kj2.trans K32q all0
            have CR32 := CRj2.trans (CHr.keep K32q sf0 CRj2.1)
            have sz_ob_33 : h0.size ≤ ob_33 := Nat.le_trans Kj2.1 q32_0
            have g_ob_33 : n0 ≤ ob_33 := Nat.le_trans (own_oldsz X00) sz_ob_33
            show Go p.tables e below P (T32.setTop (mkF m 170 #[lI p0, lI p1, lI p2, lI p3, lI p4, lI (p0 &&& (3 : Int32)), lR jb, lI (((p0.toUInt32 >>> ((2 : Int32) &&& 31).toUInt32).toInt32) &&& (7 : Int32)), lI (p1 &&& (3 : Int32)), lR jarr, lR ta, lU, lU, lU] [(.ref ob_33)]))
            refine Go.st (fun _ => XS.astore X32.here hx rfl (hb hby at_170) rfl rfl (l' := #[.val (.int p0), .val (.int p1), .val (.int p2), .val (.int p3), .val (.int p4), .val (.int (p0 &&& (3 : Int32))), .val (.ref jb), .val (.int (((p0.toUInt32 >>> ((2 : Int32) &&& 31).toUInt32).toInt32) &&& (7 : Int32))), .val (.int (p1 &&& (3 : Int32))), .val (.ref jarr), .val (.ref ta), .val (.ref ob_33), .unset, .unset]) rfl) ?_
            show Go p.tables e below P (T32.setTop (mkF m 172 #[lI p0, lI p1, lI p2, lI p3, lI p4, lI (p0 &&& (3 : Int32)), lR jb, lI (((p0.toUInt32 >>> ((2 : Int32) &&& 31).toUInt32).toInt32) &&& (7 : Int32)), lI (p1 &&& (3 : Int32)), lR jarr, lR ta, lR ob_33, lU, lU] []))
            have c35 := (hEt.keep K32q)
            have c36 := (hAt.keep K32q nin0)
            obtain ⟨a34, T34, h34, kk34, b34, kb34, X34, e34, E34, hS34, hk34, hZ34, hown34, Ea34, Ca34, Va34, Ab34, alt34, blt34, hCR34, Li34, hne34, st34⟩ := ldcCH X32 hx hZj2 hownj2 (ow hw 0 rfl) (fun a ha => hw a (own_strAtoms a ha)) rfl hSj2 (Nat.le_trans hkj2 K32q.1) hEL (by decide +kernel) CR32.1 (vs := [(.int (110 : Int32)), (.int (117 : Int32)), (.int (109 : Int32)), (.int (98 : Int32)), (.int (101 : Int32)), (.int (114 : Int32)), (.int (95 : Int32)), (.int (111 : Int32)), (.int (102 : Int32)), (.int (95 : Int32)), (.int (116 : Int32)), (.int (97 : Int32)), (.int (103 : Int32)), (.int (115 : Int32))]) (z := (14 : Int32)) (by decide +kernel) (by decide) rfl (g := (mkF m 172 #[.val (.int p0), .val (.int p1), .val (.int p2), .val (.int p3), .val (.int p4), .val (.int (p0 &&& (3 : Int32))), .val (.ref jb), .val (.int (((p0.toUInt32 >>> ((2 : Int32) &&& 31).toUInt32).toInt32) &&& (7 : Int32))), .val (.int (p1 &&& (3 : Int32))), .val (.ref jarr), .val (.ref ta), .val (.ref ob_33), .unset, .unset] [])) rfl (hb hby at_172) (n := 56) (by decide +kernel) (by decide) (by decide) (by decide)
            refine Go.st st34 ?_
            have K34 : Keep h0 h34 [] := K32.ext E34
            have O34 := O32.ext E34
            have CR34 := CR32.trans hCR34
            have c37 := (q32_1.ext E34)
            have ne38 := hne34 ob_33 (Safe.exa hZ34.alike c37 (by decide) (by decide))
            show Go p.tables e below P (T34.setTop (mkF m 174 #[lI p0, lI p1, lI p2, lI p3, lI p4, lI (p0 &&& (3 : Int32)), lR jb, lI (((p0.toUInt32 >>> ((2 : Int32) &&& 31).toUInt32).toInt32) &&& (7 : Int32)), lI (p1 &&& (3 : Int32)), lR jarr, lR ta, lR ob_33, lU, lU] [(.ref a34)]))
            refine Go.st (fun _ => XS.aload X34.here hx rfl (hb hby at_174) rfl rfl) ?_
            show Go p.tables e below P (T34.setTop (mkF m 176 #[lI p0, lI p1, lI p2, lI p3, lI p4, lI (p0 &&& (3 : Int32)), lR jb, lI (((p0.toUInt32 >>> ((2 : Int32) &&& 31).toUInt32).toInt32) &&& (7 : Int32)), lI (p1 &&& (3 : Int32)), lR jarr, lR ta, lR ob_33, lU, lU] [(.ref ta), (.ref a34)]))
            have hcd39 : StrChars.Road.CodA ([(110 : Int32), (117 : Int32), (109 : Int32), (98 : Int32), (101 : Int32), (114 : Int32), (95 : Int32), (111 : Int32), (102 : Int32), (95 : Int32), (116 : Int32), (97 : Int32), (103 : Int32), (115 : Int32)] : List Int32) 0 (14 : Int32) [(.int (110 : Int32)), (.int (117 : Int32)), (.int (109 : Int32)), (.int (98 : Int32)), (.int (101 : Int32)), (.int (114 : Int32)), (.int (95 : Int32)), (.int (111 : Int32)), (.int (102 : Int32)), (.int (95 : Int32)), (.int (116 : Int32)), (.int (97 : Int32)), (.int (103 : Int32)), (.int (115 : Int32))] := StrChars.Road.codOf (n := 14) rfl (fun c hc => ((show ∀ c ∈ ([(110 : Int32), (117 : Int32), (109 : Int32), (98 : Int32), (101 : Int32), (114 : Int32), (95 : Int32), (111 : Int32), (102 : Int32), (95 : Int32), (116 : Int32), (97 : Int32), (103 : Int32), (115 : Int32)] : List Int32), ¬ c < 0 ∧ ¬ (255 : Int32) < c by decide) c hc).2)
            have c40 := (c35.ext E34)
            have c41 := ((hVt.keep K32q nin0).ext E34)
            have c42 := ((hCt.keep K32q nin0).ext E34)
            have c43 := (c36.ext E34)
            have hcd39b : StrChars.Road.CodA tcs 0 (Int32.ofNat tcs.length) ((tcs.map StrChars.lo8).map Value.int) := StrChars.Road.codOf (n := tcs.length) rfl (fun c hc => (hpct c hc).2)
            obtain ⟨cq39, kq39, q39a, q39b, q39c⟩ := isOf hZ34 e34 Ea34
            obtain ⟨_, _, ⟨T39, L39, k39, n39⟩, -, X39, ⟨Lc39, hQ39, l39, y39, z39⟩, st39⟩ := X34.virtualBack hx (y := (⟨"java/lang/String", "equals", "(Ljava/lang/Object;)Z"⟩ : MethodName)) (z := (⟨"java/lang/String", "equals", "(Ljava/lang/Object;)Z"⟩ : MethodName)) hown34 (mvT hZ34 (ow hw 84 rfl)) (mvT hZ34 (ow hw 75 rfl)) (notFace_of_selects (args := #[]) (mvT hZ34 (ow hw 77 rfl))) (mvT hZ34 (ow hw 77 rfl)) (mvT hZ34 (ow hw 76 rfl)) (by decide) (StrChars.Road.eqW (W := 0) hZ34 (fun d hd => hw d (own_wEq d hd)) (kI := 4) (ow hw 2 rfl) Ea34 Va34 Ca34 Ab34 hcd39 (own_up _ (show ∀ c ∈ ([(110 : Int32), (117 : Int32), (109 : Int32), (98 : Int32), (101 : Int32), (114 : Int32), (95 : Int32), (111 : Int32), (102 : Int32), (95 : Int32), (116 : Int32), (97 : Int32), (103 : Int32), (115 : Int32)] : List Int32), ¬ c < 0 ∧ ¬ (255 : Int32) < c by decide)) (Nat.le_of_ble_eq_true rfl) c40 c41 c42 c43 hcd39b (own_up _ hpct) hlet (S_CS.ext O34.2) nz_CS (by decide) (by decide)) q39a q39c (g := (mkF m 176 #[.val (.int p0), .val (.int p1), .val (.int p2), .val (.int p3), .val (.int p4), .val (.int (p0 &&& (3 : Int32))), .val (.ref jb), .val (.int (((p0.toUInt32 >>> ((2 : Int32) &&& 31).toUInt32).toInt32) &&& (7 : Int32))), .val (.int (p1 &&& (3 : Int32))), .val (.ref jarr), .val (.ref ta), .val (.ref ob_33), .unset, .unset] [(.ref ta), (.ref a34)])) rfl (by rw [hml]; rfl) (Steps.refl _) (argsL := [(.ref ta)]) (rest := []) (lenOf own_pd4 rfl) rfl (by show 2 * 0 + _ ≤ _; exact Nat.le_of_eq rfl) (hb hby at_176) (fun _ _ => ⟨rfl, e34, (by decide : 13 + 0 ≤ _), (by decide : 157 + 0 ≤ _)⟩)
            dsimp only [Pt.U, Pt.locs, Pt.cells, Pt.slots] at X39 l39 y39 z39 st39 hQ39
            subst y39 z39
            refine Go.tr st39 ?_
            obtain ⟨hor39, rfl, e39⟩ := hQ39
            have N39 : Fr n0 L39 := by rw [l39]; exact Fr.app N32 (Fr.nil n0)
            obtain ⟨rfl, heq39⟩ := hor39.elim (fun q => absurd q.2 hcn) id
            show Go p.tables e below P (T39.setTop (mkF m 179 #[lI p0, lI p1, lI p2, lI p3, lI p4, lI (p0 &&& (3 : Int32)), lR jb, lI (((p0.toUInt32 >>> ((2 : Int32) &&& 31).toUInt32).toInt32) &&& (7 : Int32)), lI (p1 &&& (3 : Int32)), lR jarr, lR ta, lR ob_33, lU, lU] [(.int (0 : Int32))]))
            refine Go.st (fun _ => XS.istore X39.here hx rfl (hb hby at_179) rfl (l' := #[.val (.int p0), .val (.int p1), .val (.int p2), .val (.int p3), .val (.int p4), .val (.int (p0 &&& (3 : Int32))), .val (.ref jb), .val (.int (((p0.toUInt32 >>> ((2 : Int32) &&& 31).toUInt32).toInt32) &&& (7 : Int32))), .val (.int (p1 &&& (3 : Int32))), .val (.ref jarr), .val (.ref ta), .val (.ref ob_33), .val (.int (0 : Int32)), .unset]) rfl) ?_
            show Go p.tables e below P (T39.setTop (mkF m 181 #[lI p0, lI p1, lI p2, lI p3, lI p4, lI (p0 &&& (3 : Int32)), lR jb, lI (((p0.toUInt32 >>> ((2 : Int32) &&& 31).toUInt32).toInt32) &&& (7 : Int32)), lI (p1 &&& (3 : Int32)), lR jarr, lR ta, lR ob_33, lI (0 : Int32), lU] []))
            obtain ⟨a44, T44, h44, kk44, b44, kb44, X44, e44, E44, hS44, hk44, hZ44, hown44, Ea44, Ca44, Va44, Ab44, alt44, blt44, hCR44, Li44, hne44, st44⟩ := ldcCH X39 hx hZ34 hown34 (ow hw 85 rfl) (fun a ha => hw a (own_strAtoms a ha)) e39 hS34 hk34 hEL (by decide +kernel) CR34.1 (vs := [(.int (99 : Int32)), (.int (114 : Int32)), (.int (101 : Int32)), (.int (97 : Int32)), (.int (116 : Int32)), (.int (105 : Int32)), (.int (111 : Int32)), (.int (110 : Int32)), (.int (95 : Int32)), (.int (100 : Int32)), (.int (97 : Int32)), (.int (116 : Int32)), (.int (101 : Int32))]) (z := (13 : Int32)) (by decide +kernel) (by decide) rfl (g := (mkF m 181 #[.val (.int p0), .val (.int p1), .val (.int p2), .val (.int p3), .val (.int p4), .val (.int (p0 &&& (3 : Int32))), .val (.ref jb), .val (.int (((p0.toUInt32 >>> ((2 : Int32) &&& 31).toUInt32).toInt32) &&& (7 : Int32))), .val (.int (p1 &&& (3 : Int32))), .val (.ref jarr), .val (.ref ta), .val (.ref ob_33), .val (.int (0 : Int32)), .unset] [])) rfl (hb hby at_181) (n := 52) (by decide +kernel) (by decide) (by decide) (by decide)
            refine Go.st st44 ?_
            have K44 : Keep h0 h44 [] := K34.ext E44
            have O44 := O34.ext E44
            have CR44 := CR34.trans hCR44
            have c45 := (c37.ext E44)
            have ne46 := hne44 ob_33 (Safe.exa hZ44.alike c45 (by decide) (by decide))
            show Go p.tables e below P (T44.setTop (mkF m 183 #[lI p0, lI p1, lI p2, lI p3, lI p4, lI (p0 &&& (3 : Int32)), lR jb, lI (((p0.toUInt32 >>> ((2 : Int32) &&& 31).toUInt32).toInt32) &&& (7 : Int32)), lI (p1 &&& (3 : Int32)), lR jarr, lR ta, lR ob_33, lI (0 : Int32), lU] [(.ref a44)]))
            refine Go.st (fun _ => XS.aload X44.here hx rfl (hb hby at_183) rfl rfl) ?_
            show Go p.tables e below P (T44.setTop (mkF m 185 #[lI p0, lI p1, lI p2, lI p3, lI p4, lI (p0 &&& (3 : Int32)), lR jb, lI (((p0.toUInt32 >>> ((2 : Int32) &&& 31).toUInt32).toInt32) &&& (7 : Int32)), lI (p1 &&& (3 : Int32)), lR jarr, lR ta, lR ob_33, lI (0 : Int32), lU] [(.ref ta), (.ref a44)]))
            have hcd47 : StrChars.Road.CodA ([(99 : Int32), (114 : Int32), (101 : Int32), (97 : Int32), (116 : Int32), (105 : Int32), (111 : Int32), (110 : Int32), (95 : Int32), (100 : Int32), (97 : Int32), (116 : Int32), (101 : Int32)] : List Int32) 0 (13 : Int32) [(.int (99 : Int32)), (.int (114 : Int32)), (.int (101 : Int32)), (.int (97 : Int32)), (.int (116 : Int32)), (.int (105 : Int32)), (.int (111 : Int32)), (.int (110 : Int32)), (.int (95 : Int32)), (.int (100 : Int32)), (.int (97 : Int32)), (.int (116 : Int32)), (.int (101 : Int32))] := StrChars.Road.codOf (n := 13) rfl (fun c hc => ((show ∀ c ∈ ([(99 : Int32), (114 : Int32), (101 : Int32), (97 : Int32), (116 : Int32), (105 : Int32), (111 : Int32), (110 : Int32), (95 : Int32), (100 : Int32), (97 : Int32), (116 : Int32), (101 : Int32)] : List Int32), ¬ c < 0 ∧ ¬ (255 : Int32) < c by decide) c hc).2)
            have c48 := (c40.ext E44)
            have c49 := (c41.ext E44)
            have c50 := (c42.ext E44)
            have c51 := (c43.ext E44)
            have hcd47b : StrChars.Road.CodA tcs 0 (Int32.ofNat tcs.length) ((tcs.map StrChars.lo8).map Value.int) := StrChars.Road.codOf (n := tcs.length) rfl (fun c hc => (hpct c hc).2)
            obtain ⟨cq47, kq47, q47a, q47b, q47c⟩ := isOf hZ44 e44 Ea44
            obtain ⟨_, _, ⟨T47, L47, k47, n47⟩, -, X47, ⟨Lc47, hQ47, l47, y47, z47⟩, st47⟩ := X44.virtualBack hx (y := (⟨"java/lang/String", "equals", "(Ljava/lang/Object;)Z"⟩ : MethodName)) (z := (⟨"java/lang/String", "equals", "(Ljava/lang/Object;)Z"⟩ : MethodName)) hown44 (mvT hZ44 (ow hw 84 rfl)) (mvT hZ44 (ow hw 75 rfl)) (notFace_of_selects (args := #[]) (mvT hZ44 (ow hw 77 rfl))) (mvT hZ44 (ow hw 77 rfl)) (mvT hZ44 (ow hw 76 rfl)) (by decide) (StrChars.Road.eqW (W := 0) hZ44 (fun d hd => hw d (own_wEq d hd)) (kI := 4) (ow hw 2 rfl) Ea44 Va44 Ca44 Ab44 hcd47 (own_up _ (show ∀ c ∈ ([(99 : Int32), (114 : Int32), (101 : Int32), (97 : Int32), (116 : Int32), (105 : Int32), (111 : Int32), (110 : Int32), (95 : Int32), (100 : Int32), (97 : Int32), (116 : Int32), (101 : Int32)] : List Int32), ¬ c < 0 ∧ ¬ (255 : Int32) < c by decide)) (Nat.le_of_ble_eq_true rfl) c48 c49 c50 c51 hcd47b (own_up _ hpct) hlet (S_CS.ext O44.2) nz_CS (by decide) (by decide)) q47a q47c (g := (mkF m 185 #[.val (.int p0), .val (.int p1), .val (.int p2), .val (.int p3), .val (.int p4), .val (.int (p0 &&& (3 : Int32))), .val (.ref jb), .val (.int (((p0.toUInt32 >>> ((2 : Int32) &&& 31).toUInt32).toInt32) &&& (7 : Int32))), .val (.int (p1 &&& (3 : Int32))), .val (.ref jarr), .val (.ref ta), .val (.ref ob_33), .val (.int (0 : Int32)), .unset] [(.ref ta), (.ref a44)])) rfl (by rw [hml]; rfl) (Steps.refl _) (argsL := [(.ref ta)]) (rest := []) (lenOf own_pd4 rfl) rfl (by show 2 * 0 + _ ≤ _; exact Nat.le_of_eq rfl) (hb hby at_185) (fun _ _ => ⟨rfl, e44, (by decide : 15 + 0 ≤ _), (by decide : 213 + 0 ≤ _)⟩)
            dsimp only [Pt.U, Pt.locs, Pt.cells, Pt.slots] at X47 l47 y47 z47 st47 hQ47
            subst y47 z47
            refine Go.tr st47 ?_
            obtain ⟨hor47, rfl, e47⟩ := hQ47
            have N47 : Fr n0 L47 := by rw [l47]; exact Fr.app N39 (Fr.nil n0)
            obtain ⟨rfl, heq47⟩ : _ ∧ ([(99 : Int32), (114 : Int32), (101 : Int32), (97 : Int32), (116 : Int32), (105 : Int32), (111 : Int32), (110 : Int32), (95 : Int32), (100 : Int32), (97 : Int32), (116 : Int32), (101 : Int32)] : List Int32) = tcs := hor47.elim id (fun q => absurd hcc q.2)
            show Go p.tables e below P (T47.setTop (mkF m 188 #[lI p0, lI p1, lI p2, lI p3, lI p4, lI (p0 &&& (3 : Int32)), lR jb, lI (((p0.toUInt32 >>> ((2 : Int32) &&& 31).toUInt32).toInt32) &&& (7 : Int32)), lI (p1 &&& (3 : Int32)), lR jarr, lR ta, lR ob_33, lI (0 : Int32), lU] [(.int (1 : Int32))]))
            refine Go.st (fun _ => XS.istore X47.here hx rfl (hb hby at_188) rfl (l' := #[.val (.int p0), .val (.int p1), .val (.int p2), .val (.int p3), .val (.int p4), .val (.int (p0 &&& (3 : Int32))), .val (.ref jb), .val (.int (((p0.toUInt32 >>> ((2 : Int32) &&& 31).toUInt32).toInt32) &&& (7 : Int32))), .val (.int (p1 &&& (3 : Int32))), .val (.ref jarr), .val (.ref ta), .val (.ref ob_33), .val (.int (0 : Int32)), .val (.int (1 : Int32))]) rfl) ?_
            show Go p.tables e below P (T47.setTop (mkF m 190 #[lI p0, lI p1, lI p2, lI p3, lI p4, lI (p0 &&& (3 : Int32)), lR jb, lI (((p0.toUInt32 >>> ((2 : Int32) &&& 31).toUInt32).toInt32) &&& (7 : Int32)), lI (p1 &&& (3 : Int32)), lR jarr, lR ta, lR ob_33, lI (0 : Int32), lI (1 : Int32)] []))
            refine Go.st (fun _ => XS.iload X47.here hx rfl (hb hby at_190) rfl) ?_
            show Go p.tables e below P (T47.setTop (mkF m 192 #[lI p0, lI p1, lI p2, lI p3, lI p4, lI (p0 &&& (3 : Int32)), lR jb, lI (((p0.toUInt32 >>> ((2 : Int32) &&& 31).toUInt32).toInt32) &&& (7 : Int32)), lI (p1 &&& (3 : Int32)), lR jarr, lR ta, lR ob_33, lI (0 : Int32), lI (1 : Int32)] [(.int (0 : Int32))]))
            refine Go.st (fun _ => XS.ifYes X47.here hx rfl (pc0 := 192) (pc' := 213) rfl (hb hby at_192) rfl ((if0 _ _).trans (teq (by decide)).1) (by decide) (by decide)) ?_
            show Go p.tables e below P (T47.setTop (mkF m 213 #[lI p0, lI p1, lI p2, lI p3, lI p4, lI (p0 &&& (3 : Int32)), lR jb, lI (((p0.toUInt32 >>> ((2 : Int32) &&& 31).toUInt32).toInt32) &&& (7 : Int32)), lI (p1 &&& (3 : Int32)), lR jarr, lR ta, lR ob_33, lI (0 : Int32), lI (1 : Int32)] []))
            refine Go.st (fun _ => XS.iload X47.here hx rfl (hb hby at_213) rfl) ?_
            show Go p.tables e below P (T47.setTop (mkF m 215 #[lI p0, lI p1, lI p2, lI p3, lI p4, lI (p0 &&& (3 : Int32)), lR jb, lI (((p0.toUInt32 >>> ((2 : Int32) &&& 31).toUInt32).toInt32) &&& (7 : Int32)), lI (p1 &&& (3 : Int32)), lR jarr, lR ta, lR ob_33, lI (0 : Int32), lI (1 : Int32)] [(.int (1 : Int32))]))
            refine Go.st (fun _ => XS.ifNo X47.here hx rfl (hb hby at_215) rfl ((if0 _ _).trans (feq (by decide)).1)) ?_
            show Go p.tables e below P (T47.setTop (mkF m 218 #[lI p0, lI p1, lI p2, lI p3, lI p4, lI (p0 &&& (3 : Int32)), lR jb, lI (((p0.toUInt32 >>> ((2 : Int32) &&& 31).toUInt32).toInt32) &&& (7 : Int32)), lI (p1 &&& (3 : Int32)), lR jarr, lR ta, lR ob_33, lI (0 : Int32), lI (1 : Int32)] []))
            refine Go.st (fun _ => XS.aload X47.here hx rfl (hb hby at_218) rfl rfl) ?_
            show Go p.tables e below P (T47.setTop (mkF m 220 #[lI p0, lI p1, lI p2, lI p3, lI p4, lI (p0 &&& (3 : Int32)), lR jb, lI (((p0.toUInt32 >>> ((2 : Int32) &&& 31).toUInt32).toInt32) &&& (7 : Int32)), lI (p1 &&& (3 : Int32)), lR jarr, lR ta, lR ob_33, lI (0 : Int32), lI (1 : Int32)] [(.ref ob_33)]))
            refine Go.st (fun _ => XS.aconstNull X47.here hx rfl (hb hby at_220)) ?_
            show Go p.tables e below P (T47.setTop (mkF m 221 #[lI p0, lI p1, lI p2, lI p3, lI p4, lI (p0 &&& (3 : Int32)), lR jb, lI (((p0.toUInt32 >>> ((2 : Int32) &&& 31).toUInt32).toInt32) &&& (7 : Int32)), lI (p1 &&& (3 : Int32)), lR jarr, lR ta, lR ob_33, lI (0 : Int32), lI (1 : Int32)] [.null, (.ref ob_33)]))
            have c53 := ((q32_2.ext E34).ext E44)
            obtain ⟨cq52, kq52, q52a, q52b, q52c⟩ := isOf hZ44 e47 c45
            obtain ⟨_, _, ⟨T52, L52, k52, n52⟩, -, X52, ⟨Lc52, hQ52, l52, y52, z52⟩, st52⟩ := X47.virtualBack hx (y := (⟨"java/util/Optional", "orElse", "(Ljava/lang/Object;)Ljava/lang/Object;"⟩ : MethodName)) (z := (⟨"java/util/Optional", "orElse", "(Ljava/lang/Object;)Ljava/lang/Object;"⟩ : MethodName)) hown44 (mvT hZ44 (ow hw 135 rfl)) (mvT hZ44 (ow hw 136 rfl)) (notFace_of_selects (args := #[]) (mvT hZ44 (ow hw 138 rfl))) (mvT hZ44 (ow hw 138 rfl)) (mvT hZ44 (ow hw 137 rfl)) (by decide) (backOf (W := 0) (rm_ore l Z a0 hw [] w_N S_N X_N w_K S_K X_K w_V k_V S_V X_V V_V w_NS F_NS X_NS I_NS_coder w_NB k_NB F_NB V_NB w_KS F_KS X_KS I_KS_coder w_KB k_KB F_KB V_KB w_OE S_OE X_OE I_OE_value g_CS S_CS nz_CS g_SF S_SF r_SF ob_33 w_K h44 n0 O44 c53) hZ44 (ow hw 139 rfl) (ow hw 81 rfl) (by decide) (by decide)) q52a q52c (g := (mkF m 221 #[.val (.int p0), .val (.int p1), .val (.int p2), .val (.int p3), .val (.int p4), .val (.int (p0 &&& (3 : Int32))), .val (.ref jb), .val (.int (((p0.toUInt32 >>> ((2 : Int32) &&& 31).toUInt32).toInt32) &&& (7 : Int32))), .val (.int (p1 &&& (3 : Int32))), .val (.ref jarr), .val (.ref ta), .val (.ref ob_33), .val (.int (0 : Int32)), .val (.int (1 : Int32))] [.null, (.ref ob_33)])) rfl (by rw [hml]; rfl) (Steps.refl _) (argsL := [.null]) (rest := []) (lenOf own_pd1 rfl) rfl (by show 2 * 0 + _ ≤ _; exact Nat.le_of_eq rfl) (hb hby at_221) (fun _ _ => ⟨rfl, e47, (by decide : 15 + 0 ≤ _), (by decide : 213 + 0 ≤ _)⟩)
            dsimp only [Pt.U, Pt.locs, Pt.cells, Pt.slots] at X52 l52 y52 z52 st52 hQ52
            subst y52 z52
            refine Go.tr st52 ?_
            obtain ⟨rfl, N52q, e52⟩ := hQ52
            have N52 : Fr n0 L52 := by rw [l52]; exact Fr.app N47 N52q
            show Go p.tables e below P (T52.setTop (mkF m 224 #[lI p0, lI p1, lI p2, lI p3, lI p4, lI (p0 &&& (3 : Int32)), lR jb, lI (((p0.toUInt32 >>> ((2 : Int32) &&& 31).toUInt32).toInt32) &&& (7 : Int32)), lI (p1 &&& (3 : Int32)), lR jarr, lR ta, lR ob_33, lI (0 : Int32), lI (1 : Int32)] [(.ref w_K)]))
            obtain ⟨T54, X54, e54, st54⟩ := getS2 X52 hx hZ44 hown44 (host := "") (Or.inl (ow hw 141 rfl)) Via.refl e52 (S_K.ext O44.2) (g := (mkF m 224 #[.val (.int p0), .val (.int p1), .val (.int p2), .val (.int p3), .val (.int p4), .val (.int (p0 &&& (3 : Int32))), .val (.ref jb), .val (.int (((p0.toUInt32 >>> ((2 : Int32) &&& 31).toUInt32).toInt32) &&& (7 : Int32))), .val (.int (p1 &&& (3 : Int32))), .val (.ref jarr), .val (.ref ta), .val (.ref ob_33), .val (.int (0 : Int32)), .val (.int (1 : Int32))] [(.ref w_K)])) rfl (hb hby at_224)
            refine Go.st st54 ?_
            show Go p.tables e below P (T54.setTop (mkF m 227 #[lI p0, lI p1, lI p2, lI p3, lI p4, lI (p0 &&& (3 : Int32)), lR jb, lI (((p0.toUInt32 >>> ((2 : Int32) &&& 31).toUInt32).toInt32) &&& (7 : Int32)), lI (p1 &&& (3 : Int32)), lR jarr, lR ta, lR ob_33, lI (0 : Int32), lI (1 : Int32)] [(.ref w_K), (.ref w_K)]))
            refine Go.st (fun _ => Jvm.RoadKit.acmp (g := (mkF m 227 #[.val (.int p0), .val (.int p1), .val (.int p2), .val (.int p3), .val (.int p4), .val (.int (p0 &&& (3 : Int32))), .val (.ref jb), .val (.int (((p0.toUInt32 >>> ((2 : Int32) &&& 31).toUInt32).toInt32) &&& (7 : Int32))), .val (.int (p1 &&& (3 : Int32))), .val (.ref jarr), .val (.ref ta), .val (.ref ob_33), .val (.int (0 : Int32)), .val (.int (1 : Int32))] [(.ref w_K), (.ref w_K)])) X54 hx rfl rfl rfl (pc0 := 227) (pc' := 230) (same := true) rfl (hb hby at_227) rfl (decide_eq_true rfl) (by decide) (by decide)) ?_
            show Go p.tables e below P (T54.setTop (mkF m 230 #[lI p0, lI p1, lI p2, lI p3, lI p4, lI (p0 &&& (3 : Int32)), lR jb, lI (((p0.toUInt32 >>> ((2 : Int32) &&& 31).toUInt32).toInt32) &&& (7 : Int32)), lI (p1 &&& (3 : Int32)), lR jarr, lR ta, lR ob_33, lI (0 : Int32), lI (1 : Int32)] []))
            refine Go.st (fun _ => XS.iconst X54.here hx rfl (hb hby at_230)) ?_
            show Go p.tables e below P (T54.setTop (mkF m 231 #[lI p0, lI p1, lI p2, lI p3, lI p4, lI (p0 &&& (3 : Int32)), lR jb, lI (((p0.toUInt32 >>> ((2 : Int32) &&& 31).toUInt32).toInt32) &&& (7 : Int32)), lI (p1 &&& (3 : Int32)), lR jarr, lR ta, lR ob_33, lI (0 : Int32), lI (1 : Int32)] [(.int (1 : Int32))]))
            refine Go.st (fun _ => XS.goto X54.here hx rfl (pc0 := 231) (pc' := 235) rfl (hb hby at_231) (by decide) (by decide)) ?_
            show Go p.tables e below P (T54.setTop (mkF m 235 #[lI p0, lI p1, lI p2, lI p3, lI p4, lI (p0 &&& (3 : Int32)), lR jb, lI (((p0.toUInt32 >>> ((2 : Int32) &&& 31).toUInt32).toInt32) &&& (7 : Int32)), lI (p1 &&& (3 : Int32)), lR jarr, lR ta, lR ob_33, lI (0 : Int32), lI (1 : Int32)] [(.int (1 : Int32))]))
            obtain ⟨fs, hr, hrun, hended, -, hW, hpair, hsame⟩ := X54.leaveW hS44 (by rw [e54]; exact hk44) (v := some (.int (1 : Int32))) (fun h => by rw [Bd.returns] at h; cases h)
            have hCRe := CR44.trans (CHv.at X54 hZ44 hEL CR44.1)
            refine ⟨_, ?_, hPend _ _ hrun hended ⟨_, _, rfl, ?_, ?_, ⟨_, rfl⟩, hW, hpair, hsame.mono (by decide) (by decide)⟩⟩
            · exact retN X54 hx (t := .boolean) Bd.returns (by simp) (hb hby at_235) hr
            · show Q_rm_law Z _ _ _ _ _ _ _ _ _ _ _ _ _ _ _ _ _ _ h0 n0 _ T54.heap _
              rw [e54]
              exact ⟨rfl, N52, K44⟩
            · show CHr Z consts_1 s.vm s.heap T54.vm T54.heap
              rw [hh, e54]
              exact hCRe
          · skip
            show Go p.tables e below P (Tj2.setTop (mkF m 165 #[lI p0, lI p1, lI p2, lI p3, lI p4, lI (p0 &&& (3 : Int32)), lR jb, lI (((p0.toUInt32 >>> ((2 : Int32) &&& 31).toUInt32).toInt32) &&& (7 : Int32)), lI (p1 &&& (3 : Int32)), lR jarr, lR ta, lU, lU, lU] []))
            refine Go.st (fun _ => XS.aload Xj2.here hx rfl (hb hby at_165) rfl rfl) ?_
            show Go p.tables e below P (Tj2.setTop (mkF m 167 #[lI p0, lI p1, lI p2, lI p3, lI p4, lI (p0 &&& (3 : Int32)), lR jb, lI (((p0.toUInt32 >>> ((2 : Int32) &&& 31).toUInt32).toInt32) &&& (7 : Int32)), lI (p1 &&& (3 : Int32)), lR jarr, lR ta, lU, lU, lU] [(.ref ta)]))
            obtain ⟨_, _, ⟨T55, L55, k55, n55⟩, -, X55, ⟨Lc55, hQ55, l55, y55, z55⟩, st55⟩ := Jvm.LawKit.callS Xj2 hx (y := (⟨"com/example/vacuum/vacuum/model/PrunePolicy$Method", "ofWireName", "(Ljava/lang/String;)Ljava/util/Optional;"⟩ : MethodName)) hownj2 (mvT hZj2 (ow hw 51 rfl)) (mvT hZj2 (ow hw 52 rfl)) (mvT hZj2 (ow hw 53 rfl)) (mvT hZj2 (ow hw 54 rfl)) (by decide) (backOf (W := 0) (rm_owo l Z a0 hw [] w_N S_N X_N w_K S_K X_K w_V k_V S_V X_V V_V w_NS F_NS X_NS I_NS_coder w_NB k_NB F_NB V_NB w_KS F_KS X_KS I_KS_coder w_KB k_KB F_KB V_KB w_OE S_OE X_OE I_OE_value g_CS S_CS nz_CS g_SF S_SF r_SF ta tcs tb tk hj2 n0 Oj2 hEt hCt hVt hAt hpct hlet hcn hcc) hZj2 (ow hw 54 rfl) (ow hw 53 rfl) (by decide) (by decide)) (g := (mkF m 167 #[.val (.int p0), .val (.int p1), .val (.int p2), .val (.int p3), .val (.int p4), .val (.int (p0 &&& (3 : Int32))), .val (.ref jb), .val (.int (((p0.toUInt32 >>> ((2 : Int32) &&& 31).toUInt32).toInt32) &&& (7 : Int32))), .val (.int (p1 &&& (3 : Int32))), .val (.ref jarr), .val (.ref ta), .unset, .unset, .unset] [(.ref ta)])) rfl (by rw [hml]; rfl) (argsL := [(.ref ta)]) (rest := []) (lenOf own_pd10 rfl) rfl (by show 2 * 0 + _ ≤ _; exact Nat.le_of_eq rfl) (hb hby at_167) (fun _ _ => ⟨rfl, ej2, (by decide : 9 + 1 ≤ _), (by decide : 94 + 2 ≤ _)⟩)
            dsimp only [Pt.U, Pt.locs, Pt.cells, Pt.slots] at X55 l55 y55 z55 st55 hQ55
            subst y55 z55
            refine Go.st st55 ?_
            obtain ⟨rfl, N55q, K55q⟩ := hQ55
            have N55 : Fr n0 L55 := by rw [l55]; exact Fr.app Nj2 N55q
            have O55 := Oj2.keep K55q all0
            have K55 : Keep h0 T55.heap [] := Kj2.trans K55q all0
            have CR55 := CRj2.trans (CHr.keep K55q sf0 CRj2.1)
            show Go p.tables e below P (T55.setTop (mkF m 170 #[lI p0, lI p1, lI p2, lI p3, lI p4, lI (p0 &&& (3 : Int32)), lR jb, lI (((p0.toUInt32 >>> ((2 : Int32) &&& 31).toUInt32).toInt32) &&& (7 : Int32)), lI (p1 &&& (3 : Int32)), lR jarr, lR ta, lU, lU, lU] [(.ref w_OE)]))
            refine Go.st (fun _ => XS.astore X55.here hx rfl (hb hby at_170) rfl rfl (l' := #[.val (.int p0), .val (.int p1), .val (.int p2), .val (.int p3), .val (.int p4), .val (.int (p0 &&& (3 : Int32))), .val (.ref jb), .val (.int (((p0.toUInt32 >>> ((2 : Int32) &&& 31).toUInt32).toInt32) &&& (7 : Int32))), .val (.int (p1 &&& (3 : Int32))), .val (.ref jarr), .val (.ref ta), .val (.ref w_OE), .unset, .unset]) rfl) ?_
            show Go p.tables e below P (T55.setTop (mkF m 172 #[lI p0, lI p1, lI p2, lI p3, lI p4, lI (p0 &&& (3 : Int32)), lR jb, lI (((p0.toUInt32 >>> ((2 : Int32) &&& 31).toUInt32).toInt32) &&& (7 : Int32)), lI (p1 &&& (3 : Int32)), lR jarr, lR ta, lR w_OE, lU, lU] []))
            have c57 := (hEt.keep K55q)
            have c58 := (hAt.keep K55q nin0)
            obtain ⟨a56, T56, h56, kk56, b56, kb56, X56, e56, E56, hS56, hk56, hZ56, hown56, Ea56, Ca56, Va56, Ab56, alt56, blt56, hCR56, Li56, hne56, st56⟩ := ldcCH X55 hx hZj2 hownj2 (ow hw 0 rfl) (fun a ha => hw a (own_strAtoms a ha)) rfl hSj2 (Nat.le_trans hkj2 K55q.1) hEL (by decide +kernel) CR55.1 (vs := [(.int (110 : Int32)), (.int (117 : Int32)), (.int (109 : Int32)), (.int (98 : Int32)), (.int (101 : Int32)), (.int (114 : Int32)), (.int (95 : Int32)), (.int (111 : Int32)), (.int (102 : Int32)), (.int (95 : Int32)), (.int (116 : Int32)), (.int (97 : Int32)), (.int (103 : Int32)), (.int (115 : Int32))]) (z := (14 : Int32)) (by decide +kernel) (by decide) rfl (g := (mkF m 172 #[.val (.int p0), .val (.int p1), .val (.int p2), .val (.int p3), .val (.int p4), .val (.int (p0 &&& (3 : Int32))), .val (.ref jb), .val (.int (((p0.toUInt32 >>> ((2 : Int32) &&& 31).toUInt32).toInt32) &&& (7 : Int32))), .val (.int (p1 &&& (3 : Int32))), .val (.ref jarr), .val (.ref ta), .val (.ref w_OE), .unset, .unset] [])) rfl (hb hby at_172) (n := 56) (by decide +kernel) (by decide) (by decide) (by decide)
            refine Go.st st56 ?_
            have K56 : Keep h0 h56 [] := K55.ext E56
            have O56 := O55.ext E56
            have CR56 := CR55.trans hCR56
            show Go p.tables e below P (T56.setTop (mkF m 174 #[lI p0, lI p1, lI p2, lI p3, lI p4, lI (p0 &&& (3 : Int32)), lR jb, lI (((p0.toUInt32 >>> ((2 : Int32) &&& 31).toUInt32).toInt32) &&& (7 : Int32)), lI (p1 &&& (3 : Int32)), lR jarr, lR ta, lR w_OE, lU, lU] [(.ref a56)]))
            refine Go.st (fun _ => XS.aload X56.here hx rfl (hb hby at_174) rfl rfl) ?_
            show Go p.tables e below P (T56.setTop (mkF m 176 #[lI p0, lI p1, lI p2, lI p3, lI p4, lI (p0 &&& (3 : Int32)), lR jb, lI (((p0.toUInt32 >>> ((2 : Int32) &&& 31).toUInt32).toInt32) &&& (7 : Int32)), lI (p1 &&& (3 : Int32)), lR jarr, lR ta, lR w_OE, lU, lU] [(.ref ta), (.ref a56)]))
            have hcd59 : StrChars.Road.CodA ([(110 : Int32), (117 : Int32), (109 : Int32), (98 : Int32), (101 : Int32), (114 : Int32), (95 : Int32), (111 : Int32), (102 : Int32), (95 : Int32), (116 : Int32), (97 : Int32), (103 : Int32), (115 : Int32)] : List Int32) 0 (14 : Int32) [(.int (110 : Int32)), (.int (117 : Int32)), (.int (109 : Int32)), (.int (98 : Int32)), (.int (101 : Int32)), (.int (114 : Int32)), (.int (95 : Int32)), (.int (111 : Int32)), (.int (102 : Int32)), (.int (95 : Int32)), (.int (116 : Int32)), (.int (97 : Int32)), (.int (103 : Int32)), (.int (115 : Int32))] := StrChars.Road.codOf (n := 14) rfl (fun c hc => ((show ∀ c ∈ ([(110 : Int32), (117 : Int32), (109 : Int32), (98 : Int32), (101 : Int32), (114 : Int32), (95 : Int32), (111 : Int32), (102 : Int32), (95 : Int32), (116 : Int32), (97 : Int32), (103 : Int32), (115 : Int32)] : List Int32), ¬ c < 0 ∧ ¬ (255 : Int32) < c by decide) c hc).2)
            have c60 := (c57.ext E56)
            have c61 := ((hVt.keep K55q nin0).ext E56)
            have c62 := ((hCt.keep K55q nin0).ext E56)
            have c63 := (c58.ext E56)
            have hcd59b : StrChars.Road.CodA tcs 0 (Int32.ofNat tcs.length) ((tcs.map StrChars.lo8).map Value.int) := StrChars.Road.codOf (n := tcs.length) rfl (fun c hc => (hpct c hc).2)
            obtain ⟨cq59, kq59, q59a, q59b, q59c⟩ := isOf hZ56 e56 Ea56
            obtain ⟨_, _, ⟨T59, L59, k59, n59⟩, -, X59, ⟨Lc59, hQ59, l59, y59, z59⟩, st59⟩ := X56.virtualBack hx (y := (⟨"java/lang/String", "equals", "(Ljava/lang/Object;)Z"⟩ : MethodName)) (z := (⟨"java/lang/String", "equals", "(Ljava/lang/Object;)Z"⟩ : MethodName)) hown56 (mvT hZ56 (ow hw 84 rfl)) (mvT hZ56 (ow hw 75 rfl)) (notFace_of_selects (args := #[]) (mvT hZ56 (ow hw 77 rfl))) (mvT hZ56 (ow hw 77 rfl)) (mvT hZ56 (ow hw 76 rfl)) (by decide) (StrChars.Road.eqW (W := 0) hZ56 (fun d hd => hw d (own_wEq d hd)) (kI := 4) (ow hw 2 rfl) Ea56 Va56 Ca56 Ab56 hcd59 (own_up _ (show ∀ c ∈ ([(110 : Int32), (117 : Int32), (109 : Int32), (98 : Int32), (101 : Int32), (114 : Int32), (95 : Int32), (111 : Int32), (102 : Int32), (95 : Int32), (116 : Int32), (97 : Int32), (103 : Int32), (115 : Int32)] : List Int32), ¬ c < 0 ∧ ¬ (255 : Int32) < c by decide)) (Nat.le_of_ble_eq_true rfl) c60 c61 c62 c63 hcd59b (own_up _ hpct) hlet (S_CS.ext O56.2) nz_CS (by decide) (by decide)) q59a q59c (g := (mkF m 176 #[.val (.int p0), .val (.int p1), .val (.int p2), .val (.int p3), .val (.int p4), .val (.int (p0 &&& (3 : Int32))), .val (.ref jb), .val (.int (((p0.toUInt32 >>> ((2 : Int32) &&& 31).toUInt32).toInt32) &&& (7 : Int32))), .val (.int (p1 &&& (3 : Int32))), .val (.ref jarr), .val (.ref ta), .val (.ref w_OE), .unset, .unset] [(.ref ta), (.ref a56)])) rfl (by rw [hml]; rfl) (Steps.refl _) (argsL := [(.ref ta)]) (rest := []) (lenOf own_pd4 rfl) rfl (by show 2 * 0 + _ ≤ _; exact Nat.le_of_eq rfl) (hb hby at_176) (fun _ _ => ⟨rfl, e56, (by decide : 12 + 0 ≤ _), (by decide : 156 + 0 ≤ _)⟩)
            dsimp only [Pt.U, Pt.locs, Pt.cells, Pt.slots] at X59 l59 y59 z59 st59 hQ59
            subst y59 z59
            refine Go.tr st59 ?_
            obtain ⟨hor59, rfl, e59⟩ := hQ59
            have N59 : Fr n0 L59 := by rw [l59]; exact Fr.app N55 (Fr.nil n0)
            obtain ⟨rfl, heq59⟩ := hor59.elim (fun q => absurd q.2 hcn) id
            show Go p.tables e below P (T59.setTop (mkF m 179 #[lI p0, lI p1, lI p2, lI p3, lI p4, lI (p0 &&& (3 : Int32)), lR jb, lI (((p0.toUInt32 >>> ((2 : Int32) &&& 31).toUInt32).toInt32) &&& (7 : Int32)), lI (p1 &&& (3 : Int32)), lR jarr, lR ta, lR w_OE, lU, lU] [(.int (0 : Int32))]))
            refine Go.st (fun _ => XS.istore X59.here hx rfl (hb hby at_179) rfl (l' := #[.val (.int p0), .val (.int p1), .val (.int p2), .val (.int p3), .val (.int p4), .val (.int (p0 &&& (3 : Int32))), .val (.ref jb), .val (.int (((p0.toUInt32 >>> ((2 : Int32) &&& 31).toUInt32).toInt32) &&& (7 : Int32))), .val (.int (p1 &&& (3 : Int32))), .val (.ref jarr), .val (.ref ta), .val (.ref w_OE), .val (.int (0 : Int32)), .unset]) rfl) ?_
            show Go p.tables e below P (T59.setTop (mkF m 181 #[lI p0, lI p1, lI p2, lI p3, lI p4, lI (p0 &&& (3 : Int32)), lR jb, lI (((p0.toUInt32 >>> ((2 : Int32) &&& 31).toUInt32).toInt32) &&& (7 : Int32)), lI (p1 &&& (3 : Int32)), lR jarr, lR ta, lR w_OE, lI (0 : Int32), lU] []))
            obtain ⟨a64, T64, h64, kk64, b64, kb64, X64, e64, E64, hS64, hk64, hZ64, hown64, Ea64, Ca64, Va64, Ab64, alt64, blt64, hCR64, Li64, hne64, st64⟩ := ldcCH X59 hx hZ56 hown56 (ow hw 85 rfl) (fun a ha => hw a (own_strAtoms a ha)) e59 hS56 hk56 hEL (by decide +kernel) CR56.1 (vs := [(.int (99 : Int32)), (.int (114 : Int32)), (.int (101 : Int32)), (.int (97 : Int32)), (.int (116 : Int32)), (.int (105 : Int32)), (.int (111 : Int32)), (.int (110 : Int32)), (.int (95 : Int32)), (.int (100 : Int32)), (.int (97 : Int32)), (.int (116 : Int32)), (.int (101 : Int32))]) (z := (13 : Int32)) (by decide +kernel) (by decide) rfl (g := (mkF m 181 #[.val (.int p0), .val (.int p1), .val (.int p2), .val (.int p3), .val (.int p4), .val (.int (p0 &&& (3 : Int32))), .val (.ref jb), .val (.int (((p0.toUInt32 >>> ((2 : Int32) &&& 31).toUInt32).toInt32) &&& (7 : Int32))), .val (.int (p1 &&& (3 : Int32))), .val (.ref jarr), .val (.ref ta), .val (.ref w_OE), .val (.int (0 : Int32)), .unset] [])) rfl (hb hby at_181) (n := 52) (by decide +kernel) (by decide) (by decide) (by decide)
            refine Go.st st64 ?_
            have K64 : Keep h0 h64 [] := K56.ext E64
            have O64 := O56.ext E64
            have CR64 := CR56.trans hCR64
            show Go p.tables e below P (T64.setTop (mkF m 183 #[lI p0, lI p1, lI p2, lI p3, lI p4, lI (p0 &&& (3 : Int32)), lR jb, lI (((p0.toUInt32 >>> ((2 : Int32) &&& 31).toUInt32).toInt32) &&& (7 : Int32)), lI (p1 &&& (3 : Int32)), lR jarr, lR ta, lR w_OE, lI (0 : Int32), lU] [(.ref a64)]))
            refine Go.st (fun _ => XS.aload X64.here hx rfl (hb hby at_183) rfl rfl) ?_
            show Go p.tables e below P (T64.setTop (mkF m 185 #[lI p0, lI p1, lI p2, lI p3, lI p4, lI (p0 &&& (3 : Int32)), lR jb, lI (((p0.toUInt32 >>> ((2 : Int32) &&& 31).toUInt32).toInt32) &&& (7 : Int32)), lI (p1 &&& (3 : Int32)), lR jarr, lR ta, lR w_OE, lI (0 : Int32), lU] [(.ref ta), (.ref a64)]))
            have hcd65 : StrChars.Road.CodA ([(99 : Int32), (114 : Int32), (101 : Int32), (97 : Int32), (116 : Int32), (105 : Int32), (111 : Int32), (110 : Int32), (95 : Int32), (100 : Int32), (97 : Int32), (116 : Int32), (101 : Int32)] : List Int32) 0 (13 : Int32) [(.int (99 : Int32)), (.int (114 : Int32)), (.int (101 : Int32)), (.int (97 : Int32)), (.int (116 : Int32)), (.int (105 : Int32)), (.int (111 : Int32)), (.int (110 : Int32)), (.int (95 : Int32)), (.int (100 : Int32)), (.int (97 : Int32)), (.int (116 : Int32)), (.int (101 : Int32))] := StrChars.Road.codOf (n := 13) rfl (fun c hc => ((show ∀ c ∈ ([(99 : Int32), (114 : Int32), (101 : Int32), (97 : Int32), (116 : Int32), (105 : Int32), (111 : Int32), (110 : Int32), (95 : Int32), (100 : Int32), (97 : Int32), (116 : Int32), (101 : Int32)] : List Int32), ¬ c < 0 ∧ ¬ (255 : Int32) < c by decide) c hc).2)
            have c66 := (c60.ext E64)
            have c67 := (c61.ext E64)
            have c68 := (c62.ext E64)
            have c69 := (c63.ext E64)
            have hcd65b : StrChars.Road.CodA tcs 0 (Int32.ofNat tcs.length) ((tcs.map StrChars.lo8).map Value.int) := StrChars.Road.codOf (n := tcs.length) rfl (fun c hc => (hpct c hc).2)
            obtain ⟨cq65, kq65, q65a, q65b, q65c⟩ := isOf hZ64 e64 Ea64
            obtain ⟨_, _, ⟨T65, L65, k65, n65⟩, -, X65, ⟨Lc65, hQ65, l65, y65, z65⟩, st65⟩ := X64.virtualBack hx (y := (⟨"java/lang/String", "equals", "(Ljava/lang/Object;)Z"⟩ : MethodName)) (z := (⟨"java/lang/String", "equals", "(Ljava/lang/Object;)Z"⟩ : MethodName)) hown64 (mvT hZ64 (ow hw 84 rfl)) (mvT hZ64 (ow hw 75 rfl)) (notFace_of_selects (args := #[]) (mvT hZ64 (ow hw 77 rfl))) (mvT hZ64 (ow hw 77 rfl)) (mvT hZ64 (ow hw 76 rfl)) (by decide) (StrChars.Road.eqW (W := 0) hZ64 (fun d hd => hw d (own_wEq d hd)) (kI := 4) (ow hw 2 rfl) Ea64 Va64 Ca64 Ab64 hcd65 (own_up _ (show ∀ c ∈ ([(99 : Int32), (114 : Int32), (101 : Int32), (97 : Int32), (116 : Int32), (105 : Int32), (111 : Int32), (110 : Int32), (95 : Int32), (100 : Int32), (97 : Int32), (116 : Int32), (101 : Int32)] : List Int32), ¬ c < 0 ∧ ¬ (255 : Int32) < c by decide)) (Nat.le_of_ble_eq_true rfl) c66 c67 c68 c69 hcd65b (own_up _ hpct) hlet (S_CS.ext O64.2) nz_CS (by decide) (by decide)) q65a q65c (g := (mkF m 185 #[.val (.int p0), .val (.int p1), .val (.int p2), .val (.int p3), .val (.int p4), .val (.int (p0 &&& (3 : Int32))), .val (.ref jb), .val (.int (((p0.toUInt32 >>> ((2 : Int32) &&& 31).toUInt32).toInt32) &&& (7 : Int32))), .val (.int (p1 &&& (3 : Int32))), .val (.ref jarr), .val (.ref ta), .val (.ref w_OE), .val (.int (0 : Int32)), .unset] [(.ref ta), (.ref a64)])) rfl (by rw [hml]; rfl) (Steps.refl _) (argsL := [(.ref ta)]) (rest := []) (lenOf own_pd4 rfl) rfl (by show 2 * 0 + _ ≤ _; exact Nat.le_of_eq rfl) (hb hby at_185) (fun _ _ => ⟨rfl, e64, (by decide : 14 + 0 ≤ _), (by decide : 212 + 0 ≤ _)⟩)
            dsimp only [Pt.U, Pt.locs, Pt.cells, Pt.slots] at X65 l65 y65 z65 st65 hQ65
            subst y65 z65
            refine Go.tr st65 ?_
            obtain ⟨hor65, rfl, e65⟩ := hQ65
            have N65 : Fr n0 L65 := by rw [l65]; exact Fr.app N59 (Fr.nil n0)
            obtain ⟨rfl, heq65⟩ := hor65.elim (fun q => absurd q.2 hcc) id
            show Go p.tables e below P (T65.setTop (mkF m 188 #[lI p0, lI p1, lI p2, lI p3, lI p4, lI (p0 &&& (3 : Int32)), lR jb, lI (((p0.toUInt32 >>> ((2 : Int32) &&& 31).toUInt32).toInt32) &&& (7 : Int32)), lI (p1 &&& (3 : Int32)), lR jarr, lR ta, lR w_OE, lI (0 : Int32), lU] [(.int (0 : Int32))]))
            refine Go.st (fun _ => XS.istore X65.here hx rfl (hb hby at_188) rfl (l' := #[.val (.int p0), .val (.int p1), .val (.int p2), .val (.int p3), .val (.int p4), .val (.int (p0 &&& (3 : Int32))), .val (.ref jb), .val (.int (((p0.toUInt32 >>> ((2 : Int32) &&& 31).toUInt32).toInt32) &&& (7 : Int32))), .val (.int (p1 &&& (3 : Int32))), .val (.ref jarr), .val (.ref ta), .val (.ref w_OE), .val (.int (0 : Int32)), .val (.int (0 : Int32))]) rfl) ?_
            show Go p.tables e below P (T65.setTop (mkF m 190 #[lI p0, lI p1, lI p2, lI p3, lI p4, lI (p0 &&& (3 : Int32)), lR jb, lI (((p0.toUInt32 >>> ((2 : Int32) &&& 31).toUInt32).toInt32) &&& (7 : Int32)), lI (p1 &&& (3 : Int32)), lR jarr, lR ta, lR w_OE, lI (0 : Int32), lI (0 : Int32)] []))
            refine Go.st (fun _ => XS.iload X65.here hx rfl (hb hby at_190) rfl) ?_
            show Go p.tables e below P (T65.setTop (mkF m 192 #[lI p0, lI p1, lI p2, lI p3, lI p4, lI (p0 &&& (3 : Int32)), lR jb, lI (((p0.toUInt32 >>> ((2 : Int32) &&& 31).toUInt32).toInt32) &&& (7 : Int32)), lI (p1 &&& (3 : Int32)), lR jarr, lR ta, lR w_OE, lI (0 : Int32), lI (0 : Int32)] [(.int (0 : Int32))]))
            refine Go.st (fun _ => XS.ifYes X65.here hx rfl (pc0 := 192) (pc' := 213) rfl (hb hby at_192) rfl ((if0 _ _).trans (teq (by decide)).1) (by decide) (by decide)) ?_
            show Go p.tables e below P (T65.setTop (mkF m 213 #[lI p0, lI p1, lI p2, lI p3, lI p4, lI (p0 &&& (3 : Int32)), lR jb, lI (((p0.toUInt32 >>> ((2 : Int32) &&& 31).toUInt32).toInt32) &&& (7 : Int32)), lI (p1 &&& (3 : Int32)), lR jarr, lR ta, lR w_OE, lI (0 : Int32), lI (0 : Int32)] []))
            refine Go.st (fun _ => XS.iload X65.here hx rfl (hb hby at_213) rfl) ?_
            show Go p.tables e below P (T65.setTop (mkF m 215 #[lI p0, lI p1, lI p2, lI p3, lI p4, lI (p0 &&& (3 : Int32)), lR jb, lI (((p0.toUInt32 >>> ((2 : Int32) &&& 31).toUInt32).toInt32) &&& (7 : Int32)), lI (p1 &&& (3 : Int32)), lR jarr, lR ta, lR w_OE, lI (0 : Int32), lI (0 : Int32)] [(.int (0 : Int32))]))
            refine Go.st (fun _ => XS.ifYes X65.here hx rfl (pc0 := 215) (pc' := 236) rfl (hb hby at_215) rfl ((if0 _ _).trans (teq (by decide)).1) (by decide) (by decide)) ?_
            show Go p.tables e below P (T65.setTop (mkF m 236 #[lI p0, lI p1, lI p2, lI p3, lI p4, lI (p0 &&& (3 : Int32)), lR jb, lI (((p0.toUInt32 >>> ((2 : Int32) &&& 31).toUInt32).toInt32) &&& (7 : Int32)), lI (p1 &&& (3 : Int32)), lR jarr, lR ta, lR w_OE, lI (0 : Int32), lI (0 : Int32)] []))
            refine Go.st (fun _ => XS.aload X65.here hx rfl (hb hby at_236) rfl rfl) ?_
            show Go p.tables e below P (T65.setTop (mkF m 238 #[lI p0, lI p1, lI p2, lI p3, lI p4, lI (p0 &&& (3 : Int32)), lR jb, lI (((p0.toUInt32 >>> ((2 : Int32) &&& 31).toUInt32).toInt32) &&& (7 : Int32)), lI (p1 &&& (3 : Int32)), lR jarr, lR ta, lR w_OE, lI (0 : Int32), lI (0 : Int32)] [(.ref w_OE)]))
            obtain ⟨cq70, kq70, q70a, q70b, q70c⟩ := isOf hZ64 e65 (X_OE.ext O64.2)
            obtain ⟨_, _, ⟨T70, L70, k70, n70⟩, -, X70, ⟨Lc70, hQ70, l70, y70, z70⟩, st70⟩ := X65.virtualBack hx (y := (⟨"java/util/Optional", "isEmpty", "()Z"⟩ : MethodName)) (z := (⟨"java/util/Optional", "isEmpty", "()Z"⟩ : MethodName)) hown64 (mvT hZ64 (ow hw 86 rfl)) (mvT hZ64 (ow hw 87 rfl)) (notFace_of_selects (args := #[]) (mvT hZ64 (ow hw 89 rfl))) (mvT hZ64 (ow hw 89 rfl)) (mvT hZ64 (ow hw 88 rfl)) (by decide) (backOf (W := 0) (rm_oie l Z a0 hw [] w_N S_N X_N w_K S_K X_K w_V k_V S_V X_V V_V w_NS F_NS X_NS I_NS_coder w_NB k_NB F_NB V_NB w_KS F_KS X_KS I_KS_coder w_KB k_KB F_KB V_KB w_OE S_OE X_OE I_OE_value g_CS S_CS nz_CS g_SF S_SF r_SF w_OE h64 n0 O64 (I_OE_value.ext O64.2)) hZ64 (ow hw 90 rfl) (ow hw 81 rfl) (by decide) (by decide)) q70a q70c (g := (mkF m 238 #[.val (.int p0), .val (.int p1), .val (.int p2), .val (.int p3), .val (.int p4), .val (.int (p0 &&& (3 : Int32))), .val (.ref jb), .val (.int (((p0.toUInt32 >>> ((2 : Int32) &&& 31).toUInt32).toInt32) &&& (7 : Int32))), .val (.int (p1 &&& (3 : Int32))), .val (.ref jarr), .val (.ref ta), .val (.ref w_OE), .val (.int (0 : Int32)), .val (.int (0 : Int32))] [(.ref w_OE)])) rfl (by rw [hml]; rfl) (Steps.refl _) (argsL := []) (rest := []) (lenOf own_pd11 rfl) rfl (by show 2 * 0 + _ ≤ _; exact Nat.le_of_eq rfl) (hb hby at_238) (fun _ _ => ⟨rfl, e65, (by decide : 14 + 0 ≤ _), (by decide : 212 + 0 ≤ _)⟩)
            dsimp only [Pt.U, Pt.locs, Pt.cells, Pt.slots] at X70 l70 y70 z70 st70 hQ70
            subst y70 z70
            refine Go.tr st70 ?_
            obtain ⟨rfl, N70q, e70⟩ := hQ70
            have N70 : Fr n0 L70 := by rw [l70]; exact Fr.app N65 N70q
            show Go p.tables e below P (T70.setTop (mkF m 241 #[lI p0, lI p1, lI p2, lI p3, lI p4, lI (p0 &&& (3 : Int32)), lR jb, lI (((p0.toUInt32 >>> ((2 : Int32) &&& 31).toUInt32).toInt32) &&& (7 : Int32)), lI (p1 &&& (3 : Int32)), lR jarr, lR ta, lR w_OE, lI (0 : Int32), lI (0 : Int32)] [(.int (1 : Int32))]))
            obtain ⟨fs, hr, hrun, hended, -, hW, hpair, hsame⟩ := X70.leaveW hS64 (by rw [e70]; exact hk64) (v := some (.int (1 : Int32))) (fun h => by rw [Bd.returns] at h; cases h)
            have hCRe := CR64.trans (CHv.at X70 hZ64 hEL CR64.1)
            refine ⟨_, ?_, hPend _ _ hrun hended ⟨_, _, rfl, ?_, ?_, ⟨_, rfl⟩, hW, hpair, hsame.mono (by decide) (by decide)⟩⟩
            · exact retN X70 hx (t := .boolean) Bd.returns (by simp) (hb hby at_241) hr
            · show Q_rm_law Z _ _ _ _ _ _ _ _ _ _ _ _ _ _ _ _ _ _ h0 n0 _ T70.heap _
              rw [e70]
              exact ⟨rfl, N70, K64⟩
            · show CHr Z consts_1 s.vm s.heap T70.vm T70.heap
              rw [hh, e70]
              exact hCRe
    by_cases hc71 : (p1 &&& (3 : Int32)) = (0 : Int32)
    · skip
      refine Go.st (fun _ => XS.ifNo Xj1.here hx rfl (hb hby at_56) rfl ((if0 _ _).trans (teq hc71).2)) ?_
      show Go p.tables e below P (Tj1.setTop (mkF m 59 #[lI p0, lI p1, lI p2, lI p3, lI p4, lI (p0 &&& (3 : Int32)), lR jb, lI (((p0.toUInt32 >>> ((2 : Int32) &&& 31).toUInt32).toInt32) &&& (7 : Int32)), lI (p1 &&& (3 : Int32)), lU, lU, lU, lU, lU] []))
      refine Go.st (fun _ => XS.bipush Xj1.here hx rfl (hb hby at_59)) ?_
      show Go p.tables e below P (Tj1.setTop (mkF m 61 #[lI p0, lI p1, lI p2, lI p3, lI p4, lI (p0 &&& (3 : Int32)), lR jb, lI (((p0.toUInt32 >>> ((2 : Int32) &&& 31).toUInt32).toInt32) &&& (7 : Int32)), lI (p1 &&& (3 : Int32)), lU, lU, lU, lU, lU] [(.int (12 : Int32))]))
      obtain ⟨T72, h72, k72, X72, e72, E72, A72, st72⟩ := newP Xj1 hx hZj1 (ow hw 8 rfl) ej1 (g := (mkF m 61 #[.val (.int p0), .val (.int p1), .val (.int p2), .val (.int p3), .val (.int p4), .val (.int (p0 &&& (3 : Int32))), .val (.ref jb), .val (.int (((p0.toUInt32 >>> ((2 : Int32) &&& 31).toUInt32).toInt32) &&& (7 : Int32))), .val (.int (p1 &&& (3 : Int32))), .unset, .unset, .unset, .unset, .unset] [(.int (12 : Int32))])) rfl (hb hby at_61) rfl (by decide) (cap := 12) (by decide) (by decide) (by decide) (by decide)
      obtain ⟨b72, g72⟩ : ∃ z, z = hj1.size := ⟨_, rfl⟩
      rw [← g72] at A72 st72
      refine Go.st st72 ?_
      have g_b72 : n0 ≤ b72 := Nat.le_trans (own_oldsz Oj1) (Nat.le_of_eq g72.symm)
      have sz_b72 : h0.size ≤ b72 := Nat.le_trans Kj1.1 (Nat.le_of_eq g72.symm)
      have K72 : Keep h0 h72 [] := Kj1.ext E72
      have O72 := Oj1.ext E72
      have SF_b72 : Safe Z consts_1 vmj1 h72 b72 := Safe.ext E72 CRj1.1 (Safe.new (Nat.le_of_eq g72.symm))
      have CR72 := CRj1.trans (CHr.ext E72 CRj1.1)
      have V72 : Arv Z h72 b72 k72 .char (12 : Int32) [(.int (0 : Int32)), (.int (0 : Int32)), (.int (0 : Int32)), (.int (0 : Int32)), (.int (0 : Int32)), (.int (0 : Int32)), (.int (0 : Int32)), (.int (0 : Int32)), (.int (0 : Int32)), (.int (0 : Int32)), (.int (0 : Int32)), (.int (0 : Int32))] (.int (0 : Int32)) := (Arv.new A72 (by decide)).pad (pad_rep [] (.int (0 : Int32)) 12)
      show Go p.tables e below P (T72.setTop (mkF m 63 #[lI p0, lI p1, lI p2, lI p3, lI p4, lI (p0 &&& (3 : Int32)), lR jb, lI (((p0.toUInt32 >>> ((2 : Int32) &&& 31).toUInt32).toInt32) &&& (7 : Int32)), lI (p1 &&& (3 : Int32)), lU, lU, lU, lU, lU] [(.ref b72)]))
      refine Go.st (fun _ => XS.goto X72.here hx rfl (pc0 := 63) (pc' := 96) rfl (hb hby at_63) (by decide) (by decide)) ?_
      show Go p.tables e below P (T72.setTop (mkF m 96 #[lI p0, lI p1, lI p2, lI p3, lI p4, lI (p0 &&& (3 : Int32)), lR jb, lI (((p0.toUInt32 >>> ((2 : Int32) &&& 31).toUInt32).toInt32) &&& (7 : Int32)), lI (p1 &&& (3 : Int32)), lU, lU, lU, lU, lU] [(.ref b72)]))
      refine Go.st (fun _ => XS.astore X72.here hx rfl (hb hby at_96) rfl rfl (l' := #[.val (.int p0), .val (.int p1), .val (.int p2), .val (.int p3), .val (.int p4), .val (.int (p0 &&& (3 : Int32))), .val (.ref jb), .val (.int (((p0.toUInt32 >>> ((2 : Int32) &&& 31).toUInt32).toInt32) &&& (7 : Int32))), .val (.int (p1 &&& (3 : Int32))), .val (.ref b72), .unset, .unset, .unset, .unset]) rfl) ?_
      show Go p.tables e below P (T72.setTop (mkF m 98 #[lI p0, lI p1, lI p2, lI p3, lI p4, lI (p0 &&& (3 : Int32)), lR jb, lI (((p0.toUInt32 >>> ((2 : Int32) &&& 31).toUInt32).toInt32) &&& (7 : Int32)), lI (p1 &&& (3 : Int32)), lR b72, lU, lU, lU, lU] []))
      refine Go.st (fun _ => XS.aload X72.here hx rfl (hb hby at_98) rfl rfl) ?_
      show Go p.tables e below P (T72.setTop (mkF m 100 #[lI p0, lI p1, lI p2, lI p3, lI p4, lI (p0 &&& (3 : Int32)), lR jb, lI (((p0.toUInt32 >>> ((2 : Int32) &&& 31).toUInt32).toInt32) &&& (7 : Int32)), lI (p1 &&& (3 : Int32)), lR b72, lU, lU, lU, lU] [(.ref b72)]))
      refine Go.st (fun _ => XS.aload X72.here hx rfl (hb hby at_100) rfl rfl) ?_
      show Go p.tables e below P (T72.setTop (mkF m 102 #[lI p0, lI p1, lI p2, lI p3, lI p4, lI (p0 &&& (3 : Int32)), lR jb, lI (((p0.toUInt32 >>> ((2 : Int32) &&& 31).toUInt32).toInt32) &&& (7 : Int32)), lI (p1 &&& (3 : Int32)), lR b72, lU, lU, lU, lU] [(.ref jb), (.ref b72)]))
      refine Go.st (fun _ => XS.iloadN X72.here hx rfl (hb hby at_102) rfl) ?_
      show Go p.tables e below P (T72.setTop (mkF m 103 #[lI p0, lI p1, lI p2, lI p3, lI p4, lI (p0 &&& (3 : Int32)), lR jb, lI (((p0.toUInt32 >>> ((2 : Int32) &&& 31).toUInt32).toInt32) &&& (7 : Int32)), lI (p1 &&& (3 : Int32)), lR b72, lU, lU, lU, lU] [(.int p2), (.ref jb), (.ref b72)]))
      refine Go.st (fun _ => XS.bipush X72.here hx rfl (hb hby at_103)) ?_
      show Go p.tables e below P (T72.setTop (mkF m 105 #[lI p0, lI p1, lI p2, lI p3, lI p4, lI (p0 &&& (3 : Int32)), lR jb, lI (((p0.toUInt32 >>> ((2 : Int32) &&& 31).toUInt32).toInt32) &&& (7 : Int32)), lI (p1 &&& (3 : Int32)), lR b72, lU, lU, lU, lU] [(.int (15 : Int32)), (.int p2), (.ref jb), (.ref b72)]))
      refine Go.st (fun _ => XS.iand X72.here hx rfl (hb hby at_105) rfl) ?_
      show Go p.tables e below P (T72.setTop (mkF m 106 #[lI p0, lI p1, lI p2, lI p3, lI p4, lI (p0 &&& (3 : Int32)), lR jb, lI (((p0.toUInt32 >>> ((2 : Int32) &&& 31).toUInt32).toInt32) &&& (7 : Int32)), lI (p1 &&& (3 : Int32)), lR b72, lU, lU, lU, lU] [(.int (p2 &&& (15 : Int32))), (.ref jb), (.ref b72)]))
      refine Go.st (fun _ => XS.iloadN X72.here hx rfl (hb hby at_106) rfl) ?_
      show Go p.tables e below P (T72.setTop (mkF m 107 #[lI p0, lI p1, lI p2, lI p3, lI p4, lI (p0 &&& (3 : Int32)), lR jb, lI (((p0.toUInt32 >>> ((2 : Int32) &&& 31).toUInt32).toInt32) &&& (7 : Int32)), lI (p1 &&& (3 : Int32)), lR b72, lU, lU, lU, lU] [(.int p3), (.int (p2 &&& (15 : Int32))), (.ref jb), (.ref b72)]))
      refine Go.st (fun _ => XS.sipush X72.here hx rfl (hb hby at_107)) ?_
      show Go p.tables e below P (T72.setTop (mkF m 110 #[lI p0, lI p1, lI p2, lI p3, lI p4, lI (p0 &&& (3 : Int32)), lR jb, lI (((p0.toUInt32 >>> ((2 : Int32) &&& 31).toUInt32).toInt32) &&& (7 : Int32)), lI (p1 &&& (3 : Int32)), lR b72, lU, lU, lU, lU] [(.int (255 : Int32)), (.int p3), (.int (p2 &&& (15 : Int32))), (.ref jb), (.ref b72)]))
      refine Go.st (fun _ => XS.iand X72.here hx rfl (hb hby at_110) rfl) ?_
      show Go p.tables e below P (T72.setTop (mkF m 111 #[lI p0, lI p1, lI p2, lI p3, lI p4, lI (p0 &&& (3 : Int32)), lR jb, lI (((p0.toUInt32 >>> ((2 : Int32) &&& 31).toUInt32).toInt32) &&& (7 : Int32)), lI (p1 &&& (3 : Int32)), lR b72, lU, lU, lU, lU] [(.int (p3 &&& (255 : Int32))), (.int (p2 &&& (15 : Int32))), (.ref jb), (.ref b72)]))
      refine Go.st (fun _ => XS.i2c X72.here hx rfl (hb hby at_111) rfl) ?_
      show Go p.tables e below P (T72.setTop (mkF m 112 #[lI p0, lI p1, lI p2, lI p3, lI p4, lI (p0 &&& (3 : Int32)), lR jb, lI (((p0.toUInt32 >>> ((2 : Int32) &&& 31).toUInt32).toInt32) &&& (7 : Int32)), lI (p1 &&& (3 : Int32)), lR b72, lU, lU, lU, lU] [(.int ((p3 &&& (255 : Int32)).toUInt32.toUInt16.toUInt32.toInt32)), (.int (p2 &&& (15 : Int32))), (.ref jb), (.ref b72)]))
      rw [i2c_mask]
      show Go p.tables e below P (T72.setTop (mkF m 112 #[lI p0, lI p1, lI p2, lI p3, lI p4, lI (p0 &&& (3 : Int32)), lR jb, lI (((p0.toUInt32 >>> ((2 : Int32) &&& 31).toUInt32).toInt32) &&& (7 : Int32)), lI (p1 &&& (3 : Int32)), lR b72, lU, lU, lU, lU] [(.int (p3 &&& (255 : Int32))), (.int (p2 &&& (15 : Int32))), (.ref jb), (.ref b72)]))
      refine Go.st (fun _ => XS.iload X72.here hx rfl (hb hby at_112) rfl) ?_
      show Go p.tables e below P (T72.setTop (mkF m 114 #[lI p0, lI p1, lI p2, lI p3, lI p4, lI (p0 &&& (3 : Int32)), lR jb, lI (((p0.toUInt32 >>> ((2 : Int32) &&& 31).toUInt32).toInt32) &&& (7 : Int32)), lI (p1 &&& (3 : Int32)), lR b72, lU, lU, lU, lU] [(.int p4), (.int (p3 &&& (255 : Int32))), (.int (p2 &&& (15 : Int32))), (.ref jb), (.ref b72)]))
      refine Go.st (fun _ => XS.sipush X72.here hx rfl (hb hby at_114)) ?_
      show Go p.tables e below P (T72.setTop (mkF m 117 #[lI p0, lI p1, lI p2, lI p3, lI p4, lI (p0 &&& (3 : Int32)), lR jb, lI (((p0.toUInt32 >>> ((2 : Int32) &&& 31).toUInt32).toInt32) &&& (7 : Int32)), lI (p1 &&& (3 : Int32)), lR b72, lU, lU, lU, lU] [(.int (255 : Int32)), (.int p4), (.int (p3 &&& (255 : Int32))), (.int (p2 &&& (15 : Int32))), (.ref jb), (.ref b72)]))
      refine Go.st (fun _ => XS.iand X72.here hx rfl (hb hby at_117) rfl) ?_
      show Go p.tables e below P (T72.setTop (mkF m 118 #[lI p0, lI p1, lI p2, lI p3, lI p4, lI (p0 &&& (3 : Int32)), lR jb, lI (((p0.toUInt32 >>> ((2 : Int32) &&& 31).toUInt32).toInt32) &&& (7 : Int32)), lI (p1 &&& (3 : Int32)), lR b72, lU, lU, lU, lU] [(.int (p4 &&& (255 : Int32))), (.int (p3 &&& (255 : Int32))), (.int (p2 &&& (15 : Int32))), (.ref jb), (.ref b72)]))
      refine Go.st (fun _ => XS.i2c X72.here hx rfl (hb hby at_118) rfl) ?_
      show Go p.tables e below P (T72.setTop (mkF m 119 #[lI p0, lI p1, lI p2, lI p3, lI p4, lI (p0 &&& (3 : Int32)), lR jb, lI (((p0.toUInt32 >>> ((2 : Int32) &&& 31).toUInt32).toInt32) &&& (7 : Int32)), lI (p1 &&& (3 : Int32)), lR b72, lU, lU, lU, lU] [(.int ((p4 &&& (255 : Int32)).toUInt32.toUInt16.toUInt32.toInt32)), (.int (p3 &&& (255 : Int32))), (.int (p2 &&& (15 : Int32))), (.ref jb), (.ref b72)]))
      rw [i2c_mask]
      show Go p.tables e below P (T72.setTop (mkF m 119 #[lI p0, lI p1, lI p2, lI p3, lI p4, lI (p0 &&& (3 : Int32)), lR jb, lI (((p0.toUInt32 >>> ((2 : Int32) &&& 31).toUInt32).toInt32) &&& (7 : Int32)), lI (p1 &&& (3 : Int32)), lR b72, lU, lU, lU, lU] [(.int (p4 &&& (255 : Int32))), (.int (p3 &&& (255 : Int32))), (.int (p2 &&& (15 : Int32))), (.ref jb), (.ref b72)]))
      have c74 := (hEb.ext E72)
      have c75 := (hCb.ext E72)
      have c76 := (hVb.ext E72)
      have c77 := (hAb.ext E72)
      obtain ⟨_, _, ⟨T73, L73, k73, n73⟩, -, X73, ⟨Lc73, hQ73, l73, y73, z73⟩, st73⟩ := Jvm.LawKit.callS X72 hx (y := (⟨"com/example/vacuum/vacuum/model/MethodOfWireNamePinLaw", "fillChars", "([CLjava/lang/String;ICC)V"⟩ : MethodName)) hownj1 (mvT hZj1 (ow hw 9 rfl)) (mvT hZj1 (ow hw 10 rfl)) (mvT hZj1 (ow hw 11 rfl)) (mvT hZj1 (ow hw 12 rfl)) (by decide) (backOf (W := 0) (rm_fc12 l Z a0 hw [] w_N S_N X_N w_K S_K X_K w_V k_V S_V X_V V_V w_NS F_NS X_NS I_NS_coder w_NB k_NB F_NB V_NB w_KS F_KS X_KS I_KS_coder w_KB k_KB F_KB V_KB w_OE S_OE X_OE I_OE_value g_CS S_CS nz_CS g_SF S_SF r_SF b72 jb (p2 &&& (15 : Int32)) (p3 &&& (255 : Int32)) (p4 &&& (255 : Int32)) k72 jbc jbv jbk h72 n0 O72 V72 g_b72 c74 c75 c76 c77 hpcb hleb (Nat.ne_of_lt (Nat.lt_of_lt_of_le hAb.lt (Nat.le_of_eq g72.symm))) (own_and255 _) (own_and255 _)) hZj1 (ow hw 12 rfl) (ow hw 11 rfl) (by decide) (by decide)) (g := (mkF m 119 #[.val (.int p0), .val (.int p1), .val (.int p2), .val (.int p3), .val (.int p4), .val (.int (p0 &&& (3 : Int32))), .val (.ref jb), .val (.int (((p0.toUInt32 >>> ((2 : Int32) &&& 31).toUInt32).toInt32) &&& (7 : Int32))), .val (.int (p1 &&& (3 : Int32))), .val (.ref b72), .unset, .unset, .unset, .unset] [(.int (p4 &&& (255 : Int32))), (.int (p3 &&& (255 : Int32))), (.int (p2 &&& (15 : Int32))), (.ref jb), (.ref b72)])) rfl (by rw [hml]; rfl) (argsL := [(.ref b72), (.ref jb), (.int (p2 &&& (15 : Int32))), (.int (p3 &&& (255 : Int32))), (.int (p4 &&& (255 : Int32)))]) (rest := []) (lenOf own_pd12 rfl) rfl (by show 2 * 0 + _ ≤ _; exact Nat.le_of_eq rfl) (hb hby at_119) (fun _ _ => ⟨rfl, e72, (by decide : 3 + 0 ≤ _), (by decide : 72 + 0 ≤ _)⟩)
      dsimp only [Pt.U, Pt.locs, Pt.cells, Pt.slots] at X73 l73 y73 z73 st73 hQ73
      subst y73 z73
      refine Go.st st73 ?_
      obtain ⟨c0_78, c1_79, c2_80, c3_81, c4_82, c5_83, c6_84, c7_85, c8_86, c9_87, c10_88, c11_89, rfl, N73q, K73q, q73_0, q73_1, q73_2, q73_3, q73_4, q73_5, q73_6, q73_7, q73_8, q73_9, q73_10, q73_11, q73_12⟩ := hQ73
      have N73 : Fr n0 L73 := by rw [l73]; exact Fr.app Nj1 N73q
      have O73 := O72.keep K73q (allS g_b72 all0)
      have K73 : Keep h0 T73.heap [] := K72.trans K73q (allS (Or.inr sz_b72) all0)
      have sf90 := Safe.keep K73q (sfS SF_b72 sf0) CR72.1 SF_b72
      have CR73 := CR72.trans (CHr.keep K73q (sfS SF_b72 sf0) CR72.1)
      show Go p.tables e below P (T73.setTop (mkF m 122 #[lI p0, lI p1, lI p2, lI p3, lI p4, lI (p0 &&& (3 : Int32)), lR jb, lI (((p0.toUInt32 >>> ((2 : Int32) &&& 31).toUInt32).toInt32) &&& (7 : Int32)), lI (p1 &&& (3 : Int32)), lR b72, lU, lU, lU, lU] []))
      refine Go.st (fun _ => XS.iload X73.here hx rfl (hb hby at_122) rfl) ?_
      show Go p.tables e below P (T73.setTop (mkF m 124 #[lI p0, lI p1, lI p2, lI p3, lI p4, lI (p0 &&& (3 : Int32)), lR jb, lI (((p0.toUInt32 >>> ((2 : Int32) &&& 31).toUInt32).toInt32) &&& (7 : Int32)), lI (p1 &&& (3 : Int32)), lR b72, lU, lU, lU, lU] [(.int (((p0.toUInt32 >>> ((2 : Int32) &&& 31).toUInt32).toInt32) &&& (7 : Int32)))]))
      by_cases hc91 : (((p0.toUInt32 >>> ((2 : Int32) &&& 31).toUInt32).toInt32) &&& (7 : Int32)) = (0 : Int32)
      · skip
        refine Go.st (fun _ => XS.ifNo X73.here hx rfl (hb hby at_124) rfl ((if0 _ _).trans (teq hc91).2)) ?_
        show Go p.tables e below P (T73.setTop (mkF m 127 #[lI p0, lI p1, lI p2, lI p3, lI p4, lI (p0 &&& (3 : Int32)), lR jb, lI (((p0.toUInt32 >>> ((2 : Int32) &&& 31).toUInt32).toInt32) &&& (7 : Int32)), lI (p1 &&& (3 : Int32)), lR b72, lU, lU, lU, lU] []))
        refine Go.st (fun _ => XS.aconstNull X73.here hx rfl (hb hby at_127)) ?_
        show Go p.tables e below P (T73.setTop (mkF m 128 #[lI p0, lI p1, lI p2, lI p3, lI p4, lI (p0 &&& (3 : Int32)), lR jb, lI (((p0.toUInt32 >>> ((2 : Int32) &&& 31).toUInt32).toInt32) &&& (7 : Int32)), lI (p1 &&& (3 : Int32)), lR b72, lU, lU, lU, lU] [.null]))
        refine Go.st (fun _ => XS.astore X73.here hx rfl (hb hby at_128) rfl rfl (l' := #[.val (.int p0), .val (.int p1), .val (.int p2), .val (.int p3), .val (.int p4), .val (.int (p0 &&& (3 : Int32))), .val (.ref jb), .val (.int (((p0.toUInt32 >>> ((2 : Int32) &&& 31).toUInt32).toInt32) &&& (7 : Int32))), .val (.int (p1 &&& (3 : Int32))), .val (.ref b72), .val .null, .unset, .unset, .unset]) rfl) ?_
        show Go p.tables e below P (T73.setTop (mkF m 130 #[lI p0, lI p1, lI p2, lI p3, lI p4, lI (p0 &&& (3 : Int32)), lR jb, lI (((p0.toUInt32 >>> ((2 : Int32) &&& 31).toUInt32).toInt32) &&& (7 : Int32)), lI (p1 &&& (3 : Int32)), lR b72, lN, lU, lU, lU] []))
        refine Go.st (fun _ => XS.goto X73.here hx rfl (pc0 := 130) (pc' := 165) rfl (hb hby at_130) (by decide) (by decide)) ?_
        show Go p.tables e below P (T73.setTop (mkF m 165 #[lI p0, lI p1, lI p2, lI p3, lI p4, lI (p0 &&& (3 : Int32)), lR jb, lI (((p0.toUInt32 >>> ((2 : Int32) &&& 31).toUInt32).toInt32) &&& (7 : Int32)), lI (p1 &&& (3 : Int32)), lR b72, lN, lU, lU, lU] []))
        exact J2 T73 T73.heap _ _ _ (X73.more (by decide) (by decide)) rfl K73 O73 N73 hSj1 (Nat.le_trans (Nat.le_trans hkj1 E72.1) K73q.1) hZj1 hownj1 CR73  b72 .null rfl (Or.inl rfl)
      · skip
        refine Go.st (fun _ => XS.ifYes X73.here hx rfl (pc0 := 124) (pc' := 133) rfl (hb hby at_124) rfl ((if0 _ _).trans (feq hc91).2) (by decide) (by decide)) ?_
        show Go p.tables e below P (T73.setTop (mkF m 133 #[lI p0, lI p1, lI p2, lI p3, lI p4, lI (p0 &&& (3 : Int32)), lR jb, lI (((p0.toUInt32 >>> ((2 : Int32) &&& 31).toUInt32).toInt32) &&& (7 : Int32)), lI (p1 &&& (3 : Int32)), lR b72, lU, lU, lU, lU] []))
        refine Go.st (fun _ => XS.iload X73.here hx rfl (hb hby at_133) rfl) ?_
        show Go p.tables e below P (T73.setTop (mkF m 135 #[lI p0, lI p1, lI p2, lI p3, lI p4, lI (p0 &&& (3 : Int32)), lR jb, lI (((p0.toUInt32 >>> ((2 : Int32) &&& 31).toUInt32).toInt32) &&& (7 : Int32)), lI (p1 &&& (3 : Int32)), lR b72, lU, lU, lU, lU] [(.int (((p0.toUInt32 >>> ((2 : Int32) &&& 31).toUInt32).toInt32) &&& (7 : Int32)))]))
        refine Go.st (fun _ => XS.iconst X73.here hx rfl (hb hby at_135)) ?_
        show Go p.tables e below P (T73.setTop (mkF m 136 #[lI p0, lI p1, lI p2, lI p3, lI p4, lI (p0 &&& (3 : Int32)), lR jb, lI (((p0.toUInt32 >>> ((2 : Int32) &&& 31).toUInt32).toInt32) &&& (7 : Int32)), lI (p1 &&& (3 : Int32)), lR b72, lU, lU, lU, lU] [(.int (1 : Int32)), (.int (((p0.toUInt32 >>> ((2 : Int32) &&& 31).toUInt32).toInt32) &&& (7 : Int32)))]))
        by_cases hc92 : (((p0.toUInt32 >>> ((2 : Int32) &&& 31).toUInt32).toInt32) &&& (7 : Int32)) = (1 : Int32)
        · skip
          refine Go.st (fun _ => XS.icmpNo X73.here hx rfl (hb hby at_136) rfl (teq hc92).2) ?_
          show Go p.tables e below P (T73.setTop (mkF m 139 #[lI p0, lI p1, lI p2, lI p3, lI p4, lI (p0 &&& (3 : Int32)), lR jb, lI (((p0.toUInt32 >>> ((2 : Int32) &&& 31).toUInt32).toInt32) &&& (7 : Int32)), lI (p1 &&& (3 : Int32)), lR b72, lU, lU, lU, lU] []))
          have c94 := (c74.keep K73q)
          have c95 := (c77.keep K73q (ninS (Nat.ne_of_lt (Nat.lt_of_lt_of_le hAb.lt (Nat.le_of_eq g72.symm))) nin0))
          obtain ⟨T93, h93, X93, e93, E93, A93, D93, -, st93⟩ := newO X73 hx hZj1 hownj1 (ow hw 94 rfl) (ow hw 2 rfl) (ow hw 1 rfl) rfl (g := (mkF m 139 #[.val (.int p0), .val (.int p1), .val (.int p2), .val (.int p3), .val (.int p4), .val (.int (p0 &&& (3 : Int32))), .val (.ref jb), .val (.int (((p0.toUInt32 >>> ((2 : Int32) &&& 31).toUInt32).toInt32) &&& (7 : Int32))), .val (.int (p1 &&& (3 : Int32))), .val (.ref b72), .unset, .unset, .unset, .unset] [])) rfl (hb hby at_139) (by decide) (by decide)
          obtain ⟨b93, g93⟩ : ∃ z, z = T73.heap.size := ⟨_, rfl⟩
          rw [← g93] at A93 D93 st93
          refine Go.st st93 ?_
          have g_b93 : n0 ≤ b93 := Nat.le_trans (own_oldsz O73) (Nat.le_of_eq g93.symm)
          have sz_b93 : h0.size ≤ b93 := Nat.le_trans K73.1 (Nat.le_of_eq g93.symm)
          have K93 : Keep h0 h93 [] := K73.ext E93
          have O93 := O73.ext E93
          have sf96 := Safe.ext E93 CR73.1 sf90
          have SF_b93 : Safe Z consts_1 vmj1 h93 b93 := Safe.ext E93 CR73.1 (Safe.new (Nat.le_of_eq g93.symm))
          have CR93 := CR73.trans (CHr.ext E93 CR73.1)
          have F97 : Fld Z h93 b93 "java/lang/String" "value" "[B" .null := D93 (Or.inr (ow hw 4 rfl)) (ty := (.array .byte)) (by decide)
          have F98 : Fld Z h93 b93 "java/lang/String" "coder" "B" (.int (0 : Int32)) := D93 (Or.inr (ow hw 5 rfl)) (ty := .byte) (by decide)
          show Go p.tables e below P (T93.setTop (mkF m 142 #[lI p0, lI p1, lI p2, lI p3, lI p4, lI (p0 &&& (3 : Int32)), lR jb, lI (((p0.toUInt32 >>> ((2 : Int32) &&& 31).toUInt32).toInt32) &&& (7 : Int32)), lI (p1 &&& (3 : Int32)), lR b72, lU, lU, lU, lU] [(.ref b93)]))
          refine Go.st (fun _ => XS.dup X93.here hx rfl (hb hby at_142) rfl rfl) ?_
          show Go p.tables e below P (T93.setTop (mkF m 143 #[lI p0, lI p1, lI p2, lI p3, lI p4, lI (p0 &&& (3 : Int32)), lR jb, lI (((p0.toUInt32 >>> ((2 : Int32) &&& 31).toUInt32).toInt32) &&& (7 : Int32)), lI (p1 &&& (3 : Int32)), lR b72, lU, lU, lU, lU] [(.ref b93), (.ref b93)]))
          refine Go.st (fun _ => XS.iconst X93.here hx rfl (hb hby at_143)) ?_
          show Go p.tables e below P (T93.setTop (mkF m 144 #[lI p0, lI p1, lI p2, lI p3, lI p4, lI (p0 &&& (3 : Int32)), lR jb, lI (((p0.toUInt32 >>> ((2 : Int32) &&& 31).toUInt32).toInt32) &&& (7 : Int32)), lI (p1 &&& (3 : Int32)), lR b72, lU, lU, lU, lU] [(.int (0 : Int32)), (.ref b93), (.ref b93)]))
          have c100 := (c94.ext E93)
          have c101 := (c95.ext E93)
          have c102 := (q73_0.ext E93)
          obtain ⟨T99, h99, k99, X99, e99, E99, A99, st99⟩ := newP X93 hx hZj1 (ow hw 8 rfl) e93 (g := (mkF m 144 #[.val (.int p0), .val (.int p1), .val (.int p2), .val (.int p3), .val (.int p4), .val (.int (p0 &&& (3 : Int32))), .val (.ref jb), .val (.int (((p0.toUInt32 >>> ((2 : Int32) &&& 31).toUInt32).toInt32) &&& (7 : Int32))), .val (.int (p1 &&& (3 : Int32))), .val (.ref b72), .unset, .unset, .unset, .unset] [(.int (0 : Int32)), (.ref b93), (.ref b93)])) rfl (hb hby at_144) rfl (by decide) (cap := 0) (by decide) (by decide) (by decide) (by decide)
          obtain ⟨b99, g99⟩ : ∃ z, z = h93.size := ⟨_, rfl⟩
          rw [← g99] at A99 st99
          refine Go.st st99 ?_
          have g_b99 : n0 ≤ b99 := Nat.le_trans (own_oldsz O93) (Nat.le_of_eq g99.symm)
          have sz_b99 : h0.size ≤ b99 := Nat.le_trans K93.1 (Nat.le_of_eq g99.symm)
          have K99 : Keep h0 h99 [] := K93.ext E99
          have O99 := O93.ext E99
          have sf103 := Safe.ext E99 CR93.1 sf96
          have sf104 := Safe.ext E99 CR93.1 SF_b93
          have SF_b99 : Safe Z consts_1 vmj1 h99 b99 := Safe.ext E99 CR93.1 (Safe.new (Nat.le_of_eq g99.symm))
          have CR99 := CR93.trans (CHr.ext E99 CR93.1)
          have V99 : Arv Z h99 b99 k99 .char (0 : Int32) [] (.int (0 : Int32)) := (Arv.new A99 (by decide)).pad (pad_rep [] (.int (0 : Int32)) 0)
          show Go p.tables e below P (T99.setTop (mkF m 146 #[lI p0, lI p1, lI p2, lI p3, lI p4, lI (p0 &&& (3 : Int32)), lR jb, lI (((p0.toUInt32 >>> ((2 : Int32) &&& 31).toUInt32).toInt32) &&& (7 : Int32)), lI (p1 &&& (3 : Int32)), lR b72, lU, lU, lU, lU] [(.ref b99), (.ref b93), (.ref b93)]))
          have c106 := (A93.ext E99)
          have c107 := (F97.ext E99)
          have c108 := (F98.ext E99)
          have c109 := (c100.ext E99)
          have c110 := (c101.ext E99)
          have c111 := (c102.ext E99)
          obtain ⟨_, _, ⟨T105, L105, k105, n105⟩, -, X105, hS105, hg105, ⟨Lc105, hQ105, l105, y105, z105, hCR105⟩, st105⟩ := X99.specialBackS hx (y := (⟨"java/lang/String", "<init>", "([C)V"⟩ : MethodName)) rfl hownj1 (mvT hZj1 (ow hw 95 rfl)) (mvT hZj1 (ow hw 96 rfl)) (mvT hZj1 (ow hw 97 rfl)) (by decide) (backOfSH (W := 1) (rm_emp1 l Z a0 hw [] w_N S_N X_N w_K S_K X_K w_V k_V S_V X_V V_V w_NS F_NS X_NS I_NS_coder w_NB k_NB F_NB V_NB w_KS F_KS X_KS I_KS_coder w_KB k_KB F_KB V_KB w_OE S_OE X_OE I_OE_value g_CS S_CS nz_CS g_SF S_SF r_SF b93 b99 k99 h99 n0 O99 c106 c107 c108 g_b93 V99) hZj1 (ow hw 97 rfl) (ow hw 1 rfl) (by decide) (by decide) hEL CR99.1) (g := (mkF m 146 #[.val (.int p0), .val (.int p1), .val (.int p2), .val (.int p3), .val (.int p4), .val (.int (p0 &&& (3 : Int32))), .val (.ref jb), .val (.int (((p0.toUInt32 >>> ((2 : Int32) &&& 31).toUInt32).toInt32) &&& (7 : Int32))), .val (.int (p1 &&& (3 : Int32))), .val (.ref b72), .unset, .unset, .unset, .unset] [(.ref b99), (.ref b93), (.ref b93)])) rfl (by rw [hml]; rfl) (Steps.refl _) (a := b93) (argsL := [(.ref b99)]) (rest := [(.ref b93)]) (lenOf own_pd13 rfl) rfl (by show 2 * 0 + _ ≤ _; exact Nat.le_of_eq rfl) (hb hby at_146) (fun _ _ => ⟨rfl, e99, (by decide : 5 + 4 ≤ _), (by decide : 76 + 8 ≤ _)⟩)
          dsimp only [Pt.U, Pt.locs, Pt.cells, Pt.slots] at X105 l105 y105 z105 st105 hQ105 hS105 hg105 hCR105
          subst y105 z105
          refine Go.tr st105 ?_
          obtain ⟨XX105, hSS105, hZ105, hown105⟩ := rebS hSj1 (by rw [e99]; exact (Nat.le_trans (Nat.le_trans (Nat.le_trans (Nat.le_trans hkj1 E72.1) K73q.1) E93.1) E99.1)) X105 hS105 hg105 hZj1 hownj1
          obtain ⟨vb_112, kb_113, rfl, N105q, K105q, q105_0, q105_1, q105_2, q105_3⟩ := hQ105
          have N105 : Fr n0 L105 := by rw [l105]; exact Fr.app N73 N105q
          have sf114 := hCR105.safe c111.lt sf103
          have sf115 := hCR105.safe c106.lt sf104
          have sf116 := hCR105.safe V99.lt SF_b99
          have CR105 := CR99.trans hCR105
          have O105 := O99.keep K105q (allS g_b93 all0)
          have K105 : Keep h0 T105.heap [] := K99.trans K105q (allS (Or.inr sz_b93) all0)
          show Go p.tables e below P (T105.setTop (mkF m 149 #[lI p0, lI p1, lI p2, lI p3, lI p4, lI (p0 &&& (3 : Int32)), lR jb, lI (((p0.toUInt32 >>> ((2 : Int32) &&& 31).toUInt32).toInt32) &&& (7 : Int32)), lI (p1 &&& (3 : Int32)), lR b72, lU, lU, lU, lU] [(.ref b93)]))
          refine Go.st (fun _ => XS.astore XX105.here hx rfl (hb hby at_149) rfl rfl (l' := #[.val (.int p0), .val (.int p1), .val (.int p2), .val (.int p3), .val (.int p4), .val (.int (p0 &&& (3 : Int32))), .val (.ref jb), .val (.int (((p0.toUInt32 >>> ((2 : Int32) &&& 31).toUInt32).toInt32) &&& (7 : Int32))), .val (.int (p1 &&& (3 : Int32))), .val (.ref b72), .val (.ref b93), .unset, .unset, .unset]) rfl) ?_
          show Go p.tables e below P (T105.setTop (mkF m 151 #[lI p0, lI p1, lI p2, lI p3, lI p4, lI (p0 &&& (3 : Int32)), lR jb, lI (((p0.toUInt32 >>> ((2 : Int32) &&& 31).toUInt32).toInt32) &&& (7 : Int32)), lI (p1 &&& (3 : Int32)), lR b72, lR b93, lU, lU, lU] []))
          refine Go.st (fun _ => XS.goto XX105.here hx rfl (pc0 := 151) (pc' := 165) rfl (hb hby at_151) (by decide) (by decide)) ?_
          show Go p.tables e below P (T105.setTop (mkF m 165 #[lI p0, lI p1, lI p2, lI p3, lI p4, lI (p0 &&& (3 : Int32)), lR jb, lI (((p0.toUInt32 >>> ((2 : Int32) &&& 31).toUInt32).toInt32) &&& (7 : Int32)), lI (p1 &&& (3 : Int32)), lR b72, lR b93, lU, lU, lU] []))
          exact J2 T105 T105.heap _ _ _ (XX105.more (by decide) (by decide)) rfl K105 O105 N105 hSS105 (Nat.le_refl _) hZ105 hown105 CR105  b72 (.ref b93) rfl (Or.inr ⟨_, _, _, ([] : List Int32), rfl, q105_0, q105_1, q105_2, own_arvN rfl q105_3, (by decide), (Nat.le_of_ble_eq_true rfl)⟩)
        · skip
          refine Go.st (fun _ => XS.icmpYes X73.here hx rfl (pc0 := 136) (pc' := 154) rfl (hb hby at_136) rfl (feq hc92).2 (by decide) (by decide)) ?_
          show Go p.tables e below P (T73.setTop (mkF m 154 #[lI p0, lI p1, lI p2, lI p3, lI p4, lI (p0 &&& (3 : Int32)), lR jb, lI (((p0.toUInt32 >>> ((2 : Int32) &&& 31).toUInt32).toInt32) &&& (7 : Int32)), lI (p1 &&& (3 : Int32)), lR b72, lU, lU, lU, lU] []))
          have c118 := (c74.keep K73q)
          have c119 := (c77.keep K73q (ninS (Nat.ne_of_lt (Nat.lt_of_lt_of_le hAb.lt (Nat.le_of_eq g72.symm))) nin0))
          obtain ⟨T117, h117, X117, e117, E117, A117, D117, -, st117⟩ := newO X73 hx hZj1 hownj1 (ow hw 94 rfl) (ow hw 2 rfl) (ow hw 1 rfl) rfl (g := (mkF m 154 #[.val (.int p0), .val (.int p1), .val (.int p2), .val (.int p3), .val (.int p4), .val (.int (p0 &&& (3 : Int32))), .val (.ref jb), .val (.int (((p0.toUInt32 >>> ((2 : Int32) &&& 31).toUInt32).toInt32) &&& (7 : Int32))), .val (.int (p1 &&& (3 : Int32))), .val (.ref b72), .unset, .unset, .unset, .unset] [])) rfl (hb hby at_154) (by decide) (by decide)
          obtain ⟨b117, g117⟩ : ∃ z, z = T73.heap.size := ⟨_, rfl⟩
          rw [← g117] at A117 D117 st117
          refine Go.st st117 ?_
          have g_b117 : n0 ≤ b117 := Nat.le_trans (own_oldsz O73) (Nat.le_of_eq g117.symm)
          have sz_b117 : h0.size ≤ b117 := Nat.le_trans K73.1 (Nat.le_of_eq g117.symm)
          have K117 : Keep h0 h117 [] := K73.ext E117
          have O117 := O73.ext E117
          have sf120 := Safe.ext E117 CR73.1 sf90
          have SF_b117 : Safe Z consts_1 vmj1 h117 b117 := Safe.ext E117 CR73.1 (Safe.new (Nat.le_of_eq g117.symm))
          have CR117 := CR73.trans (CHr.ext E117 CR73.1)
          have F121 : Fld Z h117 b117 "java/lang/String" "value" "[B" .null := D117 (Or.inr (ow hw 4 rfl)) (ty := (.array .byte)) (by decide)
          have F122 : Fld Z h117 b117 "java/lang/String" "coder" "B" (.int (0 : Int32)) := D117 (Or.inr (ow hw 5 rfl)) (ty := .byte) (by decide)
          show Go p.tables e below P (T117.setTop (mkF m 157 #[lI p0, lI p1, lI p2, lI p3, lI p4, lI (p0 &&& (3 : Int32)), lR jb, lI (((p0.toUInt32 >>> ((2 : Int32) &&& 31).toUInt32).toInt32) &&& (7 : Int32)), lI (p1 &&& (3 : Int32)), lR b72, lU, lU, lU, lU] [(.ref b117)]))
          refine Go.st (fun _ => XS.dup X117.here hx rfl (hb hby at_157) rfl rfl) ?_
          show Go p.tables e below P (T117.setTop (mkF m 158 #[lI p0, lI p1, lI p2, lI p3, lI p4, lI (p0 &&& (3 : Int32)), lR jb, lI (((p0.toUInt32 >>> ((2 : Int32) &&& 31).toUInt32).toInt32) &&& (7 : Int32)), lI (p1 &&& (3 : Int32)), lR b72, lU, lU, lU, lU] [(.ref b117), (.ref b117)]))
          refine Go.st (fun _ => XS.aload X117.here hx rfl (hb hby at_158) rfl rfl) ?_
          show Go p.tables e below P (T117.setTop (mkF m 160 #[lI p0, lI p1, lI p2, lI p3, lI p4, lI (p0 &&& (3 : Int32)), lR jb, lI (((p0.toUInt32 >>> ((2 : Int32) &&& 31).toUInt32).toInt32) &&& (7 : Int32)), lI (p1 &&& (3 : Int32)), lR b72, lU, lU, lU, lU] [(.ref b72), (.ref b117), (.ref b117)]))
          have c124 := (q73_0.ext E117)
          have hp123 : ∀ c ∈ ([c0_78, c1_79, c2_80, c3_81, c4_82, c5_83, c6_84, c7_85, c8_86, c9_87, c10_88, c11_89] : List Int32), ¬ c < 0 ∧ ¬ (255 : Int32) < c := by
            intro c hc
            simp only [List.mem_cons, List.not_mem_nil, or_false] at hc
            rcases hc with rfl | rfl | rfl | rfl | rfl | rfl | rfl | rfl | rfl | rfl | rfl | rfl
            · exact q73_1
            · exact q73_2
            · exact q73_3
            · exact q73_4
            · exact q73_5
            · exact q73_6
            · exact q73_7
            · exact q73_8
            · exact q73_9
            · exact q73_10
            · exact q73_11
            · exact q73_12
          have c125 := (c118.ext E117)
          have c126 := (c119.ext E117)
          obtain ⟨_, _, ⟨T123, L123, k123, n123⟩, -, X123, ⟨Lc123, hQ123, l123, y123, z123⟩, st123⟩ := X117.specialBack hx (y := (⟨"java/lang/String", "<init>", "([C)V"⟩ : MethodName)) rfl hownj1 (mvT hZj1 (ow hw 95 rfl)) (mvT hZj1 (ow hw 96 rfl)) (mvT hZj1 (ow hw 97 rfl)) (by decide) (StrChars.Road.backV (W := 1) hZj1 (fun d hd => hw d (own_wNew d hd)) (kI := 4) (ow hw 2 rfl) (cs := ([c0_78, c1_79, c2_80, c3_81, c4_82, c5_83, c6_84, c7_85, c8_86, c9_87, c10_88, c11_89] : List Int32)) (bs := (([c0_78, c1_79, c2_80, c3_81, c4_82, c5_83, c6_84, c7_85, c8_86, c9_87, c10_88, c11_89] : List Int32)).map (fun c => c.toInt8.toInt32)) (n := 12) g_b117 (own_oldsz O117) A117 F121 F122 c124 (S_CS.ext O117.2) nz_CS rfl rfl (by decide) (by decide) hp123 rfl (by decide) (by decide)) (g := (mkF m 160 #[.val (.int p0), .val (.int p1), .val (.int p2), .val (.int p3), .val (.int p4), .val (.int (p0 &&& (3 : Int32))), .val (.ref jb), .val (.int (((p0.toUInt32 >>> ((2 : Int32) &&& 31).toUInt32).toInt32) &&& (7 : Int32))), .val (.int (p1 &&& (3 : Int32))), .val (.ref b72), .unset, .unset, .unset, .unset] [(.ref b72), (.ref b117), (.ref b117)])) rfl (by rw [hml]; rfl) (Steps.refl _) (a := b117) (argsL := [(.ref b72)]) (rest := [(.ref b117)]) (lenOf own_pd13 rfl) rfl (by show 2 * 0 + _ ≤ _; exact Nat.le_of_eq rfl) (hb hby at_160) (fun _ _ => ⟨rfl, e117, (by decide : 4 + 1 ≤ _), (by decide : 76 + 12 ≤ _)⟩)
          dsimp only [Pt.U, Pt.locs, Pt.cells, Pt.slots] at X123 l123 y123 z123 st123 hQ123
          subst y123 z123
          refine Go.tr st123 ?_
          obtain ⟨rfl, N123q, K123q, E123x, C123x, t123, kb123, gt123, szt123, net123, V123x, A123x⟩ := hQ123
          have N123 : Fr n0 L123 := by rw [l123]; exact Fr.app N73 N123q
          have O123 := O117.keep K123q (allS g_b117 all0)
          have K123 : Keep h0 T123.heap [] := K117.trans K123q (allS (Or.inr sz_b117) all0)
          have sf127 := Safe.keep K123q (sfS SF_b117 sf0) CR117.1 sf120
          have sf128 := Safe.keep K123q (sfS SF_b117 sf0) CR117.1 SF_b117
          have CR123 := CR117.trans (CHr.keep K123q (sfS SF_b117 sf0) CR117.1)
          have sz_t123 : h0.size ≤ t123 := Nat.le_trans K117.1 szt123
          show Go p.tables e below P (T123.setTop (mkF m 163 #[lI p0, lI p1, lI p2, lI p3, lI p4, lI (p0 &&& (3 : Int32)), lR jb, lI (((p0.toUInt32 >>> ((2 : Int32) &&& 31).toUInt32).toInt32) &&& (7 : Int32)), lI (p1 &&& (3 : Int32)), lR b72, lU, lU, lU, lU] [(.ref b117)]))
          refine Go.st (fun _ => XS.astore X123.here hx rfl (hb hby at_163) rfl rfl (l' := #[.val (.int p0), .val (.int p1), .val (.int p2), .val (.int p3), .val (.int p4), .val (.int (p0 &&& (3 : Int32))), .val (.ref jb), .val (.int (((p0.toUInt32 >>> ((2 : Int32) &&& 31).toUInt32).toInt32) &&& (7 : Int32))), .val (.int (p1 &&& (3 : Int32))), .val (.ref b72), .val (.ref b117), .unset, .unset, .unset]) rfl) ?_
          show Go p.tables e below P (T123.setTop (mkF m 165 #[lI p0, lI p1, lI p2, lI p3, lI p4, lI (p0 &&& (3 : Int32)), lR jb, lI (((p0.toUInt32 >>> ((2 : Int32) &&& 31).toUInt32).toInt32) &&& (7 : Int32)), lI (p1 &&& (3 : Int32)), lR b72, lR b117, lU, lU, lU] []))
          exact J2 T123 T123.heap _ _ _ (X123.more (by decide) (by decide)) rfl K123 O123 N123 hSj1 (Nat.le_trans (Nat.le_trans (Nat.le_trans (Nat.le_trans hkj1 E72.1) K73q.1) E117.1) K123q.1) hZj1 hownj1 CR123  b72 (.ref b117) rfl (Or.inr ⟨_, _, _, ([c0_78, c1_79, c2_80, c3_81, c4_82, c5_83, c6_84, c7_85, c8_86, c9_87, c10_88, c11_89] : List Int32), rfl, E123x, C123x, V123x, own_arvN rfl A123x, hp123, (Nat.le_of_ble_eq_true rfl)⟩)
    · skip
      refine Go.st (fun _ => XS.ifYes Xj1.here hx rfl (pc0 := 56) (pc' := 66) rfl (hb hby at_56) rfl ((if0 _ _).trans (feq hc71).2) (by decide) (by decide)) ?_
      show Go p.tables e below P (Tj1.setTop (mkF m 66 #[lI p0, lI p1, lI p2, lI p3, lI p4, lI (p0 &&& (3 : Int32)), lR jb, lI (((p0.toUInt32 >>> ((2 : Int32) &&& 31).toUInt32).toInt32) &&& (7 : Int32)), lI (p1 &&& (3 : Int32)), lU, lU, lU, lU, lU] []))
      refine Go.st (fun _ => XS.iload Xj1.here hx rfl (hb hby at_66) rfl) ?_
      show Go p.tables e below P (Tj1.setTop (mkF m 68 #[lI p0, lI p1, lI p2, lI p3, lI p4, lI (p0 &&& (3 : Int32)), lR jb, lI (((p0.toUInt32 >>> ((2 : Int32) &&& 31).toUInt32).toInt32) &&& (7 : Int32)), lI (p1 &&& (3 : Int32)), lU, lU, lU, lU, lU] [(.int (p1 &&& (3 : Int32)))]))
      refine Go.st (fun _ => XS.iconst Xj1.here hx rfl (hb hby at_68)) ?_
      show Go p.tables e below P (Tj1.setTop (mkF m 69 #[lI p0, lI p1, lI p2, lI p3, lI p4, lI (p0 &&& (3 : Int32)), lR jb, lI (((p0.toUInt32 >>> ((2 : Int32) &&& 31).toUInt32).toInt32) &&& (7 : Int32)), lI (p1 &&& (3 : Int32)), lU, lU, lU, lU, lU] [(.int (1 : Int32)), (.int (p1 &&& (3 : Int32)))]))
      by_cases hc129 : (p1 &&& (3 : Int32)) = (1 : Int32)
      · skip
        refine Go.st (fun _ => XS.icmpNo Xj1.here hx rfl (hb hby at_69) rfl (teq hc129).2) ?_
        show Go p.tables e below P (Tj1.setTop (mkF m 72 #[lI p0, lI p1, lI p2, lI p3, lI p4, lI (p0 &&& (3 : Int32)), lR jb, lI (((p0.toUInt32 >>> ((2 : Int32) &&& 31).toUInt32).toInt32) &&& (7 : Int32)), lI (p1 &&& (3 : Int32)), lU, lU, lU, lU, lU] []))
        refine Go.st (fun _ => XS.bipush Xj1.here hx rfl (hb hby at_72)) ?_
        show Go p.tables e below P (Tj1.setTop (mkF m 74 #[lI p0, lI p1, lI p2, lI p3, lI p4, lI (p0 &&& (3 : Int32)), lR jb, lI (((p0.toUInt32 >>> ((2 : Int32) &&& 31).toUInt32).toInt32) &&& (7 : Int32)), lI (p1 &&& (3 : Int32)), lU, lU, lU, lU, lU] [(.int (13 : Int32))]))
        obtain ⟨T130, h130, k130, X130, e130, E130, A130, st130⟩ := newP Xj1 hx hZj1 (ow hw 8 rfl) ej1 (g := (mkF m 74 #[.val (.int p0), .val (.int p1), .val (.int p2), .val (.int p3), .val (.int p4), .val (.int (p0 &&& (3 : Int32))), .val (.ref jb), .val (.int (((p0.toUInt32 >>> ((2 : Int32) &&& 31).toUInt32).toInt32) &&& (7 : Int32))), .val (.int (p1 &&& (3 : Int32))), .unset, .unset, .unset, .unset, .unset] [(.int (13 : Int32))])) rfl (hb hby at_74) rfl (by decide) (cap := 13) (by decide) (by decide) (by decide) (by decide)
        obtain ⟨b130, g130⟩ : ∃ z, z = hj1.size := ⟨_, rfl⟩
        rw [← g130] at A130 st130
        refine Go.st st130 ?_
        have g_b130 : n0 ≤ b130 := Nat.le_trans (own_oldsz Oj1) (Nat.le_of_eq g130.symm)
        have sz_b130 : h0.size ≤ b130 := Nat.le_trans Kj1.1 (Nat.le_of_eq g130.symm)
        have K130 : Keep h0 h130 [] := Kj1.ext E130
        have O130 := Oj1.ext E130
        have SF_b130 : Safe Z consts_1 vmj1 h130 b130 := Safe.ext E130 CRj1.1 (Safe.new (Nat.le_of_eq g130.symm))
        have CR130 := CRj1.trans (CHr.ext E130 CRj1.1)
        have V130 : Arv Z h130 b130 k130 .char (13 : Int32) [(.int (0 : Int32)), (.int (0 : Int32)), (.int (0 : Int32)), (.int (0 : Int32)), (.int (0 : Int32)), (.int (0 : Int32)), (.int (0 : Int32)), (.int (0 : Int32)), (.int (0 : Int32)), (.int (0 : Int32)), (.int (0 : Int32)), (.int (0 : Int32)), (.int (0 : Int32))] (.int (0 : Int32)) := (Arv.new A130 (by decide)).pad (pad_rep [] (.int (0 : Int32)) 13)
        show Go p.tables e below P (T130.setTop (mkF m 76 #[lI p0, lI p1, lI p2, lI p3, lI p4, lI (p0 &&& (3 : Int32)), lR jb, lI (((p0.toUInt32 >>> ((2 : Int32) &&& 31).toUInt32).toInt32) &&& (7 : Int32)), lI (p1 &&& (3 : Int32)), lU, lU, lU, lU, lU] [(.ref b130)]))
        refine Go.st (fun _ => XS.goto X130.here hx rfl (pc0 := 76) (pc' := 96) rfl (hb hby at_76) (by decide) (by decide)) ?_
        show Go p.tables e below P (T130.setTop (mkF m 96 #[lI p0, lI p1, lI p2, lI p3, lI p4, lI (p0 &&& (3 : Int32)), lR jb, lI (((p0.toUInt32 >>> ((2 : Int32) &&& 31).toUInt32).toInt32) &&& (7 : Int32)), lI (p1 &&& (3 : Int32)), lU, lU, lU, lU, lU] [(.ref b130)]))
        refine Go.st (fun _ => XS.astore X130.here hx rfl (hb hby at_96) rfl rfl (l' := #[.val (.int p0), .val (.int p1), .val (.int p2), .val (.int p3), .val (.int p4), .val (.int (p0 &&& (3 : Int32))), .val (.ref jb), .val (.int (((p0.toUInt32 >>> ((2 : Int32) &&& 31).toUInt32).toInt32) &&& (7 : Int32))), .val (.int (p1 &&& (3 : Int32))), .val (.ref b130), .unset, .unset, .unset, .unset]) rfl) ?_
        show Go p.tables e below P (T130.setTop (mkF m 98 #[lI p0, lI p1, lI p2, lI p3, lI p4, lI (p0 &&& (3 : Int32)), lR jb, lI (((p0.toUInt32 >>> ((2 : Int32) &&& 31).toUInt32).toInt32) &&& (7 : Int32)), lI (p1 &&& (3 : Int32)), lR b130, lU, lU, lU, lU] []))
        refine Go.st (fun _ => XS.aload X130.here hx rfl (hb hby at_98) rfl rfl) ?_
        show Go p.tables e below P (T130.setTop (mkF m 100 #[lI p0, lI p1, lI p2, lI p3, lI p4, lI (p0 &&& (3 : Int32)), lR jb, lI (((p0.toUInt32 >>> ((2 : Int32) &&& 31).toUInt32).toInt32) &&& (7 : Int32)), lI (p1 &&& (3 : Int32)), lR b130, lU, lU, lU, lU] [(.ref b130)]))
        refine Go.st (fun _ => XS.aload X130.here hx rfl (hb hby at_100) rfl rfl) ?_
        show Go p.tables e below P (T130.setTop (mkF m 102 #[lI p0, lI p1, lI p2, lI p3, lI p4, lI (p0 &&& (3 : Int32)), lR jb, lI (((p0.toUInt32 >>> ((2 : Int32) &&& 31).toUInt32).toInt32) &&& (7 : Int32)), lI (p1 &&& (3 : Int32)), lR b130, lU, lU, lU, lU] [(.ref jb), (.ref b130)]))
        refine Go.st (fun _ => XS.iloadN X130.here hx rfl (hb hby at_102) rfl) ?_
        show Go p.tables e below P (T130.setTop (mkF m 103 #[lI p0, lI p1, lI p2, lI p3, lI p4, lI (p0 &&& (3 : Int32)), lR jb, lI (((p0.toUInt32 >>> ((2 : Int32) &&& 31).toUInt32).toInt32) &&& (7 : Int32)), lI (p1 &&& (3 : Int32)), lR b130, lU, lU, lU, lU] [(.int p2), (.ref jb), (.ref b130)]))
        refine Go.st (fun _ => XS.bipush X130.here hx rfl (hb hby at_103)) ?_
        show Go p.tables e below P (T130.setTop (mkF m 105 #[lI p0, lI p1, lI p2, lI p3, lI p4, lI (p0 &&& (3 : Int32)), lR jb, lI (((p0.toUInt32 >>> ((2 : Int32) &&& 31).toUInt32).toInt32) &&& (7 : Int32)), lI (p1 &&& (3 : Int32)), lR b130, lU, lU, lU, lU] [(.int (15 : Int32)), (.int p2), (.ref jb), (.ref b130)]))
        refine Go.st (fun _ => XS.iand X130.here hx rfl (hb hby at_105) rfl) ?_
        show Go p.tables e below P (T130.setTop (mkF m 106 #[lI p0, lI p1, lI p2, lI p3, lI p4, lI (p0 &&& (3 : Int32)), lR jb, lI (((p0.toUInt32 >>> ((2 : Int32) &&& 31).toUInt32).toInt32) &&& (7 : Int32)), lI (p1 &&& (3 : Int32)), lR b130, lU, lU, lU, lU] [(.int (p2 &&& (15 : Int32))), (.ref jb), (.ref b130)]))
        refine Go.st (fun _ => XS.iloadN X130.here hx rfl (hb hby at_106) rfl) ?_
        show Go p.tables e below P (T130.setTop (mkF m 107 #[lI p0, lI p1, lI p2, lI p3, lI p4, lI (p0 &&& (3 : Int32)), lR jb, lI (((p0.toUInt32 >>> ((2 : Int32) &&& 31).toUInt32).toInt32) &&& (7 : Int32)), lI (p1 &&& (3 : Int32)), lR b130, lU, lU, lU, lU] [(.int p3), (.int (p2 &&& (15 : Int32))), (.ref jb), (.ref b130)]))
        refine Go.st (fun _ => XS.sipush X130.here hx rfl (hb hby at_107)) ?_
        show Go p.tables e below P (T130.setTop (mkF m 110 #[lI p0, lI p1, lI p2, lI p3, lI p4, lI (p0 &&& (3 : Int32)), lR jb, lI (((p0.toUInt32 >>> ((2 : Int32) &&& 31).toUInt32).toInt32) &&& (7 : Int32)), lI (p1 &&& (3 : Int32)), lR b130, lU, lU, lU, lU] [(.int (255 : Int32)), (.int p3), (.int (p2 &&& (15 : Int32))), (.ref jb), (.ref b130)]))
        refine Go.st (fun _ => XS.iand X130.here hx rfl (hb hby at_110) rfl) ?_
        show Go p.tables e below P (T130.setTop (mkF m 111 #[lI p0, lI p1, lI p2, lI p3, lI p4, lI (p0 &&& (3 : Int32)), lR jb, lI (((p0.toUInt32 >>> ((2 : Int32) &&& 31).toUInt32).toInt32) &&& (7 : Int32)), lI (p1 &&& (3 : Int32)), lR b130, lU, lU, lU, lU] [(.int (p3 &&& (255 : Int32))), (.int (p2 &&& (15 : Int32))), (.ref jb), (.ref b130)]))
        refine Go.st (fun _ => XS.i2c X130.here hx rfl (hb hby at_111) rfl) ?_
        show Go p.tables e below P (T130.setTop (mkF m 112 #[lI p0, lI p1, lI p2, lI p3, lI p4, lI (p0 &&& (3 : Int32)), lR jb, lI (((p0.toUInt32 >>> ((2 : Int32) &&& 31).toUInt32).toInt32) &&& (7 : Int32)), lI (p1 &&& (3 : Int32)), lR b130, lU, lU, lU, lU] [(.int ((p3 &&& (255 : Int32)).toUInt32.toUInt16.toUInt32.toInt32)), (.int (p2 &&& (15 : Int32))), (.ref jb), (.ref b130)]))
        rw [i2c_mask]
        show Go p.tables e below P (T130.setTop (mkF m 112 #[lI p0, lI p1, lI p2, lI p3, lI p4, lI (p0 &&& (3 : Int32)), lR jb, lI (((p0.toUInt32 >>> ((2 : Int32) &&& 31).toUInt32).toInt32) &&& (7 : Int32)), lI (p1 &&& (3 : Int32)), lR b130, lU, lU, lU, lU] [(.int (p3 &&& (255 : Int32))), (.int (p2 &&& (15 : Int32))), (.ref jb), (.ref b130)]))
        refine Go.st (fun _ => XS.iload X130.here hx rfl (hb hby at_112) rfl) ?_
        show Go p.tables e below P (T130.setTop (mkF m 114 #[lI p0, lI p1, lI p2, lI p3, lI p4, lI (p0 &&& (3 : Int32)), lR jb, lI (((p0.toUInt32 >>> ((2 : Int32) &&& 31).toUInt32).toInt32) &&& (7 : Int32)), lI (p1 &&& (3 : Int32)), lR b130, lU, lU, lU, lU] [(.int p4), (.int (p3 &&& (255 : Int32))), (.int (p2 &&& (15 : Int32))), (.ref jb), (.ref b130)]))
        refine Go.st (fun _ => XS.sipush X130.here hx rfl (hb hby at_114)) ?_
        show Go p.tables e below P (T130.setTop (mkF m 117 #[lI p0, lI p1, lI p2, lI p3, lI p4, lI (p0 &&& (3 : Int32)), lR jb, lI (((p0.toUInt32 >>> ((2 : Int32) &&& 31).toUInt32).toInt32) &&& (7 : Int32)), lI (p1 &&& (3 : Int32)), lR b130, lU, lU, lU, lU] [(.int (255 : Int32)), (.int p4), (.int (p3 &&& (255 : Int32))), (.int (p2 &&& (15 : Int32))), (.ref jb), (.ref b130)]))
        refine Go.st (fun _ => XS.iand X130.here hx rfl (hb hby at_117) rfl) ?_
        show Go p.tables e below P (T130.setTop (mkF m 118 #[lI p0, lI p1, lI p2, lI p3, lI p4, lI (p0 &&& (3 : Int32)), lR jb, lI (((p0.toUInt32 >>> ((2 : Int32) &&& 31).toUInt32).toInt32) &&& (7 : Int32)), lI (p1 &&& (3 : Int32)), lR b130, lU, lU, lU, lU] [(.int (p4 &&& (255 : Int32))), (.int (p3 &&& (255 : Int32))), (.int (p2 &&& (15 : Int32))), (.ref jb), (.ref b130)]))
        refine Go.st (fun _ => XS.i2c X130.here hx rfl (hb hby at_118) rfl) ?_
        show Go p.tables e below P (T130.setTop (mkF m 119 #[lI p0, lI p1, lI p2, lI p3, lI p4, lI (p0 &&& (3 : Int32)), lR jb, lI (((p0.toUInt32 >>> ((2 : Int32) &&& 31).toUInt32).toInt32) &&& (7 : Int32)), lI (p1 &&& (3 : Int32)), lR b130, lU, lU, lU, lU] [(.int ((p4 &&& (255 : Int32)).toUInt32.toUInt16.toUInt32.toInt32)), (.int (p3 &&& (255 : Int32))), (.int (p2 &&& (15 : Int32))), (.ref jb), (.ref b130)]))
        rw [i2c_mask]
        show Go p.tables e below P (T130.setTop (mkF m 119 #[lI p0, lI p1, lI p2, lI p3, lI p4, lI (p0 &&& (3 : Int32)), lR jb, lI (((p0.toUInt32 >>> ((2 : Int32) &&& 31).toUInt32).toInt32) &&& (7 : Int32)), lI (p1 &&& (3 : Int32)), lR b130, lU, lU, lU, lU] [(.int (p4 &&& (255 : Int32))), (.int (p3 &&& (255 : Int32))), (.int (p2 &&& (15 : Int32))), (.ref jb), (.ref b130)]))
        have c132 := (hEb.ext E130)
        have c133 := (hCb.ext E130)
        have c134 := (hVb.ext E130)
        have c135 := (hAb.ext E130)
        obtain ⟨_, _, ⟨T131, L131, k131, n131⟩, -, X131, ⟨Lc131, hQ131, l131, y131, z131⟩, st131⟩ := Jvm.LawKit.callS X130 hx (y := (⟨"com/example/vacuum/vacuum/model/MethodOfWireNamePinLaw", "fillChars", "([CLjava/lang/String;ICC)V"⟩ : MethodName)) hownj1 (mvT hZj1 (ow hw 9 rfl)) (mvT hZj1 (ow hw 10 rfl)) (mvT hZj1 (ow hw 11 rfl)) (mvT hZj1 (ow hw 12 rfl)) (by decide) (backOf (W := 0) (rm_fc13 l Z a0 hw [] w_N S_N X_N w_K S_K X_K w_V k_V S_V X_V V_V w_NS F_NS X_NS I_NS_coder w_NB k_NB F_NB V_NB w_KS F_KS X_KS I_KS_coder w_KB k_KB F_KB V_KB w_OE S_OE X_OE I_OE_value g_CS S_CS nz_CS g_SF S_SF r_SF b130 jb (p2 &&& (15 : Int32)) (p3 &&& (255 : Int32)) (p4 &&& (255 : Int32)) k130 jbc jbv jbk h130 n0 O130 V130 g_b130 c132 c133 c134 c135 hpcb hleb (Nat.ne_of_lt (Nat.lt_of_lt_of_le hAb.lt (Nat.le_of_eq g130.symm))) (own_and255 _) (own_and255 _)) hZj1 (ow hw 12 rfl) (ow hw 11 rfl) (by decide) (by decide)) (g := (mkF m 119 #[.val (.int p0), .val (.int p1), .val (.int p2), .val (.int p3), .val (.int p4), .val (.int (p0 &&& (3 : Int32))), .val (.ref jb), .val (.int (((p0.toUInt32 >>> ((2 : Int32) &&& 31).toUInt32).toInt32) &&& (7 : Int32))), .val (.int (p1 &&& (3 : Int32))), .val (.ref b130), .unset, .unset, .unset, .unset] [(.int (p4 &&& (255 : Int32))), (.int (p3 &&& (255 : Int32))), (.int (p2 &&& (15 : Int32))), (.ref jb), (.ref b130)])) rfl (by rw [hml]; rfl) (argsL := [(.ref b130), (.ref jb), (.int (p2 &&& (15 : Int32))), (.int (p3 &&& (255 : Int32))), (.int (p4 &&& (255 : Int32)))]) (rest := []) (lenOf own_pd12 rfl) rfl (by show 2 * 0 + _ ≤ _; exact Nat.le_of_eq rfl) (hb hby at_119) (fun _ _ => ⟨rfl, e130, (by decide : 3 + 0 ≤ _), (by decide : 73 + 0 ≤ _)⟩)
        dsimp only [Pt.U, Pt.locs, Pt.cells, Pt.slots] at X131 l131 y131 z131 st131 hQ131
        subst y131 z131
        refine Go.st st131 ?_
        obtain ⟨c0_136, c1_137, c2_138, c3_139, c4_140, c5_141, c6_142, c7_143, c8_144, c9_145, c10_146, c11_147, c12_148, rfl, N131q, K131q, q131_0, q131_1, q131_2, q131_3, q131_4, q131_5, q131_6, q131_7, q131_8, q131_9, q131_10, q131_11, q131_12, q131_13⟩ := hQ131
        have N131 : Fr n0 L131 := by rw [l131]; exact Fr.app Nj1 N131q
        have O131 := O130.keep K131q (allS g_b130 all0)
        have K131 : Keep h0 T131.heap [] := K130.trans K131q (allS (Or.inr sz_b130) all0)
        have sf149 := Safe.keep K131q (sfS SF_b130 sf0) CR130.1 SF_b130
        have CR131 := CR130.trans (CHr.keep K131q (sfS SF_b130 sf0) CR130.1)
        show Go p.tables e below P (T131.setTop (mkF m 122 #[lI p0, lI p1, lI p2, lI p3, lI p4, lI (p0 &&& (3 : Int32)), lR jb, lI (((p0.toUInt32 >>> ((2 : Int32) &&& 31).toUInt32).toInt32) &&& (7 : Int32)), lI (p1 &&& (3 : Int32)), lR b130, lU, lU, lU, lU] []))
        refine Go.st (fun _ => XS.iload X131.here hx rfl (hb hby at_122) rfl) ?_
        show Go p.tables e below P (T131.setTop (mkF m 124 #[lI p0, lI p1, lI p2, lI p3, lI p4, lI (p0 &&& (3 : Int32)), lR jb, lI (((p0.toUInt32 >>> ((2 : Int32) &&& 31).toUInt32).toInt32) &&& (7 : Int32)), lI (p1 &&& (3 : Int32)), lR b130, lU, lU, lU, lU] [(.int (((p0.toUInt32 >>> ((2 : Int32) &&& 31).toUInt32).toInt32) &&& (7 : Int32)))]))
        by_cases hc150 : (((p0.toUInt32 >>> ((2 : Int32) &&& 31).toUInt32).toInt32) &&& (7 : Int32)) = (0 : Int32)
        · skip
          refine Go.st (fun _ => XS.ifNo X131.here hx rfl (hb hby at_124) rfl ((if0 _ _).trans (teq hc150).2)) ?_
          show Go p.tables e below P (T131.setTop (mkF m 127 #[lI p0, lI p1, lI p2, lI p3, lI p4, lI (p0 &&& (3 : Int32)), lR jb, lI (((p0.toUInt32 >>> ((2 : Int32) &&& 31).toUInt32).toInt32) &&& (7 : Int32)), lI (p1 &&& (3 : Int32)), lR b130, lU, lU, lU, lU] []))
          refine Go.st (fun _ => XS.aconstNull X131.here hx rfl (hb hby at_127)) ?_
          show Go p.tables e below P (T131.setTop (mkF m 128 #[lI p0, lI p1, lI p2, lI p3, lI p4, lI (p0 &&& (3 : Int32)), lR jb, lI (((p0.toUInt32 >>> ((2 : Int32) &&& 31).toUInt32).toInt32) &&& (7 : Int32)), lI (p1 &&& (3 : Int32)), lR b130, lU, lU, lU, lU] [.null]))
          refine Go.st (fun _ => XS.astore X131.here hx rfl (hb hby at_128) rfl rfl (l' := #[.val (.int p0), .val (.int p1), .val (.int p2), .val (.int p3), .val (.int p4), .val (.int (p0 &&& (3 : Int32))), .val (.ref jb), .val (.int (((p0.toUInt32 >>> ((2 : Int32) &&& 31).toUInt32).toInt32) &&& (7 : Int32))), .val (.int (p1 &&& (3 : Int32))), .val (.ref b130), .val .null, .unset, .unset, .unset]) rfl) ?_
          show Go p.tables e below P (T131.setTop (mkF m 130 #[lI p0, lI p1, lI p2, lI p3, lI p4, lI (p0 &&& (3 : Int32)), lR jb, lI (((p0.toUInt32 >>> ((2 : Int32) &&& 31).toUInt32).toInt32) &&& (7 : Int32)), lI (p1 &&& (3 : Int32)), lR b130, lN, lU, lU, lU] []))
          refine Go.st (fun _ => XS.goto X131.here hx rfl (pc0 := 130) (pc' := 165) rfl (hb hby at_130) (by decide) (by decide)) ?_
          show Go p.tables e below P (T131.setTop (mkF m 165 #[lI p0, lI p1, lI p2, lI p3, lI p4, lI (p0 &&& (3 : Int32)), lR jb, lI (((p0.toUInt32 >>> ((2 : Int32) &&& 31).toUInt32).toInt32) &&& (7 : Int32)), lI (p1 &&& (3 : Int32)), lR b130, lN, lU, lU, lU] []))
          exact J2 T131 T131.heap _ _ _ (X131.more (by decide) (by decide)) rfl K131 O131 N131 hSj1 (Nat.le_trans (Nat.le_trans hkj1 E130.1) K131q.1) hZj1 hownj1 CR131  b130 .null rfl (Or.inl rfl)
        · skip
          refine Go.st (fun _ => XS.ifYes X131.here hx rfl (pc0 := 124) (pc' := 133) rfl (hb hby at_124) rfl ((if0 _ _).trans (feq hc150).2) (by decide) (by decide)) ?_
          show Go p.tables e below P (T131.setTop (mkF m 133 #[lI p0, lI p1, lI p2, lI p3, lI p4, lI (p0 &&& (3 : Int32)), lR jb, lI (((p0.toUInt32 >>> ((2 : Int32) &&& 31).toUInt32).toInt32) &&& (7 : Int32)), lI (p1 &&& (3 : Int32)), lR b130, lU, lU, lU, lU] []))
          refine Go.st (fun _ => XS.iload X131.here hx rfl (hb hby at_133) rfl) ?_
          show Go p.tables e below P (T131.setTop (mkF m 135 #[lI p0, lI p1, lI p2, lI p3, lI p4, lI (p0 &&& (3 : Int32)), lR jb, lI (((p0.toUInt32 >>> ((2 : Int32) &&& 31).toUInt32).toInt32) &&& (7 : Int32)), lI (p1 &&& (3 : Int32)), lR b130, lU, lU, lU, lU] [(.int (((p0.toUInt32 >>> ((2 : Int32) &&& 31).toUInt32).toInt32) &&& (7 : Int32)))]))
          refine Go.st (fun _ => XS.iconst X131.here hx rfl (hb hby at_135)) ?_
          show Go p.tables e below P (T131.setTop (mkF m 136 #[lI p0, lI p1, lI p2, lI p3, lI p4, lI (p0 &&& (3 : Int32)), lR jb, lI (((p0.toUInt32 >>> ((2 : Int32) &&& 31).toUInt32).toInt32) &&& (7 : Int32)), lI (p1 &&& (3 : Int32)), lR b130, lU, lU, lU, lU] [(.int (1 : Int32)), (.int (((p0.toUInt32 >>> ((2 : Int32) &&& 31).toUInt32).toInt32) &&& (7 : Int32)))]))
          by_cases hc151 : (((p0.toUInt32 >>> ((2 : Int32) &&& 31).toUInt32).toInt32) &&& (7 : Int32)) = (1 : Int32)
          · skip
            refine Go.st (fun _ => XS.icmpNo X131.here hx rfl (hb hby at_136) rfl (teq hc151).2) ?_
            show Go p.tables e below P (T131.setTop (mkF m 139 #[lI p0, lI p1, lI p2, lI p3, lI p4, lI (p0 &&& (3 : Int32)), lR jb, lI (((p0.toUInt32 >>> ((2 : Int32) &&& 31).toUInt32).toInt32) &&& (7 : Int32)), lI (p1 &&& (3 : Int32)), lR b130, lU, lU, lU, lU] []))
            have c153 := (c132.keep K131q)
            have c154 := (c135.keep K131q (ninS (Nat.ne_of_lt (Nat.lt_of_lt_of_le hAb.lt (Nat.le_of_eq g130.symm))) nin0))
            obtain ⟨T152, h152, X152, e152, E152, A152, D152, -, st152⟩ := newO X131 hx hZj1 hownj1 (ow hw 94 rfl) (ow hw 2 rfl) (ow hw 1 rfl) rfl (g := (mkF m 139 #[.val (.int p0), .val (.int p1), .val (.int p2), .val (.int p3), .val (.int p4), .val (.int (p0 &&& (3 : Int32))), .val (.ref jb), .val (.int (((p0.toUInt32 >>> ((2 : Int32) &&& 31).toUInt32).toInt32) &&& (7 : Int32))), .val (.int (p1 &&& (3 : Int32))), .val (.ref b130), .unset, .unset, .unset, .unset] [])) rfl (hb hby at_139) (by decide) (by decide)
            obtain ⟨b152, g152⟩ : ∃ z, z = T131.heap.size := ⟨_, rfl⟩
            rw [← g152] at A152 D152 st152
            refine Go.st st152 ?_
            have g_b152 : n0 ≤ b152 := Nat.le_trans (own_oldsz O131) (Nat.le_of_eq g152.symm)
            have sz_b152 : h0.size ≤ b152 := Nat.le_trans K131.1 (Nat.le_of_eq g152.symm)
            have K152 : Keep h0 h152 [] := K131.ext E152
            have O152 := O131.ext E152
            have sf155 := Safe.ext E152 CR131.1 sf149
            have SF_b152 : Safe Z consts_1 vmj1 h152 b152 := Safe.ext E152 CR131.1 (Safe.new (Nat.le_of_eq g152.symm))
            have CR152 := CR131.trans (CHr.ext E152 CR131.1)
            have F156 : Fld Z h152 b152 "java/lang/String" "value" "[B" .null := D152 (Or.inr (ow hw 4 rfl)) (ty := (.array .byte)) (by decide)
            have F157 : Fld Z h152 b152 "java/lang/String" "coder" "B" (.int (0 : Int32)) := D152 (Or.inr (ow hw 5 rfl)) (ty := .byte) (by decide)
            show Go p.tables e below P (T152.setTop (mkF m 142 #[lI p0, lI p1, lI p2, lI p3, lI p4, lI (p0 &&& (3 : Int32)), lR jb, lI (((p0.toUInt32 >>> ((2 : Int32) &&& 31).toUInt32).toInt32) &&& (7 : Int32)), lI (p1 &&& (3 : Int32)), lR b130, lU, lU, lU, lU] [(.ref b152)]))
            refine Go.st (fun _ => XS.dup X152.here hx rfl (hb hby at_142) rfl rfl) ?_
            show Go p.tables e below P (T152.setTop (mkF m 143 #[lI p0, lI p1, lI p2, lI p3, lI p4, lI (p0 &&& (3 : Int32)), lR jb, lI (((p0.toUInt32 >>> ((2 : Int32) &&& 31).toUInt32).toInt32) &&& (7 : Int32)), lI (p1 &&& (3 : Int32)), lR b130, lU, lU, lU, lU] [(.ref b152), (.ref b152)]))
            refine Go.st (fun _ => XS.iconst X152.here hx rfl (hb hby at_143)) ?_
            show Go p.tables e below P (T152.setTop (mkF m 144 #[lI p0, lI p1, lI p2, lI p3, lI p4, lI (p0 &&& (3 : Int32)), lR jb, lI (((p0.toUInt32 >>> ((2 : Int32) &&& 31).toUInt32).toInt32) &&& (7 : Int32)), lI (p1 &&& (3 : Int32)), lR b130, lU, lU, lU, lU] [(.int (0 : Int32)), (.ref b152), (.ref b152)]))
            have c159 := (c153.ext E152)
            have c160 := (c154.ext E152)
            have c161 := (q131_0.ext E152)
            obtain ⟨T158, h158, k158, X158, e158, E158, A158, st158⟩ := newP X152 hx hZj1 (ow hw 8 rfl) e152 (g := (mkF m 144 #[.val (.int p0), .val (.int p1), .val (.int p2), .val (.int p3), .val (.int p4), .val (.int (p0 &&& (3 : Int32))), .val (.ref jb), .val (.int (((p0.toUInt32 >>> ((2 : Int32) &&& 31).toUInt32).toInt32) &&& (7 : Int32))), .val (.int (p1 &&& (3 : Int32))), .val (.ref b130), .unset, .unset, .unset, .unset] [(.int (0 : Int32)), (.ref b152), (.ref b152)])) rfl (hb hby at_144) rfl (by decide) (cap := 0) (by decide) (by decide) (by decide) (by decide)
            obtain ⟨b158, g158⟩ : ∃ z, z = h152.size := ⟨_, rfl⟩
            rw [← g158] at A158 st158
            refine Go.st st158 ?_
            have g_b158 : n0 ≤ b158 := Nat.le_trans (own_oldsz O152) (Nat.le_of_eq g158.symm)
            have sz_b158 : h0.size ≤ b158 := Nat.le_trans K152.1 (Nat.le_of_eq g158.symm)
            have K158 : Keep h0 h158 [] := K152.ext E158
            have O158 := O152.ext E158
            have sf162 := Safe.ext E158 CR152.1 sf155
            have sf163 := Safe.ext E158 CR152.1 SF_b152
            have SF_b158 : Safe Z consts_1 vmj1 h158 b158 := Safe.ext E158 CR152.1 (Safe.new (Nat.le_of_eq g158.symm))
            have CR158 := CR152.trans (CHr.ext E158 CR152.1)
            have V158 : Arv Z h158 b158 k158 .char (0 : Int32) [] (.int (0 : Int32)) := (Arv.new A158 (by decide)).pad (pad_rep [] (.int (0 : Int32)) 0)
            show Go p.tables e below P (T158.setTop (mkF m 146 #[lI p0, lI p1, lI p2, lI p3, lI p4, lI (p0 &&& (3 : Int32)), lR jb, lI (((p0.toUInt32 >>> ((2 : Int32) &&& 31).toUInt32).toInt32) &&& (7 : Int32)), lI (p1 &&& (3 : Int32)), lR b130, lU, lU, lU, lU] [(.ref b158), (.ref b152), (.ref b152)]))
            have c165 := (A152.ext E158)
            have c166 := (F156.ext E158)
            have c167 := (F157.ext E158)
            have c168 := (c159.ext E158)
            have c169 := (c160.ext E158)
            have c170 := (c161.ext E158)
            obtain ⟨_, _, ⟨T164, L164, k164, n164⟩, -, X164, hS164, hg164, ⟨Lc164, hQ164, l164, y164, z164, hCR164⟩, st164⟩ := X158.specialBackS hx (y := (⟨"java/lang/String", "<init>", "([C)V"⟩ : MethodName)) rfl hownj1 (mvT hZj1 (ow hw 95 rfl)) (mvT hZj1 (ow hw 96 rfl)) (mvT hZj1 (ow hw 97 rfl)) (by decide) (backOfSH (W := 1) (rm_emp1 l Z a0 hw [] w_N S_N X_N w_K S_K X_K w_V k_V S_V X_V V_V w_NS F_NS X_NS I_NS_coder w_NB k_NB F_NB V_NB w_KS F_KS X_KS I_KS_coder w_KB k_KB F_KB V_KB w_OE S_OE X_OE I_OE_value g_CS S_CS nz_CS g_SF S_SF r_SF b152 b158 k158 h158 n0 O158 c165 c166 c167 g_b152 V158) hZj1 (ow hw 97 rfl) (ow hw 1 rfl) (by decide) (by decide) hEL CR158.1) (g := (mkF m 146 #[.val (.int p0), .val (.int p1), .val (.int p2), .val (.int p3), .val (.int p4), .val (.int (p0 &&& (3 : Int32))), .val (.ref jb), .val (.int (((p0.toUInt32 >>> ((2 : Int32) &&& 31).toUInt32).toInt32) &&& (7 : Int32))), .val (.int (p1 &&& (3 : Int32))), .val (.ref b130), .unset, .unset, .unset, .unset] [(.ref b158), (.ref b152), (.ref b152)])) rfl (by rw [hml]; rfl) (Steps.refl _) (a := b152) (argsL := [(.ref b158)]) (rest := [(.ref b152)]) (lenOf own_pd13 rfl) rfl (by show 2 * 0 + _ ≤ _; exact Nat.le_of_eq rfl) (hb hby at_146) (fun _ _ => ⟨rfl, e158, (by decide : 5 + 4 ≤ _), (by decide : 77 + 8 ≤ _)⟩)
            dsimp only [Pt.U, Pt.locs, Pt.cells, Pt.slots] at X164 l164 y164 z164 st164 hQ164 hS164 hg164 hCR164
            subst y164 z164
            refine Go.tr st164 ?_
            obtain ⟨XX164, hSS164, hZ164, hown164⟩ := rebS hSj1 (by rw [e158]; exact (Nat.le_trans (Nat.le_trans (Nat.le_trans (Nat.le_trans hkj1 E130.1) K131q.1) E152.1) E158.1)) X164 hS164 hg164 hZj1 hownj1
            obtain ⟨vb_171, kb_172, rfl, N164q, K164q, q164_0, q164_1, q164_2, q164_3⟩ := hQ164
            have N164 : Fr n0 L164 := by rw [l164]; exact Fr.app N131 N164q
            have sf173 := hCR164.safe c170.lt sf162
            have sf174 := hCR164.safe c165.lt sf163
            have sf175 := hCR164.safe V158.lt SF_b158
            have CR164 := CR158.trans hCR164
            have O164 := O158.keep K164q (allS g_b152 all0)
            have K164 : Keep h0 T164.heap [] := K158.trans K164q (allS (Or.inr sz_b152) all0)
            show Go p.tables e below P (T164.setTop (mkF m 149 #[lI p0, lI p1, lI p2, lI p3, lI p4, lI (p0 &&& (3 : Int32)), lR jb, lI (((p0.toUInt32 >>> ((2 : Int32) &&& 31).toUInt32).toInt32) &&& (7 : Int32)), lI (p1 &&& (3 : Int32)), lR b130, lU, lU, lU, lU] [(.ref b152)]))
            refine Go.st (fun _ => XS.astore XX164.here hx rfl (hb hby at_149) rfl rfl (l' := #[.val (.int p0), .val (.int p1), .val (.int p2), .val (.int p3), .val (.int p4), .val (.int (p0 &&& (3 : Int32))), .val (.ref jb), .val (.int (((p0.toUInt32 >>> ((2 : Int32) &&& 31).toUInt32).toInt32) &&& (7 : Int32))), .val (.int (p1 &&& (3 : Int32))), .val (.ref b130), .val (.ref b152), .unset, .unset, .unset]) rfl) ?_
            show Go p.tables e below P (T164.setTop (mkF m 151 #[lI p0, lI p1, lI p2, lI p3, lI p4, lI (p0 &&& (3 : Int32)), lR jb, lI (((p0.toUInt32 >>> ((2 : Int32) &&& 31).toUInt32).toInt32) &&& (7 : Int32)), lI (p1 &&& (3 : Int32)), lR b130, lR b152, lU, lU, lU] []))
            refine Go.st (fun _ => XS.goto XX164.here hx rfl (pc0 := 151) (pc' := 165) rfl (hb hby at_151) (by decide) (by decide)) ?_
            show Go p.tables e below P (T164.setTop (mkF m 165 #[lI p0, lI p1, lI p2, lI p3, lI p4, lI (p0 &&& (3 : Int32)), lR jb, lI (((p0.toUInt32 >>> ((2 : Int32) &&& 31).toUInt32).toInt32) &&& (7 : Int32)), lI (p1 &&& (3 : Int32)), lR b130, lR b152, lU, lU, lU] []))
            exact J2 T164 T164.heap _ _ _ (XX164.more (by decide) (by decide)) rfl K164 O164 N164 hSS164 (Nat.le_refl _) hZ164 hown164 CR164  b130 (.ref b152) rfl (Or.inr ⟨_, _, _, ([] : List Int32), rfl, q164_0, q164_1, q164_2, own_arvN rfl q164_3, (by decide), (Nat.le_of_ble_eq_true rfl)⟩)
          · skip
            refine Go.st (fun _ => XS.icmpYes X131.here hx rfl (pc0 := 136) (pc' := 154) rfl (hb hby at_136) rfl (feq hc151).2 (by decide) (by decide)) ?_
            show Go p.tables e below P (T131.setTop (mkF m 154 #[lI p0, lI p1, lI p2, lI p3, lI p4, lI (p0 &&& (3 : Int32)), lR jb, lI (((p0.toUInt32 >>> ((2 : Int32) &&& 31).toUInt32).toInt32) &&& (7 : Int32)), lI (p1 &&& (3 : Int32)), lR b130, lU, lU, lU, lU] []))
            have c177 := (c132.keep K131q)
            have c178 := (c135.keep K131q (ninS (Nat.ne_of_lt (Nat.lt_of_lt_of_le hAb.lt (Nat.le_of_eq g130.symm))) nin0))
            obtain ⟨T176, h176, X176, e176, E176, A176, D176, -, st176⟩ := newO X131 hx hZj1 hownj1 (ow hw 94 rfl) (ow hw 2 rfl) (ow hw 1 rfl) rfl (g := (mkF m 154 #[.val (.int p0), .val (.int p1), .val (.int p2), .val (.int p3), .val (.int p4), .val (.int (p0 &&& (3 : Int32))), .val (.ref jb), .val (.int (((p0.toUInt32 >>> ((2 : Int32) &&& 31).toUInt32).toInt32) &&& (7 : Int32))), .val (.int (p1 &&& (3 : Int32))), .val (.ref b130), .unset, .unset, .unset, .unset] [])) rfl (hb hby at_154) (by decide) (by decide)
            obtain ⟨b176, g176⟩ : ∃ z, z = T131.heap.size := ⟨_, rfl⟩
            rw [← g176] at A176 D176 st176
            refine Go.st st176 ?_
            have g_b176 : n0 ≤ b176 := Nat.le_trans (own_oldsz O131) (Nat.le_of_eq g176.symm)
            have sz_b176 : h0.size ≤ b176 := Nat.le_trans K131.1 (Nat.le_of_eq g176.symm)
            have K176 : Keep h0 h176 [] := K131.ext E176
            have O176 := O131.ext E176
            have sf179 := Safe.ext E176 CR131.1 sf149
            have SF_b176 : Safe Z consts_1 vmj1 h176 b176 := Safe.ext E176 CR131.1 (Safe.new (Nat.le_of_eq g176.symm))
            have CR176 := CR131.trans (CHr.ext E176 CR131.1)
            have F180 : Fld Z h176 b176 "java/lang/String" "value" "[B" .null := D176 (Or.inr (ow hw 4 rfl)) (ty := (.array .byte)) (by decide)
            have F181 : Fld Z h176 b176 "java/lang/String" "coder" "B" (.int (0 : Int32)) := D176 (Or.inr (ow hw 5 rfl)) (ty := .byte) (by decide)
            show Go p.tables e below P (T176.setTop (mkF m 157 #[lI p0, lI p1, lI p2, lI p3, lI p4, lI (p0 &&& (3 : Int32)), lR jb, lI (((p0.toUInt32 >>> ((2 : Int32) &&& 31).toUInt32).toInt32) &&& (7 : Int32)), lI (p1 &&& (3 : Int32)), lR b130, lU, lU, lU, lU] [(.ref b176)]))
            refine Go.st (fun _ => XS.dup X176.here hx rfl (hb hby at_157) rfl rfl) ?_
            show Go p.tables e below P (T176.setTop (mkF m 158 #[lI p0, lI p1, lI p2, lI p3, lI p4, lI (p0 &&& (3 : Int32)), lR jb, lI (((p0.toUInt32 >>> ((2 : Int32) &&& 31).toUInt32).toInt32) &&& (7 : Int32)), lI (p1 &&& (3 : Int32)), lR b130, lU, lU, lU, lU] [(.ref b176), (.ref b176)]))
            refine Go.st (fun _ => XS.aload X176.here hx rfl (hb hby at_158) rfl rfl) ?_
            show Go p.tables e below P (T176.setTop (mkF m 160 #[lI p0, lI p1, lI p2, lI p3, lI p4, lI (p0 &&& (3 : Int32)), lR jb, lI (((p0.toUInt32 >>> ((2 : Int32) &&& 31).toUInt32).toInt32) &&& (7 : Int32)), lI (p1 &&& (3 : Int32)), lR b130, lU, lU, lU, lU] [(.ref b130), (.ref b176), (.ref b176)]))
            have c183 := (q131_0.ext E176)
            have hp182 : ∀ c ∈ ([c0_136, c1_137, c2_138, c3_139, c4_140, c5_141, c6_142, c7_143, c8_144, c9_145, c10_146, c11_147, c12_148] : List Int32), ¬ c < 0 ∧ ¬ (255 : Int32) < c := by
              intro c hc
              simp only [List.mem_cons, List.not_mem_nil, or_false] at hc
              rcases hc with rfl | rfl | rfl | rfl | rfl | rfl | rfl | rfl | rfl | rfl | rfl | rfl | rfl
              · exact q131_1
              · exact q131_2
              · exact q131_3
              · exact q131_4
              · exact q131_5
              · exact q131_6
              · exact q131_7
              · exact q131_8
              · exact q131_9
              · exact q131_10
              · exact q131_11
              · exact q131_12
              · exact q131_13
            have c184 := (c177.ext E176)
            have c185 := (c178.ext E176)
            obtain ⟨_, _, ⟨T182, L182, k182, n182⟩, -, X182, ⟨Lc182, hQ182, l182, y182, z182⟩, st182⟩ := X176.specialBack hx (y := (⟨"java/lang/String", "<init>", "([C)V"⟩ : MethodName)) rfl hownj1 (mvT hZj1 (ow hw 95 rfl)) (mvT hZj1 (ow hw 96 rfl)) (mvT hZj1 (ow hw 97 rfl)) (by decide) (StrChars.Road.backV (W := 1) hZj1 (fun d hd => hw d (own_wNew d hd)) (kI := 4) (ow hw 2 rfl) (cs := ([c0_136, c1_137, c2_138, c3_139, c4_140, c5_141, c6_142, c7_143, c8_144, c9_145, c10_146, c11_147, c12_148] : List Int32)) (bs := (([c0_136, c1_137, c2_138, c3_139, c4_140, c5_141, c6_142, c7_143, c8_144, c9_145, c10_146, c11_147, c12_148] : List Int32)).map (fun c => c.toInt8.toInt32)) (n := 13) g_b176 (own_oldsz O176) A176 F180 F181 c183 (S_CS.ext O176.2) nz_CS rfl rfl (by decide) (by decide) hp182 rfl (by decide) (by decide)) (g := (mkF m 160 #[.val (.int p0), .val (.int p1), .val (.int p2), .val (.int p3), .val (.int p4), .val (.int (p0 &&& (3 : Int32))), .val (.ref jb), .val (.int (((p0.toUInt32 >>> ((2 : Int32) &&& 31).toUInt32).toInt32) &&& (7 : Int32))), .val (.int (p1 &&& (3 : Int32))), .val (.ref b130), .unset, .unset, .unset, .unset] [(.ref b130), (.ref b176), (.ref b176)])) rfl (by rw [hml]; rfl) (Steps.refl _) (a := b176) (argsL := [(.ref b130)]) (rest := [(.ref b176)]) (lenOf own_pd13 rfl) rfl (by show 2 * 0 + _ ≤ _; exact Nat.le_of_eq rfl) (hb hby at_160) (fun _ _ => ⟨rfl, e176, (by decide : 4 + 1 ≤ _), (by decide : 77 + 13 ≤ _)⟩)
            dsimp only [Pt.U, Pt.locs, Pt.cells, Pt.slots] at X182 l182 y182 z182 st182 hQ182
            subst y182 z182
            refine Go.tr st182 ?_
            obtain ⟨rfl, N182q, K182q, E182x, C182x, t182, kb182, gt182, szt182, net182, V182x, A182x⟩ := hQ182
            have N182 : Fr n0 L182 := by rw [l182]; exact Fr.app N131 N182q
            have O182 := O176.keep K182q (allS g_b176 all0)
            have K182 : Keep h0 T182.heap [] := K176.trans K182q (allS (Or.inr sz_b176) all0)
            have sf186 := Safe.keep K182q (sfS SF_b176 sf0) CR176.1 sf179
            have sf187 := Safe.keep K182q (sfS SF_b176 sf0) CR176.1 SF_b176
            have CR182 := CR176.trans (CHr.keep K182q (sfS SF_b176 sf0) CR176.1)
            have sz_t182 : h0.size ≤ t182 := Nat.le_trans K176.1 szt182
            show Go p.tables e below P (T182.setTop (mkF m 163 #[lI p0, lI p1, lI p2, lI p3, lI p4, lI (p0 &&& (3 : Int32)), lR jb, lI (((p0.toUInt32 >>> ((2 : Int32) &&& 31).toUInt32).toInt32) &&& (7 : Int32)), lI (p1 &&& (3 : Int32)), lR b130, lU, lU, lU, lU] [(.ref b176)]))
            refine Go.st (fun _ => XS.astore X182.here hx rfl (hb hby at_163) rfl rfl (l' := #[.val (.int p0), .val (.int p1), .val (.int p2), .val (.int p3), .val (.int p4), .val (.int (p0 &&& (3 : Int32))), .val (.ref jb), .val (.int (((p0.toUInt32 >>> ((2 : Int32) &&& 31).toUInt32).toInt32) &&& (7 : Int32))), .val (.int (p1 &&& (3 : Int32))), .val (.ref b130), .val (.ref b176), .unset, .unset, .unset]) rfl) ?_
            show Go p.tables e below P (T182.setTop (mkF m 165 #[lI p0, lI p1, lI p2, lI p3, lI p4, lI (p0 &&& (3 : Int32)), lR jb, lI (((p0.toUInt32 >>> ((2 : Int32) &&& 31).toUInt32).toInt32) &&& (7 : Int32)), lI (p1 &&& (3 : Int32)), lR b130, lR b176, lU, lU, lU] []))
            exact J2 T182 T182.heap _ _ _ (X182.more (by decide) (by decide)) rfl K182 O182 N182 hSj1 (Nat.le_trans (Nat.le_trans (Nat.le_trans (Nat.le_trans hkj1 E130.1) K131q.1) E176.1) K182q.1) hZj1 hownj1 CR182  b130 (.ref b176) rfl (Or.inr ⟨_, _, _, ([c0_136, c1_137, c2_138, c3_139, c4_140, c5_141, c6_142, c7_143, c8_144, c9_145, c10_146, c11_147, c12_148] : List Int32), rfl, E182x, C182x, V182x, own_arvN rfl A182x, hp182, (Nat.le_of_ble_eq_true rfl)⟩)
      · skip
        refine Go.st (fun _ => XS.icmpYes Xj1.here hx rfl (pc0 := 69) (pc' := 79) rfl (hb hby at_69) rfl (feq hc129).2 (by decide) (by decide)) ?_
        show Go p.tables e below P (Tj1.setTop (mkF m 79 #[lI p0, lI p1, lI p2, lI p3, lI p4, lI (p0 &&& (3 : Int32)), lR jb, lI (((p0.toUInt32 >>> ((2 : Int32) &&& 31).toUInt32).toInt32) &&& (7 : Int32)), lI (p1 &&& (3 : Int32)), lU, lU, lU, lU, lU] []))
        refine Go.st (fun _ => XS.iload Xj1.here hx rfl (hb hby at_79) rfl) ?_
        show Go p.tables e below P (Tj1.setTop (mkF m 81 #[lI p0, lI p1, lI p2, lI p3, lI p4, lI (p0 &&& (3 : Int32)), lR jb, lI (((p0.toUInt32 >>> ((2 : Int32) &&& 31).toUInt32).toInt32) &&& (7 : Int32)), lI (p1 &&& (3 : Int32)), lU, lU, lU, lU, lU] [(.int (p1 &&& (3 : Int32)))]))
        refine Go.st (fun _ => XS.iconst Xj1.here hx rfl (hb hby at_81)) ?_
        show Go p.tables e below P (Tj1.setTop (mkF m 82 #[lI p0, lI p1, lI p2, lI p3, lI p4, lI (p0 &&& (3 : Int32)), lR jb, lI (((p0.toUInt32 >>> ((2 : Int32) &&& 31).toUInt32).toInt32) &&& (7 : Int32)), lI (p1 &&& (3 : Int32)), lU, lU, lU, lU, lU] [(.int (2 : Int32)), (.int (p1 &&& (3 : Int32)))]))
        by_cases hc188 : (p1 &&& (3 : Int32)) = (2 : Int32)
        · skip
          refine Go.st (fun _ => XS.icmpNo Xj1.here hx rfl (hb hby at_82) rfl (teq hc188).2) ?_
          show Go p.tables e below P (Tj1.setTop (mkF m 85 #[lI p0, lI p1, lI p2, lI p3, lI p4, lI (p0 &&& (3 : Int32)), lR jb, lI (((p0.toUInt32 >>> ((2 : Int32) &&& 31).toUInt32).toInt32) &&& (7 : Int32)), lI (p1 &&& (3 : Int32)), lU, lU, lU, lU, lU] []))
          refine Go.st (fun _ => XS.bipush Xj1.here hx rfl (hb hby at_85)) ?_
          show Go p.tables e below P (Tj1.setTop (mkF m 87 #[lI p0, lI p1, lI p2, lI p3, lI p4, lI (p0 &&& (3 : Int32)), lR jb, lI (((p0.toUInt32 >>> ((2 : Int32) &&& 31).toUInt32).toInt32) &&& (7 : Int32)), lI (p1 &&& (3 : Int32)), lU, lU, lU, lU, lU] [(.int (14 : Int32))]))
          obtain ⟨T189, h189, k189, X189, e189, E189, A189, st189⟩ := newP Xj1 hx hZj1 (ow hw 8 rfl) ej1 (g := (mkF m 87 #[.val (.int p0), .val (.int p1), .val (.int p2), .val (.int p3), .val (.int p4), .val (.int (p0 &&& (3 : Int32))), .val (.ref jb), .val (.int (((p0.toUInt32 >>> ((2 : Int32) &&& 31).toUInt32).toInt32) &&& (7 : Int32))), .val (.int (p1 &&& (3 : Int32))), .unset, .unset, .unset, .unset, .unset] [(.int (14 : Int32))])) rfl (hb hby at_87) rfl (by decide) (cap := 14) (by decide) (by decide) (by decide) (by decide)
          obtain ⟨b189, g189⟩ : ∃ z, z = hj1.size := ⟨_, rfl⟩
          rw [← g189] at A189 st189
          refine Go.st st189 ?_
          have g_b189 : n0 ≤ b189 := Nat.le_trans (own_oldsz Oj1) (Nat.le_of_eq g189.symm)
          have sz_b189 : h0.size ≤ b189 := Nat.le_trans Kj1.1 (Nat.le_of_eq g189.symm)
          have K189 : Keep h0 h189 [] := Kj1.ext E189
          have O189 := Oj1.ext E189
          have SF_b189 : Safe Z consts_1 vmj1 h189 b189 := Safe.ext E189 CRj1.1 (Safe.new (Nat.le_of_eq g189.symm))
          have CR189 := CRj1.trans (CHr.ext E189 CRj1.1)
          have V189 : Arv Z h189 b189 k189 .char (14 : Int32) [(.int (0 : Int32)), (.int (0 : Int32)), (.int (0 : Int32)), (.int (0 : Int32)), (.int (0 : Int32)), (.int (0 : Int32)), (.int (0 : Int32)), (.int (0 : Int32)), (.int (0 : Int32)), (.int (0 : Int32)), (.int (0 : Int32)), (.int (0 : Int32)), (.int (0 : Int32)), (.int (0 : Int32))] (.int (0 : Int32)) := (Arv.new A189 (by decide)).pad (pad_rep [] (.int (0 : Int32)) 14)
          show Go p.tables e below P (T189.setTop (mkF m 89 #[lI p0, lI p1, lI p2, lI p3, lI p4, lI (p0 &&& (3 : Int32)), lR jb, lI (((p0.toUInt32 >>> ((2 : Int32) &&& 31).toUInt32).toInt32) &&& (7 : Int32)), lI (p1 &&& (3 : Int32)), lU, lU, lU, lU, lU] [(.ref b189)]))
          refine Go.st (fun _ => XS.goto X189.here hx rfl (pc0 := 89) (pc' := 96) rfl (hb hby at_89) (by decide) (by decide)) ?_
          show Go p.tables e below P (T189.setTop (mkF m 96 #[lI p0, lI p1, lI p2, lI p3, lI p4, lI (p0 &&& (3 : Int32)), lR jb, lI (((p0.toUInt32 >>> ((2 : Int32) &&& 31).toUInt32).toInt32) &&& (7 : Int32)), lI (p1 &&& (3 : Int32)), lU, lU, lU, lU, lU] [(.ref b189)]))
          refine Go.st (fun _ => XS.astore X189.here hx rfl (hb hby at_96) rfl rfl (l' := #[.val (.int p0), .val (.int p1), .val (.int p2), .val (.int p3), .val (.int p4), .val (.int (p0 &&& (3 : Int32))), .val (.ref jb), .val (.int (((p0.toUInt32 >>> ((2 : Int32) &&& 31).toUInt32).toInt32) &&& (7 : Int32))), .val (.int (p1 &&& (3 : Int32))), .val (.ref b189), .unset, .unset, .unset, .unset]) rfl) ?_
          show Go p.tables e below P (T189.setTop (mkF m 98 #[lI p0, lI p1, lI p2, lI p3, lI p4, lI (p0 &&& (3 : Int32)), lR jb, lI (((p0.toUInt32 >>> ((2 : Int32) &&& 31).toUInt32).toInt32) &&& (7 : Int32)), lI (p1 &&& (3 : Int32)), lR b189, lU, lU, lU, lU] []))
          refine Go.st (fun _ => XS.aload X189.here hx rfl (hb hby at_98) rfl rfl) ?_
          show Go p.tables e below P (T189.setTop (mkF m 100 #[lI p0, lI p1, lI p2, lI p3, lI p4, lI (p0 &&& (3 : Int32)), lR jb, lI (((p0.toUInt32 >>> ((2 : Int32) &&& 31).toUInt32).toInt32) &&& (7 : Int32)), lI (p1 &&& (3 : Int32)), lR b189, lU, lU, lU, lU] [(.ref b189)]))
          refine Go.st (fun _ => XS.aload X189.here hx rfl (hb hby at_100) rfl rfl) ?_
          show Go p.tables e below P (T189.setTop (mkF m 102 #[lI p0, lI p1, lI p2, lI p3, lI p4, lI (p0 &&& (3 : Int32)), lR jb, lI (((p0.toUInt32 >>> ((2 : Int32) &&& 31).toUInt32).toInt32) &&& (7 : Int32)), lI (p1 &&& (3 : Int32)), lR b189, lU, lU, lU, lU] [(.ref jb), (.ref b189)]))
          refine Go.st (fun _ => XS.iloadN X189.here hx rfl (hb hby at_102) rfl) ?_
          show Go p.tables e below P (T189.setTop (mkF m 103 #[lI p0, lI p1, lI p2, lI p3, lI p4, lI (p0 &&& (3 : Int32)), lR jb, lI (((p0.toUInt32 >>> ((2 : Int32) &&& 31).toUInt32).toInt32) &&& (7 : Int32)), lI (p1 &&& (3 : Int32)), lR b189, lU, lU, lU, lU] [(.int p2), (.ref jb), (.ref b189)]))
          refine Go.st (fun _ => XS.bipush X189.here hx rfl (hb hby at_103)) ?_
          show Go p.tables e below P (T189.setTop (mkF m 105 #[lI p0, lI p1, lI p2, lI p3, lI p4, lI (p0 &&& (3 : Int32)), lR jb, lI (((p0.toUInt32 >>> ((2 : Int32) &&& 31).toUInt32).toInt32) &&& (7 : Int32)), lI (p1 &&& (3 : Int32)), lR b189, lU, lU, lU, lU] [(.int (15 : Int32)), (.int p2), (.ref jb), (.ref b189)]))
          refine Go.st (fun _ => XS.iand X189.here hx rfl (hb hby at_105) rfl) ?_
          show Go p.tables e below P (T189.setTop (mkF m 106 #[lI p0, lI p1, lI p2, lI p3, lI p4, lI (p0 &&& (3 : Int32)), lR jb, lI (((p0.toUInt32 >>> ((2 : Int32) &&& 31).toUInt32).toInt32) &&& (7 : Int32)), lI (p1 &&& (3 : Int32)), lR b189, lU, lU, lU, lU] [(.int (p2 &&& (15 : Int32))), (.ref jb), (.ref b189)]))
          refine Go.st (fun _ => XS.iloadN X189.here hx rfl (hb hby at_106) rfl) ?_
          show Go p.tables e below P (T189.setTop (mkF m 107 #[lI p0, lI p1, lI p2, lI p3, lI p4, lI (p0 &&& (3 : Int32)), lR jb, lI (((p0.toUInt32 >>> ((2 : Int32) &&& 31).toUInt32).toInt32) &&& (7 : Int32)), lI (p1 &&& (3 : Int32)), lR b189, lU, lU, lU, lU] [(.int p3), (.int (p2 &&& (15 : Int32))), (.ref jb), (.ref b189)]))
          refine Go.st (fun _ => XS.sipush X189.here hx rfl (hb hby at_107)) ?_
          show Go p.tables e below P (T189.setTop (mkF m 110 #[lI p0, lI p1, lI p2, lI p3, lI p4, lI (p0 &&& (3 : Int32)), lR jb, lI (((p0.toUInt32 >>> ((2 : Int32) &&& 31).toUInt32).toInt32) &&& (7 : Int32)), lI (p1 &&& (3 : Int32)), lR b189, lU, lU, lU, lU] [(.int (255 : Int32)), (.int p3), (.int (p2 &&& (15 : Int32))), (.ref jb), (.ref b189)]))
          refine Go.st (fun _ => XS.iand X189.here hx rfl (hb hby at_110) rfl) ?_
          show Go p.tables e below P (T189.setTop (mkF m 111 #[lI p0, lI p1, lI p2, lI p3, lI p4, lI (p0 &&& (3 : Int32)), lR jb, lI (((p0.toUInt32 >>> ((2 : Int32) &&& 31).toUInt32).toInt32) &&& (7 : Int32)), lI (p1 &&& (3 : Int32)), lR b189, lU, lU, lU, lU] [(.int (p3 &&& (255 : Int32))), (.int (p2 &&& (15 : Int32))), (.ref jb), (.ref b189)]))
          refine Go.st (fun _ => XS.i2c X189.here hx rfl (hb hby at_111) rfl) ?_
          show Go p.tables e below P (T189.setTop (mkF m 112 #[lI p0, lI p1, lI p2, lI p3, lI p4, lI (p0 &&& (3 : Int32)), lR jb, lI (((p0.toUInt32 >>> ((2 : Int32) &&& 31).toUInt32).toInt32) &&& (7 : Int32)), lI (p1 &&& (3 : Int32)), lR b189, lU, lU, lU, lU] [(.int ((p3 &&& (255 : Int32)).toUInt32.toUInt16.toUInt32.toInt32)), (.int (p2 &&& (15 : Int32))), (.ref jb), (.ref b189)]))
          rw [i2c_mask]
          show Go p.tables e below P (T189.setTop (mkF m 112 #[lI p0, lI p1, lI p2, lI p3, lI p4, lI (p0 &&& (3 : Int32)), lR jb, lI (((p0.toUInt32 >>> ((2 : Int32) &&& 31).toUInt32).toInt32) &&& (7 : Int32)), lI (p1 &&& (3 : Int32)), lR b189, lU, lU, lU, lU] [(.int (p3 &&& (255 : Int32))), (.int (p2 &&& (15 : Int32))), (.ref jb), (.ref b189)]))
          refine Go.st (fun _ => XS.iload X189.here hx rfl (hb hby at_112) rfl) ?_
          show Go p.tables e below P (T189.setTop (mkF m 114 #[lI p0, lI p1, lI p2, lI p3, lI p4, lI (p0 &&& (3 : Int32)), lR jb, lI (((p0.toUInt32 >>> ((2 : Int32) &&& 31).toUInt32).toInt32) &&& (7 : Int32)), lI (p1 &&& (3 : Int32)), lR b189, lU, lU, lU, lU] [(.int p4), (.int (p3 &&& (255 : Int32))), (.int (p2 &&& (15 : Int32))), (.ref jb), (.ref b189)]))
          refine Go.st (fun _ => XS.sipush X189.here hx rfl (hb hby at_114)) ?_
          show Go p.tables e below P (T189.setTop (mkF m 117 #[lI p0, lI p1, lI p2, lI p3, lI p4, lI (p0 &&& (3 : Int32)), lR jb, lI (((p0.toUInt32 >>> ((2 : Int32) &&& 31).toUInt32).toInt32) &&& (7 : Int32)), lI (p1 &&& (3 : Int32)), lR b189, lU, lU, lU, lU] [(.int (255 : Int32)), (.int p4), (.int (p3 &&& (255 : Int32))), (.int (p2 &&& (15 : Int32))), (.ref jb), (.ref b189)]))
          refine Go.st (fun _ => XS.iand X189.here hx rfl (hb hby at_117) rfl) ?_
          show Go p.tables e below P (T189.setTop (mkF m 118 #[lI p0, lI p1, lI p2, lI p3, lI p4, lI (p0 &&& (3 : Int32)), lR jb, lI (((p0.toUInt32 >>> ((2 : Int32) &&& 31).toUInt32).toInt32) &&& (7 : Int32)), lI (p1 &&& (3 : Int32)), lR b189, lU, lU, lU, lU] [(.int (p4 &&& (255 : Int32))), (.int (p3 &&& (255 : Int32))), (.int (p2 &&& (15 : Int32))), (.ref jb), (.ref b189)]))
          refine Go.st (fun _ => XS.i2c X189.here hx rfl (hb hby at_118) rfl) ?_
          show Go p.tables e below P (T189.setTop (mkF m 119 #[lI p0, lI p1, lI p2, lI p3, lI p4, lI (p0 &&& (3 : Int32)), lR jb, lI (((p0.toUInt32 >>> ((2 : Int32) &&& 31).toUInt32).toInt32) &&& (7 : Int32)), lI (p1 &&& (3 : Int32)), lR b189, lU, lU, lU, lU] [(.int ((p4 &&& (255 : Int32)).toUInt32.toUInt16.toUInt32.toInt32)), (.int (p3 &&& (255 : Int32))), (.int (p2 &&& (15 : Int32))), (.ref jb), (.ref b189)]))
          rw [i2c_mask]
          show Go p.tables e below P (T189.setTop (mkF m 119 #[lI p0, lI p1, lI p2, lI p3, lI p4, lI (p0 &&& (3 : Int32)), lR jb, lI (((p0.toUInt32 >>> ((2 : Int32) &&& 31).toUInt32).toInt32) &&& (7 : Int32)), lI (p1 &&& (3 : Int32)), lR b189, lU, lU, lU, lU] [(.int (p4 &&& (255 : Int32))), (.int (p3 &&& (255 : Int32))), (.int (p2 &&& (15 : Int32))), (.ref jb), (.ref b189)]))
          have c191 := (hEb.ext E189)
          have c192 := (hCb.ext E189)
          have c193 := (hVb.ext E189)
          have c194 := (hAb.ext E189)
          obtain ⟨_, _, ⟨T190, L190, k190, n190⟩, -, X190, ⟨Lc190, hQ190, l190, y190, z190⟩, st190⟩ := Jvm.LawKit.callS X189 hx (y := (⟨"com/example/vacuum/vacuum/model/MethodOfWireNamePinLaw", "fillChars", "([CLjava/lang/String;ICC)V"⟩ : MethodName)) hownj1 (mvT hZj1 (ow hw 9 rfl)) (mvT hZj1 (ow hw 10 rfl)) (mvT hZj1 (ow hw 11 rfl)) (mvT hZj1 (ow hw 12 rfl)) (by decide) (backOf (W := 0) (rm_fc14 l Z a0 hw [] w_N S_N X_N w_K S_K X_K w_V k_V S_V X_V V_V w_NS F_NS X_NS I_NS_coder w_NB k_NB F_NB V_NB w_KS F_KS X_KS I_KS_coder w_KB k_KB F_KB V_KB w_OE S_OE X_OE I_OE_value g_CS S_CS nz_CS g_SF S_SF r_SF b189 jb (p2 &&& (15 : Int32)) (p3 &&& (255 : Int32)) (p4 &&& (255 : Int32)) k189 jbc jbv jbk h189 n0 O189 V189 g_b189 c191 c192 c193 c194 hpcb hleb (Nat.ne_of_lt (Nat.lt_of_lt_of_le hAb.lt (Nat.le_of_eq g189.symm))) (own_and255 _) (own_and255 _)) hZj1 (ow hw 12 rfl) (ow hw 11 rfl) (by decide) (by decide)) (g := (mkF m 119 #[.val (.int p0), .val (.int p1), .val (.int p2), .val (.int p3), .val (.int p4), .val (.int (p0 &&& (3 : Int32))), .val (.ref jb), .val (.int (((p0.toUInt32 >>> ((2 : Int32) &&& 31).toUInt32).toInt32) &&& (7 : Int32))), .val (.int (p1 &&& (3 : Int32))), .val (.ref b189), .unset, .unset, .unset, .unset] [(.int (p4 &&& (255 : Int32))), (.int (p3 &&& (255 : Int32))), (.int (p2 &&& (15 : Int32))), (.ref jb), (.ref b189)])) rfl (by rw [hml]; rfl) (argsL := [(.ref b189), (.ref jb), (.int (p2 &&& (15 : Int32))), (.int (p3 &&& (255 : Int32))), (.int (p4 &&& (255 : Int32)))]) (rest := []) (lenOf own_pd12 rfl) rfl (by show 2 * 0 + _ ≤ _; exact Nat.le_of_eq rfl) (hb hby at_119) (fun _ _ => ⟨rfl, e189, (by decide : 3 + 0 ≤ _), (by decide : 74 + 0 ≤ _)⟩)
          dsimp only [Pt.U, Pt.locs, Pt.cells, Pt.slots] at X190 l190 y190 z190 st190 hQ190
          subst y190 z190
          refine Go.st st190 ?_
          obtain ⟨c0_195, c1_196, c2_197, c3_198, c4_199, c5_200, c6_201, c7_202, c8_203, c9_204, c10_205, c11_206, c12_207, c13_208, rfl, N190q, K190q, q190_0, q190_1, q190_2, q190_3, q190_4, q190_5, q190_6, q190_7, q190_8, q190_9, q190_10, q190_11, q190_12, q190_13, q190_14⟩ := hQ190
          have N190 : Fr n0 L190 := by rw [l190]; exact Fr.app Nj1 N190q
          have O190 := O189.keep K190q (allS g_b189 all0)
          have K190 : Keep h0 T190.heap [] := K189.trans K190q (allS (Or.inr sz_b189) all0)
          have sf209 := Safe.keep K190q (sfS SF_b189 sf0) CR189.1 SF_b189
          have CR190 := CR189.trans (CHr.keep K190q (sfS SF_b189 sf0) CR189.1)
          show Go p.tables e below P (T190.setTop (mkF m 122 #[lI p0, lI p1, lI p2, lI p3, lI p4, lI (p0 &&& (3 : Int32)), lR jb, lI (((p0.toUInt32 >>> ((2 : Int32) &&& 31).toUInt32).toInt32) &&& (7 : Int32)), lI (p1 &&& (3 : Int32)), lR b189, lU, lU, lU, lU] []))
          refine Go.st (fun _ => XS.iload X190.here hx rfl (hb hby at_122) rfl) ?_
          show Go p.tables e below P (T190.setTop (mkF m 124 #[lI p0, lI p1, lI p2, lI p3, lI p4, lI (p0 &&& (3 : Int32)), lR jb, lI (((p0.toUInt32 >>> ((2 : Int32) &&& 31).toUInt32).toInt32) &&& (7 : Int32)), lI (p1 &&& (3 : Int32)), lR b189, lU, lU, lU, lU] [(.int (((p0.toUInt32 >>> ((2 : Int32) &&& 31).toUInt32).toInt32) &&& (7 : Int32)))]))
          by_cases hc210 : (((p0.toUInt32 >>> ((2 : Int32) &&& 31).toUInt32).toInt32) &&& (7 : Int32)) = (0 : Int32)
          · skip
            refine Go.st (fun _ => XS.ifNo X190.here hx rfl (hb hby at_124) rfl ((if0 _ _).trans (teq hc210).2)) ?_
            show Go p.tables e below P (T190.setTop (mkF m 127 #[lI p0, lI p1, lI p2, lI p3, lI p4, lI (p0 &&& (3 : Int32)), lR jb, lI (((p0.toUInt32 >>> ((2 : Int32) &&& 31).toUInt32).toInt32) &&& (7 : Int32)), lI (p1 &&& (3 : Int32)), lR b189, lU, lU, lU, lU] []))
            refine Go.st (fun _ => XS.aconstNull X190.here hx rfl (hb hby at_127)) ?_
            show Go p.tables e below P (T190.setTop (mkF m 128 #[lI p0, lI p1, lI p2, lI p3, lI p4, lI (p0 &&& (3 : Int32)), lR jb, lI (((p0.toUInt32 >>> ((2 : Int32) &&& 31).toUInt32).toInt32) &&& (7 : Int32)), lI (p1 &&& (3 : Int32)), lR b189, lU, lU, lU, lU] [.null]))
            refine Go.st (fun _ => XS.astore X190.here hx rfl (hb hby at_128) rfl rfl (l' := #[.val (.int p0), .val (.int p1), .val (.int p2), .val (.int p3), .val (.int p4), .val (.int (p0 &&& (3 : Int32))), .val (.ref jb), .val (.int (((p0.toUInt32 >>> ((2 : Int32) &&& 31).toUInt32).toInt32) &&& (7 : Int32))), .val (.int (p1 &&& (3 : Int32))), .val (.ref b189), .val .null, .unset, .unset, .unset]) rfl) ?_
            show Go p.tables e below P (T190.setTop (mkF m 130 #[lI p0, lI p1, lI p2, lI p3, lI p4, lI (p0 &&& (3 : Int32)), lR jb, lI (((p0.toUInt32 >>> ((2 : Int32) &&& 31).toUInt32).toInt32) &&& (7 : Int32)), lI (p1 &&& (3 : Int32)), lR b189, lN, lU, lU, lU] []))
            refine Go.st (fun _ => XS.goto X190.here hx rfl (pc0 := 130) (pc' := 165) rfl (hb hby at_130) (by decide) (by decide)) ?_
            show Go p.tables e below P (T190.setTop (mkF m 165 #[lI p0, lI p1, lI p2, lI p3, lI p4, lI (p0 &&& (3 : Int32)), lR jb, lI (((p0.toUInt32 >>> ((2 : Int32) &&& 31).toUInt32).toInt32) &&& (7 : Int32)), lI (p1 &&& (3 : Int32)), lR b189, lN, lU, lU, lU] []))
            exact J2 T190 T190.heap _ _ _ (X190.more (by decide) (by decide)) rfl K190 O190 N190 hSj1 (Nat.le_trans (Nat.le_trans hkj1 E189.1) K190q.1) hZj1 hownj1 CR190  b189 .null rfl (Or.inl rfl)
          · skip
            refine Go.st (fun _ => XS.ifYes X190.here hx rfl (pc0 := 124) (pc' := 133) rfl (hb hby at_124) rfl ((if0 _ _).trans (feq hc210).2) (by decide) (by decide)) ?_
            show Go p.tables e below P (T190.setTop (mkF m 133 #[lI p0, lI p1, lI p2, lI p3, lI p4, lI (p0 &&& (3 : Int32)), lR jb, lI (((p0.toUInt32 >>> ((2 : Int32) &&& 31).toUInt32).toInt32) &&& (7 : Int32)), lI (p1 &&& (3 : Int32)), lR b189, lU, lU, lU, lU] []))
            refine Go.st (fun _ => XS.iload X190.here hx rfl (hb hby at_133) rfl) ?_
            show Go p.tables e below P (T190.setTop (mkF m 135 #[lI p0, lI p1, lI p2, lI p3, lI p4, lI (p0 &&& (3 : Int32)), lR jb, lI (((p0.toUInt32 >>> ((2 : Int32) &&& 31).toUInt32).toInt32) &&& (7 : Int32)), lI (p1 &&& (3 : Int32)), lR b189, lU, lU, lU, lU] [(.int (((p0.toUInt32 >>> ((2 : Int32) &&& 31).toUInt32).toInt32) &&& (7 : Int32)))]))
            refine Go.st (fun _ => XS.iconst X190.here hx rfl (hb hby at_135)) ?_
            show Go p.tables e below P (T190.setTop (mkF m 136 #[lI p0, lI p1, lI p2, lI p3, lI p4, lI (p0 &&& (3 : Int32)), lR jb, lI (((p0.toUInt32 >>> ((2 : Int32) &&& 31).toUInt32).toInt32) &&& (7 : Int32)), lI (p1 &&& (3 : Int32)), lR b189, lU, lU, lU, lU] [(.int (1 : Int32)), (.int (((p0.toUInt32 >>> ((2 : Int32) &&& 31).toUInt32).toInt32) &&& (7 : Int32)))]))
            by_cases hc211 : (((p0.toUInt32 >>> ((2 : Int32) &&& 31).toUInt32).toInt32) &&& (7 : Int32)) = (1 : Int32)
            · skip
              refine Go.st (fun _ => XS.icmpNo X190.here hx rfl (hb hby at_136) rfl (teq hc211).2) ?_
              show Go p.tables e below P (T190.setTop (mkF m 139 #[lI p0, lI p1, lI p2, lI p3, lI p4, lI (p0 &&& (3 : Int32)), lR jb, lI (((p0.toUInt32 >>> ((2 : Int32) &&& 31).toUInt32).toInt32) &&& (7 : Int32)), lI (p1 &&& (3 : Int32)), lR b189, lU, lU, lU, lU] []))
              have c213 := (c191.keep K190q)
              have c214 := (c194.keep K190q (ninS (Nat.ne_of_lt (Nat.lt_of_lt_of_le hAb.lt (Nat.le_of_eq g189.symm))) nin0))
              obtain ⟨T212, h212, X212, e212, E212, A212, D212, -, st212⟩ := newO X190 hx hZj1 hownj1 (ow hw 94 rfl) (ow hw 2 rfl) (ow hw 1 rfl) rfl (g := (mkF m 139 #[.val (.int p0), .val (.int p1), .val (.int p2), .val (.int p3), .val (.int p4), .val (.int (p0 &&& (3 : Int32))), .val (.ref jb), .val (.int (((p0.toUInt32 >>> ((2 : Int32) &&& 31).toUInt32).toInt32) &&& (7 : Int32))), .val (.int (p1 &&& (3 : Int32))), .val (.ref b189), .unset, .unset, .unset, .unset] [])) rfl (hb hby at_139) (by decide) (by decide)
              obtain ⟨b212, g212⟩ : ∃ z, z = T190.heap.size := ⟨_, rfl⟩
              rw [← g212] at A212 D212 st212
              refine Go.st st212 ?_
              have g_b212 : n0 ≤ b212 := Nat.le_trans (own_oldsz O190) (Nat.le_of_eq g212.symm)
              have sz_b212 : h0.size ≤ b212 := Nat.le_trans K190.1 (Nat.le_of_eq g212.symm)
              have K212 : Keep h0 h212 [] := K190.ext E212
              have O212 := O190.ext E212
              have sf215 := Safe.ext E212 CR190.1 sf209
              have SF_b212 : Safe Z consts_1 vmj1 h212 b212 := Safe.ext E212 CR190.1 (Safe.new (Nat.le_of_eq g212.symm))
              have CR212 := CR190.trans (CHr.ext E212 CR190.1)
              have F216 : Fld Z h212 b212 "java/lang/String" "value" "[B" .null := D212 (Or.inr (ow hw 4 rfl)) (ty := (.array .byte)) (by decide)
              have F217 : Fld Z h212 b212 "java/lang/String" "coder" "B" (.int (0 : Int32)) := D212 (Or.inr (ow hw 5 rfl)) (ty := .byte) (by decide)
              show Go p.tables e below P (T212.setTop (mkF m 142 #[lI p0, lI p1, lI p2, lI p3, lI p4, lI (p0 &&& (3 : Int32)), lR jb, lI (((p0.toUInt32 >>> ((2 : Int32) &&& 31).toUInt32).toInt32) &&& (7 : Int32)), lI (p1 &&& (3 : Int32)), lR b189, lU, lU, lU, lU] [(.ref b212)]))
              refine Go.st (fun _ => XS.dup X212.here hx rfl (hb hby at_142) rfl rfl) ?_
              show Go p.tables e below P (T212.setTop (mkF m 143 #[lI p0, lI p1, lI p2, lI p3, lI p4, lI (p0 &&& (3 : Int32)), lR jb, lI (((p0.toUInt32 >>> ((2 : Int32) &&& 31).toUInt32).toInt32) &&& (7 : Int32)), lI (p1 &&& (3 : Int32)), lR b189, lU, lU, lU, lU] [(.ref b212), (.ref b212)]))
              refine Go.st (fun _ => XS.iconst X212.here hx rfl (hb hby at_143)) ?_
              show Go p.tables e below P (T212.setTop (mkF m 144 #[lI p0, lI p1, lI p2, lI p3, lI p4, lI (p0 &&& (3 : Int32)), lR jb, lI (((p0.toUInt32 >>> ((2 : Int32) &&& 31).toUInt32).toInt32) &&& (7 : Int32)), lI (p1 &&& (3 : Int32)), lR b189, lU, lU, lU, lU] [(.int (0 : Int32)), (.ref b212), (.ref b212)]))
              have c219 := (c213.ext E212)
              have c220 := (c214.ext E212)
              have c221 := (q190_0.ext E212)
              obtain ⟨T218, h218, k218, X218, e218, E218, A218, st218⟩ := newP X212 hx hZj1 (ow hw 8 rfl) e212 (g := (mkF m 144 #[.val (.int p0), .val (.int p1), .val (.int p2), .val (.int p3), .val (.int p4), .val (.int (p0 &&& (3 : Int32))), .val (.ref jb), .val (.int (((p0.toUInt32 >>> ((2 : Int32) &&& 31).toUInt32).toInt32) &&& (7 : Int32))), .val (.int (p1 &&& (3 : Int32))), .val (.ref b189), .unset, .unset, .unset, .unset] [(.int (0 : Int32)), (.ref b212), (.ref b212)])) rfl (hb hby at_144) rfl (by decide) (cap := 0) (by decide) (by decide) (by decide) (by decide)
              obtain ⟨b218, g218⟩ : ∃ z, z = h212.size := ⟨_, rfl⟩
              rw [← g218] at A218 st218
              refine Go.st st218 ?_
              have g_b218 : n0 ≤ b218 := Nat.le_trans (own_oldsz O212) (Nat.le_of_eq g218.symm)
              have sz_b218 : h0.size ≤ b218 := Nat.le_trans K212.1 (Nat.le_of_eq g218.symm)
              have K218 : Keep h0 h218 [] := K212.ext E218
              have O218 := O212.ext E218
              have sf222 := Safe.ext E218 CR212.1 sf215
              have sf223 := Safe.ext E218 CR212.1 SF_b212
              have SF_b218 : Safe Z consts_1 vmj1 h218 b218 := Safe.ext E218 CR212.1 (Safe.new (Nat.le_of_eq g218.symm))
              have CR218 := CR212.trans (CHr.ext E218 CR212.1)
              have V218 : Arv Z h218 b218 k218 .char (0 : Int32) [] (.int (0 : Int32)) := (Arv.new A218 (by decide)).pad (pad_rep [] (.int (0 : Int32)) 0)
              show Go p.tables e below P (T218.setTop (mkF m 146 #[lI p0, lI p1, lI p2, lI p3, lI p4, lI (p0 &&& (3 : Int32)), lR jb, lI (((p0.toUInt32 >>> ((2 : Int32) &&& 31).toUInt32).toInt32) &&& (7 : Int32)), lI (p1 &&& (3 : Int32)), lR b189, lU, lU, lU, lU] [(.ref b218), (.ref b212), (.ref b212)]))
              have c225 := (A212.ext E218)
              have c226 := (F216.ext E218)
              have c227 := (F217.ext E218)
              have c228 := (c219.ext E218)
              have c229 := (c220.ext E218)
              have c230 := (c221.ext E218)
              obtain ⟨_, _, ⟨T224, L224, k224, n224⟩, -, X224, hS224, hg224, ⟨Lc224, hQ224, l224, y224, z224, hCR224⟩, st224⟩ := X218.specialBackS hx (y := (⟨"java/lang/String", "<init>", "([C)V"⟩ : MethodName)) rfl hownj1 (mvT hZj1 (ow hw 95 rfl)) (mvT hZj1 (ow hw 96 rfl)) (mvT hZj1 (ow hw 97 rfl)) (by decide) (backOfSH (W := 1) (rm_emp1 l Z a0 hw [] w_N S_N X_N w_K S_K X_K w_V k_V S_V X_V V_V w_NS F_NS X_NS I_NS_coder w_NB k_NB F_NB V_NB w_KS F_KS X_KS I_KS_coder w_KB k_KB F_KB V_KB w_OE S_OE X_OE I_OE_value g_CS S_CS nz_CS g_SF S_SF r_SF b212 b218 k218 h218 n0 O218 c225 c226 c227 g_b212 V218) hZj1 (ow hw 97 rfl) (ow hw 1 rfl) (by decide) (by decide) hEL CR218.1) (g := (mkF m 146 #[.val (.int p0), .val (.int p1), .val (.int p2), .val (.int p3), .val (.int p4), .val (.int (p0 &&& (3 : Int32))), .val (.ref jb), .val (.int (((p0.toUInt32 >>> ((2 : Int32) &&& 31).toUInt32).toInt32) &&& (7 : Int32))), .val (.int (p1 &&& (3 : Int32))), .val (.ref b189), .unset, .unset, .unset, .unset] [(.ref b218), (.ref b212), (.ref b212)])) rfl (by rw [hml]; rfl) (Steps.refl _) (a := b212) (argsL := [(.ref b218)]) (rest := [(.ref b212)]) (lenOf own_pd13 rfl) rfl (by show 2 * 0 + _ ≤ _; exact Nat.le_of_eq rfl) (hb hby at_146) (fun _ _ => ⟨rfl, e218, (by decide : 5 + 4 ≤ _), (by decide : 78 + 8 ≤ _)⟩)
              dsimp only [Pt.U, Pt.locs, Pt.cells, Pt.slots] at X224 l224 y224 z224 st224 hQ224 hS224 hg224 hCR224
              subst y224 z224
              refine Go.tr st224 ?_
              obtain ⟨XX224, hSS224, hZ224, hown224⟩ := rebS hSj1 (by rw [e218]; exact (Nat.le_trans (Nat.le_trans (Nat.le_trans (Nat.le_trans hkj1 E189.1) K190q.1) E212.1) E218.1)) X224 hS224 hg224 hZj1 hownj1
              obtain ⟨vb_231, kb_232, rfl, N224q, K224q, q224_0, q224_1, q224_2, q224_3⟩ := hQ224
              have N224 : Fr n0 L224 := by rw [l224]; exact Fr.app N190 N224q
              have sf233 := hCR224.safe c230.lt sf222
              have sf234 := hCR224.safe c225.lt sf223
              have sf235 := hCR224.safe V218.lt SF_b218
              have CR224 := CR218.trans hCR224
              have O224 := O218.keep K224q (allS g_b212 all0)
              have K224 : Keep h0 T224.heap [] := K218.trans K224q (allS (Or.inr sz_b212) all0)
              show Go p.tables e below P (T224.setTop (mkF m 149 #[lI p0, lI p1, lI p2, lI p3, lI p4, lI (p0 &&& (3 : Int32)), lR jb, lI (((p0.toUInt32 >>> ((2 : Int32) &&& 31).toUInt32).toInt32) &&& (7 : Int32)), lI (p1 &&& (3 : Int32)), lR b189, lU, lU, lU, lU] [(.ref b212)]))
              refine Go.st (fun _ => XS.astore XX224.here hx rfl (hb hby at_149) rfl rfl (l' := #[.val (.int p0), .val (.int p1), .val (.int p2), .val (.int p3), .val (.int p4), .val (.int (p0 &&& (3 : Int32))), .val (.ref jb), .val (.int (((p0.toUInt32 >>> ((2 : Int32) &&& 31).toUInt32).toInt32) &&& (7 : Int32))), .val (.int (p1 &&& (3 : Int32))), .val (.ref b189), .val (.ref b212), .unset, .unset, .unset]) rfl) ?_
              show Go p.tables e below P (T224.setTop (mkF m 151 #[lI p0, lI p1, lI p2, lI p3, lI p4, lI (p0 &&& (3 : Int32)), lR jb, lI (((p0.toUInt32 >>> ((2 : Int32) &&& 31).toUInt32).toInt32) &&& (7 : Int32)), lI (p1 &&& (3 : Int32)), lR b189, lR b212, lU, lU, lU] []))
              refine Go.st (fun _ => XS.goto XX224.here hx rfl (pc0 := 151) (pc' := 165) rfl (hb hby at_151) (by decide) (by decide)) ?_
              show Go p.tables e below P (T224.setTop (mkF m 165 #[lI p0, lI p1, lI p2, lI p3, lI p4, lI (p0 &&& (3 : Int32)), lR jb, lI (((p0.toUInt32 >>> ((2 : Int32) &&& 31).toUInt32).toInt32) &&& (7 : Int32)), lI (p1 &&& (3 : Int32)), lR b189, lR b212, lU, lU, lU] []))
              exact J2 T224 T224.heap _ _ _ (XX224.more (by decide) (by decide)) rfl K224 O224 N224 hSS224 (Nat.le_refl _) hZ224 hown224 CR224  b189 (.ref b212) rfl (Or.inr ⟨_, _, _, ([] : List Int32), rfl, q224_0, q224_1, q224_2, own_arvN rfl q224_3, (by decide), (Nat.le_of_ble_eq_true rfl)⟩)
            · skip
              refine Go.st (fun _ => XS.icmpYes X190.here hx rfl (pc0 := 136) (pc' := 154) rfl (hb hby at_136) rfl (feq hc211).2 (by decide) (by decide)) ?_
              show Go p.tables e below P (T190.setTop (mkF m 154 #[lI p0, lI p1, lI p2, lI p3, lI p4, lI (p0 &&& (3 : Int32)), lR jb, lI (((p0.toUInt32 >>> ((2 : Int32) &&& 31).toUInt32).toInt32) &&& (7 : Int32)), lI (p1 &&& (3 : Int32)), lR b189, lU, lU, lU, lU] []))
              have c237 := (c191.keep K190q)
              have c238 := (c194.keep K190q (ninS (Nat.ne_of_lt (Nat.lt_of_lt_of_le hAb.lt (Nat.le_of_eq g189.symm))) nin0))
              obtain ⟨T236, h236, X236, e236, E236, A236, D236, -, st236⟩ := newO X190 hx hZj1 hownj1 (ow hw 94 rfl) (ow hw 2 rfl) (ow hw 1 rfl) rfl (g := (mkF m 154 #[.val (.int p0), .val (.int p1), .val (.int p2), .val (.int p3), .val (.int p4), .val (.int (p0 &&& (3 : Int32))), .val (.ref jb), .val (.int (((p0.toUInt32 >>> ((2 : Int32) &&& 31).toUInt32).toInt32) &&& (7 : Int32))), .val (.int (p1 &&& (3 : Int32))), .val (.ref b189), .unset, .unset, .unset, .unset] [])) rfl (hb hby at_154) (by decide) (by decide)
              obtain ⟨b236, g236⟩ : ∃ z, z = T190.heap.size := ⟨_, rfl⟩
              rw [← g236] at A236 D236 st236
              refine Go.st st236 ?_
              have g_b236 : n0 ≤ b236 := Nat.le_trans (own_oldsz O190) (Nat.le_of_eq g236.symm)
              have sz_b236 : h0.size ≤ b236 := Nat.le_trans K190.1 (Nat.le_of_eq g236.symm)
              have K236 : Keep h0 h236 [] := K190.ext E236
              have O236 := O190.ext E236
              have sf239 := Safe.ext E236 CR190.1 sf209
              have SF_b236 : Safe Z consts_1 vmj1 h236 b236 := Safe.ext E236 CR190.1 (Safe.new (Nat.le_of_eq g236.symm))
              have CR236 := CR190.trans (CHr.ext E236 CR190.1)
              have F240 : Fld Z h236 b236 "java/lang/String" "value" "[B" .null := D236 (Or.inr (ow hw 4 rfl)) (ty := (.array .byte)) (by decide)
              have F241 : Fld Z h236 b236 "java/lang/String" "coder" "B" (.int (0 : Int32)) := D236 (Or.inr (ow hw 5 rfl)) (ty := .byte) (by decide)
              show Go p.tables e below P (T236.setTop (mkF m 157 #[lI p0, lI p1, lI p2, lI p3, lI p4, lI (p0 &&& (3 : Int32)), lR jb, lI (((p0.toUInt32 >>> ((2 : Int32) &&& 31).toUInt32).toInt32) &&& (7 : Int32)), lI (p1 &&& (3 : Int32)), lR b189, lU, lU, lU, lU] [(.ref b236)]))
              refine Go.st (fun _ => XS.dup X236.here hx rfl (hb hby at_157) rfl rfl) ?_
              show Go p.tables e below P (T236.setTop (mkF m 158 #[lI p0, lI p1, lI p2, lI p3, lI p4, lI (p0 &&& (3 : Int32)), lR jb, lI (((p0.toUInt32 >>> ((2 : Int32) &&& 31).toUInt32).toInt32) &&& (7 : Int32)), lI (p1 &&& (3 : Int32)), lR b189, lU, lU, lU, lU] [(.ref b236), (.ref b236)]))
              refine Go.st (fun _ => XS.aload X236.here hx rfl (hb hby at_158) rfl rfl) ?_
              show Go p.tables e below P (T236.setTop (mkF m 160 #[lI p0, lI p1, lI p2, lI p3, lI p4, lI (p0 &&& (3 : Int32)), lR jb, lI (((p0.toUInt32 >>> ((2 : Int32) &&& 31).toUInt32).toInt32) &&& (7 : Int32)), lI (p1 &&& (3 : Int32)), lR b189, lU, lU, lU, lU] [(.ref b189), (.ref b236), (.ref b236)]))
              have c243 := (q190_0.ext E236)
              have hp242 : ∀ c ∈ ([c0_195, c1_196, c2_197, c3_198, c4_199, c5_200, c6_201, c7_202, c8_203, c9_204, c10_205, c11_206, c12_207, c13_208] : List Int32), ¬ c < 0 ∧ ¬ (255 : Int32) < c := by
                intro c hc
                simp only [List.mem_cons, List.not_mem_nil, or_false] at hc
                rcases hc with rfl | rfl | rfl | rfl | rfl | rfl | rfl | rfl | rfl | rfl | rfl | rfl | rfl | rfl
                · exact q190_1
                · exact q190_2
                · exact q190_3
                · exact q190_4
                · exact q190_5
                · exact q190_6
                · exact q190_7
                · exact q190_8
                · exact q190_9
                · exact q190_10
                · exact q190_11
                · exact q190_12
                · exact q190_13
                · exact q190_14
              have c244 := (c237.ext E236)
              have c245 := (c238.ext E236)
              obtain ⟨_, _, ⟨T242, L242, k242, n242⟩, -, X242, ⟨Lc242, hQ242, l242, y242, z242⟩, st242⟩ := X236.specialBack hx (y := (⟨"java/lang/String", "<init>", "([C)V"⟩ : MethodName)) rfl hownj1 (mvT hZj1 (ow hw 95 rfl)) (mvT hZj1 (ow hw 96 rfl)) (mvT hZj1 (ow hw 97 rfl)) (by decide) (StrChars.Road.backV (W := 1) hZj1 (fun d hd => hw d (own_wNew d hd)) (kI := 4) (ow hw 2 rfl) (cs := ([c0_195, c1_196, c2_197, c3_198, c4_199, c5_200, c6_201, c7_202, c8_203, c9_204, c10_205, c11_206, c12_207, c13_208] : List Int32)) (bs := (([c0_195, c1_196, c2_197, c3_198, c4_199, c5_200, c6_201, c7_202, c8_203, c9_204, c10_205, c11_206, c12_207, c13_208] : List Int32)).map (fun c => c.toInt8.toInt32)) (n := 14) g_b236 (own_oldsz O236) A236 F240 F241 c243 (S_CS.ext O236.2) nz_CS rfl rfl (by decide) (by decide) hp242 rfl (by decide) (by decide)) (g := (mkF m 160 #[.val (.int p0), .val (.int p1), .val (.int p2), .val (.int p3), .val (.int p4), .val (.int (p0 &&& (3 : Int32))), .val (.ref jb), .val (.int (((p0.toUInt32 >>> ((2 : Int32) &&& 31).toUInt32).toInt32) &&& (7 : Int32))), .val (.int (p1 &&& (3 : Int32))), .val (.ref b189), .unset, .unset, .unset, .unset] [(.ref b189), (.ref b236), (.ref b236)])) rfl (by rw [hml]; rfl) (Steps.refl _) (a := b236) (argsL := [(.ref b189)]) (rest := [(.ref b236)]) (lenOf own_pd13 rfl) rfl (by show 2 * 0 + _ ≤ _; exact Nat.le_of_eq rfl) (hb hby at_160) (fun _ _ => ⟨rfl, e236, (by decide : 4 + 1 ≤ _), (by decide : 78 + 14 ≤ _)⟩)
              dsimp only [Pt.U, Pt.locs, Pt.cells, Pt.slots] at X242 l242 y242 z242 st242 hQ242
              subst y242 z242
              refine Go.tr st242 ?_
              obtain ⟨rfl, N242q, K242q, E242x, C242x, t242, kb242, gt242, szt242, net242, V242x, A242x⟩ := hQ242
              have N242 : Fr n0 L242 := by rw [l242]; exact Fr.app N190 N242q
              have O242 := O236.keep K242q (allS g_b236 all0)
              have K242 : Keep h0 T242.heap [] := K236.trans K242q (allS (Or.inr sz_b236) all0)
              have sf246 := Safe.keep K242q (sfS SF_b236 sf0) CR236.1 sf239
              have sf247 := Safe.keep K242q (sfS SF_b236 sf0) CR236.1 SF_b236
              have CR242 := CR236.trans (CHr.keep K242q (sfS SF_b236 sf0) CR236.1)
              have sz_t242 : h0.size ≤ t242 := Nat.le_trans K236.1 szt242
              show Go p.tables e below P (T242.setTop (mkF m 163 #[lI p0, lI p1, lI p2, lI p3, lI p4, lI (p0 &&& (3 : Int32)), lR jb, lI (((p0.toUInt32 >>> ((2 : Int32) &&& 31).toUInt32).toInt32) &&& (7 : Int32)), lI (p1 &&& (3 : Int32)), lR b189, lU, lU, lU, lU] [(.ref b236)]))
              refine Go.st (fun _ => XS.astore X242.here hx rfl (hb hby at_163) rfl rfl (l' := #[.val (.int p0), .val (.int p1), .val (.int p2), .val (.int p3), .val (.int p4), .val (.int (p0 &&& (3 : Int32))), .val (.ref jb), .val (.int (((p0.toUInt32 >>> ((2 : Int32) &&& 31).toUInt32).toInt32) &&& (7 : Int32))), .val (.int (p1 &&& (3 : Int32))), .val (.ref b189), .val (.ref b236), .unset, .unset, .unset]) rfl) ?_
              show Go p.tables e below P (T242.setTop (mkF m 165 #[lI p0, lI p1, lI p2, lI p3, lI p4, lI (p0 &&& (3 : Int32)), lR jb, lI (((p0.toUInt32 >>> ((2 : Int32) &&& 31).toUInt32).toInt32) &&& (7 : Int32)), lI (p1 &&& (3 : Int32)), lR b189, lR b236, lU, lU, lU] []))
              exact J2 T242 T242.heap _ _ _ (X242.more (by decide) (by decide)) rfl K242 O242 N242 hSj1 (Nat.le_trans (Nat.le_trans (Nat.le_trans (Nat.le_trans hkj1 E189.1) K190q.1) E236.1) K242q.1) hZj1 hownj1 CR242  b189 (.ref b236) rfl (Or.inr ⟨_, _, _, ([c0_195, c1_196, c2_197, c3_198, c4_199, c5_200, c6_201, c7_202, c8_203, c9_204, c10_205, c11_206, c12_207, c13_208] : List Int32), rfl, E242x, C242x, V242x, own_arvN rfl A242x, hp242, (Nat.le_of_ble_eq_true rfl)⟩)
        · skip
          refine Go.st (fun _ => XS.icmpYes Xj1.here hx rfl (pc0 := 82) (pc' := 92) rfl (hb hby at_82) rfl (feq hc188).2 (by decide) (by decide)) ?_
          show Go p.tables e below P (Tj1.setTop (mkF m 92 #[lI p0, lI p1, lI p2, lI p3, lI p4, lI (p0 &&& (3 : Int32)), lR jb, lI (((p0.toUInt32 >>> ((2 : Int32) &&& 31).toUInt32).toInt32) &&& (7 : Int32)), lI (p1 &&& (3 : Int32)), lU, lU, lU, lU, lU] []))
          refine Go.st (fun _ => XS.bipush Xj1.here hx rfl (hb hby at_92)) ?_
          show Go p.tables e below P (Tj1.setTop (mkF m 94 #[lI p0, lI p1, lI p2, lI p3, lI p4, lI (p0 &&& (3 : Int32)), lR jb, lI (((p0.toUInt32 >>> ((2 : Int32) &&& 31).toUInt32).toInt32) &&& (7 : Int32)), lI (p1 &&& (3 : Int32)), lU, lU, lU, lU, lU] [(.int (15 : Int32))]))
          obtain ⟨T248, h248, k248, X248, e248, E248, A248, st248⟩ := newP Xj1 hx hZj1 (ow hw 8 rfl) ej1 (g := (mkF m 94 #[.val (.int p0), .val (.int p1), .val (.int p2), .val (.int p3), .val (.int p4), .val (.int (p0 &&& (3 : Int32))), .val (.ref jb), .val (.int (((p0.toUInt32 >>> ((2 : Int32) &&& 31).toUInt32).toInt32) &&& (7 : Int32))), .val (.int (p1 &&& (3 : Int32))), .unset, .unset, .unset, .unset, .unset] [(.int (15 : Int32))])) rfl (hb hby at_94) rfl (by decide) (cap := 15) (by decide) (by decide) (by decide) (by decide)
          obtain ⟨b248, g248⟩ : ∃ z, z = hj1.size := ⟨_, rfl⟩
          rw [← g248] at A248 st248
          refine Go.st st248 ?_
          have g_b248 : n0 ≤ b248 := Nat.le_trans (own_oldsz Oj1) (Nat.le_of_eq g248.symm)
          have sz_b248 : h0.size ≤ b248 := Nat.le_trans Kj1.1 (Nat.le_of_eq g248.symm)
          have K248 : Keep h0 h248 [] := Kj1.ext E248
          have O248 := Oj1.ext E248
          have SF_b248 : Safe Z consts_1 vmj1 h248 b248 := Safe.ext E248 CRj1.1 (Safe.new (Nat.le_of_eq g248.symm))
          have CR248 := CRj1.trans (CHr.ext E248 CRj1.1)
          have V248 : Arv Z h248 b248 k248 .char (15 : Int32) [(.int (0 : Int32)), (.int (0 : Int32)), (.int (0 : Int32)), (.int (0 : Int32)), (.int (0 : Int32)), (.int (0 : Int32)), (.int (0 : Int32)), (.int (0 : Int32)), (.int (0 : Int32)), (.int (0 : Int32)), (.int (0 : Int32)), (.int (0 : Int32)), (.int (0 : Int32)), (.int (0 : Int32)), (.int (0 : Int32))] (.int (0 : Int32)) := (Arv.new A248 (by decide)).pad (pad_rep [] (.int (0 : Int32)) 15)
          show Go p.tables e below P (T248.setTop (mkF m 96 #[lI p0, lI p1, lI p2, lI p3, lI p4, lI (p0 &&& (3 : Int32)), lR jb, lI (((p0.toUInt32 >>> ((2 : Int32) &&& 31).toUInt32).toInt32) &&& (7 : Int32)), lI (p1 &&& (3 : Int32)), lU, lU, lU, lU, lU] [(.ref b248)]))
          refine Go.st (fun _ => XS.astore X248.here hx rfl (hb hby at_96) rfl rfl (l' := #[.val (.int p0), .val (.int p1), .val (.int p2), .val (.int p3), .val (.int p4), .val (.int (p0 &&& (3 : Int32))), .val (.ref jb), .val (.int (((p0.toUInt32 >>> ((2 : Int32) &&& 31).toUInt32).toInt32) &&& (7 : Int32))), .val (.int (p1 &&& (3 : Int32))), .val (.ref b248), .unset, .unset, .unset, .unset]) rfl) ?_
          show Go p.tables e below P (T248.setTop (mkF m 98 #[lI p0, lI p1, lI p2, lI p3, lI p4, lI (p0 &&& (3 : Int32)), lR jb, lI (((p0.toUInt32 >>> ((2 : Int32) &&& 31).toUInt32).toInt32) &&& (7 : Int32)), lI (p1 &&& (3 : Int32)), lR b248, lU, lU, lU, lU] []))
          refine Go.st (fun _ => XS.aload X248.here hx rfl (hb hby at_98) rfl rfl) ?_
          show Go p.tables e below P (T248.setTop (mkF m 100 #[lI p0, lI p1, lI p2, lI p3, lI p4, lI (p0 &&& (3 : Int32)), lR jb, lI (((p0.toUInt32 >>> ((2 : Int32) &&& 31).toUInt32).toInt32) &&& (7 : Int32)), lI (p1 &&& (3 : Int32)), lR b248, lU, lU, lU, lU] [(.ref b248)]))
          refine Go.st (fun _ => XS.aload X248.here hx rfl (hb hby at_100) rfl rfl) ?_
          show Go p.tables e below P (T248.setTop (mkF m 102 #[lI p0, lI p1, lI p2, lI p3, lI p4, lI (p0 &&& (3 : Int32)), lR jb, lI (((p0.toUInt32 >>> ((2 : Int32) &&& 31).toUInt32).toInt32) &&& (7 : Int32)), lI (p1 &&& (3 : Int32)), lR b248, lU, lU, lU, lU] [(.ref jb), (.ref b248)]))
          refine Go.st (fun _ => XS.iloadN X248.here hx rfl (hb hby at_102) rfl) ?_
          show Go p.tables e below P (T248.setTop (mkF m 103 #[lI p0, lI p1, lI p2, lI p3, lI p4, lI (p0 &&& (3 : Int32)), lR jb, lI (((p0.toUInt32 >>> ((2 : Int32) &&& 31).toUInt32).toInt32) &&& (7 : Int32)), lI (p1 &&& (3 : Int32)), lR b248, lU, lU, lU, lU] [(.int p2), (.ref jb), (.ref b248)]))
          refine Go.st (fun _ => XS.bipush X248.here hx rfl (hb hby at_103)) ?_
          show Go p.tables e below P (T248.setTop (mkF m 105 #[lI p0, lI p1, lI p2, lI p3, lI p4, lI (p0 &&& (3 : Int32)), lR jb, lI (((p0.toUInt32 >>> ((2 : Int32) &&& 31).toUInt32).toInt32) &&& (7 : Int32)), lI (p1 &&& (3 : Int32)), lR b248, lU, lU, lU, lU] [(.int (15 : Int32)), (.int p2), (.ref jb), (.ref b248)]))
          refine Go.st (fun _ => XS.iand X248.here hx rfl (hb hby at_105) rfl) ?_
          show Go p.tables e below P (T248.setTop (mkF m 106 #[lI p0, lI p1, lI p2, lI p3, lI p4, lI (p0 &&& (3 : Int32)), lR jb, lI (((p0.toUInt32 >>> ((2 : Int32) &&& 31).toUInt32).toInt32) &&& (7 : Int32)), lI (p1 &&& (3 : Int32)), lR b248, lU, lU, lU, lU] [(.int (p2 &&& (15 : Int32))), (.ref jb), (.ref b248)]))
          refine Go.st (fun _ => XS.iloadN X248.here hx rfl (hb hby at_106) rfl) ?_
          show Go p.tables e below P (T248.setTop (mkF m 107 #[lI p0, lI p1, lI p2, lI p3, lI p4, lI (p0 &&& (3 : Int32)), lR jb, lI (((p0.toUInt32 >>> ((2 : Int32) &&& 31).toUInt32).toInt32) &&& (7 : Int32)), lI (p1 &&& (3 : Int32)), lR b248, lU, lU, lU, lU] [(.int p3), (.int (p2 &&& (15 : Int32))), (.ref jb), (.ref b248)]))
          refine Go.st (fun _ => XS.sipush X248.here hx rfl (hb hby at_107)) ?_
          show Go p.tables e below P (T248.setTop (mkF m 110 #[lI p0, lI p1, lI p2, lI p3, lI p4, lI (p0 &&& (3 : Int32)), lR jb, lI (((p0.toUInt32 >>> ((2 : Int32) &&& 31).toUInt32).toInt32) &&& (7 : Int32)), lI (p1 &&& (3 : Int32)), lR b248, lU, lU, lU, lU] [(.int (255 : Int32)), (.int p3), (.int (p2 &&& (15 : Int32))), (.ref jb), (.ref b248)]))
          refine Go.st (fun _ => XS.iand X248.here hx rfl (hb hby at_110) rfl) ?_
          show Go p.tables e below P (T248.setTop (mkF m 111 #[lI p0, lI p1, lI p2, lI p3, lI p4, lI (p0 &&& (3 : Int32)), lR jb, lI (((p0.toUInt32 >>> ((2 : Int32) &&& 31).toUInt32).toInt32) &&& (7 : Int32)), lI (p1 &&& (3 : Int32)), lR b248, lU, lU, lU, lU] [(.int (p3 &&& (255 : Int32))), (.int (p2 &&& (15 : Int32))), (.ref jb), (.ref b248)]))
          refine Go.st (fun _ => XS.i2c X248.here hx rfl (hb hby at_111) rfl) ?_
          show Go p.tables e below P (T248.setTop (mkF m 112 #[lI p0, lI p1, lI p2, lI p3, lI p4, lI (p0 &&& (3 : Int32)), lR jb, lI (((p0.toUInt32 >>> ((2 : Int32) &&& 31).toUInt32).toInt32) &&& (7 : Int32)), lI (p1 &&& (3 : Int32)), lR b248, lU, lU, lU, lU] [(.int ((p3 &&& (255 : Int32)).toUInt32.toUInt16.toUInt32.toInt32)), (.int (p2 &&& (15 : Int32))), (.ref jb), (.ref b248)]))
          rw [i2c_mask]
          show Go p.tables e below P (T248.setTop (mkF m 112 #[lI p0, lI p1, lI p2, lI p3, lI p4, lI (p0 &&& (3 : Int32)), lR jb, lI (((p0.toUInt32 >>> ((2 : Int32) &&& 31).toUInt32).toInt32) &&& (7 : Int32)), lI (p1 &&& (3 : Int32)), lR b248, lU, lU, lU, lU] [(.int (p3 &&& (255 : Int32))), (.int (p2 &&& (15 : Int32))), (.ref jb), (.ref b248)]))
          refine Go.st (fun _ => XS.iload X248.here hx rfl (hb hby at_112) rfl) ?_
          show Go p.tables e below P (T248.setTop (mkF m 114 #[lI p0, lI p1, lI p2, lI p3, lI p4, lI (p0 &&& (3 : Int32)), lR jb, lI (((p0.toUInt32 >>> ((2 : Int32) &&& 31).toUInt32).toInt32) &&& (7 : Int32)), lI (p1 &&& (3 : Int32)), lR b248, lU, lU, lU, lU] [(.int p4), (.int (p3 &&& (255 : Int32))), (.int (p2 &&& (15 : Int32))), (.ref jb), (.ref b248)]))
          refine Go.st (fun _ => XS.sipush X248.here hx rfl (hb hby at_114)) ?_
          show Go p.tables e below P (T248.setTop (mkF m 117 #[lI p0, lI p1, lI p2, lI p3, lI p4, lI (p0 &&& (3 : Int32)), lR jb, lI (((p0.toUInt32 >>> ((2 : Int32) &&& 31).toUInt32).toInt32) &&& (7 : Int32)), lI (p1 &&& (3 : Int32)), lR b248, lU, lU, lU, lU] [(.int (255 : Int32)), (.int p4), (.int (p3 &&& (255 : Int32))), (.int (p2 &&& (15 : Int32))), (.ref jb), (.ref b248)]))
          refine Go.st (fun _ => XS.iand X248.here hx rfl (hb hby at_117) rfl) ?_
          show Go p.tables e below P (T248.setTop (mkF m 118 #[lI p0, lI p1, lI p2, lI p3, lI p4, lI (p0 &&& (3 : Int32)), lR jb, lI (((p0.toUInt32 >>> ((2 : Int32) &&& 31).toUInt32).toInt32) &&& (7 : Int32)), lI (p1 &&& (3 : Int32)), lR b248, lU, lU, lU, lU] [(.int (p4 &&& (255 : Int32))), (.int (p3 &&& (255 : Int32))), (.int (p2 &&& (15 : Int32))), (.ref jb), (.ref b248)]))
          refine Go.st (fun _ => XS.i2c X248.here hx rfl (hb hby at_118) rfl) ?_
          show Go p.tables e below P (T248.setTop (mkF m 119 #[lI p0, lI p1, lI p2, lI p3, lI p4, lI (p0 &&& (3 : Int32)), lR jb, lI (((p0.toUInt32 >>> ((2 : Int32) &&& 31).toUInt32).toInt32) &&& (7 : Int32)), lI (p1 &&& (3 : Int32)), lR b248, lU, lU, lU, lU] [(.int ((p4 &&& (255 : Int32)).toUInt32.toUInt16.toUInt32.toInt32)), (.int (p3 &&& (255 : Int32))), (.int (p2 &&& (15 : Int32))), (.ref jb), (.ref b248)]))
          rw [i2c_mask]
          show Go p.tables e below P (T248.setTop (mkF m 119 #[lI p0, lI p1, lI p2, lI p3, lI p4, lI (p0 &&& (3 : Int32)), lR jb, lI (((p0.toUInt32 >>> ((2 : Int32) &&& 31).toUInt32).toInt32) &&& (7 : Int32)), lI (p1 &&& (3 : Int32)), lR b248, lU, lU, lU, lU] [(.int (p4 &&& (255 : Int32))), (.int (p3 &&& (255 : Int32))), (.int (p2 &&& (15 : Int32))), (.ref jb), (.ref b248)]))
          have c250 := (hEb.ext E248)
          have c251 := (hCb.ext E248)
          have c252 := (hVb.ext E248)
          have c253 := (hAb.ext E248)
          obtain ⟨_, _, ⟨T249, L249, k249, n249⟩, -, X249, ⟨Lc249, hQ249, l249, y249, z249⟩, st249⟩ := Jvm.LawKit.callS X248 hx (y := (⟨"com/example/vacuum/vacuum/model/MethodOfWireNamePinLaw", "fillChars", "([CLjava/lang/String;ICC)V"⟩ : MethodName)) hownj1 (mvT hZj1 (ow hw 9 rfl)) (mvT hZj1 (ow hw 10 rfl)) (mvT hZj1 (ow hw 11 rfl)) (mvT hZj1 (ow hw 12 rfl)) (by decide) (backOf (W := 0) (rm_fc15 l Z a0 hw [] w_N S_N X_N w_K S_K X_K w_V k_V S_V X_V V_V w_NS F_NS X_NS I_NS_coder w_NB k_NB F_NB V_NB w_KS F_KS X_KS I_KS_coder w_KB k_KB F_KB V_KB w_OE S_OE X_OE I_OE_value g_CS S_CS nz_CS g_SF S_SF r_SF b248 jb (p2 &&& (15 : Int32)) (p3 &&& (255 : Int32)) (p4 &&& (255 : Int32)) k248 jbc jbv jbk h248 n0 O248 V248 g_b248 c250 c251 c252 c253 hpcb hleb (Nat.ne_of_lt (Nat.lt_of_lt_of_le hAb.lt (Nat.le_of_eq g248.symm))) (own_and255 _) (own_and255 _)) hZj1 (ow hw 12 rfl) (ow hw 11 rfl) (by decide) (by decide)) (g := (mkF m 119 #[.val (.int p0), .val (.int p1), .val (.int p2), .val (.int p3), .val (.int p4), .val (.int (p0 &&& (3 : Int32))), .val (.ref jb), .val (.int (((p0.toUInt32 >>> ((2 : Int32) &&& 31).toUInt32).toInt32) &&& (7 : Int32))), .val (.int (p1 &&& (3 : Int32))), .val (.ref b248), .unset, .unset, .unset, .unset] [(.int (p4 &&& (255 : Int32))), (.int (p3 &&& (255 : Int32))), (.int (p2 &&& (15 : Int32))), (.ref jb), (.ref b248)])) rfl (by rw [hml]; rfl) (argsL := [(.ref b248), (.ref jb), (.int (p2 &&& (15 : Int32))), (.int (p3 &&& (255 : Int32))), (.int (p4 &&& (255 : Int32)))]) (rest := []) (lenOf own_pd12 rfl) rfl (by show 2 * 0 + _ ≤ _; exact Nat.le_of_eq rfl) (hb hby at_119) (fun _ _ => ⟨rfl, e248, (by decide : 3 + 0 ≤ _), (by decide : 75 + 0 ≤ _)⟩)
          dsimp only [Pt.U, Pt.locs, Pt.cells, Pt.slots] at X249 l249 y249 z249 st249 hQ249
          subst y249 z249
          refine Go.st st249 ?_
          obtain ⟨c0_254, c1_255, c2_256, c3_257, c4_258, c5_259, c6_260, c7_261, c8_262, c9_263, c10_264, c11_265, c12_266, c13_267, c14_268, rfl, N249q, K249q, q249_0, q249_1, q249_2, q249_3, q249_4, q249_5, q249_6, q249_7, q249_8, q249_9, q249_10, q249_11, q249_12, q249_13, q249_14, q249_15⟩ := hQ249
          have N249 : Fr n0 L249 := by rw [l249]; exact Fr.app Nj1 N249q
          have O249 := O248.keep K249q (allS g_b248 all0)
          have K249 : Keep h0 T249.heap [] := K248.trans K249q (allS (Or.inr sz_b248) all0)
          have sf269 := Safe.keep K249q (sfS SF_b248 sf0) CR248.1 SF_b248
          have CR249 := CR248.trans (CHr.keep K249q (sfS SF_b248 sf0) CR248.1)
          show Go p.tables e below P (T249.setTop (mkF m 122 #[lI p0, lI p1, lI p2, lI p3, lI p4, lI (p0 &&& (3 : Int32)), lR jb, lI (((p0.toUInt32 >>> ((2 : Int32) &&& 31).toUInt32).toInt32) &&& (7 : Int32)), lI (p1 &&& (3 : Int32)), lR b248, lU, lU, lU, lU] []))
          refine Go.st (fun _ => XS.iload X249.here hx rfl (hb hby at_122) rfl) ?_
          show Go p.tables e below P (T249.setTop (mkF m 124 #[lI p0, lI p1, lI p2, lI p3, lI p4, lI (p0 &&& (3 : Int32)), lR jb, lI (((p0.toUInt32 >>> ((2 : Int32) &&& 31).toUInt32).toInt32) &&& (7 : Int32)), lI (p1 &&& (3 : Int32)), lR b248, lU, lU, lU, lU] [(.int (((p0.toUInt32 >>> ((2 : Int32) &&& 31).toUInt32).toInt32) &&& (7 : Int32)))]))
          by_cases hc270 : (((p0.toUInt32 >>> ((2 : Int32) &&& 31).toUInt32).toInt32) &&& (7 : Int32)) = (0 : Int32)
          · skip
            refine Go.st (fun _ => XS.ifNo X249.here hx rfl (hb hby at_124) rfl ((if0 _ _).trans (teq hc270).2)) ?_
            show Go p.tables e below P (T249.setTop (mkF m 127 #[lI p0, lI p1, lI p2, lI p3, lI p4, lI (p0 &&& (3 : Int32)), lR jb, lI (((p0.toUInt32 >>> ((2 : Int32) &&& 31).toUInt32).toInt32) &&& (7 : Int32)), lI (p1 &&& (3 : Int32)), lR b248, lU, lU, lU, lU] []))
            refine Go.st (fun _ => XS.aconstNull X249.here hx rfl (hb hby at_127)) ?_
            show Go p.tables e below P (T249.setTop (mkF m 128 #[lI p0, lI p1, lI p2, lI p3, lI p4, lI (p0 &&& (3 : Int32)), lR jb, lI (((p0.toUInt32 >>> ((2 : Int32) &&& 31).toUInt32).toInt32) &&& (7 : Int32)), lI (p1 &&& (3 : Int32)), lR b248, lU, lU, lU, lU] [.null]))
            refine Go.st (fun _ => XS.astore X249.here hx rfl (hb hby at_128) rfl rfl (l' := #[.val (.int p0), .val (.int p1), .val (.int p2), .val (.int p3), .val (.int p4), .val (.int (p0 &&& (3 : Int32))), .val (.ref jb), .val (.int (((p0.toUInt32 >>> ((2 : Int32) &&& 31).toUInt32).toInt32) &&& (7 : Int32))), .val (.int (p1 &&& (3 : Int32))), .val (.ref b248), .val .null, .unset, .unset, .unset]) rfl) ?_
            show Go p.tables e below P (T249.setTop (mkF m 130 #[lI p0, lI p1, lI p2, lI p3, lI p4, lI (p0 &&& (3 : Int32)), lR jb, lI (((p0.toUInt32 >>> ((2 : Int32) &&& 31).toUInt32).toInt32) &&& (7 : Int32)), lI (p1 &&& (3 : Int32)), lR b248, lN, lU, lU, lU] []))
            refine Go.st (fun _ => XS.goto X249.here hx rfl (pc0 := 130) (pc' := 165) rfl (hb hby at_130) (by decide) (by decide)) ?_
            show Go p.tables e below P (T249.setTop (mkF m 165 #[lI p0, lI p1, lI p2, lI p3, lI p4, lI (p0 &&& (3 : Int32)), lR jb, lI (((p0.toUInt32 >>> ((2 : Int32) &&& 31).toUInt32).toInt32) &&& (7 : Int32)), lI (p1 &&& (3 : Int32)), lR b248, lN, lU, lU, lU] []))
            exact J2 T249 T249.heap _ _ _ (X249.more (by decide) (by decide)) rfl K249 O249 N249 hSj1 (Nat.le_trans (Nat.le_trans hkj1 E248.1) K249q.1) hZj1 hownj1 CR249  b248 .null rfl (Or.inl rfl)
          · skip
            refine Go.st (fun _ => XS.ifYes X249.here hx rfl (pc0 := 124) (pc' := 133) rfl (hb hby at_124) rfl ((if0 _ _).trans (feq hc270).2) (by decide) (by decide)) ?_
            show Go p.tables e below P (T249.setTop (mkF m 133 #[lI p0, lI p1, lI p2, lI p3, lI p4, lI (p0 &&& (3 : Int32)), lR jb, lI (((p0.toUInt32 >>> ((2 : Int32) &&& 31).toUInt32).toInt32) &&& (7 : Int32)), lI (p1 &&& (3 : Int32)), lR b248, lU, lU, lU, lU] []))
            refine Go.st (fun _ => XS.iload X249.here hx rfl (hb hby at_133) rfl) ?_
            show Go p.tables e below P (T249.setTop (mkF m 135 #[lI p0, lI p1, lI p2, lI p3, lI p4, lI (p0 &&& (3 : Int32)), lR jb, lI (((p0.toUInt32 >>> ((2 : Int32) &&& 31).toUInt32).toInt32) &&& (7 : Int32)), lI (p1 &&& (3 : Int32)), lR b248, lU, lU, lU, lU] [(.int (((p0.toUInt32 >>> ((2 : Int32) &&& 31).toUInt32).toInt32) &&& (7 : Int32)))]))
            refine Go.st (fun _ => XS.iconst X249.here hx rfl (hb hby at_135)) ?_
            show Go p.tables e below P (T249.setTop (mkF m 136 #[lI p0, lI p1, lI p2, lI p3, lI p4, lI (p0 &&& (3 : Int32)), lR jb, lI (((p0.toUInt32 >>> ((2 : Int32) &&& 31).toUInt32).toInt32) &&& (7 : Int32)), lI (p1 &&& (3 : Int32)), lR b248, lU, lU, lU, lU] [(.int (1 : Int32)), (.int (((p0.toUInt32 >>> ((2 : Int32) &&& 31).toUInt32).toInt32) &&& (7 : Int32)))]))
            by_cases hc271 : (((p0.toUInt32 >>> ((2 : Int32) &&& 31).toUInt32).toInt32) &&& (7 : Int32)) = (1 : Int32)
            · skip
              refine Go.st (fun _ => XS.icmpNo X249.here hx rfl (hb hby at_136) rfl (teq hc271).2) ?_
              show Go p.tables e below P (T249.setTop (mkF m 139 #[lI p0, lI p1, lI p2, lI p3, lI p4, lI (p0 &&& (3 : Int32)), lR jb, lI (((p0.toUInt32 >>> ((2 : Int32) &&& 31).toUInt32).toInt32) &&& (7 : Int32)), lI (p1 &&& (3 : Int32)), lR b248, lU, lU, lU, lU] []))
              have c273 := (c250.keep K249q)
              have c274 := (c253.keep K249q (ninS (Nat.ne_of_lt (Nat.lt_of_lt_of_le hAb.lt (Nat.le_of_eq g248.symm))) nin0))
              obtain ⟨T272, h272, X272, e272, E272, A272, D272, -, st272⟩ := newO X249 hx hZj1 hownj1 (ow hw 94 rfl) (ow hw 2 rfl) (ow hw 1 rfl) rfl (g := (mkF m 139 #[.val (.int p0), .val (.int p1), .val (.int p2), .val (.int p3), .val (.int p4), .val (.int (p0 &&& (3 : Int32))), .val (.ref jb), .val (.int (((p0.toUInt32 >>> ((2 : Int32) &&& 31).toUInt32).toInt32) &&& (7 : Int32))), .val (.int (p1 &&& (3 : Int32))), .val (.ref b248), .unset, .unset, .unset, .unset] [])) rfl (hb hby at_139) (by decide) (by decide)
              obtain ⟨b272, g272⟩ : ∃ z, z = T249.heap.size := ⟨_, rfl⟩
              rw [← g272] at A272 D272 st272
              refine Go.st st272 ?_
              have g_b272 : n0 ≤ b272 := Nat.le_trans (own_oldsz O249) (Nat.le_of_eq g272.symm)
              have sz_b272 : h0.size ≤ b272 := Nat.le_trans K249.1 (Nat.le_of_eq g272.symm)
              have K272 : Keep h0 h272 [] := K249.ext E272
              have O272 := O249.ext E272
              have sf275 := Safe.ext E272 CR249.1 sf269
              have SF_b272 : Safe Z consts_1 vmj1 h272 b272 := Safe.ext E272 CR249.1 (Safe.new (Nat.le_of_eq g272.symm))
              have CR272 := CR249.trans (CHr.ext E272 CR249.1)
              have F276 : Fld Z h272 b272 "java/lang/String" "value" "[B" .null := D272 (Or.inr (ow hw 4 rfl)) (ty := (.array .byte)) (by decide)
              have F277 : Fld Z h272 b272 "java/lang/String" "coder" "B" (.int (0 : Int32)) := D272 (Or.inr (ow hw 5 rfl)) (ty := .byte) (by decide)
              show Go p.tables e below P (T272.setTop (mkF m 142 #[lI p0, lI p1, lI p2, lI p3, lI p4, lI (p0 &&& (3 : Int32)), lR jb, lI (((p0.toUInt32 >>> ((2 : Int32) &&& 31).toUInt32).toInt32) &&& (7 : Int32)), lI (p1 &&& (3 : Int32)), lR b248, lU, lU, lU, lU] [(.ref b272)]))
              refine Go.st (fun _ => XS.dup X272.here hx rfl (hb hby at_142) rfl rfl) ?_
              show Go p.tables e below P (T272.setTop (mkF m 143 #[lI p0, lI p1, lI p2, lI p3, lI p4, lI (p0 &&& (3 : Int32)), lR jb, lI (((p0.toUInt32 >>> ((2 : Int32) &&& 31).toUInt32).toInt32) &&& (7 : Int32)), lI (p1 &&& (3 : Int32)), lR b248, lU, lU, lU, lU] [(.ref b272), (.ref b272)]))
              refine Go.st (fun _ => XS.iconst X272.here hx rfl (hb hby at_143)) ?_
              show Go p.tables e below P (T272.setTop (mkF m 144 #[lI p0, lI p1, lI p2, lI p3, lI p4, lI (p0 &&& (3 : Int32)), lR jb, lI (((p0.toUInt32 >>> ((2 : Int32) &&& 31).toUInt32).toInt32) &&& (7 : Int32)), lI (p1 &&& (3 : Int32)), lR b248, lU, lU, lU, lU] [(.int (0 : Int32)), (.ref b272), (.ref b272)]))
              have c279 := (c273.ext E272)
              have c280 := (c274.ext E272)
              have c281 := (q249_0.ext E272)
              obtain ⟨T278, h278, k278, X278, e278, E278, A278, st278⟩ := newP X272 hx hZj1 (ow hw 8 rfl) e272 (g := (mkF m 144 #[.val (.int p0), .val (.int p1), .val (.int p2), .val (.int p3), .val (.int p4), .val (.int (p0 &&& (3 : Int32))), .val (.ref jb), .val (.int (((p0.toUInt32 >>> ((2 : Int32) &&& 31).toUInt32).toInt32) &&& (7 : Int32))), .val (.int (p1 &&& (3 : Int32))), .val (.ref b248), .unset, .unset, .unset, .unset] [(.int (0 : Int32)), (.ref b272), (.ref b272)])) rfl (hb hby at_144) rfl (by decide) (cap := 0) (by decide) (by decide) (by decide) (by decide)
              obtain ⟨b278, g278⟩ : ∃ z, z = h272.size := ⟨_, rfl⟩
              rw [← g278] at A278 st278
              refine Go.st st278 ?_
              have g_b278 : n0 ≤ b278 := Nat.le_trans (own_oldsz O272) (Nat.le_of_eq g278.symm)
              have sz_b278 : h0.size ≤ b278 := Nat.le_trans K272.1 (Nat.le_of_eq g278.symm)
              have K278 : Keep h0 h278 [] := K272.ext E278
              have O278 := O272.ext E278
              have sf282 := Safe.ext E278 CR272.1 sf275
              have sf283 := Safe.ext E278 CR272.1 SF_b272
              have SF_b278 : Safe Z consts_1 vmj1 h278 b278 := Safe.ext E278 CR272.1 (Safe.new (Nat.le_of_eq g278.symm))
              have CR278 := CR272.trans (CHr.ext E278 CR272.1)
              have V278 : Arv Z h278 b278 k278 .char (0 : Int32) [] (.int (0 : Int32)) := (Arv.new A278 (by decide)).pad (pad_rep [] (.int (0 : Int32)) 0)
              show Go p.tables e below P (T278.setTop (mkF m 146 #[lI p0, lI p1, lI p2, lI p3, lI p4, lI (p0 &&& (3 : Int32)), lR jb, lI (((p0.toUInt32 >>> ((2 : Int32) &&& 31).toUInt32).toInt32) &&& (7 : Int32)), lI (p1 &&& (3 : Int32)), lR b248, lU, lU, lU, lU] [(.ref b278), (.ref b272), (.ref b272)]))
              have c285 := (A272.ext E278)
              have c286 := (F276.ext E278)
              have c287 := (F277.ext E278)
              have c288 := (c279.ext E278)
              have c289 := (c280.ext E278)
              have c290 := (c281.ext E278)
              obtain ⟨_, _, ⟨T284, L284, k284, n284⟩, -, X284, hS284, hg284, ⟨Lc284, hQ284, l284, y284, z284, hCR284⟩, st284⟩ := X278.specialBackS hx (y := (⟨"java/lang/String", "<init>", "([C)V"⟩ : MethodName)) rfl hownj1 (mvT hZj1 (ow hw 95 rfl)) (mvT hZj1 (ow hw 96 rfl)) (mvT hZj1 (ow hw 97 rfl)) (by decide) (backOfSH (W := 1) (rm_emp1 l Z a0 hw [] w_N S_N X_N w_K S_K X_K w_V k_V S_V X_V V_V w_NS F_NS X_NS I_NS_coder w_NB k_NB F_NB V_NB w_KS F_KS X_KS I_KS_coder w_KB k_KB F_KB V_KB w_OE S_OE X_OE I_OE_value g_CS S_CS nz_CS g_SF S_SF r_SF b272 b278 k278 h278 n0 O278 c285 c286 c287 g_b272 V278) hZj1 (ow hw 97 rfl) (ow hw 1 rfl) (by decide) (by decide) hEL CR278.1) (g := (mkF m 146 #[.val (.int p0), .val (.int p1), .val (.int p2), .val (.int p3), .val (.int p4), .val (.int (p0 &&& (3 : Int32))), .val (.ref jb), .val (.int (((p0.toUInt32 >>> ((2 : Int32) &&& 31).toUInt32).toInt32) &&& (7 : Int32))), .val (.int (p1 &&& (3 : Int32))), .val (.ref b248), .unset, .unset, .unset, .unset] [(.ref b278), (.ref b272), (.ref b272)])) rfl (by rw [hml]; rfl) (Steps.refl _) (a := b272) (argsL := [(.ref b278)]) (rest := [(.ref b272)]) (lenOf own_pd13 rfl) rfl (by show 2 * 0 + _ ≤ _; exact Nat.le_of_eq rfl) (hb hby at_146) (fun _ _ => ⟨rfl, e278, (by decide : 5 + 4 ≤ _), (by decide : 79 + 8 ≤ _)⟩)
              dsimp only [Pt.U, Pt.locs, Pt.cells, Pt.slots] at X284 l284 y284 z284 st284 hQ284 hS284 hg284 hCR284
              subst y284 z284
              refine Go.tr st284 ?_
              obtain ⟨XX284, hSS284, hZ284, hown284⟩ := rebS hSj1 (by rw [e278]; exact (Nat.le_trans (Nat.le_trans (Nat.le_trans (Nat.le_trans hkj1 E248.1) K249q.1) E272.1) E278.1)) X284 hS284 hg284 hZj1 hownj1
              obtain ⟨vb_291, kb_292, rfl, N284q, K284q, q284_0, q284_1, q284_2, q284_3⟩ := hQ284
              have N284 : Fr n0 L284 := by rw [l284]; exact Fr.app N249 N284q
              have sf293 := hCR284.safe c290.lt sf282
              have sf294 := hCR284.safe c285.lt sf283
              have sf295 := hCR284.safe V278.lt SF_b278
              have CR284 := CR278.trans hCR284
              have O284 := O278.keep K284q (allS g_b272 all0)
              have K284 : Keep h0 T284.heap [] := K278.trans K284q (allS (Or.inr sz_b272) all0)
              show Go p.tables e below P (T284.setTop (mkF m 149 #[lI p0, lI p1, lI p2, lI p3, lI p4, lI (p0 &&& (3 : Int32)), lR jb, lI (((p0.toUInt32 >>> ((2 : Int32) &&& 31).toUInt32).toInt32) &&& (7 : Int32)), lI (p1 &&& (3 : Int32)), lR b248, lU, lU, lU, lU] [(.ref b272)]))
              refine Go.st (fun _ => XS.astore XX284.here hx rfl (hb hby at_149) rfl rfl (l' := #[.val (.int p0), .val (.int p1), .val (.int p2), .val (.int p3), .val (.int p4), .val (.int (p0 &&& (3 : Int32))), .val (.ref jb), .val (.int (((p0.toUInt32 >>> ((2 : Int32) &&& 31).toUInt32).toInt32) &&& (7 : Int32))), .val (.int (p1 &&& (3 : Int32))), .val (.ref b248), .val (.ref b272), .unset, .unset, .unset]) rfl) ?_
              show Go p.tables e below P (T284.setTop (mkF m 151 #[lI p0, lI p1, lI p2, lI p3, lI p4, lI (p0 &&& (3 : Int32)), lR jb, lI (((p0.toUInt32 >>> ((2 : Int32) &&& 31).toUInt32).toInt32) &&& (7 : Int32)), lI (p1 &&& (3 : Int32)), lR b248, lR b272, lU, lU, lU] []))
              refine Go.st (fun _ => XS.goto XX284.here hx rfl (pc0 := 151) (pc' := 165) rfl (hb hby at_151) (by decide) (by decide)) ?_
              show Go p.tables e below P (T284.setTop (mkF m 165 #[lI p0, lI p1, lI p2, lI p3, lI p4, lI (p0 &&& (3 : Int32)), lR jb, lI (((p0.toUInt32 >>> ((2 : Int32) &&& 31).toUInt32).toInt32) &&& (7 : Int32)), lI (p1 &&& (3 : Int32)), lR b248, lR b272, lU, lU, lU] []))
              exact J2 T284 T284.heap _ _ _ (XX284.more (by decide) (by decide)) rfl K284 O284 N284 hSS284 (Nat.le_refl _) hZ284 hown284 CR284  b248 (.ref b272) rfl (Or.inr ⟨_, _, _, ([] : List Int32), rfl, q284_0, q284_1, q284_2, own_arvN rfl q284_3, (by decide), (Nat.le_of_ble_eq_true rfl)⟩)
            · skip
              refine Go.st (fun _ => XS.icmpYes X249.here hx rfl (pc0 := 136) (pc' := 154) rfl (hb hby at_136) rfl (feq hc271).2 (by decide) (by decide)) ?_
              show Go p.tables e below P (T249.setTop (mkF m 154 #[lI p0, lI p1, lI p2, lI p3, lI p4, lI (p0 &&& (3 : Int32)), lR jb, lI (((p0.toUInt32 >>> ((2 : Int32) &&& 31).toUInt32).toInt32) &&& (7 : Int32)), lI (p1 &&& (3 : Int32)), lR b248, lU, lU, lU, lU] []))
              have c297 := (c250.keep K249q)
              have c298 := (c253.keep K249q (ninS (Nat.ne_of_lt (Nat.lt_of_lt_of_le hAb.lt (Nat.le_of_eq g248.symm))) nin0))
              obtain ⟨T296, h296, X296, e296, E296, A296, D296, -, st296⟩ := newO X249 hx hZj1 hownj1 (ow hw 94 rfl) (ow hw 2 rfl) (ow hw 1 rfl) rfl (g := (mkF m 154 #[.val (.int p0), .val (.int p1), .val (.int p2), .val (.int p3), .val (.int p4), .val (.int (p0 &&& (3 : Int32))), .val (.ref jb), .val (.int (((p0.toUInt32 >>> ((2 : Int32) &&& 31).toUInt32).toInt32) &&& (7 : Int32))), .val (.int (p1 &&& (3 : Int32))), .val (.ref b248), .unset, .unset, .unset, .unset] [])) rfl (hb hby at_154) (by decide) (by decide)
              obtain ⟨b296, g296⟩ : ∃ z, z = T249.heap.size := ⟨_, rfl⟩
              rw [← g296] at A296 D296 st296
              refine Go.st st296 ?_
              have g_b296 : n0 ≤ b296 := Nat.le_trans (own_oldsz O249) (Nat.le_of_eq g296.symm)
              have sz_b296 : h0.size ≤ b296 := Nat.le_trans K249.1 (Nat.le_of_eq g296.symm)
              have K296 : Keep h0 h296 [] := K249.ext E296
              have O296 := O249.ext E296
              have sf299 := Safe.ext E296 CR249.1 sf269
              have SF_b296 : Safe Z consts_1 vmj1 h296 b296 := Safe.ext E296 CR249.1 (Safe.new (Nat.le_of_eq g296.symm))
              have CR296 := CR249.trans (CHr.ext E296 CR249.1)
              have F300 : Fld Z h296 b296 "java/lang/String" "value" "[B" .null := D296 (Or.inr (ow hw 4 rfl)) (ty := (.array .byte)) (by decide)
              have F301 : Fld Z h296 b296 "java/lang/String" "coder" "B" (.int (0 : Int32)) := D296 (Or.inr (ow hw 5 rfl)) (ty := .byte) (by decide)
              show Go p.tables e below P (T296.setTop (mkF m 157 #[lI p0, lI p1, lI p2, lI p3, lI p4, lI (p0 &&& (3 : Int32)), lR jb, lI (((p0.toUInt32 >>> ((2 : Int32) &&& 31).toUInt32).toInt32) &&& (7 : Int32)), lI (p1 &&& (3 : Int32)), lR b248, lU, lU, lU, lU] [(.ref b296)]))
              refine Go.st (fun _ => XS.dup X296.here hx rfl (hb hby at_157) rfl rfl) ?_
              show Go p.tables e below P (T296.setTop (mkF m 158 #[lI p0, lI p1, lI p2, lI p3, lI p4, lI (p0 &&& (3 : Int32)), lR jb, lI (((p0.toUInt32 >>> ((2 : Int32) &&& 31).toUInt32).toInt32) &&& (7 : Int32)), lI (p1 &&& (3 : Int32)), lR b248, lU, lU, lU, lU] [(.ref b296), (.ref b296)]))
              refine Go.st (fun _ => XS.aload X296.here hx rfl (hb hby at_158) rfl rfl) ?_
              show Go p.tables e below P (T296.setTop (mkF m 160 #[lI p0, lI p1, lI p2, lI p3, lI p4, lI (p0 &&& (3 : Int32)), lR jb, lI (((p0.toUInt32 >>> ((2 : Int32) &&& 31).toUInt32).toInt32) &&& (7 : Int32)), lI (p1 &&& (3 : Int32)), lR b248, lU, lU, lU, lU] [(.ref b248), (.ref b296), (.ref b296)]))
              have c303 := (q249_0.ext E296)
              have hp302 : ∀ c ∈ ([c0_254, c1_255, c2_256, c3_257, c4_258, c5_259, c6_260, c7_261, c8_262, c9_263, c10_264, c11_265, c12_266, c13_267, c14_268] : List Int32), ¬ c < 0 ∧ ¬ (255 : Int32) < c := by
                intro c hc
                simp only [List.mem_cons, List.not_mem_nil, or_false] at hc
                rcases hc with rfl | rfl | rfl | rfl | rfl | rfl | rfl | rfl | rfl | rfl | rfl | rfl | rfl | rfl | rfl
                · exact q249_1
                · exact q249_2
                · exact q249_3
                · exact q249_4
                · exact q249_5
                · exact q249_6
                · exact q249_7
                · exact q249_8
                · exact q249_9
                · exact q249_10
                · exact q249_11
                · exact q249_12
                · exact q249_13
                · exact q249_14
                · exact q249_15
              have c304 := (c297.ext E296)
              have c305 := (c298.ext E296)
              obtain ⟨_, _, ⟨T302, L302, k302, n302⟩, -, X302, ⟨Lc302, hQ302, l302, y302, z302⟩, st302⟩ := X296.specialBack hx (y := (⟨"java/lang/String", "<init>", "([C)V"⟩ : MethodName)) rfl hownj1 (mvT hZj1 (ow hw 95 rfl)) (mvT hZj1 (ow hw 96 rfl)) (mvT hZj1 (ow hw 97 rfl)) (by decide) (StrChars.Road.backV (W := 1) hZj1 (fun d hd => hw d (own_wNew d hd)) (kI := 4) (ow hw 2 rfl) (cs := ([c0_254, c1_255, c2_256, c3_257, c4_258, c5_259, c6_260, c7_261, c8_262, c9_263, c10_264, c11_265, c12_266, c13_267, c14_268] : List Int32)) (bs := (([c0_254, c1_255, c2_256, c3_257, c4_258, c5_259, c6_260, c7_261, c8_262, c9_263, c10_264, c11_265, c12_266, c13_267, c14_268] : List Int32)).map (fun c => c.toInt8.toInt32)) (n := 15) g_b296 (own_oldsz O296) A296 F300 F301 c303 (S_CS.ext O296.2) nz_CS rfl rfl (by decide) (by decide) hp302 rfl (by decide) (by decide)) (g := (mkF m 160 #[.val (.int p0), .val (.int p1), .val (.int p2), .val (.int p3), .val (.int p4), .val (.int (p0 &&& (3 : Int32))), .val (.ref jb), .val (.int (((p0.toUInt32 >>> ((2 : Int32) &&& 31).toUInt32).toInt32) &&& (7 : Int32))), .val (.int (p1 &&& (3 : Int32))), .val (.ref b248), .unset, .unset, .unset, .unset] [(.ref b248), (.ref b296), (.ref b296)])) rfl (by rw [hml]; rfl) (Steps.refl _) (a := b296) (argsL := [(.ref b248)]) (rest := [(.ref b296)]) (lenOf own_pd13 rfl) rfl (by show 2 * 0 + _ ≤ _; exact Nat.le_of_eq rfl) (hb hby at_160) (fun _ _ => ⟨rfl, e296, (by decide : 4 + 1 ≤ _), (by decide : 79 + 15 ≤ _)⟩)
              dsimp only [Pt.U, Pt.locs, Pt.cells, Pt.slots] at X302 l302 y302 z302 st302 hQ302
              subst y302 z302
              refine Go.tr st302 ?_
              obtain ⟨rfl, N302q, K302q, E302x, C302x, t302, kb302, gt302, szt302, net302, V302x, A302x⟩ := hQ302
              have N302 : Fr n0 L302 := by rw [l302]; exact Fr.app N249 N302q
              have O302 := O296.keep K302q (allS g_b296 all0)
              have K302 : Keep h0 T302.heap [] := K296.trans K302q (allS (Or.inr sz_b296) all0)
              have sf306 := Safe.keep K302q (sfS SF_b296 sf0) CR296.1 sf299
              have sf307 := Safe.keep K302q (sfS SF_b296 sf0) CR296.1 SF_b296
              have CR302 := CR296.trans (CHr.keep K302q (sfS SF_b296 sf0) CR296.1)
              have sz_t302 : h0.size ≤ t302 := Nat.le_trans K296.1 szt302
              show Go p.tables e below P (T302.setTop (mkF m 163 #[lI p0, lI p1, lI p2, lI p3, lI p4, lI (p0 &&& (3 : Int32)), lR jb, lI (((p0.toUInt32 >>> ((2 : Int32) &&& 31).toUInt32).toInt32) &&& (7 : Int32)), lI (p1 &&& (3 : Int32)), lR b248, lU, lU, lU, lU] [(.ref b296)]))
              refine Go.st (fun _ => XS.astore X302.here hx rfl (hb hby at_163) rfl rfl (l' := #[.val (.int p0), .val (.int p1), .val (.int p2), .val (.int p3), .val (.int p4), .val (.int (p0 &&& (3 : Int32))), .val (.ref jb), .val (.int (((p0.toUInt32 >>> ((2 : Int32) &&& 31).toUInt32).toInt32) &&& (7 : Int32))), .val (.int (p1 &&& (3 : Int32))), .val (.ref b248), .val (.ref b296), .unset, .unset, .unset]) rfl) ?_
              show Go p.tables e below P (T302.setTop (mkF m 165 #[lI p0, lI p1, lI p2, lI p3, lI p4, lI (p0 &&& (3 : Int32)), lR jb, lI (((p0.toUInt32 >>> ((2 : Int32) &&& 31).toUInt32).toInt32) &&& (7 : Int32)), lI (p1 &&& (3 : Int32)), lR b248, lR b296, lU, lU, lU] []))
              exact J2 T302 T302.heap _ _ _ (X302.more (by decide) (by decide)) rfl K302 O302 N302 hSj1 (Nat.le_trans (Nat.le_trans (Nat.le_trans (Nat.le_trans hkj1 E248.1) K249q.1) E296.1) K302q.1) hZj1 hownj1 CR302  b248 (.ref b296) rfl (Or.inr ⟨_, _, _, ([c0_254, c1_255, c2_256, c3_257, c4_258, c5_259, c6_260, c7_261, c8_262, c9_263, c10_264, c11_265, c12_266, c13_267, c14_268] : List Int32), rfl, E302x, C302x, V302x, own_arvN rfl A302x, hp302, (Nat.le_of_ble_eq_true rfl)⟩)
  by_cases hc308 : (p0 &&& (3 : Int32)) = (0 : Int32)
  · skip
    refine Go.st (fun _ => XS.ifNo X0.here hx rfl (hb hby at_7) rfl ((if0 _ _).trans (teq hc308).2)) ?_
    show Go p.tables e below P (s₁.setTop (mkF m 10 #[lI p0, lI p1, lI p2, lI p3, lI p4, lI (p0 &&& (3 : Int32)), lU, lU, lU, lU, lU, lU, lU, lU] []))
    obtain ⟨a309, T309, h309, kk309, b309, kb309, X309, e309, E309, hS309, hk309, hZ309, hown309, Ea309, Ca309, Va309, Ab309, alt309, blt309, hCR309, Li309, hne309, st309⟩ := ldcCH X0 hx hZ hown (ow hw 0 rfl) (fun a ha => hw a (own_strAtoms a ha)) e0 hS0 hk0 hEL (by decide +kernel) CR0.1 (vs := [(.int (110 : Int32)), (.int (117 : Int32)), (.int (109 : Int32)), (.int (98 : Int32)), (.int (101 : Int32)), (.int (114 : Int32)), (.int (95 : Int32)), (.int (111 : Int32)), (.int (102 : Int32)), (.int (95 : Int32)), (.int (116 : Int32)), (.int (97 : Int32)), (.int (103 : Int32)), (.int (115 : Int32))]) (z := (14 : Int32)) (by decide +kernel) (by decide) rfl (g := (mkF m 10 #[.val (.int p0), .val (.int p1), .val (.int p2), .val (.int p3), .val (.int p4), .val (.int (p0 &&& (3 : Int32))), .unset, .unset, .unset, .unset, .unset, .unset, .unset, .unset] [])) rfl (hb hby at_10) (n := 56) (by decide +kernel) (by decide) (by decide) (by decide)
    refine Go.st st309 ?_
    have K309 : Keep h0 h309 [] := (Keep.refl h0 []).ext E309
    have O309 := X00.ext E309
    have CR309 := CR0.trans hCR309
    show Go p.tables e below P (T309.setTop (mkF m 12 #[lI p0, lI p1, lI p2, lI p3, lI p4, lI (p0 &&& (3 : Int32)), lU, lU, lU, lU, lU, lU, lU, lU] [(.ref a309)]))
    refine Go.st (fun _ => XS.goto X309.here hx rfl (pc0 := 12) (pc' := 39) rfl (hb hby at_12) (by decide) (by decide)) ?_
    show Go p.tables e below P (T309.setTop (mkF m 39 #[lI p0, lI p1, lI p2, lI p3, lI p4, lI (p0 &&& (3 : Int32)), lU, lU, lU, lU, lU, lU, lU, lU] [(.ref a309)]))
    exact J1 T309 h309 _ _ _ (X309.more (by decide) (by decide)) e309 K309 O309 N0 hS309 hk309 hZ309 hown309 CR309  a309 ([(110 : Int32), (117 : Int32), (109 : Int32), (98 : Int32), (101 : Int32), (114 : Int32), (95 : Int32), (111 : Int32), (102 : Int32), (95 : Int32), (116 : Int32), (97 : Int32), (103 : Int32), (115 : Int32)] : List Int32) b309 kb309  Ea309 Ca309 Va309 (own_arvN rfl Ab309) (by decide) (Nat.le_of_ble_eq_true rfl)
  · skip
    refine Go.st (fun _ => XS.ifYes X0.here hx rfl (pc0 := 7) (pc' := 15) rfl (hb hby at_7) rfl ((if0 _ _).trans (feq hc308).2) (by decide) (by decide)) ?_
    show Go p.tables e below P (s₁.setTop (mkF m 15 #[lI p0, lI p1, lI p2, lI p3, lI p4, lI (p0 &&& (3 : Int32)), lU, lU, lU, lU, lU, lU, lU, lU] []))
    refine Go.st (fun _ => XS.iload X0.here hx rfl (hb hby at_15) rfl) ?_
    show Go p.tables e below P (s₁.setTop (mkF m 17 #[lI p0, lI p1, lI p2, lI p3, lI p4, lI (p0 &&& (3 : Int32)), lU, lU, lU, lU, lU, lU, lU, lU] [(.int (p0 &&& (3 : Int32)))]))
    refine Go.st (fun _ => XS.iconst X0.here hx rfl (hb hby at_17)) ?_
    show Go p.tables e below P (s₁.setTop (mkF m 18 #[lI p0, lI p1, lI p2, lI p3, lI p4, lI (p0 &&& (3 : Int32)), lU, lU, lU, lU, lU, lU, lU, lU] [(.int (1 : Int32)), (.int (p0 &&& (3 : Int32)))]))
    by_cases hc310 : (p0 &&& (3 : Int32)) = (1 : Int32)
    · skip
      refine Go.st (fun _ => XS.icmpNo X0.here hx rfl (hb hby at_18) rfl (teq hc310).2) ?_
      show Go p.tables e below P (s₁.setTop (mkF m 21 #[lI p0, lI p1, lI p2, lI p3, lI p4, lI (p0 &&& (3 : Int32)), lU, lU, lU, lU, lU, lU, lU, lU] []))
      obtain ⟨a311, T311, h311, kk311, b311, kb311, X311, e311, E311, hS311, hk311, hZ311, hown311, Ea311, Ca311, Va311, Ab311, alt311, blt311, hCR311, Li311, hne311, st311⟩ := ldcCH X0 hx hZ hown (ow hw 85 rfl) (fun a ha => hw a (own_strAtoms a ha)) e0 hS0 hk0 hEL (by decide +kernel) CR0.1 (vs := [(.int (99 : Int32)), (.int (114 : Int32)), (.int (101 : Int32)), (.int (97 : Int32)), (.int (116 : Int32)), (.int (105 : Int32)), (.int (111 : Int32)), (.int (110 : Int32)), (.int (95 : Int32)), (.int (100 : Int32)), (.int (97 : Int32)), (.int (116 : Int32)), (.int (101 : Int32))]) (z := (13 : Int32)) (by decide +kernel) (by decide) rfl (g := (mkF m 21 #[.val (.int p0), .val (.int p1), .val (.int p2), .val (.int p3), .val (.int p4), .val (.int (p0 &&& (3 : Int32))), .unset, .unset, .unset, .unset, .unset, .unset, .unset, .unset] [])) rfl (hb hby at_21) (n := 52) (by decide +kernel) (by decide) (by decide) (by decide)
      refine Go.st st311 ?_
      have K311 : Keep h0 h311 [] := (Keep.refl h0 []).ext E311
      have O311 := X00.ext E311
      have CR311 := CR0.trans hCR311
      show Go p.tables e below P (T311.setTop (mkF m 23 #[lI p0, lI p1, lI p2, lI p3, lI p4, lI (p0 &&& (3 : Int32)), lU, lU, lU, lU, lU, lU, lU, lU] [(.ref a311)]))
      refine Go.st (fun _ => XS.goto X311.here hx rfl (pc0 := 23) (pc' := 39) rfl (hb hby at_23) (by decide) (by decide)) ?_
      show Go p.tables e below P (T311.setTop (mkF m 39 #[lI p0, lI p1, lI p2, lI p3, lI p4, lI (p0 &&& (3 : Int32)), lU, lU, lU, lU, lU, lU, lU, lU] [(.ref a311)]))
      exact J1 T311 h311 _ _ _ (X311.more (by decide) (by decide)) e311 K311 O311 N0 hS311 hk311 hZ311 hown311 CR311  a311 ([(99 : Int32), (114 : Int32), (101 : Int32), (97 : Int32), (116 : Int32), (105 : Int32), (111 : Int32), (110 : Int32), (95 : Int32), (100 : Int32), (97 : Int32), (116 : Int32), (101 : Int32)] : List Int32) b311 kb311  Ea311 Ca311 Va311 (own_arvN rfl Ab311) (by decide) (Nat.le_of_ble_eq_true rfl)
    · skip
      refine Go.st (fun _ => XS.icmpYes X0.here hx rfl (pc0 := 18) (pc' := 26) rfl (hb hby at_18) rfl (feq hc310).2 (by decide) (by decide)) ?_
      show Go p.tables e below P (s₁.setTop (mkF m 26 #[lI p0, lI p1, lI p2, lI p3, lI p4, lI (p0 &&& (3 : Int32)), lU, lU, lU, lU, lU, lU, lU, lU] []))
      refine Go.st (fun _ => XS.iload X0.here hx rfl (hb hby at_26) rfl) ?_
      show Go p.tables e below P (s₁.setTop (mkF m 28 #[lI p0, lI p1, lI p2, lI p3, lI p4, lI (p0 &&& (3 : Int32)), lU, lU, lU, lU, lU, lU, lU, lU] [(.int (p0 &&& (3 : Int32)))]))
      refine Go.st (fun _ => XS.iconst X0.here hx rfl (hb hby at_28)) ?_
      show Go p.tables e below P (s₁.setTop (mkF m 29 #[lI p0, lI p1, lI p2, lI p3, lI p4, lI (p0 &&& (3 : Int32)), lU, lU, lU, lU, lU, lU, lU, lU] [(.int (2 : Int32)), (.int (p0 &&& (3 : Int32)))]))
      by_cases hc312 : (p0 &&& (3 : Int32)) = (2 : Int32)
      · skip
        refine Go.st (fun _ => XS.icmpNo X0.here hx rfl (hb hby at_29) rfl (teq hc312).2) ?_
        show Go p.tables e below P (s₁.setTop (mkF m 32 #[lI p0, lI p1, lI p2, lI p3, lI p4, lI (p0 &&& (3 : Int32)), lU, lU, lU, lU, lU, lU, lU, lU] []))
        obtain ⟨a313, T313, h313, kk313, b313, kb313, X313, e313, E313, hS313, hk313, hZ313, hown313, Ea313, Ca313, Va313, Ab313, alt313, blt313, hCR313, Li313, hne313, st313⟩ := ldcCH X0 hx hZ hown (ow hw 120 rfl) (fun a ha => hw a (own_strAtoms a ha)) e0 hS0 hk0 hEL (by decide +kernel) CR0.1 (vs := [(.int (78 : Int32)), (.int (85 : Int32)), (.int (77 : Int32)), (.int (66 : Int32)), (.int (69 : Int32)), (.int (82 : Int32)), (.int (95 : Int32)), (.int (79 : Int32)), (.int (70 : Int32)), (.int (95 : Int32)), (.int (84 : Int32)), (.int (65 : Int32)), (.int (71 : Int32)), (.int (83 : Int32))]) (z := (14 : Int32)) (by decide +kernel) (by decide) rfl (g := (mkF m 32 #[.val (.int p0), .val (.int p1), .val (.int p2), .val (.int p3), .val (.int p4), .val (.int (p0 &&& (3 : Int32))), .unset, .unset, .unset, .unset, .unset, .unset, .unset, .unset] [])) rfl (hb hby at_32) (n := 56) (by decide +kernel) (by decide) (by decide) (by decide)
        refine Go.st st313 ?_
        have K313 : Keep h0 h313 [] := (Keep.refl h0 []).ext E313
        have O313 := X00.ext E313
        have CR313 := CR0.trans hCR313
        show Go p.tables e below P (T313.setTop (mkF m 34 #[lI p0, lI p1, lI p2, lI p3, lI p4, lI (p0 &&& (3 : Int32)), lU, lU, lU, lU, lU, lU, lU, lU] [(.ref a313)]))
        refine Go.st (fun _ => XS.goto X313.here hx rfl (pc0 := 34) (pc' := 39) rfl (hb hby at_34) (by decide) (by decide)) ?_
        show Go p.tables e below P (T313.setTop (mkF m 39 #[lI p0, lI p1, lI p2, lI p3, lI p4, lI (p0 &&& (3 : Int32)), lU, lU, lU, lU, lU, lU, lU, lU] [(.ref a313)]))
        exact J1 T313 h313 _ _ _ (X313.more (by decide) (by decide)) e313 K313 O313 N0 hS313 hk313 hZ313 hown313 CR313  a313 ([(78 : Int32), (85 : Int32), (77 : Int32), (66 : Int32), (69 : Int32), (82 : Int32), (95 : Int32), (79 : Int32), (70 : Int32), (95 : Int32), (84 : Int32), (65 : Int32), (71 : Int32), (83 : Int32)] : List Int32) b313 kb313  Ea313 Ca313 Va313 (own_arvN rfl Ab313) (by decide) (Nat.le_of_ble_eq_true rfl)
      · skip
        refine Go.st (fun _ => XS.icmpYes X0.here hx rfl (pc0 := 29) (pc' := 37) rfl (hb hby at_29) rfl (feq hc312).2 (by decide) (by decide)) ?_
        show Go p.tables e below P (s₁.setTop (mkF m 37 #[lI p0, lI p1, lI p2, lI p3, lI p4, lI (p0 &&& (3 : Int32)), lU, lU, lU, lU, lU, lU, lU, lU] []))
        obtain ⟨a314, T314, h314, kk314, b314, kb314, X314, e314, E314, hS314, hk314, hZ314, hown314, Ea314, Ca314, Va314, Ab314, alt314, blt314, hCR314, Li314, hne314, st314⟩ := ldcCH X0 hx hZ hown (ow hw 93 rfl) (fun a ha => hw a (own_strAtoms a ha)) e0 hS0 hk0 hEL (by decide +kernel) CR0.1 (vs := [(.int (67 : Int32)), (.int (82 : Int32)), (.int (69 : Int32)), (.int (65 : Int32)), (.int (84 : Int32)), (.int (73 : Int32)), (.int (79 : Int32)), (.int (78 : Int32)), (.int (95 : Int32)), (.int (68 : Int32)), (.int (65 : Int32)), (.int (84 : Int32)), (.int (69 : Int32))]) (z := (13 : Int32)) (by decide +kernel) (by decide) rfl (g := (mkF m 37 #[.val (.int p0), .val (.int p1), .val (.int p2), .val (.int p3), .val (.int p4), .val (.int (p0 &&& (3 : Int32))), .unset, .unset, .unset, .unset, .unset, .unset, .unset, .unset] [])) rfl (hb hby at_37) (n := 52) (by decide +kernel) (by decide) (by decide) (by decide)
        refine Go.st st314 ?_
        have K314 : Keep h0 h314 [] := (Keep.refl h0 []).ext E314
        have O314 := X00.ext E314
        have CR314 := CR0.trans hCR314
        show Go p.tables e below P (T314.setTop (mkF m 39 #[lI p0, lI p1, lI p2, lI p3, lI p4, lI (p0 &&& (3 : Int32)), lU, lU, lU, lU, lU, lU, lU, lU] [(.ref a314)]))
        exact J1 T314 h314 _ _ _ (X314.more (by decide) (by decide)) e314 K314 O314 N0 hS314 hk314 hZ314 hown314 CR314  a314 ([(67 : Int32), (82 : Int32), (69 : Int32), (65 : Int32), (84 : Int32), (73 : Int32), (79 : Int32), (78 : Int32), (95 : Int32), (68 : Int32), (65 : Int32), (84 : Int32), (69 : Int32)] : List Int32) b314 kb314  Ea314 Ca314 Va314 (own_arvN rfl Ab314) (by decide) (Nat.le_of_ble_eq_true rfl)
set_option maxRecDepth 65536 in
set_option maxHeartbeats 40000000 in
theorem comes_1 {Post : Tables → Env → Array Value → State → Outcome → State → Prop} (hpost : ∀ tb e args s v u, (limb_1_1.after args s (.returned v) u = true ∧ limb_1_2.after args s (.returned v) u = true ∧ True) → ReturnedEndW s (.returned v) u (Jvm.fieldLocs frame_1_writes args s ++ Jvm.arrayLocs frame_1_arrays args s ++ Jvm.staticLocs frame_1_statics s) 32 5312 → Post tb e args s (.returned v) u) :
    ArmFor flags0 classFile x code maxLocals ret World_1 tables_1 room_1 Calls_1 rest_1 Pre_1 Post := by
  intro l hfl _ _ p e ha hc hk s m args below hf hA hF happ hP
  obtain ⟨hcalls, hrest, hpre⟩ := hP
  obtain ⟨-, -, -, hnamed, -, -, -, hat⟩ := (Spec.applies_iff hf).mp happ
  obtain ⟨hg, hn⟩ := and_e (Cond.before_iff.mp (show (Jvm.Cond.and given_1 narrow_1).before args s = true from hpre))
  obtain ⟨hc_1, hc_2⟩ := and_e hg
  obtain ⟨hc_3, hc_4⟩ := and_e hc_2
  obtain ⟨hc_5, hc_6⟩ := and_e hc_4
  obtain ⟨hc_7, hc_8⟩ := and_e hc_6
  obtain ⟨hc_9, hc_10⟩ := and_e hc_8
  obtain ⟨w0, w1, w2, w3, w4, rfl⟩ : ∃ w0 w1 w2 w3 w4 : Value, args = #[w0, w1, w2, w3, w4] := by
    have hs : args.size = 5 := by simpa [Cond.value, given_1] using hc_1
    obtain ⟨L⟩ := args
    match L, hs with
    | [w0, w1, w2, w3, w4], _ => exact ⟨w0, w1, w2, w3, w4, rfl⟩
  have hw := fun d (hd : d ∈ tables_1) => atoms_spec (ws := Jvm.Cond.code x code maxLocals ret :: tables_1) hat d (List.mem_cons_of_mem _ hd)
  have hfit : Fit s := fun {y c} hc i hi => by
    obtain ⟨ha, rfl⟩ := Array.getElem?_eq_some_iff.mp hc
    have q := List.all_eq_true.mp ((Array.all_eq_true_iff_forall_mem.mp hF) _ (Array.getElem_mem ha)) i (List.mem_range.mpr hi)
    simpa [Array.getElem?_eq_getElem hi] using q
  obtain ⟨hsets, hown0⟩ := atoms_of _ (rest_1_c_eq ▸ (show rest_1_c.before _ s = true from hrest))
  have nCS := not_v (Cond.before_iff.mp (hsets _ (List.mem_of_getElem? (i := 2) rfl)))
  obtain ⟨g_CS, eCS⟩ := is_v (Cond.before_iff.mp (hsets _ (List.mem_of_getElem? (i := 1) rfl)))
  have S_CS := Sta.start eCS (Or.inl (hsets _ (List.mem_of_getElem? (i := 0) rfl)))
  have nz_CS : ¬ (g_CS = (0 : Int32)) := gotF (Cond.eq_ints eCS (Term.int_eval (0))) nCS
  obtain ⟨g_SF, eSF, r_SF⟩ := isR_v (Cond.before_iff.mp (hsets _ (List.mem_of_getElem? (i := 8) rfl)))
  have S_SF := Sta.start eSF (Or.inl (hsets _ (List.mem_of_getElem? (i := 7) rfl)))
  obtain ⟨i0, ea0⟩ := is_v hc_3
  obtain rfl : w0 = (.int i0) := Option.some.inj ea0
  obtain ⟨i1, ea1⟩ := is_v hc_5
  obtain rfl : w1 = (.int i1) := Option.some.inj ea1
  obtain ⟨i2, ea2⟩ := is_v hc_7
  obtain rfl : w2 = (.int i2) := Option.some.inj ea2
  obtain ⟨i3, ea3⟩ := is_v hc_9
  obtain rfl : w3 = (.int i3) := Option.some.inj ea3
  obtain ⟨i4, ea4⟩ := is_v hc_10
  obtain rfl : w4 = (.int i4) := Option.some.inj ea4
  obtain ⟨hc_11, hc_12⟩ := and_e hn
  obtain ⟨hc_13, hc_14⟩ := and_e hc_12
  obtain ⟨hc_15, hc_16⟩ := and_e hc_14
  obtain ⟨hc_17, hc_18⟩ := and_e hc_16
  obtain ⟨hc_19, hc_20⟩ := and_e hc_18
  obtain ⟨hc_21, hc_22⟩ := and_e hc_20
  obtain ⟨hc_23, hc_24⟩ := and_e hc_22
  obtain ⟨hc_25, hc_26⟩ := and_e hc_24
  obtain ⟨hc_27, hc_28⟩ := and_e hc_26
  obtain ⟨hc_29, hc_30⟩ := and_e hc_28
  obtain ⟨hc_31, hc_32⟩ := and_e hc_30
  obtain ⟨hc_33, hc_34⟩ := and_e hc_32
  obtain ⟨hc_35, hc_36⟩ := and_e hc_34
  obtain ⟨hc_37, hc_38⟩ := and_e hc_36
  obtain ⟨hc_39, hc_40⟩ := and_e hc_38
  obtain ⟨hc_41, hc_42⟩ := and_e hc_40
  obtain ⟨hc_43, hc_44⟩ := and_e hc_42
  obtain ⟨hc_45, hc_46⟩ := and_e hc_44
  obtain ⟨hc_47, hc_48⟩ := and_e hc_46
  obtain ⟨hc_49, hc_50⟩ := and_e hc_48
  obtain ⟨hc_51, hc_52⟩ := and_e hc_50
  obtain ⟨hc_53, hc_54⟩ := and_e hc_52
  obtain ⟨hc_55, hc_56⟩ := and_e hc_54
  obtain ⟨hc_57, hc_58⟩ := and_e hc_56
  obtain ⟨hc_59, hc_60⟩ := and_e hc_58
  obtain ⟨hc_61, hc_62⟩ := and_e hc_60
  obtain ⟨hc_63, hc_64⟩ := and_e hc_62
  obtain ⟨hc_65, hc_66⟩ := and_e hc_64
  obtain ⟨hc_67, hc_68⟩ := and_e hc_66
  obtain ⟨hc_69, hc_70⟩ := and_e hc_68
  obtain ⟨hc_71, hc_72⟩ := and_e hc_70
  obtain ⟨hc_73, hc_74⟩ := and_e hc_72
  obtain ⟨hc_75, hc_76⟩ := and_e hc_74
  obtain ⟨hc_77, hc_78⟩ := and_e hc_76
  obtain ⟨hc_79, hc_80⟩ := and_e hc_78
  obtain ⟨hc_81, hc_82⟩ := and_e hc_80
  obtain ⟨hc_83, hc_84⟩ := and_e hc_82
  obtain ⟨hc_85, hc_86⟩ := and_e hc_84
  obtain ⟨hc_87, hc_88⟩ := and_e hc_86
  obtain ⟨hc_89, hc_90⟩ := and_e hc_88
  obtain ⟨hc_91, hc_92⟩ := and_e hc_90
  obtain ⟨w_N, ev_N⟩ := exa_v hc_17
  have X_N := Exa.start ev_N hc_17
  have S_N := Sta.start ev_N (Or.inr ⟨(ow hw 53 rfl), (ow hw 67 rfl)⟩)
  obtain ⟨w_K, ev_K⟩ := exa_v hc_21
  have X_K := Exa.start ev_K hc_21
  have S_K := Sta.start ev_K (Or.inr ⟨(ow hw 53 rfl), (ow hw 68 rfl)⟩)
  obtain ⟨w_V, ev_V⟩ := exa_v hc_13
  have X_V := Exa.start ev_V hc_13
  have S_V := Sta.start ev_V (Or.inr ⟨(ow hw 53 rfl), (ow hw 59 rfl)⟩)
  obtain ⟨cl_V, A_V⟩ := Arr.start ev_V hc_11
  obtain ⟨hsz_V, hln_V⟩ := own_len_start (eqv_i (Term.int_eval (2)) hc_15) ev_V A_V.1
  obtain ⟨w_NS, ev_NS⟩ := exa_v hc_25
  have X_NS := Exa.start ev_NS hc_25
  have F_NS := Fld.start ((fld_at ev_N).symm.trans ev_NS)
  obtain ⟨w_KS, ev_KS⟩ := exa_v hc_27
  have X_KS := Exa.start ev_KS hc_27
  have F_KS := Fld.start ((fld_at ev_K).symm.trans ev_KS)
  obtain ⟨w_NB, ev_NB⟩ := arr_v hc_31
  have F_NB := Fld.start ((fld_at ev_NS).symm.trans ev_NB)
  obtain ⟨cl_NB, A_NB⟩ := Arr.start ev_NB hc_31
  obtain ⟨hsz_NB, hln_NB⟩ := own_len_start (eqv_i (Term.int_eval (14)) hc_33) ev_NB A_NB.1
  obtain ⟨w_KB, ev_KB⟩ := arr_v hc_37
  have F_KB := Fld.start ((fld_at ev_KS).symm.trans ev_KB)
  obtain ⟨cl_KB, A_KB⟩ := Arr.start ev_KB hc_37
  obtain ⟨hsz_KB, hln_KB⟩ := own_len_start (eqv_i (Term.int_eval (13)) hc_39) ev_KB A_KB.1
  have I_NS_coder := Fld.start ((fld_at ev_NS).symm.trans (eqv_i (Term.int_eval (0)) hc_29))
  have I_KS_coder := Fld.start ((fld_at ev_KS).symm.trans (eqv_i (Term.int_eval (0)) hc_35))
  have el_V_0 := (elem_in (own_eq_ref ev_N hc_19) ev_V (Term.int_eval (0)) A_V.1).2
  have el_V_1 := (elem_in (own_eq_ref ev_K hc_23) ev_V (Term.int_eval (1)) A_V.1).2
  have V_V := Arv.start (vs := [(.ref w_N), (.ref w_K)]) (dv := .null) hfit A_V hsz_V hln_V (by decide) rfl ⟨el_V_0, el_V_1, trivial⟩
  have el_NB_0 := (elem_in (eqv_i (Term.int_eval (110)) hc_41) ev_NB (Term.int_eval (0)) A_NB.1).2
  have el_NB_1 := (elem_in (eqv_i (Term.int_eval (117)) hc_43) ev_NB (Term.int_eval (1)) A_NB.1).2
  have el_NB_2 := (elem_in (eqv_i (Term.int_eval (109)) hc_45) ev_NB (Term.int_eval (2)) A_NB.1).2
  have el_NB_3 := (elem_in (eqv_i (Term.int_eval (98)) hc_47) ev_NB (Term.int_eval (3)) A_NB.1).2
  have el_NB_4 := (elem_in (eqv_i (Term.int_eval (101)) hc_49) ev_NB (Term.int_eval (4)) A_NB.1).2
  have el_NB_5 := (elem_in (eqv_i (Term.int_eval (114)) hc_51) ev_NB (Term.int_eval (5)) A_NB.1).2
  have el_NB_6 := (elem_in (eqv_i (Term.int_eval (95)) hc_53) ev_NB (Term.int_eval (6)) A_NB.1).2
  have el_NB_7 := (elem_in (eqv_i (Term.int_eval (111)) hc_55) ev_NB (Term.int_eval (7)) A_NB.1).2
  have el_NB_8 := (elem_in (eqv_i (Term.int_eval (102)) hc_57) ev_NB (Term.int_eval (8)) A_NB.1).2
  have el_NB_9 := (elem_in (eqv_i (Term.int_eval (95)) hc_59) ev_NB (Term.int_eval (9)) A_NB.1).2
  have el_NB_10 := (elem_in (eqv_i (Term.int_eval (116)) hc_61) ev_NB (Term.int_eval (10)) A_NB.1).2
  have el_NB_11 := (elem_in (eqv_i (Term.int_eval (97)) hc_63) ev_NB (Term.int_eval (11)) A_NB.1).2
  have el_NB_12 := (elem_in (eqv_i (Term.int_eval (103)) hc_65) ev_NB (Term.int_eval (12)) A_NB.1).2
  have el_NB_13 := (elem_in (eqv_i (Term.int_eval (115)) hc_67) ev_NB (Term.int_eval (13)) A_NB.1).2
  have V_NB := Arv.start (vs := [(.int (110 : Int32)), (.int (117 : Int32)), (.int (109 : Int32)), (.int (98 : Int32)), (.int (101 : Int32)), (.int (114 : Int32)), (.int (95 : Int32)), (.int (111 : Int32)), (.int (102 : Int32)), (.int (95 : Int32)), (.int (116 : Int32)), (.int (97 : Int32)), (.int (103 : Int32)), (.int (115 : Int32))]) (dv := (.int (0 : Int32))) hfit A_NB hsz_NB hln_NB (by decide) rfl ⟨el_NB_0, el_NB_1, el_NB_2, el_NB_3, el_NB_4, el_NB_5, el_NB_6, el_NB_7, el_NB_8, el_NB_9, el_NB_10, el_NB_11, el_NB_12, el_NB_13, trivial⟩
  have el_KB_0 := (elem_in (eqv_i (Term.int_eval (99)) hc_69) ev_KB (Term.int_eval (0)) A_KB.1).2
  have el_KB_1 := (elem_in (eqv_i (Term.int_eval (114)) hc_71) ev_KB (Term.int_eval (1)) A_KB.1).2
  have el_KB_2 := (elem_in (eqv_i (Term.int_eval (101)) hc_73) ev_KB (Term.int_eval (2)) A_KB.1).2
  have el_KB_3 := (elem_in (eqv_i (Term.int_eval (97)) hc_75) ev_KB (Term.int_eval (3)) A_KB.1).2
  have el_KB_4 := (elem_in (eqv_i (Term.int_eval (116)) hc_77) ev_KB (Term.int_eval (4)) A_KB.1).2
  have el_KB_5 := (elem_in (eqv_i (Term.int_eval (105)) hc_79) ev_KB (Term.int_eval (5)) A_KB.1).2
  have el_KB_6 := (elem_in (eqv_i (Term.int_eval (111)) hc_81) ev_KB (Term.int_eval (6)) A_KB.1).2
  have el_KB_7 := (elem_in (eqv_i (Term.int_eval (110)) hc_83) ev_KB (Term.int_eval (7)) A_KB.1).2
  have el_KB_8 := (elem_in (eqv_i (Term.int_eval (95)) hc_85) ev_KB (Term.int_eval (8)) A_KB.1).2
  have el_KB_9 := (elem_in (eqv_i (Term.int_eval (100)) hc_87) ev_KB (Term.int_eval (9)) A_KB.1).2
  have el_KB_10 := (elem_in (eqv_i (Term.int_eval (97)) hc_89) ev_KB (Term.int_eval (10)) A_KB.1).2
  have el_KB_11 := (elem_in (eqv_i (Term.int_eval (116)) hc_91) ev_KB (Term.int_eval (11)) A_KB.1).2
  have el_KB_12 := (elem_in (eqv_i (Term.int_eval (101)) hc_92) ev_KB (Term.int_eval (12)) A_KB.1).2
  have V_KB := Arv.start (vs := [(.int (99 : Int32)), (.int (114 : Int32)), (.int (101 : Int32)), (.int (97 : Int32)), (.int (116 : Int32)), (.int (105 : Int32)), (.int (111 : Int32)), (.int (110 : Int32)), (.int (95 : Int32)), (.int (100 : Int32)), (.int (97 : Int32)), (.int (116 : Int32)), (.int (101 : Int32))]) (dv := (.int (0 : Int32))) hfit A_KB hsz_KB hln_KB (by decide) rfl ⟨el_KB_0, el_KB_1, el_KB_2, el_KB_3, el_KB_4, el_KB_5, el_KB_6, el_KB_7, el_KB_8, el_KB_9, el_KB_10, el_KB_11, el_KB_12, trivial⟩
  obtain ⟨w_OE, ev_OE⟩ := exa_v (Cond.before_iff.mp (hsets _ (List.mem_of_getElem? (i := 11) rfl)))
  have X_OE := Exa.start ev_OE (Cond.before_iff.mp (hsets _ (List.mem_of_getElem? (i := 11) rfl)))
  have S_OE := Sta.start ev_OE (Or.inl (Cond.before_iff.mpr (Cond.before_iff.mp (hsets _ (List.mem_of_getElem? (i := 10) rfl)))))
  have I_OE_value := Fld.start ((fld_at ev_OE).symm.trans (null_v (Cond.before_iff.mp (hsets _ (List.mem_of_getElem? (i := 12) rfl)))))
  obtain ⟨n, o, h1, h2, h3, _, L, rfl, ⟨rfl, N, _⟩, -, hq⟩ := rm_law l s _ hw tables_1 w_N S_N X_N w_K S_K X_K w_V _ S_V X_V V_V w_NS F_NS X_NS I_NS_coder w_NB _ F_NB V_NB w_KS F_KS X_KS I_KS_coder w_KB _ F_KB V_KB w_OE S_OE X_OE I_OE_value g_CS S_CS nz_CS g_SF S_SF r_SF i0 i1 i2 i3 i4 s.heap s.heap.size (Old.start s) p e ha hc hk s m _ below hf ((Spec.applies_iff_loose hf).mp happ).1 ⟨rfl, State.Warmed39.refl s, rfl, (CHv.start (own_EW s _ hw) (fun p hp => hcalls.1 p hp) (hsets _ (List.mem_of_getElem? (i := 2) rfl)) (ow hw 3 rfl) (ow hw 2 rfl))⟩ trivial
  refine ⟨n, _, h1, h2, h3, hpost _ _ _ _ _ _ ⟨Cond.after_iff.mpr rfl, Cond.after_iff.mpr (eq_i res_at (Term.int_eval (1)) rfl), trivial⟩ ⟨hq.1, hq.2.1, hq.2.2.1, (hq.2.2.2.sift fun y hy => Or.inr (N y hy)).mono (by decide) (by decide)⟩⟩
theorem main_1_1 : Claimed_1_1 := comes_1 fun _ _ _ _ _ _ h hF => ⟨h.1, hF⟩
theorem main_1_2 : Claimed_1_2 := comes_1 fun _ _ _ _ _ _ h hF => ⟨h.2.1, hF⟩
end Jvm.Pilot.@@N@@
namespace Jvm.Pilot.@@N@@
open Jvm Jvm.ClassFile Sem Op Lib Jvm.Free Jvm.Stand Jvm.Pilot.@@N@@.Jvm.D
/-! MADE BY PROGRAM (witnessworld.py) out of the Statement's table words and the real class files: 24 classes; the members and pool entries that the words name. The judged class is class 1, her method 1. -/
namespace start1
open Jvm.ClassFile
def u (s : String) : CpInfo := .utf8 (stringToUtf16 s)
/-- a pool by its gaps: so many unusable entries, then the entry; so many at the end -/
def gap : Nat → List CpInfo → List CpInfo
  | 0, r => r
  | n + 1, r => .unusable :: gap n r
def poolList (es : List (Nat × CpInfo)) (last : Nat) : List CpInfo := es.foldr (fun e r => gap e.1 (e.2 :: r)) (gap last [])
def pool (es : List (Nat × CpInfo)) (last : Nat) : Array CpInfo := ⟨poolList es last⟩
def fileOf (pool : Array CpInfo) (this : Nat) (attrs : Array Attribute := #[]) (ms : Array MethodInfo := #[]) (fl : Nat := 33) (sup : Nat := 0) (ifs : Array Nat := #[]) (fds : Array FieldInfo := #[]) : ClassFile where
  minorVersion := 0
  majorVersion := 65
  constantPool := pool
  accessFlags := fl
  thisClass := this
  superClass := sup
  interfaces := ifs
  fields := fds
  methods := ms
  attributes := attrs
def plain (name : String) (sup : Option ClassId) : Class where
  name := name
  kind := .ordinary
  loader := none
  accessFlags := 33
  super := sup
  interfaces := #[]
  cf := none
  fields := #[]
  methods := #[]
  instanceTypes := #[]
  staticTypes := #[]
  resolved := #[]
  callSites := []
  init := .initialized
  statics := none
  mirror := none

def pool0 : Array CpInfo := pool [(5, u "<init>"), (0, u "()V"), (1, .class_ 10), (1, u "java/lang/Object"), (85, u "clone"), (0, u "()Ljava/lang/Object;")] 26

def k0c0 : Code := { maxStack := 0, maxLocals := 1, code := object_method_1_code, exceptionTable := #[], attributes := #[] }
def k0m0 : Method := { name := "<init>", desc := "()V", sig := { parameters := [], returnType := none }, accessFlags := 1, code := some k0c0 }
def k0m1 : Method := { name := "clone", desc := "()Ljava/lang/Object;", sig := { parameters := [], returnType := some (.object "java/lang/Object") }, accessFlags := 260, code := none }
/-- java/lang/Object -/
def k0 : Class := { plain "java/lang/Object" none with
  accessFlags := 33
  interfaces := #[]
  cf := some (fileOf pool0 8 #[] #[{ accessFlags := 1, nameIndex := 5, descriptorIndex := 6, attributes := #[] }, { accessFlags := 260, nameIndex := 96, descriptorIndex := 97, attributes := #[] }] 33 0 #[] #[])
  fields := #[]
  methods := #[k0m0, k0m1]
  instanceTypes := #[]
  staticTypes := #[]
  resolved := Array.replicate 124 none
  statics := none }

def pool1 : Array CpInfo := pool [(2, .class_ 4), (1, u "java/lang/Object"), (0, u "<init>"), (0, u "()V"), (0, .string 8), (0, u "number_of_tags"), (0, .string 10), (0, u "creation_date"), (0, .string 12), (0, u "NUMBER_OF_TAGS"), (0, .string 14), (0, u "CREATION_DATE"), (0, .methodref 16 17), (0, .class_ 18), (0, .nameAndType 19 20), (0, u "com/example/vacuum/vacuum/model/MethodOfWireNamePinLaw"), (0, u "fillChars"), (0, u "([CLjava/lang/String;ICC)V"), (0, .class_ 22), (0, u "java/lang/String"), (0, .methodref 21 24), (0, .nameAndType 5 25), (0, u "([C)V"), (0, .methodref 27 28), (0, .class_ 29), (0, .nameAndType 30 31), (0, u "com/example/vacuum/vacuum/model/PrunePolicy$Method"), (0, u "ofWireName"), (0, u "(Ljava/lang/String;)Ljava/util/Optional;"), (0, .methodref 21 33), (0, .nameAndType 34 35), (0, u "equals"), (0, u "(Ljava/lang/Object;)Z"), (0, .methodref 37 38), (0, .class_ 39), (0, .nameAndType 40 41), (0, u "java/util/Optional"), (0, u "orElse"), (0, u "(Ljava/lang/Object;)Ljava/lang/Object;"), (0, .fieldref 27 43), (0, .nameAndType 12 44), (0, u "Lcom/example/vacuum/vacuum/model/PrunePolicy$Method;"), (0, .fieldref 27 46), (0, .nameAndType 14 44), (0, .methodref 37 48), (0, .nameAndType 49 50), (0, u "isEmpty"), (0, u "()Z"), (0, .methodref 21 52), (0, .nameAndType 53 54), (0, u "length"), (0, u "()I"), (0, .methodref 21 56), (0, .nameAndType 57 58), (0, u "charAt"), (0, u "(I)C"), (0, .methodref 16 60), (0, .nameAndType 61 62), (0, u "at"), (0, u "(Ljava/lang/String;IICC)C"), (2, u "law"), (0, u "(IIIII)Z")] 9

def k1m0 : Method := { name := "<init>", desc := "()V", sig := { parameters := [], returnType := none }, accessFlags := 2, code := none }
def k1c1 : Code := { maxStack := 6, maxLocals := 14, code := code, exceptionTable := #[], attributes := #[] }
def k1m1 : Method := { name := "law", desc := "(IIIII)Z", sig := { parameters := [.int, .int, .int, .int, .int], returnType := some .boolean }, accessFlags := 9, code := some k1c1 }
def k1c2 : Code := { maxStack := 2, maxLocals := 5, code := method_3_code, exceptionTable := #[], attributes := #[] }
def k1m2 : Method := { name := "at", desc := "(Ljava/lang/String;IICC)C", sig := { parameters := [(.object "java/lang/String"), .int, .int, .char, .char], returnType := some .char }, accessFlags := 10, code := some k1c2 }
def k1c3 : Code := { maxStack := 7, maxLocals := 5, code := method_4_code, exceptionTable := #[], attributes := #[] }
def k1m3 : Method := { name := "fillChars", desc := "([CLjava/lang/String;ICC)V", sig := { parameters := [(.array .char), (.object "java/lang/String"), .int, .char, .char], returnType := none }, accessFlags := 10, code := some k1c3 }
/-- com/example/vacuum/vacuum/model/MethodOfWireNamePinLaw -/
def k1 : Class := { plain "com/example/vacuum/vacuum/model/MethodOfWireNamePinLaw" (some 0) with
  accessFlags := 49
  interfaces := #[]
  cf := some (fileOf pool1 16 #[] #[{ accessFlags := 2, nameIndex := 5, descriptorIndex := 6, attributes := #[] }, { accessFlags := 9, nameIndex := 65, descriptorIndex := 66, attributes := #[] }, { accessFlags := 10, nameIndex := 61, descriptorIndex := 62, attributes := #[] }, { accessFlags := 10, nameIndex := 19, descriptorIndex := 20, attributes := #[] }] 49 2 #[] #[])
  fields := #[]
  methods := #[k1m0, k1m1, k1m2, k1m3]
  instanceTypes := #[]
  staticTypes := #[]
  resolved := Array.replicate 76 none
  statics := none }

def pool2 : Array CpInfo := pool [(1, .class_ 2), (0, u "java/io/Serializable"), (0, .class_ 4), (0, u "java/lang/Object")] 2

/-- java/io/Serializable -/
def k2 : Class := { plain "java/io/Serializable" (some 0) with
  accessFlags := 1537
  interfaces := #[]
  cf := some (fileOf pool2 1 #[] #[] 1537 3 #[] #[])
  fields := #[]
  methods := #[]
  instanceTypes := #[]
  staticTypes := #[]
  resolved := Array.replicate 7 none
  statics := none }

def pool3 : Array CpInfo := pool [(1, .class_ 2), (0, u "java/lang/Comparable"), (0, .class_ 4), (0, u "java/lang/Object")] 7

/-- java/lang/Comparable -/
def k3 : Class := { plain "java/lang/Comparable" (some 0) with
  accessFlags := 1537
  interfaces := #[]
  cf := some (fileOf pool3 1 #[] #[] 1537 3 #[] #[])
  fields := #[]
  methods := #[]
  instanceTypes := #[]
  staticTypes := #[]
  resolved := Array.replicate 12 none
  statics := none }

def pool4 : Array CpInfo := pool [(2, .class_ 4), (1, u "java/lang/CharSequence"), (42, .class_ 48), (0, u "java/lang/CharSequence$1CodePointIterator"), (10, .class_ 60), (0, u "java/lang/CharSequence$1CharIterator"), (5, .class_ 67), (0, u "java/lang/Object")] 63

/-- java/lang/CharSequence -/
def k4 : Class := { plain "java/lang/CharSequence" (some 0) with
  accessFlags := 1537
  interfaces := #[]
  cf := some (fileOf pool4 2 #[.nestMembers #[47, 59]] #[] 1537 66 #[] #[])
  fields := #[]
  methods := #[]
  instanceTypes := #[]
  staticTypes := #[]
  resolved := Array.replicate 131 none
  statics := none }

def pool5 : Array CpInfo := pool [(1, .class_ 2), (0, u "java/lang/constant/Constable"), (0, .class_ 4), (0, u "java/lang/Object")] 6

/-- java/lang/constant/Constable -/
def k5 : Class := { plain "java/lang/constant/Constable" (some 0) with
  accessFlags := 1537
  interfaces := #[]
  cf := some (fileOf pool5 1 #[] #[] 1537 3 #[] #[])
  fields := #[]
  methods := #[]
  instanceTypes := #[]
  staticTypes := #[]
  resolved := Array.replicate 11 none
  statics := none }

def pool6 : Array CpInfo := pool [(1, .class_ 2), (0, u "java/lang/constant/ConstantDesc"), (0, .class_ 4), (0, u "java/lang/Object")] 32

/-- java/lang/constant/ConstantDesc -/
def k6 : Class := { plain "java/lang/constant/ConstantDesc" (some 0) with
  accessFlags := 1537
  interfaces := #[]
  cf := some (fileOf pool6 1 #[] #[] 1537 3 #[] #[])
  fields := #[]
  methods := #[]
  instanceTypes := #[]
  staticTypes := #[]
  resolved := Array.replicate 37 none
  statics := none }

def pool7 : Array CpInfo := pool [(1, .methodref 2 3), (0, .class_ 4), (0, .nameAndType 5 6), (0, u "java/lang/Object"), (0, u "<init>"), (0, u "()V"), (0, .string 8), (0, u ""), (0, .fieldref 10 11), (0, .class_ 12), (0, .nameAndType 13 14), (0, u "java/lang/String"), (0, u "value"), (0, u "[B"), (0, .fieldref 10 16), (0, .nameAndType 17 18), (0, u "coder"), (0, u "B"), (2, u "hash"), (0, u "I"), (2, u "hashIsZero"), (0, u "Z"), (0, .methodref 10 28), (0, .nameAndType 5 29), (0, u "([CIILjava/lang/Void;)V"), (8, .fieldref 10 39), (0, .nameAndType 40 26), (0, u "COMPACT_STRINGS"), (1, .class_ 44), (1, u "java/lang/StringUTF16"), (0, u "compress"), (1, .methodref 42 48), (0, .nameAndType 49 50), (0, u "coderFromArrayLen"), (0, u "([BI)B"), (56, .class_ 109), (1, u "java/lang/StringLatin1"), (32, u "()Z"), (34, .methodref 42 178), (0, .nameAndType 45 179), (0, u "([CII)[B"), (154, u "()I"), (0, .methodref 10 336), (0, .nameAndType 17 337), (0, u "()B"), (25, u "([BI)C"), (27, u "(II)V"), (35, u "(I)C"), (64, .methodref 10 493), (0, .nameAndType 494 142), (0, u "isLatin1"), (0, .methodref 107 496), (0, .nameAndType 497 363), (0, u "charAt"), (3, u "checkIndex"), (5, u "length"), (33, .methodref 107 542), (0, .nameAndType 543 544), (0, u "equals"), (0, u "([B[B)Z"), (28, u "(Ljava/lang/Object;)Z"), (1, .class_ 576), (0, u "java/lang/CharSequence"), (22, u "CASE_INSENSITIVE_ORDER"), (0, u "Ljava/util/Comparator;"), (409, u "([C)V"), (42, .fieldref 1054 1055), (0, .class_ 1056), (0, .nameAndType 1057 1058), (0, u "jdk/internal/util/Preconditions"), (0, u "SIOOBE_FORMATTER"), (0, u "Ljava/util/function/BiFunction;"), (0, .methodref 1054 1060), (0, .nameAndType 501 1061), (0, u "(IILjava/util/function/BiFunction;)I"), (39, u "serialPersistentFields"), (0, u "[Ljava/io/ObjectStreamField;"), (0, .class_ 1104), (0, u "java/lang/String$CaseInsensitiveComparator"), (1, .class_ 1107), (0, u "java/io/Serializable"), (0, .class_ 1109), (0, u "java/lang/Comparable"), (0, .class_ 1111), (0, u "java/lang/constant/Constable"), (0, .class_ 1113), (0, u "java/lang/constant/ConstantDesc"), (2, u "serialVersionUID"), (0, u "J"), (3, u "REPL"), (0, u "C"), (2, u "LATIN1"), (1, u "UTF16")] 323

def k7m0 : Method := { name := "<init>", desc := "()V", sig := { parameters := [], returnType := none }, accessFlags := 1, code := none }
def k7c1 : Code := { maxStack := 5, maxLocals := 2, code := jdk_42_method_3_code, exceptionTable := #[], attributes := #[] }
def k7m1 : Method := { name := "<init>", desc := "([C)V", sig := { parameters := [(.array .char)], returnType := none }, accessFlags := 1, code := some k7c1 }
def k7c2 : Code := { maxStack := 2, maxLocals := 1, code := jdk_42_method_54_code, exceptionTable := #[], attributes := #[] }
def k7m2 : Method := { name := "length", desc := "()I", sig := { parameters := [], returnType := some .int }, accessFlags := 1, code := some k7c2 }
def k7c3 : Code := { maxStack := 2, maxLocals := 2, code := jdk_42_method_56_code, exceptionTable := #[], attributes := #[] }
def k7m3 : Method := { name := "charAt", desc := "(I)C", sig := { parameters := [.int], returnType := some .char }, accessFlags := 1, code := some k7c3 }
def k7c4 : Code := { maxStack := 2, maxLocals := 3, code := jdk_42_method_66_code, exceptionTable := #[], attributes := #[] }
def k7m4 : Method := { name := "equals", desc := "(Ljava/lang/Object;)Z", sig := { parameters := [(.object "java/lang/Object")], returnType := some .boolean }, accessFlags := 1, code := some k7c4 }
def k7c5 : Code := { maxStack := 4, maxLocals := 6, code := jdk_42_method_149_code, exceptionTable := #[], attributes := #[] }
def k7m5 : Method := { name := "<init>", desc := "([CIILjava/lang/Void;)V", sig := { parameters := [(.array .char), .int, .int, (.object "java/lang/Void")], returnType := none }, accessFlags := 2, code := some k7c5 }
def k7c6 : Code := { maxStack := 1, maxLocals := 1, code := jdk_42_method_152_code, exceptionTable := #[], attributes := #[] }
def k7m6 : Method := { name := "coder", desc := "()B", sig := { parameters := [], returnType := some .byte }, accessFlags := 0, code := some k7c6 }
def k7c7 : Code := { maxStack := 1, maxLocals := 1, code := jdk_42_method_154_code, exceptionTable := #[], attributes := #[] }
def k7m7 : Method := { name := "isLatin1", desc := "()Z", sig := { parameters := [], returnType := some .boolean }, accessFlags := 0, code := some k7c7 }
def k7c8 : Code := { maxStack := 3, maxLocals := 2, code := jdk_42_method_155_code, exceptionTable := #[], attributes := #[] }
def k7m8 : Method := { name := "checkIndex", desc := "(II)V", sig := { parameters := [.int, .int], returnType := none }, accessFlags := 8, code := some k7c8 }
/-- java/lang/String -/
def k7 : Class := { plain "java/lang/String" (some 0) with
  accessFlags := 49
  interfaces := #[2, 3, 4, 5, 6]
  cf := some (fileOf pool7 10 #[.nestMembers #[1103]] #[{ accessFlags := 1, nameIndex := 5, descriptorIndex := 6, attributes := #[] }, { accessFlags := 1, nameIndex := 5, descriptorIndex := 1010, attributes := #[] }, { accessFlags := 1, nameIndex := 507, descriptorIndex := 334, attributes := #[] }, { accessFlags := 1, nameIndex := 497, descriptorIndex := 427, attributes := #[] }, { accessFlags := 1, nameIndex := 543, descriptorIndex := 573, attributes := #[] }, { accessFlags := 2, nameIndex := 5, descriptorIndex := 29, attributes := #[] }, { accessFlags := 0, nameIndex := 17, descriptorIndex := 337, attributes := #[] }, { accessFlags := 0, nameIndex := 494, descriptorIndex := 142, attributes := #[] }, { accessFlags := 8, nameIndex := 501, descriptorIndex := 391, attributes := #[] }] 49 2 #[1106, 1108, 575, 1110, 1112] #[{ accessFlags := 18, nameIndex := 13, descriptorIndex := 14, attributes := #[] }, { accessFlags := 18, nameIndex := 17, descriptorIndex := 18, attributes := #[] }, { accessFlags := 2, nameIndex := 21, descriptorIndex := 22, attributes := #[] }, { accessFlags := 2, nameIndex := 25, descriptorIndex := 26, attributes := #[] }, { accessFlags := 26, nameIndex := 1116, descriptorIndex := 1117, attributes := #[] }, { accessFlags := 24, nameIndex := 40, descriptorIndex := 26, attributes := #[] }, { accessFlags := 26, nameIndex := 1101, descriptorIndex := 1102, attributes := #[] }, { accessFlags := 26, nameIndex := 1121, descriptorIndex := 1122, attributes := #[] }, { accessFlags := 25, nameIndex := 599, descriptorIndex := 600, attributes := #[] }, { accessFlags := 24, nameIndex := 1125, descriptorIndex := 18, attributes := #[] }, { accessFlags := 24, nameIndex := 1127, descriptorIndex := 18, attributes := #[] }])
  fields := #[{ name := "value", type := (.array .byte), accessFlags := 18, slot := 0, constantValue := 0 }, { name := "coder", type := .byte, accessFlags := 18, slot := 1, constantValue := 0 }, { name := "hash", type := .int, accessFlags := 2, slot := 2, constantValue := 0 }, { name := "hashIsZero", type := .boolean, accessFlags := 2, slot := 3, constantValue := 0 }, { name := "serialVersionUID", type := .long, accessFlags := 26, slot := 0, constantValue := 0 }, { name := "COMPACT_STRINGS", type := .boolean, accessFlags := 24, slot := 1, constantValue := 0 }, { name := "serialPersistentFields", type := (.array (.object "java/io/ObjectStreamField")), accessFlags := 26, slot := 2, constantValue := 0 }, { name := "REPL", type := .char, accessFlags := 26, slot := 3, constantValue := 0 }, { name := "CASE_INSENSITIVE_ORDER", type := (.object "java/util/Comparator"), accessFlags := 25, slot := 4, constantValue := 0 }, { name := "LATIN1", type := .byte, accessFlags := 24, slot := 5, constantValue := 0 }, { name := "UTF16", type := .byte, accessFlags := 24, slot := 6, constantValue := 0 }]
  methods := #[k7m0, k7m1, k7m2, k7m3, k7m4, k7m5, k7m6, k7m7, k7m8]
  instanceTypes := #[(.array .byte), .byte, .int, .boolean]
  staticTypes := #[.long, .boolean, (.array (.object "java/io/ObjectStreamField")), .char, (.object "java/util/Comparator"), .byte, .byte]
  resolved := Array.replicate 1451 none
  statics := some 0 }

def pool8 : Array CpInfo := pool [(1, .class_ 2), (0, u "java/lang/String"), (1, .class_ 6), (1, u "java/lang/Object"), (0, u "<init>"), (0, u "()V"), (0, .methodref 1 10), (0, .nameAndType 11 12), (0, u "checkIndex"), (0, u "(II)V"), (1, .class_ 16), (1, u "java/lang/StringLatin1"), (36, u "([BI)C"), (67, u "$assertionsDisabled"), (0, u "Z"), (98, .class_ 223), (1, u "java/lang/StringLatin1$LinesSpliterator"), (28, u "charAt"), (28, u "equals"), (0, u "([B[B)Z"), (107, .class_ 391), (0, u "java/lang/StringLatin1$CharsSpliterator")] 3

def k8m0 : Method := { name := "<init>", desc := "()V", sig := { parameters := [], returnType := none }, accessFlags := 0, code := none }
def k8c1 : Code := { maxStack := 2, maxLocals := 2, code := jdk_43_method_2_code, exceptionTable := #[], attributes := #[] }
def k8m1 : Method := { name := "charAt", desc := "([BI)C", sig := { parameters := [(.array .byte), .int], returnType := some .char }, accessFlags := 9, code := some k8c1 }
def k8c2 : Code := { maxStack := 3, maxLocals := 3, code := jdk_43_method_13_code, exceptionTable := #[], attributes := #[] }
def k8m2 : Method := { name := "equals", desc := "([B[B)Z", sig := { parameters := [(.array .byte), (.array .byte)], returnType := some .boolean }, accessFlags := 9, code := some k8c2 }
/-- java/lang/StringLatin1 -/
def k8 : Class := { plain "java/lang/StringLatin1" (some 0) with
  accessFlags := 48
  interfaces := #[]
  cf := some (fileOf pool8 14 #[.nestMembers #[390, 221]] #[{ accessFlags := 0, nameIndex := 7, descriptorIndex := 8, attributes := #[] }, { accessFlags := 9, nameIndex := 252, descriptorIndex := 53, attributes := #[] }, { accessFlags := 9, nameIndex := 281, descriptorIndex := 282, attributes := #[] }] 48 4 #[] #[{ accessFlags := 4120, nameIndex := 121, descriptorIndex := 122, attributes := #[] }])
  fields := #[{ name := "$assertionsDisabled", type := .boolean, accessFlags := 4120, slot := 0, constantValue := 0 }]
  methods := #[k8m0, k8m1, k8m2]
  instanceTypes := #[]
  staticTypes := #[.boolean]
  resolved := Array.replicate 395 none
  statics := none }

def pool9 : Array CpInfo := pool [(2, .class_ 4), (1, u "java/lang/Object"), (0, u "<init>"), (0, u "()V"), (17, .class_ 26), (1, u "jdk/internal/util/Preconditions"), (6, u "checkIndex"), (21, .class_ 56), (0, u "jdk/internal/util/Preconditions$4"), (57, .class_ 115), (0, u "jdk/internal/util/Preconditions$1"), (7, u "SIOOBE_FORMATTER"), (0, u "Ljava/util/function/BiFunction;"), (0, .class_ 126), (0, u "jdk/internal/util/Preconditions$2"), (3, u "AIOOBE_FORMATTER"), (0, .class_ 132), (0, u "jdk/internal/util/Preconditions$3"), (3, u "IOOBE_FORMATTER"), (41, u "(IILjava/util/function/BiFunction;)I")] 15

def k9m0 : Method := { name := "<init>", desc := "()V", sig := { parameters := [], returnType := none }, accessFlags := 1, code := none }
def k9c1 : Code := { maxStack := 3, maxLocals := 3, code := jdk_41_method_11_code, exceptionTable := #[], attributes := #[] }
def k9m1 : Method := { name := "checkIndex", desc := "(IILjava/util/function/BiFunction;)I", sig := { parameters := [.int, .int, (.object "java/util/function/BiFunction")], returnType := some .int }, accessFlags := 9, code := some k9c1 }
/-- jdk/internal/util/Preconditions -/
def k9 : Class := { plain "jdk/internal/util/Preconditions" (some 0) with
  accessFlags := 33
  interfaces := #[]
  cf := some (fileOf pool9 24 #[.nestMembers #[55, 131, 125, 114]] #[{ accessFlags := 1, nameIndex := 5, descriptorIndex := 6, attributes := #[] }, { accessFlags := 9, nameIndex := 33, descriptorIndex := 178, attributes := #[] }] 33 2 #[] #[{ accessFlags := 25, nameIndex := 123, descriptorIndex := 124, attributes := #[] }, { accessFlags := 25, nameIndex := 130, descriptorIndex := 124, attributes := #[] }, { accessFlags := 25, nameIndex := 136, descriptorIndex := 124, attributes := #[] }])
  fields := #[{ name := "SIOOBE_FORMATTER", type := (.object "java/util/function/BiFunction"), accessFlags := 25, slot := 0, constantValue := 0 }, { name := "AIOOBE_FORMATTER", type := (.object "java/util/function/BiFunction"), accessFlags := 25, slot := 1, constantValue := 0 }, { name := "IOOBE_FORMATTER", type := (.object "java/util/function/BiFunction"), accessFlags := 25, slot := 2, constantValue := 0 }]
  methods := #[k9m0, k9m1]
  instanceTypes := #[]
  staticTypes := #[(.object "java/util/function/BiFunction"), (.object "java/util/function/BiFunction"), (.object "java/util/function/BiFunction")]
  resolved := Array.replicate 194 none
  statics := some 1 }

def pool10 : Array CpInfo := pool [(2, .class_ 4), (1, u "java/lang/Enum"), (0, u "name"), (0, u "Ljava/lang/String;"), (2, u "ordinal"), (0, u "I"), (1, .class_ 14), (1, u "java/lang/Object"), (4, u "hash"), (86, .class_ 108), (1, u "java/lang/Enum$EnumDesc"), (2, .class_ 112), (0, u "java/lang/constant/Constable"), (0, .class_ 114), (0, u "java/lang/Comparable"), (0, .class_ 116), (0, u "java/io/Serializable")] 87

/-- java/lang/Enum -/
def k10 : Class := { plain "java/lang/Enum" (some 0) with
  accessFlags := 1057
  interfaces := #[5, 3, 2]
  cf := some (fileOf pool10 2 #[.nestMembers #[106]] #[] 1057 12 #[111, 113, 115] #[{ accessFlags := 18, nameIndex := 5, descriptorIndex := 6, attributes := #[] }, { accessFlags := 18, nameIndex := 9, descriptorIndex := 10, attributes := #[] }, { accessFlags := 2, nameIndex := 19, descriptorIndex := 10, attributes := #[] }])
  fields := #[{ name := "name", type := (.object "java/lang/String"), accessFlags := 18, slot := 0, constantValue := 0 }, { name := "ordinal", type := .int, accessFlags := 18, slot := 1, constantValue := 0 }, { name := "hash", type := .int, accessFlags := 2, slot := 2, constantValue := 0 }]
  methods := #[]
  instanceTypes := #[(.object "java/lang/String"), .int, .int]
  staticTypes := #[]
  resolved := Array.replicate 204 none
  statics := none }

def pool11 : Array CpInfo := pool [(1, .class_ 2), (0, u "com/example/vacuum/vacuum/model/PrunePolicy$Method"), (2, u "NUMBER_OF_TAGS"), (0, u "Lcom/example/vacuum/vacuum/model/PrunePolicy$Method;"), (2, u "CREATION_DATE"), (0, .fieldref 1 11), (0, .nameAndType 12 13), (0, u "$VALUES"), (0, u "[Lcom/example/vacuum/vacuum/model/PrunePolicy$Method;"), (0, .methodref 15 16), (0, .class_ 13), (0, .nameAndType 17 18), (0, u "clone"), (0, u "()Ljava/lang/Object;"), (1, .class_ 22), (1, u "java/lang/Enum"), (6, .fieldref 1 30), (0, .nameAndType 31 32), (0, u "wireName"), (0, u "Ljava/lang/String;"), (0, .methodref 1 34), (0, .nameAndType 35 36), (0, u "values"), (0, u "()[Lcom/example/vacuum/vacuum/model/PrunePolicy$Method;"), (0, .methodref 38 39), (0, .class_ 40), (0, .nameAndType 41 42), (0, u "java/lang/String"), (0, u "equals"), (0, u "(Ljava/lang/Object;)Z"), (0, .methodref 44 45), (0, .class_ 46), (0, .nameAndType 47 48), (0, u "java/util/Optional"), (0, u "of"), (0, u "(Ljava/lang/Object;)Ljava/util/Optional;"), (0, .methodref 44 50), (0, .nameAndType 51 52), (0, u "empty"), (0, u "()Ljava/util/Optional;"), (19, u "ofWireName"), (0, u "(Ljava/lang/String;)Ljava/util/Optional;"), (8, .class_ 83), (0, u "com/example/vacuum/vacuum/model/PrunePolicy")] 2

def k11c0 : Code := { maxStack := 1, maxLocals := 0, code := prog_18_method_1_code, exceptionTable := #[], attributes := #[] }
def k11m0 : Method := { name := "values", desc := "()[Lcom/example/vacuum/vacuum/model/PrunePolicy$Method;", sig := { parameters := [], returnType := some (.array (.object "com/example/vacuum/vacuum/model/PrunePolicy$Method")) }, accessFlags := 9, code := some k11c0 }
def k11c1 : Code := { maxStack := 2, maxLocals := 5, code := prog_18_method_5_code, exceptionTable := #[], attributes := #[] }
def k11m1 : Method := { name := "ofWireName", desc := "(Ljava/lang/String;)Ljava/util/Optional;", sig := { parameters := [(.object "java/lang/String")], returnType := some (.object "java/util/Optional") }, accessFlags := 9, code := some k11c1 }
/-- com/example/vacuum/vacuum/model/PrunePolicy$Method -/
def k11 : Class := { plain "com/example/vacuum/vacuum/model/PrunePolicy$Method" (some 10) with
  accessFlags := 16433
  interfaces := #[]
  cf := some (fileOf pool11 1 #[.nestHost 82] #[{ accessFlags := 9, nameIndex := 35, descriptorIndex := 36, attributes := #[] }, { accessFlags := 9, nameIndex := 72, descriptorIndex := 73, attributes := #[] }] 16433 20 #[] #[{ accessFlags := 16409, nameIndex := 5, descriptorIndex := 6, attributes := #[] }, { accessFlags := 16409, nameIndex := 9, descriptorIndex := 6, attributes := #[] }, { accessFlags := 18, nameIndex := 31, descriptorIndex := 32, attributes := #[] }, { accessFlags := 4122, nameIndex := 12, descriptorIndex := 13, attributes := #[] }])
  fields := #[{ name := "NUMBER_OF_TAGS", type := (.object "com/example/vacuum/vacuum/model/PrunePolicy$Method"), accessFlags := 16409, slot := 0, constantValue := 0 }, { name := "CREATION_DATE", type := (.object "com/example/vacuum/vacuum/model/PrunePolicy$Method"), accessFlags := 16409, slot := 1, constantValue := 0 }, { name := "wireName", type := (.object "java/lang/String"), accessFlags := 18, slot := 3, constantValue := 0 }, { name := "$VALUES", type := (.array (.object "com/example/vacuum/vacuum/model/PrunePolicy$Method")), accessFlags := 4122, slot := 2, constantValue := 0 }]
  methods := #[k11m0, k11m1]
  instanceTypes := #[(.object "java/lang/String"), .int, .int, (.object "java/lang/String")]
  staticTypes := #[(.object "com/example/vacuum/vacuum/model/PrunePolicy$Method"), (.object "com/example/vacuum/vacuum/model/PrunePolicy$Method"), (.array (.object "com/example/vacuum/vacuum/model/PrunePolicy$Method"))]
  resolved := Array.replicate 86 none
  statics := some 2 }

def pool12 : Array CpInfo := pool [(1, .class_ 2), (0, u "java/lang/Cloneable"), (0, .class_ 4), (0, u "java/lang/Object")] 2

/-- java/lang/Cloneable -/
def k12 : Class := { plain "java/lang/Cloneable" (some 0) with
  accessFlags := 1537
  interfaces := #[]
  cf := some (fileOf pool12 1 #[] #[] 1537 3 #[] #[])
  fields := #[]
  methods := #[]
  instanceTypes := #[]
  staticTypes := #[]
  resolved := Array.replicate 7 none
  statics := none }

def pool13 : Array CpInfo := pool [(1, .fieldref 2 3), (0, .class_ 4), (0, .nameAndType 5 6), (0, u "java/util/Optional"), (0, u "EMPTY"), (0, u "Ljava/util/Optional;"), (0, .methodref 8 9), (0, .class_ 10), (0, .nameAndType 11 12), (0, u "java/lang/Object"), (0, u "<init>"), (0, u "()V"), (0, .fieldref 2 14), (0, .nameAndType 15 16), (0, u "value"), (0, u "Ljava/lang/Object;"), (0, .methodref 18 19), (0, .class_ 20), (0, .nameAndType 21 22), (0, u "java/util/Objects"), (0, u "requireNonNull"), (0, u "(Ljava/lang/Object;)Ljava/lang/Object;"), (0, .methodref 2 24), (0, .nameAndType 11 25), (0, u "(Ljava/lang/Object;)V"), (19, u "isEmpty"), (0, u "()Z"), (8, u "empty"), (0, u "()Ljava/util/Optional;"), (8, u "(Ljava/lang/Object;)Ljava/util/Optional;"), (16, u "of"), (82, u "orElse")] 21

def k13c0 : Code := { maxStack := 1, maxLocals := 1, code := jdk_32_method_1_code, exceptionTable := #[], attributes := #[] }
def k13m0 : Method := { name := "empty", desc := "()Ljava/util/Optional;", sig := { parameters := [], returnType := some (.object "java/util/Optional") }, accessFlags := 9, code := some k13c0 }
def k13c1 : Code := { maxStack := 2, maxLocals := 2, code := jdk_32_method_2_code, exceptionTable := #[], attributes := #[] }
def k13m1 : Method := { name := "<init>", desc := "(Ljava/lang/Object;)V", sig := { parameters := [(.object "java/lang/Object")], returnType := none }, accessFlags := 2, code := some k13c1 }
def k13c2 : Code := { maxStack := 3, maxLocals := 1, code := jdk_32_method_3_code, exceptionTable := #[], attributes := #[] }
def k13m2 : Method := { name := "of", desc := "(Ljava/lang/Object;)Ljava/util/Optional;", sig := { parameters := [(.object "java/lang/Object")], returnType := some (.object "java/util/Optional") }, accessFlags := 9, code := some k13c2 }
def k13c3 : Code := { maxStack := 1, maxLocals := 1, code := jdk_32_method_7_code, exceptionTable := #[], attributes := #[] }
def k13m3 : Method := { name := "isEmpty", desc := "()Z", sig := { parameters := [], returnType := some .boolean }, accessFlags := 1, code := some k13c3 }
def k13c4 : Code := { maxStack := 1, maxLocals := 2, code := jdk_32_method_15_code, exceptionTable := #[], attributes := #[] }
def k13m4 : Method := { name := "orElse", desc := "(Ljava/lang/Object;)Ljava/lang/Object;", sig := { parameters := [(.object "java/lang/Object")], returnType := some (.object "java/lang/Object") }, accessFlags := 1, code := some k13c4 }
/-- java/util/Optional -/
def k13 : Class := { plain "java/util/Optional" (some 0) with
  accessFlags := 49
  interfaces := #[]
  cf := some (fileOf pool13 2 #[] #[{ accessFlags := 9, nameIndex := 55, descriptorIndex := 56, attributes := #[] }, { accessFlags := 2, nameIndex := 11, descriptorIndex := 25, attributes := #[] }, { accessFlags := 9, nameIndex := 82, descriptorIndex := 65, attributes := #[] }, { accessFlags := 1, nameIndex := 45, descriptorIndex := 46, attributes := #[] }, { accessFlags := 1, nameIndex := 165, descriptorIndex := 22, attributes := #[] }] 49 8 #[] #[{ accessFlags := 26, nameIndex := 5, descriptorIndex := 6, attributes := #[] }, { accessFlags := 18, nameIndex := 15, descriptorIndex := 16, attributes := #[] }])
  fields := #[{ name := "EMPTY", type := (.object "java/util/Optional"), accessFlags := 26, slot := 0, constantValue := 0 }, { name := "value", type := (.object "java/lang/Object"), accessFlags := 18, slot := 0, constantValue := 0 }]
  methods := #[k13m0, k13m1, k13m2, k13m3, k13m4]
  instanceTypes := #[(.object "java/lang/Object")]
  staticTypes := #[(.object "java/util/Optional")]
  resolved := Array.replicate 187 none
  statics := some 3 }

def pool14 : Array CpInfo := pool [(6, .class_ 8), (1, u "java/lang/Object"), (0, u "<init>"), (0, u "()V"), (1, .class_ 14), (1, u "java/lang/StringUTF16"), (31, u "$assertionsDisabled"), (0, u "Z"), (13, u "HI_BYTE_SHIFT"), (0, u "I"), (2, u "LO_BYTE_SHIFT"), (49, .methodref 12 116), (0, .nameAndType 117 118), (0, u "compress"), (0, u "([CI[BII)I"), (3, u "([CII)[B"), (138, u "coderFromArrayLen"), (0, u "([BI)B"), (106, .class_ 371), (1, u "java/lang/StringUTF16$LinesSpliterator"), (58, u "MAX_LENGTH"), (196, .class_ 628), (0, u "java/lang/StringUTF16$CodePointsSpliterator"), (0, .class_ 630), (0, u "java/lang/StringUTF16$CharsSpliterator")] 4

def k14m0 : Method := { name := "<init>", desc := "()V", sig := { parameters := [], returnType := none }, accessFlags := 0, code := none }
def k14c1 : Code := { maxStack := 2, maxLocals := 2, code := jdk_52_method_15_code, exceptionTable := #[], attributes := #[] }
def k14m1 : Method := { name := "coderFromArrayLen", desc := "([BI)B", sig := { parameters := [(.array .byte), .int], returnType := some .byte }, accessFlags := 8, code := some k14c1 }
def k14c2 : Code := { maxStack := 5, maxLocals := 6, code := jdk_52_method_16_code, exceptionTable := #[], attributes := #[] }
def k14m2 : Method := { name := "compress", desc := "([CII)[B", sig := { parameters := [(.array .char), .int, .int], returnType := some (.array .byte) }, accessFlags := 9, code := some k14c2 }
def k14c3 : Code := { maxStack := 3, maxLocals := 7, code := jdk_52_method_21_code, exceptionTable := #[], attributes := #[] }
def k14m3 : Method := { name := "compress", desc := "([CI[BII)I", sig := { parameters := [(.array .char), .int, (.array .byte), .int, .int], returnType := some .int }, accessFlags := 9, code := some k14c3 }
/-- java/lang/StringUTF16 -/
def k14 : Class := { plain "java/lang/StringUTF16" (some 0) with
  accessFlags := 48
  interfaces := #[]
  cf := some (fileOf pool14 12 #[.nestMembers #[627, 629, 369]] #[{ accessFlags := 0, nameIndex := 9, descriptorIndex := 10, attributes := #[] }, { accessFlags := 8, nameIndex := 261, descriptorIndex := 262, attributes := #[] }, { accessFlags := 9, nameIndex := 117, descriptorIndex := 122, attributes := #[] }, { accessFlags := 9, nameIndex := 117, descriptorIndex := 118, attributes := #[] }] 48 6 #[] #[{ accessFlags := 26, nameIndex := 61, descriptorIndex := 62, attributes := #[] }, { accessFlags := 26, nameIndex := 65, descriptorIndex := 62, attributes := #[] }, { accessFlags := 24, nameIndex := 430, descriptorIndex := 62, attributes := #[] }, { accessFlags := 4120, nameIndex := 46, descriptorIndex := 47, attributes := #[] }])
  fields := #[{ name := "HI_BYTE_SHIFT", type := .int, accessFlags := 26, slot := 0, constantValue := 0 }, { name := "LO_BYTE_SHIFT", type := .int, accessFlags := 26, slot := 1, constantValue := 0 }, { name := "MAX_LENGTH", type := .int, accessFlags := 24, slot := 2, constantValue := 0 }, { name := "$assertionsDisabled", type := .boolean, accessFlags := 4120, slot := 3, constantValue := 0 }]
  methods := #[k14m0, k14m1, k14m2, k14m3]
  instanceTypes := #[]
  staticTypes := #[.int, .int, .int, .boolean]
  resolved := Array.replicate 635 none
  statics := none }

def pool15 : Array CpInfo := pool [(2, .class_ 4), (1, u "java/lang/Object"), (0, u "<init>"), (0, u "()V"), (35, .class_ 44), (1, u "java/util/Objects"), (0, u "requireNonNull"), (0, u "(Ljava/lang/Object;)Ljava/lang/Object;")] 137

def k15m0 : Method := { name := "<init>", desc := "()V", sig := { parameters := [], returnType := none }, accessFlags := 2, code := none }
def k15c1 : Code := { maxStack := 2, maxLocals := 1, code := jdk_31_method_10_code, exceptionTable := #[], attributes := #[] }
def k15m1 : Method := { name := "requireNonNull", desc := "(Ljava/lang/Object;)Ljava/lang/Object;", sig := { parameters := [(.object "java/lang/Object")], returnType := some (.object "java/lang/Object") }, accessFlags := 9, code := some k15c1 }
/-- java/util/Objects -/
def k15 : Class := { plain "java/util/Objects" (some 0) with
  accessFlags := 49
  interfaces := #[]
  cf := some (fileOf pool15 42 #[] #[{ accessFlags := 2, nameIndex := 5, descriptorIndex := 6, attributes := #[] }, { accessFlags := 9, nameIndex := 45, descriptorIndex := 46, attributes := #[] }] 49 2 #[] #[])
  fields := #[]
  methods := #[k15m0, k15m1]
  instanceTypes := #[]
  staticTypes := #[]
  resolved := Array.replicate 184 none
  statics := none }

def pool16 : Array CpInfo := pool [(9, u "<init>"), (6, .class_ 18), (1, u "java/lang/Object"), (0, u "()V"), (1, .class_ 23), (1, u "jdk/internal/util/ArraysSupport"), (0, u "LOG2_ARRAY_LONG_INDEX_SCALE"), (0, u "I"), (2, u "U"), (0, u "Ljdk/internal/misc/Unsafe;"), (8, u "BIG_ENDIAN"), (0, u "Z"), (8, u "LOG2_BYTE_BIT_SIZE"), (4, u "LOG2_ARRAY_INT_INDEX_SCALE"), (54, u "JLA"), (0, u "Ljdk/internal/access/JavaLangAccess;"), (11, u "LOG2_ARRAY_BOOLEAN_INDEX_SCALE"), (9, u "LOG2_ARRAY_BYTE_INDEX_SCALE"), (5, u "LOG2_ARRAY_CHAR_INDEX_SCALE"), (5, u "LOG2_ARRAY_SHORT_INDEX_SCALE"), (18, u "LOG2_ARRAY_FLOAT_INDEX_SCALE"), (24, u "LOG2_ARRAY_DOUBLE_INDEX_SCALE"), (89, u "T_BOOLEAN"), (2, u "T_CHAR"), (1, u "T_FLOAT"), (1, u "T_DOUBLE"), (1, u "T_BYTE"), (1, u "T_SHORT"), (1, u "T_INT"), (1, u "T_LONG"), (1, u "SOFT_MAX_ARRAY_LENGTH")] 83

def k16m0 : Method := { name := "<init>", desc := "()V", sig := { parameters := [], returnType := none }, accessFlags := 2, code := none }
/-- jdk/internal/util/ArraysSupport -/
def k16 : Class := { plain "jdk/internal/util/ArraysSupport" (some 0) with
  accessFlags := 33
  interfaces := #[]
  cf := some (fileOf pool16 21 #[] #[{ accessFlags := 2, nameIndex := 9, descriptorIndex := 19, attributes := #[] }] 33 16 #[] #[{ accessFlags := 24, nameIndex := 28, descriptorIndex := 29, attributes := #[] }, { accessFlags := 26, nameIndex := 38, descriptorIndex := 39, attributes := #[] }, { accessFlags := 25, nameIndex := 121, descriptorIndex := 25, attributes := #[] }, { accessFlags := 25, nameIndex := 131, descriptorIndex := 25, attributes := #[] }, { accessFlags := 25, nameIndex := 137, descriptorIndex := 25, attributes := #[] }, { accessFlags := 25, nameIndex := 143, descriptorIndex := 25, attributes := #[] }, { accessFlags := 25, nameIndex := 53, descriptorIndex := 25, attributes := #[] }, { accessFlags := 25, nameIndex := 24, descriptorIndex := 25, attributes := #[] }, { accessFlags := 25, nameIndex := 162, descriptorIndex := 25, attributes := #[] }, { accessFlags := 25, nameIndex := 187, descriptorIndex := 25, attributes := #[] }, { accessFlags := 26, nameIndex := 48, descriptorIndex := 25, attributes := #[] }, { accessFlags := 25, nameIndex := 277, descriptorIndex := 25, attributes := #[] }, { accessFlags := 25, nameIndex := 280, descriptorIndex := 25, attributes := #[] }, { accessFlags := 25, nameIndex := 282, descriptorIndex := 25, attributes := #[] }, { accessFlags := 25, nameIndex := 284, descriptorIndex := 25, attributes := #[] }, { accessFlags := 25, nameIndex := 286, descriptorIndex := 25, attributes := #[] }, { accessFlags := 25, nameIndex := 288, descriptorIndex := 25, attributes := #[] }, { accessFlags := 25, nameIndex := 290, descriptorIndex := 25, attributes := #[] }, { accessFlags := 25, nameIndex := 292, descriptorIndex := 25, attributes := #[] }, { accessFlags := 26, nameIndex := 108, descriptorIndex := 109, attributes := #[] }, { accessFlags := 25, nameIndex := 294, descriptorIndex := 25, attributes := #[] }])
  fields := #[{ name := "U", type := (.object "jdk/internal/misc/Unsafe"), accessFlags := 24, slot := 0, constantValue := 0 }, { name := "BIG_ENDIAN", type := .boolean, accessFlags := 26, slot := 1, constantValue := 0 }, { name := "LOG2_ARRAY_BOOLEAN_INDEX_SCALE", type := .int, accessFlags := 25, slot := 2, constantValue := 0 }, { name := "LOG2_ARRAY_BYTE_INDEX_SCALE", type := .int, accessFlags := 25, slot := 3, constantValue := 0 }, { name := "LOG2_ARRAY_CHAR_INDEX_SCALE", type := .int, accessFlags := 25, slot := 4, constantValue := 0 }, { name := "LOG2_ARRAY_SHORT_INDEX_SCALE", type := .int, accessFlags := 25, slot := 5, constantValue := 0 }, { name := "LOG2_ARRAY_INT_INDEX_SCALE", type := .int, accessFlags := 25, slot := 6, constantValue := 0 }, { name := "LOG2_ARRAY_LONG_INDEX_SCALE", type := .int, accessFlags := 25, slot := 7, constantValue := 0 }, { name := "LOG2_ARRAY_FLOAT_INDEX_SCALE", type := .int, accessFlags := 25, slot := 8, constantValue := 0 }, { name := "LOG2_ARRAY_DOUBLE_INDEX_SCALE", type := .int, accessFlags := 25, slot := 9, constantValue := 0 }, { name := "LOG2_BYTE_BIT_SIZE", type := .int, accessFlags := 26, slot := 10, constantValue := 0 }, { name := "T_BOOLEAN", type := .int, accessFlags := 25, slot := 11, constantValue := 0 }, { name := "T_CHAR", type := .int, accessFlags := 25, slot := 12, constantValue := 0 }, { name := "T_FLOAT", type := .int, accessFlags := 25, slot := 13, constantValue := 0 }, { name := "T_DOUBLE", type := .int, accessFlags := 25, slot := 14, constantValue := 0 }, { name := "T_BYTE", type := .int, accessFlags := 25, slot := 15, constantValue := 0 }, { name := "T_SHORT", type := .int, accessFlags := 25, slot := 16, constantValue := 0 }, { name := "T_INT", type := .int, accessFlags := 25, slot := 17, constantValue := 0 }, { name := "T_LONG", type := .int, accessFlags := 25, slot := 18, constantValue := 0 }, { name := "JLA", type := (.object "jdk/internal/access/JavaLangAccess"), accessFlags := 26, slot := 19, constantValue := 0 }, { name := "SOFT_MAX_ARRAY_LENGTH", type := .int, accessFlags := 25, slot := 20, constantValue := 0 }]
  methods := #[k16m0]
  instanceTypes := #[]
  staticTypes := #[(.object "jdk/internal/misc/Unsafe"), .boolean, .int, .int, .int, .int, .int, .int, .int, .int, .int, .int, .int, .int, .int, .int, .int, .int, .int, (.object "jdk/internal/access/JavaLangAccess"), .int]
  resolved := Array.replicate 378 none
  statics := none }

/-- the primitive byte -/
def k17 : Class := { plain "byte" none with kind := .primitive 'B', accessFlags := 0x411 }
/-- [B -/
def k18 : Class := { plain "[B" (some 0) with kind := .array 17 .byte, interfaces := #[12, 2], accessFlags := 1041 }

/-- the primitive char -/
def k19 : Class := { plain "char" none with kind := .primitive 'C', accessFlags := 0x411 }
/-- [C -/
def k20 : Class := { plain "[C" (some 0) with kind := .array 19 .char, interfaces := #[12, 2], accessFlags := 1041 }

/-- the primitive int -/
def k21 : Class := { plain "int" none with kind := .primitive 'I', accessFlags := 0x411 }
/-- [I -/
def k22 : Class := { plain "[I" (some 0) with kind := .array 21 .int, interfaces := #[12, 2], accessFlags := 1041 }

/-- [Lcom/example/vacuum/vacuum/model/PrunePolicy$Method; -/
def k23 : Class := { plain "[Lcom/example/vacuum/vacuum/model/PrunePolicy$Method;" (some 0) with kind := .array 11 (.object "com/example/vacuum/vacuum/model/PrunePolicy$Method"), interfaces := #[12, 2], accessFlags := 1041 }

def heap : Heap := #[{ cls := 7, slots := #[.long 0, .int 1, .null, .int 0, .null, .int 0, .int 0], vm := .statics 7 },
  { cls := 9, slots := #[.null, .null, .null], vm := .statics 9 },
  { cls := 11, slots := #[.ref 10, .ref 9, .ref 4], vm := .statics 11 },
  { cls := 13, slots := #[.ref 11], vm := .statics 13 },
  { cls := 23, slots := #[.ref 10, .ref 9], vm := .none },
  { cls := 18, slots := #[.int 99, .int 114, .int 101, .int 97, .int 116, .int 105, .int 111, .int 110, .int 95, .int 100, .int 97, .int 116, .int 101], vm := .none },
  { cls := 18, slots := #[.int 110, .int 117, .int 109, .int 98, .int 101, .int 114, .int 95, .int 111, .int 102, .int 95, .int 116, .int 97, .int 103, .int 115], vm := .none },
  { cls := 7, slots := #[.ref 5, .int 0, .int 0, .int 0], vm := .none },
  { cls := 7, slots := #[.ref 6, .int 0, .int 0, .int 0], vm := .none },
  { cls := 11, slots := #[.null, .int 0, .int 0, .ref 7], vm := .none },
  { cls := 11, slots := #[.null, .int 0, .int 0, .ref 8], vm := .none },
  { cls := 13, slots := #[.null], vm := .none }]
def classes : Array Class := #[k0, k1, k2, k3, k4, k5, k6, k7, k8, k9, k10, k11, k12, k13, k14, k15, k16, k17, k18, k19, k20, k21, k22, k23]
def interned : List (Array UInt16 × Addr) := []
def slotsUsed : Nat := 60
def theMethod : MethodId := ⟨1, 1⟩
def args0 : Array Value := #[.int 5, .int 6, .int 7, .int 8, .int 9]
def aboutOver (below : List Frame) : State where
  vm := { classes := classes, interned := interned.toArray }
  heap := heap
  slotsUsed := slotsUsed
  threads := #[{ frames := .invoking theMethod args0 :: below }]
def below0 : List Frame := [.native { method := ⟨0, 0⟩, args := #[] }]
def about1 : State := aboutOver below0
def p0 : Program := .bare "" "" ""
def e0 : Env := launch0.env 0 0 0
theorem w_frames : about1.frames = Frame.invoking theMethod args0 :: below0 := rfl
set_option maxRecDepth 65536 in
theorem w_args : argsFit about1.vm theMethod args0 = true := by decide +kernel
set_option maxRecDepth 65536 in
theorem w_heap : heapFits about1 = true := by decide +kernel
set_option maxRecDepth 65536 in
theorem w_runnable : about1.curStatus? = some .runnable := by decide +kernel
set_option maxRecDepth 65536 in
theorem w_alone : about1.alone = true := by decide +kernel
set_option maxRecDepth 65536 in
theorem w_named : about1.methodNamed? x = some theMethod := by decide +kernel
set_option maxRecDepth 65536 in
theorem w_hears : about1.hears theMethod below0 = true := by decide +kernel
set_option maxRecDepth 65536 in
theorem w_ripe : about1.ripe theMethod args0 below0 = true := by decide +kernel
theorem w_running : about1.status = .running := rfl
set_option maxRecDepth 65536 in
theorem w_room : about1.hasRoom e0.platform room_1 = true :=
  launch0.hasRoom_least _ room_1 (by decide +kernel) (by decide +kernel) (by decide +kernel) (by decide +kernel) (by decide +kernel) (by decide +kernel)
theorem allAtoms_all (ts : List Jvm.Cond) (a : Array Jvm.Value) (st : Jvm.State) : (allAtoms ts).before a st = ts.all (fun c => c.before a st) := by
  induction ts with
  | nil => rfl
  | cons c t ih =>
    show (Jvm.Cond.and c (allAtoms t)).before a st = _
    rw [Jvm.Cond.before_and, ih, List.all_cons]
def words1 : List Jvm.Cond := Jvm.Cond.code x code maxLocals ret :: tables_1
/-- a 'code' word, met by the world's own term for the bytes: nothing is compared byte by byte -/
theorem code_word {y : MethodName} {bytes : ByteArray} {mx : Nat} {rt : Option FieldType} {a : Array Value} {s : State} {m : MethodId} {meth : Method} {c : Code} (h1 : s.methodNamed? y = some m) (h2 : s.vm.method? m = some meth) (h3 : meth.code = some c) (h4 : c.code = bytes)
    (h5 : (c.maxLocals == mx && c.exceptionTable.isEmpty && decide (c.maxStack ≤ mostOperands) && decide (meth.sig.returnType = rt) && !meth.locks && decide (parseMethodDescriptor y.desc = some meth.sig)) = true) : (Jvm.Cond.code y bytes mx rt).before a s = true := by
  simp only [Bool.and_eq_true, beq_iff_eq, Bool.not_eq_true', decide_eq_true_eq] at h5
  obtain ⟨⟨⟨⟨⟨g1, g2⟩, g3⟩, g4⟩, g5⟩, g6⟩ := h5
  simp [Cond.before, Cond.holds, Cond.value, h1, h2, h3, h4, g1, g2, g3, g4, g5, g6]
def isCode : Jvm.Cond → Bool
  | .code _ _ _ _ => true
  | _ => false
theorem all_split {L : List Jvm.Cond} {P : Jvm.Cond → Bool} (h1 : L.all (fun c => isCode c || P c) = true) (h2 : ∀ c ∈ L.filter isCode, P c = true) : L.all P = true := by
  refine List.all_eq_true.mpr fun c hc => ?_
  have h := List.all_eq_true.mp h1 c hc
  rcases Bool.eq_false_or_eq_true (isCode c) with hi | hi
  · exact h2 c (List.mem_filter.mpr ⟨hc, hi⟩)
  · simpa [hi] using h
set_option maxRecDepth 65536 in
theorem w_c0 : (Jvm.Cond.code x code maxLocals ret).before args0 about1 = true := code_word (m := ⟨1, 1⟩) (meth := k1m1) (c := k1c1) (by decide +kernel) rfl rfl rfl (by decide +kernel)
set_option maxRecDepth 65536 in
theorem w_c1 : (Jvm.Cond.code ({ cls := "com/example/vacuum/vacuum/model/MethodOfWireNamePinLaw", name := "fillChars", desc := "([CLjava/lang/String;ICC)V" } : Jvm.MethodName) method_4_code (5 : Nat) (Option.none : Option Jvm.ClassFile.FieldType)).before args0 about1 = true := code_word (m := ⟨1, 3⟩) (meth := k1m3) (c := k1c3) (by decide +kernel) rfl rfl rfl (by decide +kernel)
set_option maxRecDepth 65536 in
theorem w_c2 : (Jvm.Cond.code ({ cls := "com/example/vacuum/vacuum/model/MethodOfWireNamePinLaw", name := "at", desc := "(Ljava/lang/String;IICC)C" } : Jvm.MethodName) method_3_code (5 : Nat) (Option.some Jvm.ClassFile.FieldType.char)).before args0 about1 = true := code_word (m := ⟨1, 2⟩) (meth := k1m2) (c := k1c2) (by decide +kernel) rfl rfl rfl (by decide +kernel)
set_option maxRecDepth 65536 in
theorem w_c3 : (Jvm.Cond.code ({ cls := "java/lang/String", name := "length", desc := "()I" } : Jvm.MethodName) jdk_42_method_54_code (1 : Nat) (Option.some Jvm.ClassFile.FieldType.int)).before args0 about1 = true := code_word (m := ⟨7, 2⟩) (meth := k7m2) (c := k7c2) (by decide +kernel) rfl rfl rfl (by decide +kernel)
set_option maxRecDepth 65536 in
theorem w_c4 : (Jvm.Cond.code ({ cls := "java/lang/String", name := "coder", desc := "()B" } : Jvm.MethodName) jdk_42_method_152_code (1 : Nat) (Option.some Jvm.ClassFile.FieldType.byte)).before args0 about1 = true := code_word (m := ⟨7, 6⟩) (meth := k7m6) (c := k7c6) (by decide +kernel) rfl rfl rfl (by decide +kernel)
set_option maxRecDepth 65536 in
theorem w_c5 : (Jvm.Cond.code ({ cls := "java/lang/String", name := "charAt", desc := "(I)C" } : Jvm.MethodName) jdk_42_method_56_code (2 : Nat) (Option.some Jvm.ClassFile.FieldType.char)).before args0 about1 = true := code_word (m := ⟨7, 3⟩) (meth := k7m3) (c := k7c3) (by decide +kernel) rfl rfl rfl (by decide +kernel)
set_option maxRecDepth 65536 in
theorem w_c6 : (Jvm.Cond.code ({ cls := "java/lang/String", name := "isLatin1", desc := "()Z" } : Jvm.MethodName) jdk_42_method_154_code (1 : Nat) (Option.some Jvm.ClassFile.FieldType.boolean)).before args0 about1 = true := code_word (m := ⟨7, 7⟩) (meth := k7m7) (c := k7c7) (by decide +kernel) rfl rfl rfl (by decide +kernel)
set_option maxRecDepth 65536 in
theorem w_c7 : (Jvm.Cond.code ({ cls := "java/lang/StringLatin1", name := "charAt", desc := "([BI)C" } : Jvm.MethodName) jdk_43_method_2_code (2 : Nat) (Option.some Jvm.ClassFile.FieldType.char)).before args0 about1 = true := code_word (m := ⟨8, 1⟩) (meth := k8m1) (c := k8c1) (by decide +kernel) rfl rfl rfl (by decide +kernel)
set_option maxRecDepth 65536 in
theorem w_c8 : (Jvm.Cond.code ({ cls := "java/lang/String", name := "checkIndex", desc := "(II)V" } : Jvm.MethodName) jdk_42_method_155_code (2 : Nat) (Option.none : Option Jvm.ClassFile.FieldType)).before args0 about1 = true := code_word (m := ⟨7, 8⟩) (meth := k7m8) (c := k7c8) (by decide +kernel) rfl rfl rfl (by decide +kernel)
set_option maxRecDepth 65536 in
theorem w_c9 : (Jvm.Cond.code ({ cls := "jdk/internal/util/Preconditions", name := "checkIndex", desc := "(IILjava/util/function/BiFunction;)I" } : Jvm.MethodName) jdk_41_method_11_code (3 : Nat) (Option.some Jvm.ClassFile.FieldType.int)).before args0 about1 = true := code_word (m := ⟨9, 1⟩) (meth := k9m1) (c := k9c1) (by decide +kernel) rfl rfl rfl (by decide +kernel)
set_option maxRecDepth 65536 in
theorem w_c10 : (Jvm.Cond.code ({ cls := "com/example/vacuum/vacuum/model/PrunePolicy$Method", name := "ofWireName", desc := "(Ljava/lang/String;)Ljava/util/Optional;" } : Jvm.MethodName) prog_18_method_5_code (5 : Nat) (Option.some (Jvm.ClassFile.FieldType.object "java/util/Optional"))).before args0 about1 = true := code_word (m := ⟨11, 1⟩) (meth := k11m1) (c := k11c1) (by decide +kernel) rfl rfl rfl (by decide +kernel)
set_option maxRecDepth 65536 in
theorem w_c11 : (Jvm.Cond.code ({ cls := "com/example/vacuum/vacuum/model/PrunePolicy$Method", name := "values", desc := "()[Lcom/example/vacuum/vacuum/model/PrunePolicy$Method;" } : Jvm.MethodName) prog_18_method_1_code (0 : Nat) (Option.some (Jvm.ClassFile.FieldType.array (Jvm.ClassFile.FieldType.object "com/example/vacuum/vacuum/model/PrunePolicy$Method")))).before args0 about1 = true := code_word (m := ⟨11, 0⟩) (meth := k11m0) (c := k11c0) (by decide +kernel) rfl rfl rfl (by decide +kernel)
set_option maxRecDepth 65536 in
theorem w_c12 : (Jvm.Cond.code ({ cls := "java/lang/String", name := "equals", desc := "(Ljava/lang/Object;)Z" } : Jvm.MethodName) jdk_42_method_66_code (3 : Nat) (Option.some Jvm.ClassFile.FieldType.boolean)).before args0 about1 = true := code_word (m := ⟨7, 4⟩) (meth := k7m4) (c := k7c4) (by decide +kernel) rfl rfl rfl (by decide +kernel)
set_option maxRecDepth 65536 in
theorem w_c13 : (Jvm.Cond.code ({ cls := "java/util/Optional", name := "empty", desc := "()Ljava/util/Optional;" } : Jvm.MethodName) jdk_32_method_1_code (1 : Nat) (Option.some (Jvm.ClassFile.FieldType.object "java/util/Optional"))).before args0 about1 = true := code_word (m := ⟨13, 0⟩) (meth := k13m0) (c := k13c0) (by decide +kernel) rfl rfl rfl (by decide +kernel)
set_option maxRecDepth 65536 in
theorem w_c14 : (Jvm.Cond.code ({ cls := "java/util/Optional", name := "isEmpty", desc := "()Z" } : Jvm.MethodName) jdk_32_method_7_code (1 : Nat) (Option.some Jvm.ClassFile.FieldType.boolean)).before args0 about1 = true := code_word (m := ⟨13, 3⟩) (meth := k13m3) (c := k13c3) (by decide +kernel) rfl rfl rfl (by decide +kernel)
set_option maxRecDepth 65536 in
theorem w_c15 : (Jvm.Cond.code ({ cls := "java/lang/String", name := "<init>", desc := "([C)V" } : Jvm.MethodName) jdk_42_method_3_code (2 : Nat) (Option.none : Option Jvm.ClassFile.FieldType)).before args0 about1 = true := code_word (m := ⟨7, 1⟩) (meth := k7m1) (c := k7c1) (by decide +kernel) rfl rfl rfl (by decide +kernel)
set_option maxRecDepth 65536 in
theorem w_c16 : (Jvm.Cond.code ({ cls := "java/lang/String", name := "<init>", desc := "([CIILjava/lang/Void;)V" } : Jvm.MethodName) jdk_42_method_149_code (6 : Nat) (Option.none : Option Jvm.ClassFile.FieldType)).before args0 about1 = true := code_word (m := ⟨7, 5⟩) (meth := k7m5) (c := k7c5) (by decide +kernel) rfl rfl rfl (by decide +kernel)
set_option maxRecDepth 65536 in
theorem w_c17 : (Jvm.Cond.code ({ cls := "java/lang/Object", name := "<init>", desc := "()V" } : Jvm.MethodName) object_method_1_code (1 : Nat) (Option.none : Option Jvm.ClassFile.FieldType)).before args0 about1 = true := code_word (m := ⟨0, 0⟩) (meth := k0m0) (c := k0c0) (by decide +kernel) rfl rfl rfl (by decide +kernel)
set_option maxRecDepth 65536 in
theorem w_c18 : (Jvm.Cond.code ({ cls := "java/lang/StringUTF16", name := "compress", desc := "([CII)[B" } : Jvm.MethodName) jdk_52_method_16_code (6 : Nat) (Option.some (Jvm.ClassFile.FieldType.array Jvm.ClassFile.FieldType.byte))).before args0 about1 = true := code_word (m := ⟨14, 2⟩) (meth := k14m2) (c := k14c2) (by decide +kernel) rfl rfl rfl (by decide +kernel)
set_option maxRecDepth 65536 in
theorem w_c19 : (Jvm.Cond.code ({ cls := "java/lang/StringUTF16", name := "compress", desc := "([CI[BII)I" } : Jvm.MethodName) jdk_52_method_21_code (7 : Nat) (Option.some Jvm.ClassFile.FieldType.int)).before args0 about1 = true := code_word (m := ⟨14, 3⟩) (meth := k14m3) (c := k14c3) (by decide +kernel) rfl rfl rfl (by decide +kernel)
set_option maxRecDepth 65536 in
theorem w_c20 : (Jvm.Cond.code ({ cls := "java/lang/StringUTF16", name := "coderFromArrayLen", desc := "([BI)B" } : Jvm.MethodName) jdk_52_method_15_code (2 : Nat) (Option.some Jvm.ClassFile.FieldType.byte)).before args0 about1 = true := code_word (m := ⟨14, 1⟩) (meth := k14m1) (c := k14c1) (by decide +kernel) rfl rfl rfl (by decide +kernel)
set_option maxRecDepth 65536 in
theorem w_c21 : (Jvm.Cond.code ({ cls := "java/lang/StringLatin1", name := "equals", desc := "([B[B)Z" } : Jvm.MethodName) jdk_43_method_13_code (3 : Nat) (Option.some Jvm.ClassFile.FieldType.boolean)).before args0 about1 = true := code_word (m := ⟨8, 2⟩) (meth := k8m2) (c := k8c2) (by decide +kernel) rfl rfl rfl (by decide +kernel)
set_option maxRecDepth 65536 in
theorem w_c22 : (Jvm.Cond.code ({ cls := "java/util/Optional", name := "of", desc := "(Ljava/lang/Object;)Ljava/util/Optional;" } : Jvm.MethodName) jdk_32_method_3_code (1 : Nat) (Option.some (Jvm.ClassFile.FieldType.object "java/util/Optional"))).before args0 about1 = true := code_word (m := ⟨13, 2⟩) (meth := k13m2) (c := k13c2) (by decide +kernel) rfl rfl rfl (by decide +kernel)
set_option maxRecDepth 65536 in
theorem w_c23 : (Jvm.Cond.code ({ cls := "java/util/Objects", name := "requireNonNull", desc := "(Ljava/lang/Object;)Ljava/lang/Object;" } : Jvm.MethodName) jdk_31_method_10_code (1 : Nat) (Option.some (Jvm.ClassFile.FieldType.object "java/lang/Object"))).before args0 about1 = true := code_word (m := ⟨15, 1⟩) (meth := k15m1) (c := k15c1) (by decide +kernel) rfl rfl rfl (by decide +kernel)
set_option maxRecDepth 65536 in
theorem w_c24 : (Jvm.Cond.code ({ cls := "java/util/Optional", name := "<init>", desc := "(Ljava/lang/Object;)V" } : Jvm.MethodName) jdk_32_method_2_code (2 : Nat) (Option.none : Option Jvm.ClassFile.FieldType)).before args0 about1 = true := code_word (m := ⟨13, 1⟩) (meth := k13m1) (c := k13c1) (by decide +kernel) rfl rfl rfl (by decide +kernel)
set_option maxRecDepth 65536 in
theorem w_c25 : (Jvm.Cond.code ({ cls := "java/util/Optional", name := "orElse", desc := "(Ljava/lang/Object;)Ljava/lang/Object;" } : Jvm.MethodName) jdk_32_method_15_code (2 : Nat) (Option.some (Jvm.ClassFile.FieldType.object "java/lang/Object"))).before args0 about1 = true := code_word (m := ⟨13, 4⟩) (meth := k13m4) (c := k13c4) (by decide +kernel) rfl rfl rfl (by decide +kernel)
def codes1 : List Jvm.Cond := [Jvm.Cond.code x code maxLocals ret, Jvm.Cond.code ({ cls := "com/example/vacuum/vacuum/model/MethodOfWireNamePinLaw", name := "fillChars", desc := "([CLjava/lang/String;ICC)V" } : Jvm.MethodName) method_4_code (5 : Nat) (Option.none : Option Jvm.ClassFile.FieldType), Jvm.Cond.code ({ cls := "com/example/vacuum/vacuum/model/MethodOfWireNamePinLaw", name := "at", desc := "(Ljava/lang/String;IICC)C" } : Jvm.MethodName) method_3_code (5 : Nat) (Option.some Jvm.ClassFile.FieldType.char), Jvm.Cond.code ({ cls := "java/lang/String", name := "length", desc := "()I" } : Jvm.MethodName) jdk_42_method_54_code (1 : Nat) (Option.some Jvm.ClassFile.FieldType.int), Jvm.Cond.code ({ cls := "java/lang/String", name := "coder", desc := "()B" } : Jvm.MethodName) jdk_42_method_152_code (1 : Nat) (Option.some Jvm.ClassFile.FieldType.byte), Jvm.Cond.code ({ cls := "java/lang/String", name := "charAt", desc := "(I)C" } : Jvm.MethodName) jdk_42_method_56_code (2 : Nat) (Option.some Jvm.ClassFile.FieldType.char), Jvm.Cond.code ({ cls := "java/lang/String", name := "isLatin1", desc := "()Z" } : Jvm.MethodName) jdk_42_method_154_code (1 : Nat) (Option.some Jvm.ClassFile.FieldType.boolean), Jvm.Cond.code ({ cls := "java/lang/StringLatin1", name := "charAt", desc := "([BI)C" } : Jvm.MethodName) jdk_43_method_2_code (2 : Nat) (Option.some Jvm.ClassFile.FieldType.char), Jvm.Cond.code ({ cls := "java/lang/String", name := "checkIndex", desc := "(II)V" } : Jvm.MethodName) jdk_42_method_155_code (2 : Nat) (Option.none : Option Jvm.ClassFile.FieldType), Jvm.Cond.code ({ cls := "jdk/internal/util/Preconditions", name := "checkIndex", desc := "(IILjava/util/function/BiFunction;)I" } : Jvm.MethodName) jdk_41_method_11_code (3 : Nat) (Option.some Jvm.ClassFile.FieldType.int), Jvm.Cond.code ({ cls := "com/example/vacuum/vacuum/model/PrunePolicy$Method", name := "ofWireName", desc := "(Ljava/lang/String;)Ljava/util/Optional;" } : Jvm.MethodName) prog_18_method_5_code (5 : Nat) (Option.some (Jvm.ClassFile.FieldType.object "java/util/Optional")), Jvm.Cond.code ({ cls := "com/example/vacuum/vacuum/model/PrunePolicy$Method", name := "values", desc := "()[Lcom/example/vacuum/vacuum/model/PrunePolicy$Method;" } : Jvm.MethodName) prog_18_method_1_code (0 : Nat) (Option.some (Jvm.ClassFile.FieldType.array (Jvm.ClassFile.FieldType.object "com/example/vacuum/vacuum/model/PrunePolicy$Method"))), Jvm.Cond.code ({ cls := "java/lang/String", name := "equals", desc := "(Ljava/lang/Object;)Z" } : Jvm.MethodName) jdk_42_method_66_code (3 : Nat) (Option.some Jvm.ClassFile.FieldType.boolean), Jvm.Cond.code ({ cls := "java/util/Optional", name := "empty", desc := "()Ljava/util/Optional;" } : Jvm.MethodName) jdk_32_method_1_code (1 : Nat) (Option.some (Jvm.ClassFile.FieldType.object "java/util/Optional")), Jvm.Cond.code ({ cls := "java/util/Optional", name := "isEmpty", desc := "()Z" } : Jvm.MethodName) jdk_32_method_7_code (1 : Nat) (Option.some Jvm.ClassFile.FieldType.boolean), Jvm.Cond.code ({ cls := "java/lang/String", name := "<init>", desc := "([C)V" } : Jvm.MethodName) jdk_42_method_3_code (2 : Nat) (Option.none : Option Jvm.ClassFile.FieldType), Jvm.Cond.code ({ cls := "java/lang/String", name := "<init>", desc := "([CIILjava/lang/Void;)V" } : Jvm.MethodName) jdk_42_method_149_code (6 : Nat) (Option.none : Option Jvm.ClassFile.FieldType), Jvm.Cond.code ({ cls := "java/lang/Object", name := "<init>", desc := "()V" } : Jvm.MethodName) object_method_1_code (1 : Nat) (Option.none : Option Jvm.ClassFile.FieldType), Jvm.Cond.code ({ cls := "java/lang/StringUTF16", name := "compress", desc := "([CII)[B" } : Jvm.MethodName) jdk_52_method_16_code (6 : Nat) (Option.some (Jvm.ClassFile.FieldType.array Jvm.ClassFile.FieldType.byte)), Jvm.Cond.code ({ cls := "java/lang/StringUTF16", name := "compress", desc := "([CI[BII)I" } : Jvm.MethodName) jdk_52_method_21_code (7 : Nat) (Option.some Jvm.ClassFile.FieldType.int), Jvm.Cond.code ({ cls := "java/lang/StringUTF16", name := "coderFromArrayLen", desc := "([BI)B" } : Jvm.MethodName) jdk_52_method_15_code (2 : Nat) (Option.some Jvm.ClassFile.FieldType.byte), Jvm.Cond.code ({ cls := "java/lang/StringLatin1", name := "equals", desc := "([B[B)Z" } : Jvm.MethodName) jdk_43_method_13_code (3 : Nat) (Option.some Jvm.ClassFile.FieldType.boolean), Jvm.Cond.code ({ cls := "java/util/Optional", name := "of", desc := "(Ljava/lang/Object;)Ljava/util/Optional;" } : Jvm.MethodName) jdk_32_method_3_code (1 : Nat) (Option.some (Jvm.ClassFile.FieldType.object "java/util/Optional")), Jvm.Cond.code ({ cls := "java/util/Objects", name := "requireNonNull", desc := "(Ljava/lang/Object;)Ljava/lang/Object;" } : Jvm.MethodName) jdk_31_method_10_code (1 : Nat) (Option.some (Jvm.ClassFile.FieldType.object "java/lang/Object")), Jvm.Cond.code ({ cls := "java/util/Optional", name := "<init>", desc := "(Ljava/lang/Object;)V" } : Jvm.MethodName) jdk_32_method_2_code (2 : Nat) (Option.none : Option Jvm.ClassFile.FieldType), Jvm.Cond.code ({ cls := "java/util/Optional", name := "orElse", desc := "(Ljava/lang/Object;)Ljava/lang/Object;" } : Jvm.MethodName) jdk_32_method_15_code (2 : Nat) (Option.some (Jvm.ClassFile.FieldType.object "java/lang/Object"))]
set_option maxRecDepth 65536 in
theorem codes_eq : words1.filter isCode = codes1 := rfl
theorem w_codes : ∀ c ∈ words1.filter isCode, c.before args0 about1 = true := by
  rw [codes_eq]
  intro c hc
  simp only [codes1, List.mem_cons, List.not_mem_nil, or_false] at hc
  rcases hc with rfl | rfl | rfl | rfl | rfl | rfl | rfl | rfl | rfl | rfl | rfl | rfl | rfl | rfl | rfl | rfl | rfl | rfl | rfl | rfl | rfl | rfl | rfl | rfl | rfl | rfl
  · exact w_c0
  · exact w_c1
  · exact w_c2
  · exact w_c3
  · exact w_c4
  · exact w_c5
  · exact w_c6
  · exact w_c7
  · exact w_c8
  · exact w_c9
  · exact w_c10
  · exact w_c11
  · exact w_c12
  · exact w_c13
  · exact w_c14
  · exact w_c15
  · exact w_c16
  · exact w_c17
  · exact w_c18
  · exact w_c19
  · exact w_c20
  · exact w_c21
  · exact w_c22
  · exact w_c23
  · exact w_c24
  · exact w_c25
set_option maxRecDepth 65536 in
theorem w_t1 : (words1.take 24).all (fun c => isCode c || c.before args0 about1) = true := by decide +kernel
set_option maxRecDepth 65536 in
theorem w_t2 : ((words1.drop 24).take 24).all (fun c => isCode c || c.before args0 about1) = true := by decide +kernel
set_option maxRecDepth 65536 in
theorem w_t3 : (((words1.drop 24).drop 24).take 24).all (fun c => isCode c || c.before args0 about1) = true := by decide +kernel
set_option maxRecDepth 65536 in
theorem w_t4 : ((((words1.drop 24).drop 24).drop 24).take 24).all (fun c => isCode c || c.before args0 about1) = true := by decide +kernel
set_option maxRecDepth 65536 in
theorem w_t5 : (((((words1.drop 24).drop 24).drop 24).drop 24).take 24).all (fun c => isCode c || c.before args0 about1) = true := by decide +kernel
set_option maxRecDepth 65536 in
theorem w_t6 : (((((words1.drop 24).drop 24).drop 24).drop 24).drop 24).all (fun c => isCode c || c.before args0 about1) = true := by decide +kernel
theorem w_tables : (allAtoms (Jvm.Cond.code x code maxLocals ret :: tables_1)).before args0 about1 = true := by
  rw [allAtoms_all]
  show words1.all (fun c => c.before args0 about1) = true
  refine all_split ?_ w_codes
  rw [← List.take_append_drop 24 words1, List.all_append, w_t1, ← List.take_append_drop 24 (words1.drop 24), List.all_append, w_t2, ← List.take_append_drop 24 ((words1.drop 24).drop 24), List.all_append, w_t3, ← List.take_append_drop 24 (((words1.drop 24).drop 24).drop 24), List.all_append, w_t4, ← List.take_append_drop 24 ((((words1.drop 24).drop 24).drop 24).drop 24), List.all_append, w_t5, w_t6]
  rfl
set_option maxRecDepth 65536 in
theorem w_rest : rest_1_c.before args0 about1 = true := by decide +kernel
set_option maxRecDepth 65536 in
theorem w_case : (Jvm.Cond.and given_1 narrow_1).before args0 about1 = true := by decide +kernel
set_option maxRecDepth 65536 in
theorem w_consts : constsHeld consts_1 about1 := Jvm.Lit.constsHeldB_iff.mp (by decide +kernel)
theorem w_applies : (headSpec (Jvm.Cond.code x code maxLocals ret :: tables_1) room_1).applies x e0.platform about1 = true :=
  (Spec.applies_iff w_frames).mpr ⟨w_running, w_runnable, w_alone, w_named, w_hears, w_ripe, w_room, w_tables⟩
theorem atStart : AtStart classFile x code maxLocals ret World_1 tables_1 room_1 Calls_1 rest_1 Pre_1 launch0 p0 e0 about1 theMethod args0 below0 :=
  ⟨lists_1, trivial, launch0.admits_env _ _ _, launch0.least_env, fairChoices_fair.cas, fairChoices_fair.clock, w_frames, w_args, w_heap, w_applies, ⟨w_consts, trivial⟩, w_rest, w_case⟩
end start1
theorem witness_1 : WitnessClaimed_1 := ⟨start1.p0, start1.e0, start1.about1, start1.theMethod, start1.args0, start1.below0, start1.atStart⟩
end Jvm.Pilot.@@N@@
