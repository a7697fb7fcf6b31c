import JvmDerived
import JvmDerived.Pilot.@@N@@Statement
import JvmDerived.Pilot.@@N@@Code
set_option linter.unusedVariables false
set_option linter.unusedSimpArgs false
namespace Jvm.Pilot.@@N@@
open Jvm Jvm.ClassFile Sem Op Lib Jvm.Free Jvm.Stand Jvm.LawKit Jvm.RoadKit Bundle Jvm.Pilot.@@N@@.Jvm.D
/-! 0. own tools: the goal that a walk carries; an array's store and load by what is known of it -/
def Go (tb : Tables) (e : Env) (below : List Frame) (P : State → Prop) (s : State) : Prop := ∃ s₂, Steps tb e below s s₂ ∧ P s₂
section OwnTools
variable {tb : Tables} {e : Env} {below : List Frame} {P : State → Prop} {A B : State}
theorem Go.st (h : ∀ t, Steps tb e below A t → Steps tb e below B t) (g : Go tb e below P A) : Go tb e below P B := by
  obtain ⟨s₂, h1, h2⟩ := g
  exact ⟨s₂, h _ h1, h2⟩
theorem Go.tr (h : Steps tb e below B A) (g : Go tb e below P A) : Go tb e below P B := by
  obtain ⟨s₂, h1, h2⟩ := g
  exact ⟨s₂, h.trans h1, h2⟩
theorem Go.start {Q : Outcome → State → Prop} (h : ∀ P : State → Prop, (∀ s₂ o, s₂.status = .running → Ended s₂ below o → Q o s₂ → P s₂) → Go tb e below P A) : ∃ s₂ o, Steps tb e below A s₂ ∧ s₂.status = .running ∧ Ended s₂ below o ∧ Q o s₂ := by
  obtain ⟨s₂, h1, o, h2, h3, h4⟩ := h (fun s₂ => ∃ o, s₂.status = .running ∧ Ended s₂ below o ∧ Q o s₂) (fun s₂ o a b c => ⟨o, a, b, c⟩)
  exact ⟨s₂, o, h1, h2, h3, h4⟩
theorem own_oldsz {Z : State} {n0 : Nat} {h : Heap} (X : Old Z n0 h) : n0 ≤ h.size := by have := X.1; have := X.2.1; omega
theorem own_cat {v : Value} (h : v.isRef = true) : v.category = 1 := by cases v <;> first | rfl | simp [Value.isRef] at h
theorem own_nar_ref {v : Value} {t : FieldType} (h : v.isRef = true) : narrow t v = v := by cases v <;> first | (simp [Value.isRef] at h; done) | (cases t <;> rfl)
theorem own_fits_ref {v : Value} {t : FieldType} (h : v.isRef = true) (ht : t.isReference = true := by rfl) : fits t v = true := by cases v <;> first | (simp [Value.isRef] at h; done) | (cases t <;> first | rfl | (simp [FieldType.isReference] at ht))
theorem own_eq_ref {args : Array Value} {first s : State} {o : Option Outcome} {idx : List Nat} {a b : Term} {w : Addr} (hb : b.eval args first o idx s = some (.ref w)) (h : (Cond.eq a b).value args first o s idx = some true) : a.eval args first o idx s = some (.ref w) := by
  cases ha : a.eval args first o idx s with
  | none => simp [Cond.value, ha] at h
  | some x => cases x <;> simp [Cond.value, ha, hb] at h ⊢; exact h
theorem own_len_start {args : Array Value} {s : State} {t : Term} {n : Int32} {a : Addr} {cl : Cell} (h : (Term.length t).eval args s none [] s = some (.int n)) (ht : t.eval args s none [] s = some (.ref a)) (hc : s.heap[a]? = some cl) : cl.slots.size < 2 ^ 31 ∧ cl.slots.size.toInt32 = n := by
  simp only [Term.eval, ht, Option.bind_eq_bind, Option.bind_some] at h
  cases hq : s.arrayAt? a with
  | none => simp [hq] at h
  | some c2 =>
    have e := (State.arrayAt?_spec hq).1
    cases hc.symm.trans e
    simp only [hq, Option.bind_some] at h
    split at h
    · rename_i hlt; exact ⟨hlt, by simpa using h⟩
    · cases h
theorem own_since (s : State) : s.Since s.vm 0 := (State.WarmedH.refl s).since 0
theorem own_and255 (x : Int32) : ¬ (x &&& 255) < 0 ∧ ¬ (255 : Int32) < (x &&& 255) := by
  have h := c_and x 255 (by decide)
  have e0 : (0 : Int32).toInt = 0 := rfl
  have e1 : (255 : Int32).toInt = 255 := rfl
  rw [Int32.lt_iff_toInt_lt, Int32.lt_iff_toInt_lt]
  omega
theorem own_nar_i2c (x : Int32) : nar .char (x.toUInt32.toUInt16.toUInt32.toInt32) = x.toUInt32.toUInt16.toUInt32.toInt32 := by
  show (x.toUInt32.toUInt16.toUInt32.toInt32).toUInt32.toUInt16.toUInt32.toInt32 = _
  rw [UInt32.toUInt32_toInt32, UInt16.toUInt16_toUInt32]
theorem own_nar_i2b (x : Int32) : nar .byte (x.toInt8.toInt32) = x.toInt8.toInt32 := by
  show (x.toInt8.toInt32).toInt8.toInt32 = _
  simp
theorem own_narZ {x : Int32} (h : x = 0 ∨ x = 1) : nar .boolean x = x := by rcases h with rfl | rfl <;> rfl
theorem own_up (cs : List Int32) (h : ∀ c ∈ cs, ¬ c < 0 ∧ ¬ (255 : Int32) < c) : ∀ c ∈ cs, ¬ c < 0 ∧ ¬ (65535 : Int32) < c := fun c hc => ⟨(h c hc).1, fun q => (h c hc).2 (by rw [Int32.lt_iff_toInt_lt] at q ⊢; have e1 : (65535 : Int32).toInt = 65535 := rfl; have e2 : (255 : Int32).toInt = 255 := rfl; omega)⟩
theorem own_narC {x : Int32} (h : ¬ x < 0 ∧ ¬ (255 : Int32) < x) : nar .char x = x := by
  have e0 : (0 : Int32).toInt = 0 := rfl
  have e1 : (255 : Int32).toInt = 255 := rfl
  have a := h.1
  have b := h.2
  rw [Int32.lt_iff_toInt_lt, e0] at a
  rw [Int32.lt_iff_toInt_lt, e1] at b
  have c := c_i2c x
  exact Int32.toInt_inj.mp (show x.toUInt32.toUInt16.toUInt32.toInt32.toInt = x.toInt by omega)
theorem own_int {r : Int32} {k : Int} (h : r.toInt = k) {q : Int32} (hq : q.toInt = k) : r = q := Int32.toInt_inj.mp (by rw [h, hq])
end OwnTools
section OwnArrays
variable {p : Program} {l : Launch} {e : Env} {R : Room} {s : State} {m : MethodId} {args : Array Value} {below : List Frame} {meth : Method} {c : Code} {T : State} {locs : List Loc} {cells slots : Nat} {Z : State} {h : Heap} {a : Addr} {k : ClassId} {z : Int32} {vs : List Value} {dv : Value}
theorem own_stC (X : Stand p l e R s m args below meth c T locs cells slots) (hx : p.tables.exec = Jvm.exec) (hZ : Z.Warmed39 s.vm) (eT : T.heap = h) (V : Arv Z h a k .char z vs dv) {j x : Int32} {i : Nat} (hj : ¬ j < 0 ∧ j < z) (hji : j.toNatClampNeg = i) (hi : i < vs.length) {g : JFrame} (hg : g.method = m) {rest : List Value} (hs : g.stack = .int x :: .int j :: .ref a :: rest) (hd : decode c.code g.pc = .ok (.castore, 1)) :
    ∃ T' h', Stand p l e R s m args below meth c T' (locs ++ [⟨a, j.toNatClampNeg⟩]) cells slots ∧ T'.heap = h' ∧ Wr h h' a j.toNatClampNeg (.int (nar .char x)) ∧ Arv Z h' a k .char z (vs.set i (.int (nar .char x))) dv ∧ ∀ target, Steps p.tables e below (T'.setTop { g with pc := g.pc + 1, stack := rest }) target → Steps p.tables e below (T.setTop g) target := by
  obtain ⟨cl, A, q1, S, q3, H, G⟩ := V
  obtain ⟨T', h', X', e', W, st⟩ := stC X hx hZ eT A (inb_of S hj) hg hs hd
  exact ⟨T', h', X', e', W, Arv.set A q1 S q3 H G (fits_nar_char x) W i hji hi, st⟩
theorem own_stI (X : Stand p l e R s m args below meth c T locs cells slots) (hx : p.tables.exec = Jvm.exec) (hZ : Z.Warmed39 s.vm) (eT : T.heap = h) (V : Arv Z h a k .int z vs dv) {j x : Int32} {i : Nat} (hj : ¬ j < 0 ∧ j < z) (hji : j.toNatClampNeg = i) (hi : i < vs.length) {g : JFrame} (hg : g.method = m) {rest : List Value} (hs : g.stack = .int x :: .int j :: .ref a :: rest) (hd : decode c.code g.pc = .ok (.iastore, 1)) :
    ∃ T' h', Stand p l e R s m args below meth c T' (locs ++ [⟨a, j.toNatClampNeg⟩]) cells slots ∧ T'.heap = h' ∧ Wr h h' a j.toNatClampNeg (.int x) ∧ Arv Z h' a k .int z (vs.set i (.int x)) dv ∧ ∀ target, Steps p.tables e below (T'.setTop { g with pc := g.pc + 1, stack := rest }) target → Steps p.tables e below (T.setTop g) target := by
  obtain ⟨cl, A, q1, S, q3, H, G⟩ := V
  obtain ⟨T', h', X', e', W, st⟩ := stI X hx hZ eT A (inb_of S hj) hg hs hd
  exact ⟨T', h', X', e', W, Arv.set A q1 S q3 H G rfl W i hji hi, st⟩
theorem own_stZ (X : Stand p l e R s m args below meth c T locs cells slots) (hx : p.tables.exec = Jvm.exec) (hZ : Z.Warmed39 s.vm) (eT : T.heap = h) (V : Arv Z h a k .boolean z vs dv) {j x : Int32} {i : Nat} (hj : ¬ j < 0 ∧ j < z) (hji : j.toNatClampNeg = i) (hi : i < vs.length) {g : JFrame} (hg : g.method = m) {rest : List Value} (hs : g.stack = .int x :: .int j :: .ref a :: rest) (hd : decode c.code g.pc = .ok (.bastore, 1)) :
    ∃ T' h', Stand p l e R s m args below meth c T' (locs ++ [⟨a, j.toNatClampNeg⟩]) cells slots ∧ T'.heap = h' ∧ Wr h h' a j.toNatClampNeg (.int (nar .boolean x)) ∧ Arv Z h' a k .boolean z (vs.set i (.int (nar .boolean x))) dv ∧ ∀ target, Steps p.tables e below (T'.setTop { g with pc := g.pc + 1, stack := rest }) target → Steps p.tables e below (T.setTop g) target := by
  obtain ⟨cl, A, q1, S, q3, H, G⟩ := V
  obtain ⟨T', h', X', e', W, st⟩ := stZ X hx hZ eT A (inb_of S hj) hg hs hd
  exact ⟨T', h', X', e', W, Arv.set A q1 S q3 H G (fits_nar_bool x) W i hji hi, st⟩
theorem own_stB (X : Stand p l e R s m args below meth c T locs cells slots) (hx : p.tables.exec = Jvm.exec) (hZ : Z.Warmed39 s.vm) (eT : T.heap = h) (V : Arv Z h a k .byte z vs dv) {j x : Int32} {i : Nat} (hj : ¬ j < 0 ∧ j < z) (hji : j.toNatClampNeg = i) (hi : i < vs.length) {g : JFrame} (hg : g.method = m) {rest : List Value} (hs : g.stack = .int x :: .int j :: .ref a :: rest) (hd : decode c.code g.pc = .ok (.bastore, 1)) :
    ∃ T' h', Stand p l e R s m args below meth c T' (locs ++ [⟨a, j.toNatClampNeg⟩]) cells slots ∧ T'.heap = h' ∧ Wr h h' a j.toNatClampNeg (.int (nar .byte x)) ∧ Arv Z h' a k .byte z (vs.set i (.int (nar .byte x))) dv ∧ ∀ target, Steps p.tables e below (T'.setTop { g with pc := g.pc + 1, stack := rest }) target → Steps p.tables e below (T.setTop g) target := by
  obtain ⟨cl, A, q1, S, q3, H, G⟩ := V
  obtain ⟨T', h', X', e', W, st⟩ := stB X hx hZ eT A (inb_of S hj) hg hs hd
  exact ⟨T', h', X', e', W, Arv.set A q1 S q3 H G (fits_nar_byte x) W i hji hi, st⟩
theorem own_stD (X : Stand p l e R s m args below meth c T locs cells slots) (hx : p.tables.exec = Jvm.exec) (hZ : Z.Warmed39 s.vm) (eT : T.heap = h) (V : Arv Z h a k .double z vs dv) {j : Int32} {x : UInt64} {i : Nat} (hj : ¬ j < 0 ∧ j < z) (hji : j.toNatClampNeg = i) (hi : i < vs.length) {g : JFrame} (hg : g.method = m) {rest : List Value} (hs : g.stack = .double x :: .int j :: .ref a :: rest) (hd : decode c.code g.pc = .ok (.dastore, 1)) :
    ∃ T' h', Stand p l e R s m args below meth c T' (locs ++ [⟨a, j.toNatClampNeg⟩]) cells slots ∧ T'.heap = h' ∧ Wr h h' a j.toNatClampNeg (.double x) ∧ Arv Z h' a k .double z (vs.set i (.double x)) dv ∧ ∀ target, Steps p.tables e below (T'.setTop { g with pc := g.pc + 1, stack := rest }) target → Steps p.tables e below (T.setTop g) target := by
  obtain ⟨cl, A, q1, S, q3, H, G⟩ := V
  obtain ⟨T', h', X', e', W, st⟩ := stD X hx hZ eT A (inb_of S hj) hg hs hd
  exact ⟨T', h', X', e', W, Arv.set A q1 S q3 H G rfl W i hji hi, st⟩
theorem own_at {ty : FieldType} (V : Arv Z h a k ty z vs dv) {j : Int32} {i : Nat} {v : Value} (hj : ¬ j < 0 ∧ j < z) (hji : j.toNatClampNeg = i) (hv : vs.getD i dv = v) : ∃ cl : Cell, Arr Z h a cl ty ∧ ¬ (j < 0 ∨ cl.slots.size ≤ j.toNatClampNeg) ∧ cl.slots[j.toNatClampNeg]? = some v := by
  obtain ⟨cl, A, q1, S, q3, H, G⟩ := V
  exact ⟨cl, A, inb_of S hj, Has.at H (inb_of S hj) (by rw [hji]; exact hv)⟩
theorem own_ldI (X : Stand p l e R s m args below meth c T locs cells slots) (hx : p.tables.exec = Jvm.exec) (hZ : Z.Warmed39 s.vm) (eT : T.heap = h) (V : Arv Z h a k .int z vs dv) {j : Int32} {i : Nat} {v : Value} (hj : ¬ j < 0 ∧ j < z) (hji : j.toNatClampNeg = i) (hv : vs.getD i dv = v) {g : JFrame} (hg : g.method = m) {rest : List Value} (hs : g.stack = .int j :: .ref a :: rest) (hd : decode c.code g.pc = .ok (.iaload, 1)) (target : State) :
    Steps p.tables e below (T.setTop { g with pc := g.pc + 1, stack := v :: rest }) target → Steps p.tables e below (T.setTop g) target := by
  obtain ⟨cl, A, hin, hat⟩ := own_at V hj hji hv
  exact X.iaload hx (by rw [eT]; exact A.1) (State.isArrayOf_alike hZ.alike A.2.1) A.2.2 hin hat hg hs hd target
theorem own_ldC (X : Stand p l e R s m args below meth c T locs cells slots) (hx : p.tables.exec = Jvm.exec) (hZ : Z.Warmed39 s.vm) (eT : T.heap = h) (V : Arv Z h a k .char z vs dv) {j : Int32} {i : Nat} {v : Value} (hj : ¬ j < 0 ∧ j < z) (hji : j.toNatClampNeg = i) (hv : vs.getD i dv = v) {g : JFrame} (hg : g.method = m) {rest : List Value} (hs : g.stack = .int j :: .ref a :: rest) (hd : decode c.code g.pc = .ok (.caload, 1)) (target : State) :
    Steps p.tables e below (T.setTop { g with pc := g.pc + 1, stack := v :: rest }) target → Steps p.tables e below (T.setTop g) target := by
  obtain ⟨cl, A, hin, hat⟩ := own_at V hj hji hv
  exact X.caload hx (by rw [eT]; exact A.1) (State.isArrayOf_alike hZ.alike A.2.1) A.2.2 hin hat hg hs hd target
theorem own_ldZ (X : Stand p l e R s m args below meth c T locs cells slots) (hx : p.tables.exec = Jvm.exec) (hZ : Z.Warmed39 s.vm) (eT : T.heap = h) (V : Arv Z h a k .boolean z vs dv) {j : Int32} {i : Nat} {v : Value} (hj : ¬ j < 0 ∧ j < z) (hji : j.toNatClampNeg = i) (hv : vs.getD i dv = v) {g : JFrame} (hg : g.method = m) {rest : List Value} (hs : g.stack = .int j :: .ref a :: rest) (hd : decode c.code g.pc = .ok (.baload, 1)) (target : State) :
    Steps p.tables e below (T.setTop { g with pc := g.pc + 1, stack := v :: rest }) target → Steps p.tables e below (T.setTop g) target := by
  obtain ⟨cl, A, hin, hat⟩ := own_at V hj hji hv
  exact X.baloadBooleans hx (by rw [eT]; exact A.1) (State.isArrayOf_alike hZ.alike A.2.1) A.2.2 hin hat hg hs hd target
theorem own_ldB (X : Stand p l e R s m args below meth c T locs cells slots) (hx : p.tables.exec = Jvm.exec) (hZ : Z.Warmed39 s.vm) (eT : T.heap = h) (V : Arv Z h a k .byte z vs dv) {j : Int32} {i : Nat} {v : Value} (hj : ¬ j < 0 ∧ j < z) (hji : j.toNatClampNeg = i) (hv : vs.getD i dv = v) {g : JFrame} (hg : g.method = m) {rest : List Value} (hs : g.stack = .int j :: .ref a :: rest) (hd : decode c.code g.pc = .ok (.baload, 1)) (target : State) :
    Steps p.tables e below (T.setTop { g with pc := g.pc + 1, stack := v :: rest }) target → Steps p.tables e below (T.setTop g) target := by
  obtain ⟨cl, A, hin, hat⟩ := own_at V hj hji hv
  exact X.baloadBytes hx (by rw [eT]; exact A.1) (State.isArrayOf_alike hZ.alike A.2.1) A.2.2 hin hat hg hs hd target
theorem own_ldD (X : Stand p l e R s m args below meth c T locs cells slots) (hx : p.tables.exec = Jvm.exec) (hZ : Z.Warmed39 s.vm) (eT : T.heap = h) (V : Arv Z h a k .double z vs dv) {j : Int32} {i : Nat} {v : Value} (hj : ¬ j < 0 ∧ j < z) (hji : j.toNatClampNeg = i) (hv : vs.getD i dv = v) {g : JFrame} (hg : g.method = m) {rest : List Value} (hs : g.stack = .int j :: .ref a :: rest) (hd : decode c.code g.pc = .ok (.daload, 1)) (target : State) :
    Steps p.tables e below (T.setTop { g with pc := g.pc + 1, stack := v :: rest }) target → Steps p.tables e below (T.setTop g) target := by
  obtain ⟨cl, A, hin, hat⟩ := own_at V hj hji hv
  exact X.daload hx (by rw [eT]; exact A.1) (State.isArrayOf_alike hZ.alike A.2.1) A.2.2 hin hat hg hs hd target
theorem own_ldR {C : String} (X : Stand p l e R s m args below meth c T locs cells slots) (hx : p.tables.exec = Jvm.exec) (hZ : Z.Warmed39 s.vm) (eT : T.heap = h) (V : Arv Z h a k (.object C) z vs dv) {j : Int32} {i : Nat} {v : Value} (hj : ¬ j < 0 ∧ j < z) (hji : j.toNatClampNeg = i) (hv : vs.getD i dv = v) {g : JFrame} (hg : g.method = m) {rest : List Value} (hs : g.stack = .int j :: .ref a :: rest) (hd : decode c.code g.pc = .ok (.aaload, 1)) (target : State) :
    Steps p.tables e below (T.setTop { g with pc := g.pc + 1, stack := v :: rest }) target → Steps p.tables e below (T.setTop g) target := by
  obtain ⟨cl, A, hin, hat⟩ := own_at V hj hji hv
  exact X.aaload hx (by rw [eT]; exact A.1) (State.isArrayOf_alike hZ.alike A.2.1) rfl A.2.2 hin hat hg hs hd target
theorem own_len {ty : FieldType} (X : Stand p l e R s m args below meth c T locs cells slots) (hx : p.tables.exec = Jvm.exec) (hZ : Z.Warmed39 s.vm) (eT : T.heap = h) (V : Arv Z h a k ty z vs dv) {g : JFrame} (hg : g.method = m) {rest : List Value} (hs : g.stack = .ref a :: rest) (hd : decode c.code g.pc = .ok (.arraylength, 1)) (target : State) :
    Steps p.tables e below (T.setTop { g with pc := g.pc + 1, stack := .int z :: rest }) target → Steps p.tables e below (T.setTop g) target := by
  obtain ⟨cl, A, q1, S, q3, H, G⟩ := V
  have q := X.arraylength hx (by rw [eT]; exact A.1) (State.isArrayOf_alike hZ.alike A.2.1) hg hs hd target
  rw [len_of S q3] at q
  exact q
theorem own_getD_int (xs : List Int32) (i : Nat) : (xs.map Value.int).getD i (.int 0) = .int (xs.getD i 0) := by
  simp only [List.getD_eq_getElem?_getD, List.getElem?_map]
  cases xs[i]? <;> rfl
theorem own_arv_set {ty : FieldType} {xs : List Int32} {i : Nat} {v : Int32} (V : Arv Z h a k ty z ((xs.map Value.int).set i (.int v)) dv) : Arv Z h a k ty z ((xs.set i v).map Value.int) dv := by rw [List.map_set]; exact V
end OwnArrays

theorem own_rem6 (x : Int32) : (x &&& 2147483647) % 6 = 0 ∨ (x &&& 2147483647) % 6 = 1 ∨ (x &&& 2147483647) % 6 = 2 ∨ (x &&& 2147483647) % 6 = 3 ∨ (x &&& 2147483647) % 6 = 4 ∨ (x &&& 2147483647) % 6 = 5 := by
  have h : (x &&& 2147483647).toInt = x.toInt % (2 ^ 31 : Nat) := c_mask x 2147483647 31 (by decide) (by decide)
  have g := (c_irem (x &&& 2147483647) 6 6 (by decide)).1 (by omega)
  generalize (x &&& 2147483647) % 6 = r at *
  have h' : r.toInt = 0 ∨ r.toInt = 1 ∨ r.toInt = 2 ∨ r.toInt = 3 ∨ r.toInt = 4 ∨ r.toInt = 5 := by omega
  rcases h' with h | h | h | h | h | h
  · exact Or.inl (own_int h rfl)
  · exact Or.inr (Or.inl (own_int h rfl))
  · exact Or.inr (Or.inr (Or.inl (own_int h rfl)))
  · exact Or.inr (Or.inr (Or.inr (Or.inl (own_int h rfl))))
  · exact Or.inr (Or.inr (Or.inr (Or.inr (Or.inl (own_int h rfl)))))
  · exact Or.inr (Or.inr (Or.inr (Or.inr (Or.inr (own_int h rfl)))))
theorem own_ef_rm_pick0 (m : MethodId) (x0 : Int32) : entryFrame m #[(.int x0)] 1 = mkF m 0 #[.val (.int x0)] [] := by first | (simp [entryFrame, mkF, argsToLocals, Value.category]; done) | rfl
theorem own_pn0 : plainName "com/example/strikeboard/strikeboard/engine/KindIsEndlessBanPinLaw" = true := by first | (simp [plainName, overriddenIn]; done) | decide +kernel
theorem own_d_method_2_code_0 : decode method_2_code 0 = .ok (.iload_n 0, 1) := by decide +kernel
theorem own_d_method_2_code_1 : decode method_2_code 1 = .ok (.ifCond .ne 7, 3) := by decide +kernel
theorem own_d_method_2_code_4 : decode method_2_code 4 = .ok (.getstatic 7, 3) := by decide +kernel
theorem own_d_method_2_code_7 : decode method_2_code 7 = .ok (.areturn, 1) := by decide +kernel
def Q_rm_pick0 (Z : State) (w_A : Addr) (w_B : Addr) (w_C : Addr) (w_D : Addr) (w_E : Addr) (w_F : Addr) (h0 : Heap) (n0 : Nat) (v : Option Value) (h : Heap) (L : List Loc) : Prop := v = some (.ref w_A) ∧ Fr n0 L ∧ h = h0
set_option maxRecDepth 65536 in
set_option maxHeartbeats 40000000 in
theorem rm_pick0 (l : Launch) (Z : State) (a0 : Array Value) (hw : ∀ d ∈ tables_1, d.before a0 Z = true) (ws : List Jvm.Cond) (w_A : Addr) (S_A : Sta Z Z.heap "com/example/strikeboard/strikeboard/engine/Guideline$Kind" "NO_ACTION" "Lcom/example/strikeboard/strikeboard/engine/Guideline$Kind;" (.ref w_A)) (X_A : Exa Z Z.heap w_A "com/example/strikeboard/strikeboard/engine/Guideline$Kind") (w_B : Addr) (S_B : Sta Z Z.heap "com/example/strikeboard/strikeboard/engine/Guideline$Kind" "WARNING" "Lcom/example/strikeboard/strikeboard/engine/Guideline$Kind;" (.ref w_B)) (X_B : Exa Z Z.heap w_B "com/example/strikeboard/strikeboard/engine/Guideline$Kind") (w_C : Addr) (S_C : Sta Z Z.heap "com/example/strikeboard/strikeboard/engine/Guideline$Kind" "KICK" "Lcom/example/strikeboard/strikeboard/engine/Guideline$Kind;" (.ref w_C)) (X_C : Exa Z Z.heap w_C "com/example/strikeboard/strikeboard/engine/Guideline$Kind") (w_D : Addr) (S_D : Sta Z Z.heap "com/example/strikeboard/strikeboard/engine/Guideline$Kind" "BANS" "Lcom/example/strikeboard/strikeboard/engine/Guideline$Kind;" (.ref w_D)) (X_D : Exa Z Z.heap w_D "com/example/strikeboard/strikeboard/engine/Guideline$Kind") (w_E : Addr) (S_E : Sta Z Z.heap "com/example/strikeboard/strikeboard/engine/Guideline$Kind" "VOUCHER_BAN" "Lcom/example/strikeboard/strikeboard/engine/Guideline$Kind;" (.ref w_E)) (X_E : Exa Z Z.heap w_E "com/example/strikeboard/strikeboard/engine/Guideline$Kind") (w_F : Addr) (S_F : Sta Z Z.heap "com/example/strikeboard/strikeboard/engine/Guideline$Kind" "PERMANENT_BAN" "Lcom/example/strikeboard/strikeboard/engine/Guideline$Kind;" (.ref w_F)) (X_F : Exa Z Z.heap w_F "com/example/strikeboard/strikeboard/engine/Guideline$Kind") (ne_A_E : w_A ≠ w_E) (ne_A_F : w_A ≠ w_F) (ne_B_E : w_B ≠ w_E) (ne_B_F : w_B ≠ w_F) (ne_C_E : w_C ≠ w_E) (ne_C_F : w_C ≠ w_F) (ne_D_E : w_D ≠ w_E) (ne_D_F : w_D ≠ w_F) (ne_E_F : w_E ≠ w_F) (h0 : Heap) (n0 : Nat) (X00 : Old Z n0 h0)  :
    MetFree l (⟨"com/example/strikeboard/strikeboard/engine/KindIsEndlessBanPinLaw", "pick", "(I)Lcom/example/strikeboard/strikeboard/engine/Guideline$Kind;"⟩ : MethodName) (head1 (Jvm.Cond.code (⟨"com/example/strikeboard/strikeboard/engine/KindIsEndlessBanPinLaw", "pick", "(I)Lcom/example/strikeboard/strikeboard/engine/Guideline$Kind;"⟩ : MethodName) method_2_code 1 (some (.object "com/example/strikeboard/strikeboard/engine/Guideline$Kind")) :: ws) ({ frames := 0, cells := 0, slots := 0, locals := 0 } : Room)) (fun a U => a = #[(.int (0 : Int32))] ∧ Z.Warmed39 U.vm ∧ U.heap = h0) (fun _ _ _ _ _ => True) (fun _ U o U' => ∃ v L, o = .returned v ∧ Q_rm_pick0 Z w_A w_B w_C w_D w_E w_F h0 n0 v U'.heap L ∧ FrameEnd U o U' L ({ frames := 0, cells := 0, slots := 0, locals := 0 } : Room).cells ({ frames := 0, cells := 0, slots := 0, locals := 0 } : Room).slots) := by
  refine MetFree.of_bodySF (plainFor_of_name own_pn0) hisR ?_
  intro p e s m args below meth c s₁ Bd hml0 hP hK
  obtain ⟨rfl, hZ, hh⟩ := hP
  have hx := Bd.exec
  have hby := Bd.bytes
  have hml : c.maxLocals = 1 := hml0
  have hown : s.vm.findClass "com/example/strikeboard/strikeboard/engine/KindIsEndlessBanPinLaw" = some m.cls := findClass_of_methodNamed Bd.named
  have hnm := (name_of_methodNamed Bd.named Bd.method).1
  have X0 : Stand p l e ({ frames := 0, cells := 0, slots := 0, locals := 0 } : Room) s m #[(.int (0 : Int32))] below meth c s₁ [] 0 0 := Stand.of_body Bd
  have e0 : s₁.heap = h0 := by rw [← hh, Bd.state]; rfl
  have N0 := Fr.nil n0
  refine Go.start fun P hPend => ?_
  refine Go.st (fun _ k => castTop (own_ef_rm_pick0 m ((0 : Int32))) k) ?_
  show Go p.tables e below P (s₁.setTop (mkF m 0 #[.val (.int (0 : Int32))] []))
  refine Go.st (fun _ => XS.iloadN X0.here hx rfl (hb hby own_d_method_2_code_0) rfl) ?_
  show Go p.tables e below P (s₁.setTop (mkF m 1 #[.val (.int (0 : Int32))] [(.int (0 : Int32))]))
  refine Go.st (fun _ => XS.ifNo X0.here hx rfl (hb hby own_d_method_2_code_1) rfl ((if0 _ _).trans (teq (by decide)).2)) ?_
  show Go p.tables e below P (s₁.setTop (mkF m 4 #[.val (.int (0 : Int32))] []))
  obtain ⟨T1, X1, e1, st1⟩ := getS2 X0 hx hZ hown (host := "") (Or.inl (hw _ (List.mem_of_getElem? (i := 5) rfl))) Via.refl e0 (S_A.ext X00.2) (g := (mkF m 4 #[.val (.int (0 : Int32))] [])) rfl (hb hby own_d_method_2_code_4)
  refine Go.st st1 ?_
  show Go p.tables e below P (T1.setTop (mkF m 7 #[.val (.int (0 : Int32))] [(.ref w_A)]))
  obtain ⟨fs, hr, hrun, hended, hW, hsame⟩ := X1.leave (v := some (.ref w_A)) (fun h => by rw [Bd.returns] at h; cases h)
  refine ⟨_, ?_, hPend _ _ hrun hended ⟨_, _, rfl, ?_, ⟨_, rfl⟩, hW, hsame.mono (by decide) (by decide)⟩⟩
  · exact retOut X1 hx (t := (.object "com/example/strikeboard/strikeboard/engine/Guideline$Kind")) Bd.returns rfl (Or.inr (Or.inr (Or.inr (Or.inr ⟨rfl, rfl, rfl⟩)))) (hb hby own_d_method_2_code_7) hr
  · show Q_rm_pick0 Z _ _ _ _ _ _ h0 n0 _ T1.heap _
    rw [e1]
    exact ⟨rfl, N0, rfl⟩
theorem own_ef_rm_js0 (m : MethodId) (x0 : Addr) : entryFrame m #[(.ref x0)] 1 = mkF m 0 #[.val (.ref x0)] [] := by first | (simp [entryFrame, mkF, argsToLocals, Value.category]; done) | rfl
theorem own_pn1 : plainName "com/example/strikeboard/strikeboard/engine/Guideline$Kind" = true := by first | (simp [plainName, overriddenIn]; done) | decide +kernel
theorem own_d_prog_30_method_5_code_0 : decode prog_30_method_5_code 0 = .ok (.aload_n 0, 1) := by decide +kernel
theorem own_d_prog_30_method_5_code_1 : decode prog_30_method_5_code 1 = .ok (.getstatic 16, 3) := by decide +kernel
theorem own_d_prog_30_method_5_code_4 : decode prog_30_method_5_code 4 = .ok (.if_acmp .eq 10, 3) := by decide +kernel
theorem own_d_prog_30_method_5_code_7 : decode prog_30_method_5_code 7 = .ok (.aload_n 0, 1) := by decide +kernel
theorem own_d_prog_30_method_5_code_8 : decode prog_30_method_5_code 8 = .ok (.getstatic 19, 3) := by decide +kernel
theorem own_d_prog_30_method_5_code_11 : decode prog_30_method_5_code 11 = .ok (.if_acmp .ne 7, 3) := by decide +kernel
theorem own_d_prog_30_method_5_code_18 : decode prog_30_method_5_code 18 = .ok (.iconst 0, 1) := by decide +kernel
theorem own_d_prog_30_method_5_code_19 : decode prog_30_method_5_code 19 = .ok (.ireturn, 1) := by decide +kernel
def Q_rm_js0 (Z : State) (w_A : Addr) (w_B : Addr) (w_C : Addr) (w_D : Addr) (w_E : Addr) (w_F : Addr) (h0 : Heap) (n0 : Nat) (v : Option Value) (h : Heap) (L : List Loc) : Prop := v = some (.int (0 : Int32)) ∧ Fr n0 L ∧ h = h0
set_option maxRecDepth 65536 in
set_option maxHeartbeats 40000000 in
theorem rm_js0 (l : Launch) (Z : State) (a0 : Array Value) (hw : ∀ d ∈ tables_1, d.before a0 Z = true) (ws : List Jvm.Cond) (w_A : Addr) (S_A : Sta Z Z.heap "com/example/strikeboard/strikeboard/engine/Guideline$Kind" "NO_ACTION" "Lcom/example/strikeboard/strikeboard/engine/Guideline$Kind;" (.ref w_A)) (X_A : Exa Z Z.heap w_A "com/example/strikeboard/strikeboard/engine/Guideline$Kind") (w_B : Addr) (S_B : Sta Z Z.heap "com/example/strikeboard/strikeboard/engine/Guideline$Kind" "WARNING" "Lcom/example/strikeboard/strikeboard/engine/Guideline$Kind;" (.ref w_B)) (X_B : Exa Z Z.heap w_B "com/example/strikeboard/strikeboard/engine/Guideline$Kind") (w_C : Addr) (S_C : Sta Z Z.heap "com/example/strikeboard/strikeboard/engine/Guideline$Kind" "KICK" "Lcom/example/strikeboard/strikeboard/engine/Guideline$Kind;" (.ref w_C)) (X_C : Exa Z Z.heap w_C "com/example/strikeboard/strikeboard/engine/Guideline$Kind") (w_D : Addr) (S_D : Sta Z Z.heap "com/example/strikeboard/strikeboard/engine/Guideline$Kind" "BANS" "Lcom/example/strikeboard/strikeboard/engine/Guideline$Kind;" (.ref w_D)) (X_D : Exa Z Z.heap w_D "com/example/strikeboard/strikeboard/engine/Guideline$Kind") (w_E : Addr) (S_E : Sta Z Z.heap "com/example/strikeboard/strikeboard/engine/Guideline$Kind" "VOUCHER_BAN" "Lcom/example/strikeboard/strikeboard/engine/Guideline$Kind;" (.ref w_E)) (X_E : Exa Z Z.heap w_E "com/example/strikeboard/strikeboard/engine/Guideline$Kind") (w_F : Addr) (S_F : Sta Z Z.heap "com/example/strikeboard/strikeboard/engine/Guideline$Kind" "PERMANENT_BAN" "Lcom/example/strikeboard/strikeboard/engine/Guideline$Kind;" (.ref w_F)) (X_F : Exa Z Z.heap w_F "com/example/strikeboard/strikeboard/engine/Guideline$Kind") (ne_A_E : w_A ≠ w_E) (ne_A_F : w_A ≠ w_F) (ne_B_E : w_B ≠ w_E) (ne_B_F : w_B ≠ w_F) (ne_C_E : w_C ≠ w_E) (ne_C_F : w_C ≠ w_F) (ne_D_E : w_D ≠ w_E) (ne_D_F : w_D ≠ w_F) (ne_E_F : w_E ≠ w_F) (h0 : Heap) (n0 : Nat) (X00 : Old Z n0 h0)  :
    MetFree l (⟨"com/example/strikeboard/strikeboard/engine/Guideline$Kind", "isEndlessBan", "()Z"⟩ : MethodName) (head1 (Jvm.Cond.code (⟨"com/example/strikeboard/strikeboard/engine/Guideline$Kind", "isEndlessBan", "()Z"⟩ : MethodName) prog_30_method_5_code 1 (some .boolean) :: ws) ({ frames := 0, cells := 0, slots := 0, locals := 0 } : Room)) (fun a U => a = #[(.ref w_A)] ∧ Z.Warmed39 U.vm ∧ U.heap = h0) (fun _ _ _ _ _ => True) (fun _ U o U' => ∃ v L, o = .returned v ∧ Q_rm_js0 Z w_A w_B w_C w_D w_E w_F h0 n0 v U'.heap L ∧ FrameEnd U o U' L ({ frames := 0, cells := 0, slots := 0, locals := 0 } : Room).cells ({ frames := 0, cells := 0, slots := 0, locals := 0 } : Room).slots) := by
  refine MetFree.of_bodySF (plainFor_of_name own_pn1) hisR ?_
  intro p e s m args below meth c s₁ Bd hml0 hP hK
  obtain ⟨rfl, hZ, hh⟩ := hP
  have hx := Bd.exec
  have hby := Bd.bytes
  have hml : c.maxLocals = 1 := hml0
  have hown : s.vm.findClass "com/example/strikeboard/strikeboard/engine/Guideline$Kind" = some m.cls := findClass_of_methodNamed Bd.named
  have hnm := (name_of_methodNamed Bd.named Bd.method).1
  have X0 : Stand p l e ({ frames := 0, cells := 0, slots := 0, locals := 0 } : Room) s m #[(.ref w_A)] below meth c s₁ [] 0 0 := Stand.of_body Bd
  have e0 : s₁.heap = h0 := by rw [← hh, Bd.state]; rfl
  have N0 := Fr.nil n0
  refine Go.start fun P hPend => ?_
  refine Go.st (fun _ k => castTop (own_ef_rm_js0 m w_A) k) ?_
  show Go p.tables e below P (s₁.setTop (mkF m 0 #[.val (.ref w_A)] []))
  refine Go.st (fun _ => XS.aloadN X0.here hx rfl (hb hby own_d_prog_30_method_5_code_0) rfl rfl) ?_
  show Go p.tables e below P (s₁.setTop (mkF m 1 #[.val (.ref w_A)] [(.ref w_A)]))
  obtain ⟨T1, X1, e1, st1⟩ := getS2 X0 hx hZ hown (host := "") (Or.inl (hw _ (List.mem_of_getElem? (i := 13) rfl))) Via.refl e0 (S_E.ext X00.2) (g := (mkF m 1 #[.val (.ref w_A)] [(.ref w_A)])) rfl (hb hby own_d_prog_30_method_5_code_1)
  refine Go.st st1 ?_
  show Go p.tables e below P (T1.setTop (mkF m 4 #[.val (.ref w_A)] [(.ref w_E), (.ref w_A)]))
  refine Go.st (fun _ => Jvm.RoadKit.acmp (g := (mkF m 4 #[.val (.ref w_A)] [(.ref w_E), (.ref w_A)])) X1 hx rfl rfl rfl (pc0 := 4) (pc' := 7) (same := false) rfl (hb hby own_d_prog_30_method_5_code_4) rfl (decide_eq_false (fun q => ne_A_E (Value.ref.inj q))) (by decide) (by decide)) ?_
  show Go p.tables e below P (T1.setTop (mkF m 7 #[.val (.ref w_A)] []))
  refine Go.st (fun _ => XS.aloadN X1.here hx rfl (hb hby own_d_prog_30_method_5_code_7) rfl rfl) ?_
  show Go p.tables e below P (T1.setTop (mkF m 8 #[.val (.ref w_A)] [(.ref w_A)]))
  obtain ⟨T2, X2, e2, st2⟩ := getS2 X1 hx hZ hown (host := "") (Or.inl (hw _ (List.mem_of_getElem? (i := 15) rfl))) Via.refl e1 (S_F.ext X00.2) (g := (mkF m 8 #[.val (.ref w_A)] [(.ref w_A)])) rfl (hb hby own_d_prog_30_method_5_code_8)
  refine Go.st st2 ?_
  show Go p.tables e below P (T2.setTop (mkF m 11 #[.val (.ref w_A)] [(.ref w_F), (.ref w_A)]))
  refine Go.st (fun _ => Jvm.RoadKit.acmp (g := (mkF m 11 #[.val (.ref w_A)] [(.ref w_F), (.ref w_A)])) X2 hx rfl rfl rfl (pc0 := 11) (pc' := 18) (same := false) rfl (hb hby own_d_prog_30_method_5_code_11) rfl (decide_eq_false (fun q => ne_A_F (Value.ref.inj q))) (by decide) (by decide)) ?_
  show Go p.tables e below P (T2.setTop (mkF m 18 #[.val (.ref w_A)] []))
  refine Go.st (fun _ => XS.iconst X2.here hx rfl (hb hby own_d_prog_30_method_5_code_18)) ?_
  show Go p.tables e below P (T2.setTop (mkF m 19 #[.val (.ref w_A)] [(.int (0 : Int32))]))
  obtain ⟨fs, hr, hrun, hended, hW, hsame⟩ := X2.leave (v := some (.int (0 : Int32))) (fun h => by rw [Bd.returns] at h; cases h)
  refine ⟨_, ?_, hPend _ _ hrun hended ⟨_, _, rfl, ?_, ⟨_, rfl⟩, hW, hsame.mono (by decide) (by decide)⟩⟩
  · exact retN X2 hx (t := .boolean) Bd.returns (by simp) (hb hby own_d_prog_30_method_5_code_19) hr
  · show Q_rm_js0 Z _ _ _ _ _ _ h0 n0 _ T2.heap _
    rw [e2]
    exact ⟨rfl, N0, rfl⟩
theorem own_ef_rm_pick1 (m : MethodId) (x0 : Int32) : entryFrame m #[(.int x0)] 1 = mkF m 0 #[.val (.int x0)] [] := by first | (simp [entryFrame, mkF, argsToLocals, Value.category]; done) | rfl
theorem own_d_method_2_code_8 : decode method_2_code 8 = .ok (.iload_n 0, 1) := by decide +kernel
theorem own_d_method_2_code_9 : decode method_2_code 9 = .ok (.iconst 1, 1) := by decide +kernel
theorem own_d_method_2_code_10 : decode method_2_code 10 = .ok (.if_icmp .ne 7, 3) := by decide +kernel
theorem own_d_method_2_code_13 : decode method_2_code 13 = .ok (.getstatic 13, 3) := by decide +kernel
theorem own_d_method_2_code_16 : decode method_2_code 16 = .ok (.areturn, 1) := by decide +kernel
def Q_rm_pick1 (Z : State) (w_A : Addr) (w_B : Addr) (w_C : Addr) (w_D : Addr) (w_E : Addr) (w_F : Addr) (h0 : Heap) (n0 : Nat) (v : Option Value) (h : Heap) (L : List Loc) : Prop := v = some (.ref w_B) ∧ Fr n0 L ∧ h = h0
set_option maxRecDepth 65536 in
set_option maxHeartbeats 40000000 in
theorem rm_pick1 (l : Launch) (Z : State) (a0 : Array Value) (hw : ∀ d ∈ tables_1, d.before a0 Z = true) (ws : List Jvm.Cond) (w_A : Addr) (S_A : Sta Z Z.heap "com/example/strikeboard/strikeboard/engine/Guideline$Kind" "NO_ACTION" "Lcom/example/strikeboard/strikeboard/engine/Guideline$Kind;" (.ref w_A)) (X_A : Exa Z Z.heap w_A "com/example/strikeboard/strikeboard/engine/Guideline$Kind") (w_B : Addr) (S_B : Sta Z Z.heap "com/example/strikeboard/strikeboard/engine/Guideline$Kind" "WARNING" "Lcom/example/strikeboard/strikeboard/engine/Guideline$Kind;" (.ref w_B)) (X_B : Exa Z Z.heap w_B "com/example/strikeboard/strikeboard/engine/Guideline$Kind") (w_C : Addr) (S_C : Sta Z Z.heap "com/example/strikeboard/strikeboard/engine/Guideline$Kind" "KICK" "Lcom/example/strikeboard/strikeboard/engine/Guideline$Kind;" (.ref w_C)) (X_C : Exa Z Z.heap w_C "com/example/strikeboard/strikeboard/engine/Guideline$Kind") (w_D : Addr) (S_D : Sta Z Z.heap "com/example/strikeboard/strikeboard/engine/Guideline$Kind" "BANS" "Lcom/example/strikeboard/strikeboard/engine/Guideline$Kind;" (.ref w_D)) (X_D : Exa Z Z.heap w_D "com/example/strikeboard/strikeboard/engine/Guideline$Kind") (w_E : Addr) (S_E : Sta Z Z.heap "com/example/strikeboard/strikeboard/engine/Guideline$Kind" "VOUCHER_BAN" "Lcom/example/strikeboard/strikeboard/engine/Guideline$Kind;" (.ref w_E)) (X_E : Exa Z Z.heap w_E "com/example/strikeboard/strikeboard/engine/Guideline$Kind") (w_F : Addr) (S_F : Sta Z Z.heap "com/example/strikeboard/strikeboard/engine/Guideline$Kind" "PERMANENT_BAN" "Lcom/example/strikeboard/strikeboard/engine/Guideline$Kind;" (.ref w_F)) (X_F : Exa Z Z.heap w_F "com/example/strikeboard/strikeboard/engine/Guideline$Kind") (ne_A_E : w_A ≠ w_E) (ne_A_F : w_A ≠ w_F) (ne_B_E : w_B ≠ w_E) (ne_B_F : w_B ≠ w_F) (ne_C_E : w_C ≠ w_E) (ne_C_F : w_C ≠ w_F) (ne_D_E : w_D ≠ w_E) (ne_D_F : w_D ≠ w_F) (ne_E_F : w_E ≠ w_F) (h0 : Heap) (n0 : Nat) (X00 : Old Z n0 h0)  :
    MetFree l (⟨"com/example/strikeboard/strikeboard/engine/KindIsEndlessBanPinLaw", "pick", "(I)Lcom/example/strikeboard/strikeboard/engine/Guideline$Kind;"⟩ : MethodName) (head1 (Jvm.Cond.code (⟨"com/example/strikeboard/strikeboard/engine/KindIsEndlessBanPinLaw", "pick", "(I)Lcom/example/strikeboard/strikeboard/engine/Guideline$Kind;"⟩ : MethodName) method_2_code 1 (some (.object "com/example/strikeboard/strikeboard/engine/Guideline$Kind")) :: ws) ({ frames := 0, cells := 0, slots := 0, locals := 0 } : Room)) (fun a U => a = #[(.int (1 : Int32))] ∧ Z.Warmed39 U.vm ∧ U.heap = h0) (fun _ _ _ _ _ => True) (fun _ U o U' => ∃ v L, o = .returned v ∧ Q_rm_pick1 Z w_A w_B w_C w_D w_E w_F h0 n0 v U'.heap L ∧ FrameEnd U o U' L ({ frames := 0, cells := 0, slots := 0, locals := 0 } : Room).cells ({ frames := 0, cells := 0, slots := 0, locals := 0 } : Room).slots) := by
  refine MetFree.of_bodySF (plainFor_of_name own_pn0) hisR ?_
  intro p e s m args below meth c s₁ Bd hml0 hP hK
  obtain ⟨rfl, hZ, hh⟩ := hP
  have hx := Bd.exec
  have hby := Bd.bytes
  have hml : c.maxLocals = 1 := hml0
  have hown : s.vm.findClass "com/example/strikeboard/strikeboard/engine/KindIsEndlessBanPinLaw" = some m.cls := findClass_of_methodNamed Bd.named
  have hnm := (name_of_methodNamed Bd.named Bd.method).1
  have X0 : Stand p l e ({ frames := 0, cells := 0, slots := 0, locals := 0 } : Room) s m #[(.int (1 : Int32))] below meth c s₁ [] 0 0 := Stand.of_body Bd
  have e0 : s₁.heap = h0 := by rw [← hh, Bd.state]; rfl
  have N0 := Fr.nil n0
  refine Go.start fun P hPend => ?_
  refine Go.st (fun _ k => castTop (own_ef_rm_pick1 m ((1 : Int32))) k) ?_
  show Go p.tables e below P (s₁.setTop (mkF m 0 #[.val (.int (1 : Int32))] []))
  refine Go.st (fun _ => XS.iloadN X0.here hx rfl (hb hby own_d_method_2_code_0) rfl) ?_
  show Go p.tables e below P (s₁.setTop (mkF m 1 #[.val (.int (1 : Int32))] [(.int (1 : Int32))]))
  refine Go.st (fun _ => XS.ifYes X0.here hx rfl (pc0 := 1) (pc' := 8) rfl (hb hby own_d_method_2_code_1) rfl ((if0 _ _).trans (feq (by decide)).2) (by decide) (by decide)) ?_
  show Go p.tables e below P (s₁.setTop (mkF m 8 #[.val (.int (1 : Int32))] []))
  refine Go.st (fun _ => XS.iloadN X0.here hx rfl (hb hby own_d_method_2_code_8) rfl) ?_
  show Go p.tables e below P (s₁.setTop (mkF m 9 #[.val (.int (1 : Int32))] [(.int (1 : Int32))]))
  refine Go.st (fun _ => XS.iconst X0.here hx rfl (hb hby own_d_method_2_code_9)) ?_
  show Go p.tables e below P (s₁.setTop (mkF m 10 #[.val (.int (1 : Int32))] [(.int (1 : Int32)), (.int (1 : Int32))]))
  refine Go.st (fun _ => XS.icmpNo X0.here hx rfl (hb hby own_d_method_2_code_10) rfl (teq (by decide)).2) ?_
  show Go p.tables e below P (s₁.setTop (mkF m 13 #[.val (.int (1 : Int32))] []))
  obtain ⟨T1, X1, e1, st1⟩ := getS2 X0 hx hZ hown (host := "") (Or.inl (hw _ (List.mem_of_getElem? (i := 21) rfl))) Via.refl e0 (S_B.ext X00.2) (g := (mkF m 13 #[.val (.int (1 : Int32))] [])) rfl (hb hby own_d_method_2_code_13)
  refine Go.st st1 ?_
  show Go p.tables e below P (T1.setTop (mkF m 16 #[.val (.int (1 : Int32))] [(.ref w_B)]))
  obtain ⟨fs, hr, hrun, hended, hW, hsame⟩ := X1.leave (v := some (.ref w_B)) (fun h => by rw [Bd.returns] at h; cases h)
  refine ⟨_, ?_, hPend _ _ hrun hended ⟨_, _, rfl, ?_, ⟨_, rfl⟩, hW, hsame.mono (by decide) (by decide)⟩⟩
  · exact retOut X1 hx (t := (.object "com/example/strikeboard/strikeboard/engine/Guideline$Kind")) Bd.returns rfl (Or.inr (Or.inr (Or.inr (Or.inr ⟨rfl, rfl, rfl⟩)))) (hb hby own_d_method_2_code_16) hr
  · show Q_rm_pick1 Z _ _ _ _ _ _ h0 n0 _ T1.heap _
    rw [e1]
    exact ⟨rfl, N0, rfl⟩
theorem own_ef_rm_js1 (m : MethodId) (x0 : Addr) : entryFrame m #[(.ref x0)] 1 = mkF m 0 #[.val (.ref x0)] [] := by first | (simp [entryFrame, mkF, argsToLocals, Value.category]; done) | rfl
def Q_rm_js1 (Z : State) (w_A : Addr) (w_B : Addr) (w_C : Addr) (w_D : Addr) (w_E : Addr) (w_F : Addr) (h0 : Heap) (n0 : Nat) (v : Option Value) (h : Heap) (L : List Loc) : Prop := v = some (.int (0 : Int32)) ∧ Fr n0 L ∧ h = h0
set_option maxRecDepth 65536 in
set_option maxHeartbeats 40000000 in
theorem rm_js1 (l : Launch) (Z : State) (a0 : Array Value) (hw : ∀ d ∈ tables_1, d.before a0 Z = true) (ws : List Jvm.Cond) (w_A : Addr) (S_A : Sta Z Z.heap "com/example/strikeboard/strikeboard/engine/Guideline$Kind" "NO_ACTION" "Lcom/example/strikeboard/strikeboard/engine/Guideline$Kind;" (.ref w_A)) (X_A : Exa Z Z.heap w_A "com/example/strikeboard/strikeboard/engine/Guideline$Kind") (w_B : Addr) (S_B : Sta Z Z.heap "com/example/strikeboard/strikeboard/engine/Guideline$Kind" "WARNING" "Lcom/example/strikeboard/strikeboard/engine/Guideline$Kind;" (.ref w_B)) (X_B : Exa Z Z.heap w_B "com/example/strikeboard/strikeboard/engine/Guideline$Kind") (w_C : Addr) (S_C : Sta Z Z.heap "com/example/strikeboard/strikeboard/engine/Guideline$Kind" "KICK" "Lcom/example/strikeboard/strikeboard/engine/Guideline$Kind;" (.ref w_C)) (X_C : Exa Z Z.heap w_C "com/example/strikeboard/strikeboard/engine/Guideline$Kind") (w_D : Addr) (S_D : Sta Z Z.heap "com/example/strikeboard/strikeboard/engine/Guideline$Kind" "BANS" "Lcom/example/strikeboard/strikeboard/engine/Guideline$Kind;" (.ref w_D)) (X_D : Exa Z Z.heap w_D "com/example/strikeboard/strikeboard/engine/Guideline$Kind") (w_E : Addr) (S_E : Sta Z Z.heap "com/example/strikeboard/strikeboard/engine/Guideline$Kind" "VOUCHER_BAN" "Lcom/example/strikeboard/strikeboard/engine/Guideline$Kind;" (.ref w_E)) (X_E : Exa Z Z.heap w_E "com/example/strikeboard/strikeboard/engine/Guideline$Kind") (w_F : Addr) (S_F : Sta Z Z.heap "com/example/strikeboard/strikeboard/engine/Guideline$Kind" "PERMANENT_BAN" "Lcom/example/strikeboard/strikeboard/engine/Guideline$Kind;" (.ref w_F)) (X_F : Exa Z Z.heap w_F "com/example/strikeboard/strikeboard/engine/Guideline$Kind") (ne_A_E : w_A ≠ w_E) (ne_A_F : w_A ≠ w_F) (ne_B_E : w_B ≠ w_E) (ne_B_F : w_B ≠ w_F) (ne_C_E : w_C ≠ w_E) (ne_C_F : w_C ≠ w_F) (ne_D_E : w_D ≠ w_E) (ne_D_F : w_D ≠ w_F) (ne_E_F : w_E ≠ w_F) (h0 : Heap) (n0 : Nat) (X00 : Old Z n0 h0)  :
    MetFree l (⟨"com/example/strikeboard/strikeboard/engine/Guideline$Kind", "isEndlessBan", "()Z"⟩ : MethodName) (head1 (Jvm.Cond.code (⟨"com/example/strikeboard/strikeboard/engine/Guideline$Kind", "isEndlessBan", "()Z"⟩ : MethodName) prog_30_method_5_code 1 (some .boolean) :: ws) ({ frames := 0, cells := 0, slots := 0, locals := 0 } : Room)) (fun a U => a = #[(.ref w_B)] ∧ Z.Warmed39 U.vm ∧ U.heap = h0) (fun _ _ _ _ _ => True) (fun _ U o U' => ∃ v L, o = .returned v ∧ Q_rm_js1 Z w_A w_B w_C w_D w_E w_F h0 n0 v U'.heap L ∧ FrameEnd U o U' L ({ frames := 0, cells := 0, slots := 0, locals := 0 } : Room).cells ({ frames := 0, cells := 0, slots := 0, locals := 0 } : Room).slots) := by
  refine MetFree.of_bodySF (plainFor_of_name own_pn1) hisR ?_
  intro p e s m args below meth c s₁ Bd hml0 hP hK
  obtain ⟨rfl, hZ, hh⟩ := hP
  have hx := Bd.exec
  have hby := Bd.bytes
  have hml : c.maxLocals = 1 := hml0
  have hown : s.vm.findClass "com/example/strikeboard/strikeboard/engine/Guideline$Kind" = some m.cls := findClass_of_methodNamed Bd.named
  have hnm := (name_of_methodNamed Bd.named Bd.method).1
  have X0 : Stand p l e ({ frames := 0, cells := 0, slots := 0, locals := 0 } : Room) s m #[(.ref w_B)] below meth c s₁ [] 0 0 := Stand.of_body Bd
  have e0 : s₁.heap = h0 := by rw [← hh, Bd.state]; rfl
  have N0 := Fr.nil n0
  refine Go.start fun P hPend => ?_
  refine Go.st (fun _ k => castTop (own_ef_rm_js1 m w_B) k) ?_
  show Go p.tables e below P (s₁.setTop (mkF m 0 #[.val (.ref w_B)] []))
  refine Go.st (fun _ => XS.aloadN X0.here hx rfl (hb hby own_d_prog_30_method_5_code_0) rfl rfl) ?_
  show Go p.tables e below P (s₁.setTop (mkF m 1 #[.val (.ref w_B)] [(.ref w_B)]))
  obtain ⟨T1, X1, e1, st1⟩ := getS2 X0 hx hZ hown (host := "") (Or.inl (hw _ (List.mem_of_getElem? (i := 13) rfl))) Via.refl e0 (S_E.ext X00.2) (g := (mkF m 1 #[.val (.ref w_B)] [(.ref w_B)])) rfl (hb hby own_d_prog_30_method_5_code_1)
  refine Go.st st1 ?_
  show Go p.tables e below P (T1.setTop (mkF m 4 #[.val (.ref w_B)] [(.ref w_E), (.ref w_B)]))
  refine Go.st (fun _ => Jvm.RoadKit.acmp (g := (mkF m 4 #[.val (.ref w_B)] [(.ref w_E), (.ref w_B)])) X1 hx rfl rfl rfl (pc0 := 4) (pc' := 7) (same := false) rfl (hb hby own_d_prog_30_method_5_code_4) rfl (decide_eq_false (fun q => ne_B_E (Value.ref.inj q))) (by decide) (by decide)) ?_
  show Go p.tables e below P (T1.setTop (mkF m 7 #[.val (.ref w_B)] []))
  refine Go.st (fun _ => XS.aloadN X1.here hx rfl (hb hby own_d_prog_30_method_5_code_7) rfl rfl) ?_
  show Go p.tables e below P (T1.setTop (mkF m 8 #[.val (.ref w_B)] [(.ref w_B)]))
  obtain ⟨T2, X2, e2, st2⟩ := getS2 X1 hx hZ hown (host := "") (Or.inl (hw _ (List.mem_of_getElem? (i := 15) rfl))) Via.refl e1 (S_F.ext X00.2) (g := (mkF m 8 #[.val (.ref w_B)] [(.ref w_B)])) rfl (hb hby own_d_prog_30_method_5_code_8)
  refine Go.st st2 ?_
  show Go p.tables e below P (T2.setTop (mkF m 11 #[.val (.ref w_B)] [(.ref w_F), (.ref w_B)]))
  refine Go.st (fun _ => Jvm.RoadKit.acmp (g := (mkF m 11 #[.val (.ref w_B)] [(.ref w_F), (.ref w_B)])) X2 hx rfl rfl rfl (pc0 := 11) (pc' := 18) (same := false) rfl (hb hby own_d_prog_30_method_5_code_11) rfl (decide_eq_false (fun q => ne_B_F (Value.ref.inj q))) (by decide) (by decide)) ?_
  show Go p.tables e below P (T2.setTop (mkF m 18 #[.val (.ref w_B)] []))
  refine Go.st (fun _ => XS.iconst X2.here hx rfl (hb hby own_d_prog_30_method_5_code_18)) ?_
  show Go p.tables e below P (T2.setTop (mkF m 19 #[.val (.ref w_B)] [(.int (0 : Int32))]))
  obtain ⟨fs, hr, hrun, hended, hW, hsame⟩ := X2.leave (v := some (.int (0 : Int32))) (fun h => by rw [Bd.returns] at h; cases h)
  refine ⟨_, ?_, hPend _ _ hrun hended ⟨_, _, rfl, ?_, ⟨_, rfl⟩, hW, hsame.mono (by decide) (by decide)⟩⟩
  · exact retN X2 hx (t := .boolean) Bd.returns (by simp) (hb hby own_d_prog_30_method_5_code_19) hr
  · show Q_rm_js1 Z _ _ _ _ _ _ h0 n0 _ T2.heap _
    rw [e2]
    exact ⟨rfl, N0, rfl⟩
theorem own_ef_rm_pick2 (m : MethodId) (x0 : Int32) : entryFrame m #[(.int x0)] 1 = mkF m 0 #[.val (.int x0)] [] := by first | (simp [entryFrame, mkF, argsToLocals, Value.category]; done) | rfl
theorem own_d_method_2_code_17 : decode method_2_code 17 = .ok (.iload_n 0, 1) := by decide +kernel
theorem own_d_method_2_code_18 : decode method_2_code 18 = .ok (.iconst 2, 1) := by decide +kernel
theorem own_d_method_2_code_19 : decode method_2_code 19 = .ok (.if_icmp .ne 7, 3) := by decide +kernel
theorem own_d_method_2_code_22 : decode method_2_code 22 = .ok (.getstatic 16, 3) := by decide +kernel
theorem own_d_method_2_code_25 : decode method_2_code 25 = .ok (.areturn, 1) := by decide +kernel
def Q_rm_pick2 (Z : State) (w_A : Addr) (w_B : Addr) (w_C : Addr) (w_D : Addr) (w_E : Addr) (w_F : Addr) (h0 : Heap) (n0 : Nat) (v : Option Value) (h : Heap) (L : List Loc) : Prop := v = some (.ref w_C) ∧ Fr n0 L ∧ h = h0
set_option maxRecDepth 65536 in
set_option maxHeartbeats 40000000 in
theorem rm_pick2 (l : Launch) (Z : State) (a0 : Array Value) (hw : ∀ d ∈ tables_1, d.before a0 Z = true) (ws : List Jvm.Cond) (w_A : Addr) (S_A : Sta Z Z.heap "com/example/strikeboard/strikeboard/engine/Guideline$Kind" "NO_ACTION" "Lcom/example/strikeboard/strikeboard/engine/Guideline$Kind;" (.ref w_A)) (X_A : Exa Z Z.heap w_A "com/example/strikeboard/strikeboard/engine/Guideline$Kind") (w_B : Addr) (S_B : Sta Z Z.heap "com/example/strikeboard/strikeboard/engine/Guideline$Kind" "WARNING" "Lcom/example/strikeboard/strikeboard/engine/Guideline$Kind;" (.ref w_B)) (X_B : Exa Z Z.heap w_B "com/example/strikeboard/strikeboard/engine/Guideline$Kind") (w_C : Addr) (S_C : Sta Z Z.heap "com/example/strikeboard/strikeboard/engine/Guideline$Kind" "KICK" "Lcom/example/strikeboard/strikeboard/engine/Guideline$Kind;" (.ref w_C)) (X_C : Exa Z Z.heap w_C "com/example/strikeboard/strikeboard/engine/Guideline$Kind") (w_D : Addr) (S_D : Sta Z Z.heap "com/example/strikeboard/strikeboard/engine/Guideline$Kind" "BANS" "Lcom/example/strikeboard/strikeboard/engine/Guideline$Kind;" (.ref w_D)) (X_D : Exa Z Z.heap w_D "com/example/strikeboard/strikeboard/engine/Guideline$Kind") (w_E : Addr) (S_E : Sta Z Z.heap "com/example/strikeboard/strikeboard/engine/Guideline$Kind" "VOUCHER_BAN" "Lcom/example/strikeboard/strikeboard/engine/Guideline$Kind;" (.ref w_E)) (X_E : Exa Z Z.heap w_E "com/example/strikeboard/strikeboard/engine/Guideline$Kind") (w_F : Addr) (S_F : Sta Z Z.heap "com/example/strikeboard/strikeboard/engine/Guideline$Kind" "PERMANENT_BAN" "Lcom/example/strikeboard/strikeboard/engine/Guideline$Kind;" (.ref w_F)) (X_F : Exa Z Z.heap w_F "com/example/strikeboard/strikeboard/engine/Guideline$Kind") (ne_A_E : w_A ≠ w_E) (ne_A_F : w_A ≠ w_F) (ne_B_E : w_B ≠ w_E) (ne_B_F : w_B ≠ w_F) (ne_C_E : w_C ≠ w_E) (ne_C_F : w_C ≠ w_F) (ne_D_E : w_D ≠ w_E) (ne_D_F : w_D ≠ w_F) (ne_E_F : w_E ≠ w_F) (h0 : Heap) (n0 : Nat) (X00 : Old Z n0 h0)  :
    MetFree l (⟨"com/example/strikeboard/strikeboard/engine/KindIsEndlessBanPinLaw", "pick", "(I)Lcom/example/strikeboard/strikeboard/engine/Guideline$Kind;"⟩ : MethodName) (head1 (Jvm.Cond.code (⟨"com/example/strikeboard/strikeboard/engine/KindIsEndlessBanPinLaw", "pick", "(I)Lcom/example/strikeboard/strikeboard/engine/Guideline$Kind;"⟩ : MethodName) method_2_code 1 (some (.object "com/example/strikeboard/strikeboard/engine/Guideline$Kind")) :: ws) ({ frames := 0, cells := 0, slots := 0, locals := 0 } : Room)) (fun a U => a = #[(.int (2 : Int32))] ∧ Z.Warmed39 U.vm ∧ U.heap = h0) (fun _ _ _ _ _ => True) (fun _ U o U' => ∃ v L, o = .returned v ∧ Q_rm_pick2 Z w_A w_B w_C w_D w_E w_F h0 n0 v U'.heap L ∧ FrameEnd U o U' L ({ frames := 0, cells := 0, slots := 0, locals := 0 } : Room).cells ({ frames := 0, cells := 0, slots := 0, locals := 0 } : Room).slots) := by
  refine MetFree.of_bodySF (plainFor_of_name own_pn0) hisR ?_
  intro p e s m args below meth c s₁ Bd hml0 hP hK
  obtain ⟨rfl, hZ, hh⟩ := hP
  have hx := Bd.exec
  have hby := Bd.bytes
  have hml : c.maxLocals = 1 := hml0
  have hown : s.vm.findClass "com/example/strikeboard/strikeboard/engine/KindIsEndlessBanPinLaw" = some m.cls := findClass_of_methodNamed Bd.named
  have hnm := (name_of_methodNamed Bd.named Bd.method).1
  have X0 : Stand p l e ({ frames := 0, cells := 0, slots := 0, locals := 0 } : Room) s m #[(.int (2 : Int32))] below meth c s₁ [] 0 0 := Stand.of_body Bd
  have e0 : s₁.heap = h0 := by rw [← hh, Bd.state]; rfl
  have N0 := Fr.nil n0
  refine Go.start fun P hPend => ?_
  refine Go.st (fun _ k => castTop (own_ef_rm_pick2 m ((2 : Int32))) k) ?_
  show Go p.tables e below P (s₁.setTop (mkF m 0 #[.val (.int (2 : Int32))] []))
  refine Go.st (fun _ => XS.iloadN X0.here hx rfl (hb hby own_d_method_2_code_0) rfl) ?_
  show Go p.tables e below P (s₁.setTop (mkF m 1 #[.val (.int (2 : Int32))] [(.int (2 : Int32))]))
  refine Go.st (fun _ => XS.ifYes X0.here hx rfl (pc0 := 1) (pc' := 8) rfl (hb hby own_d_method_2_code_1) rfl ((if0 _ _).trans (feq (by decide)).2) (by decide) (by decide)) ?_
  show Go p.tables e below P (s₁.setTop (mkF m 8 #[.val (.int (2 : Int32))] []))
  refine Go.st (fun _ => XS.iloadN X0.here hx rfl (hb hby own_d_method_2_code_8) rfl) ?_
  show Go p.tables e below P (s₁.setTop (mkF m 9 #[.val (.int (2 : Int32))] [(.int (2 : Int32))]))
  refine Go.st (fun _ => XS.iconst X0.here hx rfl (hb hby own_d_method_2_code_9)) ?_
  show Go p.tables e below P (s₁.setTop (mkF m 10 #[.val (.int (2 : Int32))] [(.int (1 : Int32)), (.int (2 : Int32))]))
  refine Go.st (fun _ => XS.icmpYes X0.here hx rfl (pc0 := 10) (pc' := 17) rfl (hb hby own_d_method_2_code_10) rfl (feq (by decide)).2 (by decide) (by decide)) ?_
  show Go p.tables e below P (s₁.setTop (mkF m 17 #[.val (.int (2 : Int32))] []))
  refine Go.st (fun _ => XS.iloadN X0.here hx rfl (hb hby own_d_method_2_code_17) rfl) ?_
  show Go p.tables e below P (s₁.setTop (mkF m 18 #[.val (.int (2 : Int32))] [(.int (2 : Int32))]))
  refine Go.st (fun _ => XS.iconst X0.here hx rfl (hb hby own_d_method_2_code_18)) ?_
  show Go p.tables e below P (s₁.setTop (mkF m 19 #[.val (.int (2 : Int32))] [(.int (2 : Int32)), (.int (2 : Int32))]))
  refine Go.st (fun _ => XS.icmpNo X0.here hx rfl (hb hby own_d_method_2_code_19) rfl (teq (by decide)).2) ?_
  show Go p.tables e below P (s₁.setTop (mkF m 22 #[.val (.int (2 : Int32))] []))
  obtain ⟨T1, X1, e1, st1⟩ := getS2 X0 hx hZ hown (host := "") (Or.inl (hw _ (List.mem_of_getElem? (i := 19) rfl))) Via.refl e0 (S_C.ext X00.2) (g := (mkF m 22 #[.val (.int (2 : Int32))] [])) rfl (hb hby own_d_method_2_code_22)
  refine Go.st st1 ?_
  show Go p.tables e below P (T1.setTop (mkF m 25 #[.val (.int (2 : Int32))] [(.ref w_C)]))
  obtain ⟨fs, hr, hrun, hended, hW, hsame⟩ := X1.leave (v := some (.ref w_C)) (fun h => by rw [Bd.returns] at h; cases h)
  refine ⟨_, ?_, hPend _ _ hrun hended ⟨_, _, rfl, ?_, ⟨_, rfl⟩, hW, hsame.mono (by decide) (by decide)⟩⟩
  · exact retOut X1 hx (t := (.object "com/example/strikeboard/strikeboard/engine/Guideline$Kind")) Bd.returns rfl (Or.inr (Or.inr (Or.inr (Or.inr ⟨rfl, rfl, rfl⟩)))) (hb hby own_d_method_2_code_25) hr
  · show Q_rm_pick2 Z _ _ _ _ _ _ h0 n0 _ T1.heap _
    rw [e1]
    exact ⟨rfl, N0, rfl⟩
theorem own_ef_rm_js2 (m : MethodId) (x0 : Addr) : entryFrame m #[(.ref x0)] 1 = mkF m 0 #[.val (.ref x0)] [] := by first | (simp [entryFrame, mkF, argsToLocals, Value.category]; done) | rfl
def Q_rm_js2 (Z : State) (w_A : Addr) (w_B : Addr) (w_C : Addr) (w_D : Addr) (w_E : Addr) (w_F : Addr) (h0 : Heap) (n0 : Nat) (v : Option Value) (h : Heap) (L : List Loc) : Prop := v = some (.int (0 : Int32)) ∧ Fr n0 L ∧ h = h0
set_option maxRecDepth 65536 in
set_option maxHeartbeats 40000000 in
theorem rm_js2 (l : Launch) (Z : State) (a0 : Array Value) (hw : ∀ d ∈ tables_1, d.before a0 Z = true) (ws : List Jvm.Cond) (w_A : Addr) (S_A : Sta Z Z.heap "com/example/strikeboard/strikeboard/engine/Guideline$Kind" "NO_ACTION" "Lcom/example/strikeboard/strikeboard/engine/Guideline$Kind;" (.ref w_A)) (X_A : Exa Z Z.heap w_A "com/example/strikeboard/strikeboard/engine/Guideline$Kind") (w_B : Addr) (S_B : Sta Z Z.heap "com/example/strikeboard/strikeboard/engine/Guideline$Kind" "WARNING" "Lcom/example/strikeboard/strikeboard/engine/Guideline$Kind;" (.ref w_B)) (X_B : Exa Z Z.heap w_B "com/example/strikeboard/strikeboard/engine/Guideline$Kind") (w_C : Addr) (S_C : Sta Z Z.heap "com/example/strikeboard/strikeboard/engine/Guideline$Kind" "KICK" "Lcom/example/strikeboard/strikeboard/engine/Guideline$Kind;" (.ref w_C)) (X_C : Exa Z Z.heap w_C "com/example/strikeboard/strikeboard/engine/Guideline$Kind") (w_D : Addr) (S_D : Sta Z Z.heap "com/example/strikeboard/strikeboard/engine/Guideline$Kind" "BANS" "Lcom/example/strikeboard/strikeboard/engine/Guideline$Kind;" (.ref w_D)) (X_D : Exa Z Z.heap w_D "com/example/strikeboard/strikeboard/engine/Guideline$Kind") (w_E : Addr) (S_E : Sta Z Z.heap "com/example/strikeboard/strikeboard/engine/Guideline$Kind" "VOUCHER_BAN" "Lcom/example/strikeboard/strikeboard/engine/Guideline$Kind;" (.ref w_E)) (X_E : Exa Z Z.heap w_E "com/example/strikeboard/strikeboard/engine/Guideline$Kind") (w_F : Addr) (S_F : Sta Z Z.heap "com/example/strikeboard/strikeboard/engine/Guideline$Kind" "PERMANENT_BAN" "Lcom/example/strikeboard/strikeboard/engine/Guideline$Kind;" (.ref w_F)) (X_F : Exa Z Z.heap w_F "com/example/strikeboard/strikeboard/engine/Guideline$Kind") (ne_A_E : w_A ≠ w_E) (ne_A_F : w_A ≠ w_F) (ne_B_E : w_B ≠ w_E) (ne_B_F : w_B ≠ w_F) (ne_C_E : w_C ≠ w_E) (ne_C_F : w_C ≠ w_F) (ne_D_E : w_D ≠ w_E) (ne_D_F : w_D ≠ w_F) (ne_E_F : w_E ≠ w_F) (h0 : Heap) (n0 : Nat) (X00 : Old Z n0 h0)  :
    MetFree l (⟨"com/example/strikeboard/strikeboard/engine/Guideline$Kind", "isEndlessBan", "()Z"⟩ : MethodName) (head1 (Jvm.Cond.code (⟨"com/example/strikeboard/strikeboard/engine/Guideline$Kind", "isEndlessBan", "()Z"⟩ : MethodName) prog_30_method_5_code 1 (some .boolean) :: ws) ({ frames := 0, cells := 0, slots := 0, locals := 0 } : Room)) (fun a U => a = #[(.ref w_C)] ∧ Z.Warmed39 U.vm ∧ U.heap = h0) (fun _ _ _ _ _ => True) (fun _ U o U' => ∃ v L, o = .returned v ∧ Q_rm_js2 Z w_A w_B w_C w_D w_E w_F h0 n0 v U'.heap L ∧ FrameEnd U o U' L ({ frames := 0, cells := 0, slots := 0, locals := 0 } : Room).cells ({ frames := 0, cells := 0, slots := 0, locals := 0 } : Room).slots) := by
  refine MetFree.of_bodySF (plainFor_of_name own_pn1) hisR ?_
  intro p e s m args below meth c s₁ Bd hml0 hP hK
  obtain ⟨rfl, hZ, hh⟩ := hP
  have hx := Bd.exec
  have hby := Bd.bytes
  have hml : c.maxLocals = 1 := hml0
  have hown : s.vm.findClass "com/example/strikeboard/strikeboard/engine/Guideline$Kind" = some m.cls := findClass_of_methodNamed Bd.named
  have hnm := (name_of_methodNamed Bd.named Bd.method).1
  have X0 : Stand p l e ({ frames := 0, cells := 0, slots := 0, locals := 0 } : Room) s m #[(.ref w_C)] below meth c s₁ [] 0 0 := Stand.of_body Bd
  have e0 : s₁.heap = h0 := by rw [← hh, Bd.state]; rfl
  have N0 := Fr.nil n0
  refine Go.start fun P hPend => ?_
  refine Go.st (fun _ k => castTop (own_ef_rm_js2 m w_C) k) ?_
  show Go p.tables e below P (s₁.setTop (mkF m 0 #[.val (.ref w_C)] []))
  refine Go.st (fun _ => XS.aloadN X0.here hx rfl (hb hby own_d_prog_30_method_5_code_0) rfl rfl) ?_
  show Go p.tables e below P (s₁.setTop (mkF m 1 #[.val (.ref w_C)] [(.ref w_C)]))
  obtain ⟨T1, X1, e1, st1⟩ := getS2 X0 hx hZ hown (host := "") (Or.inl (hw _ (List.mem_of_getElem? (i := 13) rfl))) Via.refl e0 (S_E.ext X00.2) (g := (mkF m 1 #[.val (.ref w_C)] [(.ref w_C)])) rfl (hb hby own_d_prog_30_method_5_code_1)
  refine Go.st st1 ?_
  show Go p.tables e below P (T1.setTop (mkF m 4 #[.val (.ref w_C)] [(.ref w_E), (.ref w_C)]))
  refine Go.st (fun _ => Jvm.RoadKit.acmp (g := (mkF m 4 #[.val (.ref w_C)] [(.ref w_E), (.ref w_C)])) X1 hx rfl rfl rfl (pc0 := 4) (pc' := 7) (same := false) rfl (hb hby own_d_prog_30_method_5_code_4) rfl (decide_eq_false (fun q => ne_C_E (Value.ref.inj q))) (by decide) (by decide)) ?_
  show Go p.tables e below P (T1.setTop (mkF m 7 #[.val (.ref w_C)] []))
  refine Go.st (fun _ => XS.aloadN X1.here hx rfl (hb hby own_d_prog_30_method_5_code_7) rfl rfl) ?_
  show Go p.tables e below P (T1.setTop (mkF m 8 #[.val (.ref w_C)] [(.ref w_C)]))
  obtain ⟨T2, X2, e2, st2⟩ := getS2 X1 hx hZ hown (host := "") (Or.inl (hw _ (List.mem_of_getElem? (i := 15) rfl))) Via.refl e1 (S_F.ext X00.2) (g := (mkF m 8 #[.val (.ref w_C)] [(.ref w_C)])) rfl (hb hby own_d_prog_30_method_5_code_8)
  refine Go.st st2 ?_
  show Go p.tables e below P (T2.setTop (mkF m 11 #[.val (.ref w_C)] [(.ref w_F), (.ref w_C)]))
  refine Go.st (fun _ => Jvm.RoadKit.acmp (g := (mkF m 11 #[.val (.ref w_C)] [(.ref w_F), (.ref w_C)])) X2 hx rfl rfl rfl (pc0 := 11) (pc' := 18) (same := false) rfl (hb hby own_d_prog_30_method_5_code_11) rfl (decide_eq_false (fun q => ne_C_F (Value.ref.inj q))) (by decide) (by decide)) ?_
  show Go p.tables e below P (T2.setTop (mkF m 18 #[.val (.ref w_C)] []))
  refine Go.st (fun _ => XS.iconst X2.here hx rfl (hb hby own_d_prog_30_method_5_code_18)) ?_
  show Go p.tables e below P (T2.setTop (mkF m 19 #[.val (.ref w_C)] [(.int (0 : Int32))]))
  obtain ⟨fs, hr, hrun, hended, hW, hsame⟩ := X2.leave (v := some (.int (0 : Int32))) (fun h => by rw [Bd.returns] at h; cases h)
  refine ⟨_, ?_, hPend _ _ hrun hended ⟨_, _, rfl, ?_, ⟨_, rfl⟩, hW, hsame.mono (by decide) (by decide)⟩⟩
  · exact retN X2 hx (t := .boolean) Bd.returns (by simp) (hb hby own_d_prog_30_method_5_code_19) hr
  · show Q_rm_js2 Z _ _ _ _ _ _ h0 n0 _ T2.heap _
    rw [e2]
    exact ⟨rfl, N0, rfl⟩
theorem own_ef_rm_pick3 (m : MethodId) (x0 : Int32) : entryFrame m #[(.int x0)] 1 = mkF m 0 #[.val (.int x0)] [] := by first | (simp [entryFrame, mkF, argsToLocals, Value.category]; done) | rfl
theorem own_d_method_2_code_26 : decode method_2_code 26 = .ok (.iload_n 0, 1) := by decide +kernel
theorem own_d_method_2_code_27 : decode method_2_code 27 = .ok (.iconst 3, 1) := by decide +kernel
theorem own_d_method_2_code_28 : decode method_2_code 28 = .ok (.if_icmp .ne 7, 3) := by decide +kernel
theorem own_d_method_2_code_31 : decode method_2_code 31 = .ok (.getstatic 19, 3) := by decide +kernel
theorem own_d_method_2_code_34 : decode method_2_code 34 = .ok (.areturn, 1) := by decide +kernel
def Q_rm_pick3 (Z : State) (w_A : Addr) (w_B : Addr) (w_C : Addr) (w_D : Addr) (w_E : Addr) (w_F : Addr) (h0 : Heap) (n0 : Nat) (v : Option Value) (h : Heap) (L : List Loc) : Prop := v = some (.ref w_D) ∧ Fr n0 L ∧ h = h0
set_option maxRecDepth 65536 in
set_option maxHeartbeats 40000000 in
theorem rm_pick3 (l : Launch) (Z : State) (a0 : Array Value) (hw : ∀ d ∈ tables_1, d.before a0 Z = true) (ws : List Jvm.Cond) (w_A : Addr) (S_A : Sta Z Z.heap "com/example/strikeboard/strikeboard/engine/Guideline$Kind" "NO_ACTION" "Lcom/example/strikeboard/strikeboard/engine/Guideline$Kind;" (.ref w_A)) (X_A : Exa Z Z.heap w_A "com/example/strikeboard/strikeboard/engine/Guideline$Kind") (w_B : Addr) (S_B : Sta Z Z.heap "com/example/strikeboard/strikeboard/engine/Guideline$Kind" "WARNING" "Lcom/example/strikeboard/strikeboard/engine/Guideline$Kind;" (.ref w_B)) (X_B : Exa Z Z.heap w_B "com/example/strikeboard/strikeboard/engine/Guideline$Kind") (w_C : Addr) (S_C : Sta Z Z.heap "com/example/strikeboard/strikeboard/engine/Guideline$Kind" "KICK" "Lcom/example/strikeboard/strikeboard/engine/Guideline$Kind;" (.ref w_C)) (X_C : Exa Z Z.heap w_C "com/example/strikeboard/strikeboard/engine/Guideline$Kind") (w_D : Addr) (S_D : Sta Z Z.heap "com/example/strikeboard/strikeboard/engine/Guideline$Kind" "BANS" "Lcom/example/strikeboard/strikeboard/engine/Guideline$Kind;" (.ref w_D)) (X_D : Exa Z Z.heap w_D "com/example/strikeboard/strikeboard/engine/Guideline$Kind") (w_E : Addr) (S_E : Sta Z Z.heap "com/example/strikeboard/strikeboard/engine/Guideline$Kind" "VOUCHER_BAN" "Lcom/example/strikeboard/strikeboard/engine/Guideline$Kind;" (.ref w_E)) (X_E : Exa Z Z.heap w_E "com/example/strikeboard/strikeboard/engine/Guideline$Kind") (w_F : Addr) (S_F : Sta Z Z.heap "com/example/strikeboard/strikeboard/engine/Guideline$Kind" "PERMANENT_BAN" "Lcom/example/strikeboard/strikeboard/engine/Guideline$Kind;" (.ref w_F)) (X_F : Exa Z Z.heap w_F "com/example/strikeboard/strikeboard/engine/Guideline$Kind") (ne_A_E : w_A ≠ w_E) (ne_A_F : w_A ≠ w_F) (ne_B_E : w_B ≠ w_E) (ne_B_F : w_B ≠ w_F) (ne_C_E : w_C ≠ w_E) (ne_C_F : w_C ≠ w_F) (ne_D_E : w_D ≠ w_E) (ne_D_F : w_D ≠ w_F) (ne_E_F : w_E ≠ w_F) (h0 : Heap) (n0 : Nat) (X00 : Old Z n0 h0)  :
    MetFree l (⟨"com/example/strikeboard/strikeboard/engine/KindIsEndlessBanPinLaw", "pick", "(I)Lcom/example/strikeboard/strikeboard/engine/Guideline$Kind;"⟩ : MethodName) (head1 (Jvm.Cond.code (⟨"com/example/strikeboard/strikeboard/engine/KindIsEndlessBanPinLaw", "pick", "(I)Lcom/example/strikeboard/strikeboard/engine/Guideline$Kind;"⟩ : MethodName) method_2_code 1 (some (.object "com/example/strikeboard/strikeboard/engine/Guideline$Kind")) :: ws) ({ frames := 0, cells := 0, slots := 0, locals := 0 } : Room)) (fun a U => a = #[(.int (3 : Int32))] ∧ Z.Warmed39 U.vm ∧ U.heap = h0) (fun _ _ _ _ _ => True) (fun _ U o U' => ∃ v L, o = .returned v ∧ Q_rm_pick3 Z w_A w_B w_C w_D w_E w_F h0 n0 v U'.heap L ∧ FrameEnd U o U' L ({ frames := 0, cells := 0, slots := 0, locals := 0 } : Room).cells ({ frames := 0, cells := 0, slots := 0, locals := 0 } : Room).slots) := by
  refine MetFree.of_bodySF (plainFor_of_name own_pn0) hisR ?_
  intro p e s m args below meth c s₁ Bd hml0 hP hK
  obtain ⟨rfl, hZ, hh⟩ := hP
  have hx := Bd.exec
  have hby := Bd.bytes
  have hml : c.maxLocals = 1 := hml0
  have hown : s.vm.findClass "com/example/strikeboard/strikeboard/engine/KindIsEndlessBanPinLaw" = some m.cls := findClass_of_methodNamed Bd.named
  have hnm := (name_of_methodNamed Bd.named Bd.method).1
  have X0 : Stand p l e ({ frames := 0, cells := 0, slots := 0, locals := 0 } : Room) s m #[(.int (3 : Int32))] below meth c s₁ [] 0 0 := Stand.of_body Bd
  have e0 : s₁.heap = h0 := by rw [← hh, Bd.state]; rfl
  have N0 := Fr.nil n0
  refine Go.start fun P hPend => ?_
  refine Go.st (fun _ k => castTop (own_ef_rm_pick3 m ((3 : Int32))) k) ?_
  show Go p.tables e below P (s₁.setTop (mkF m 0 #[.val (.int (3 : Int32))] []))
  refine Go.st (fun _ => XS.iloadN X0.here hx rfl (hb hby own_d_method_2_code_0) rfl) ?_
  show Go p.tables e below P (s₁.setTop (mkF m 1 #[.val (.int (3 : Int32))] [(.int (3 : Int32))]))
  refine Go.st (fun _ => XS.ifYes X0.here hx rfl (pc0 := 1) (pc' := 8) rfl (hb hby own_d_method_2_code_1) rfl ((if0 _ _).trans (feq (by decide)).2) (by decide) (by decide)) ?_
  show Go p.tables e below P (s₁.setTop (mkF m 8 #[.val (.int (3 : Int32))] []))
  refine Go.st (fun _ => XS.iloadN X0.here hx rfl (hb hby own_d_method_2_code_8) rfl) ?_
  show Go p.tables e below P (s₁.setTop (mkF m 9 #[.val (.int (3 : Int32))] [(.int (3 : Int32))]))
  refine Go.st (fun _ => XS.iconst X0.here hx rfl (hb hby own_d_method_2_code_9)) ?_
  show Go p.tables e below P (s₁.setTop (mkF m 10 #[.val (.int (3 : Int32))] [(.int (1 : Int32)), (.int (3 : Int32))]))
  refine Go.st (fun _ => XS.icmpYes X0.here hx rfl (pc0 := 10) (pc' := 17) rfl (hb hby own_d_method_2_code_10) rfl (feq (by decide)).2 (by decide) (by decide)) ?_
  show Go p.tables e below P (s₁.setTop (mkF m 17 #[.val (.int (3 : Int32))] []))
  refine Go.st (fun _ => XS.iloadN X0.here hx rfl (hb hby own_d_method_2_code_17) rfl) ?_
  show Go p.tables e below P (s₁.setTop (mkF m 18 #[.val (.int (3 : Int32))] [(.int (3 : Int32))]))
  refine Go.st (fun _ => XS.iconst X0.here hx rfl (hb hby own_d_method_2_code_18)) ?_
  show Go p.tables e below P (s₁.setTop (mkF m 19 #[.val (.int (3 : Int32))] [(.int (2 : Int32)), (.int (3 : Int32))]))
  refine Go.st (fun _ => XS.icmpYes X0.here hx rfl (pc0 := 19) (pc' := 26) rfl (hb hby own_d_method_2_code_19) rfl (feq (by decide)).2 (by decide) (by decide)) ?_
  show Go p.tables e below P (s₁.setTop (mkF m 26 #[.val (.int (3 : Int32))] []))
  refine Go.st (fun _ => XS.iloadN X0.here hx rfl (hb hby own_d_method_2_code_26) rfl) ?_
  show Go p.tables e below P (s₁.setTop (mkF m 27 #[.val (.int (3 : Int32))] [(.int (3 : Int32))]))
  refine Go.st (fun _ => XS.iconst X0.here hx rfl (hb hby own_d_method_2_code_27)) ?_
  show Go p.tables e below P (s₁.setTop (mkF m 28 #[.val (.int (3 : Int32))] [(.int (3 : Int32)), (.int (3 : Int32))]))
  refine Go.st (fun _ => XS.icmpNo X0.here hx rfl (hb hby own_d_method_2_code_28) rfl (teq (by decide)).2) ?_
  show Go p.tables e below P (s₁.setTop (mkF m 31 #[.val (.int (3 : Int32))] []))
  obtain ⟨T1, X1, e1, st1⟩ := getS2 X0 hx hZ hown (host := "") (Or.inl (hw _ (List.mem_of_getElem? (i := 17) rfl))) Via.refl e0 (S_D.ext X00.2) (g := (mkF m 31 #[.val (.int (3 : Int32))] [])) rfl (hb hby own_d_method_2_code_31)
  refine Go.st st1 ?_
  show Go p.tables e below P (T1.setTop (mkF m 34 #[.val (.int (3 : Int32))] [(.ref w_D)]))
  obtain ⟨fs, hr, hrun, hended, hW, hsame⟩ := X1.leave (v := some (.ref w_D)) (fun h => by rw [Bd.returns] at h; cases h)
  refine ⟨_, ?_, hPend _ _ hrun hended ⟨_, _, rfl, ?_, ⟨_, rfl⟩, hW, hsame.mono (by decide) (by decide)⟩⟩
  · exact retOut X1 hx (t := (.object "com/example/strikeboard/strikeboard/engine/Guideline$Kind")) Bd.returns rfl (Or.inr (Or.inr (Or.inr (Or.inr ⟨rfl, rfl, rfl⟩)))) (hb hby own_d_method_2_code_34) hr
  · show Q_rm_pick3 Z _ _ _ _ _ _ h0 n0 _ T1.heap _
    rw [e1]
    exact ⟨rfl, N0, rfl⟩
theorem own_ef_rm_js3 (m : MethodId) (x0 : Addr) : entryFrame m #[(.ref x0)] 1 = mkF m 0 #[.val (.ref x0)] [] := by first | (simp [entryFrame, mkF, argsToLocals, Value.category]; done) | rfl
def Q_rm_js3 (Z : State) (w_A : Addr) (w_B : Addr) (w_C : Addr) (w_D : Addr) (w_E : Addr) (w_F : Addr) (h0 : Heap) (n0 : Nat) (v : Option Value) (h : Heap) (L : List Loc) : Prop := v = some (.int (0 : Int32)) ∧ Fr n0 L ∧ h = h0
set_option maxRecDepth 65536 in
set_option maxHeartbeats 40000000 in
theorem rm_js3 (l : Launch) (Z : State) (a0 : Array Value) (hw : ∀ d ∈ tables_1, d.before a0 Z = true) (ws : List Jvm.Cond) (w_A : Addr) (S_A : Sta Z Z.heap "com/example/strikeboard/strikeboard/engine/Guideline$Kind" "NO_ACTION" "Lcom/example/strikeboard/strikeboard/engine/Guideline$Kind;" (.ref w_A)) (X_A : Exa Z Z.heap w_A "com/example/strikeboard/strikeboard/engine/Guideline$Kind") (w_B : Addr) (S_B : Sta Z Z.heap "com/example/strikeboard/strikeboard/engine/Guideline$Kind" "WARNING" "Lcom/example/strikeboard/strikeboard/engine/Guideline$Kind;" (.ref w_B)) (X_B : Exa Z Z.heap w_B "com/example/strikeboard/strikeboard/engine/Guideline$Kind") (w_C : Addr) (S_C : Sta Z Z.heap "com/example/strikeboard/strikeboard/engine/Guideline$Kind" "KICK" "Lcom/example/strikeboard/strikeboard/engine/Guideline$Kind;" (.ref w_C)) (X_C : Exa Z Z.heap w_C "com/example/strikeboard/strikeboard/engine/Guideline$Kind") (w_D : Addr) (S_D : Sta Z Z.heap "com/example/strikeboard/strikeboard/engine/Guideline$Kind" "BANS" "Lcom/example/strikeboard/strikeboard/engine/Guideline$Kind;" (.ref w_D)) (X_D : Exa Z Z.heap w_D "com/example/strikeboard/strikeboard/engine/Guideline$Kind") (w_E : Addr) (S_E : Sta Z Z.heap "com/example/strikeboard/strikeboard/engine/Guideline$Kind" "VOUCHER_BAN" "Lcom/example/strikeboard/strikeboard/engine/Guideline$Kind;" (.ref w_E)) (X_E : Exa Z Z.heap w_E "com/example/strikeboard/strikeboard/engine/Guideline$Kind") (w_F : Addr) (S_F : Sta Z Z.heap "com/example/strikeboard/strikeboard/engine/Guideline$Kind" "PERMANENT_BAN" "Lcom/example/strikeboard/strikeboard/engine/Guideline$Kind;" (.ref w_F)) (X_F : Exa Z Z.heap w_F "com/example/strikeboard/strikeboard/engine/Guideline$Kind") (ne_A_E : w_A ≠ w_E) (ne_A_F : w_A ≠ w_F) (ne_B_E : w_B ≠ w_E) (ne_B_F : w_B ≠ w_F) (ne_C_E : w_C ≠ w_E) (ne_C_F : w_C ≠ w_F) (ne_D_E : w_D ≠ w_E) (ne_D_F : w_D ≠ w_F) (ne_E_F : w_E ≠ w_F) (h0 : Heap) (n0 : Nat) (X00 : Old Z n0 h0)  :
    MetFree l (⟨"com/example/strikeboard/strikeboard/engine/Guideline$Kind", "isEndlessBan", "()Z"⟩ : MethodName) (head1 (Jvm.Cond.code (⟨"com/example/strikeboard/strikeboard/engine/Guideline$Kind", "isEndlessBan", "()Z"⟩ : MethodName) prog_30_method_5_code 1 (some .boolean) :: ws) ({ frames := 0, cells := 0, slots := 0, locals := 0 } : Room)) (fun a U => a = #[(.ref w_D)] ∧ Z.Warmed39 U.vm ∧ U.heap = h0) (fun _ _ _ _ _ => True) (fun _ U o U' => ∃ v L, o = .returned v ∧ Q_rm_js3 Z w_A w_B w_C w_D w_E w_F h0 n0 v U'.heap L ∧ FrameEnd U o U' L ({ frames := 0, cells := 0, slots := 0, locals := 0 } : Room).cells ({ frames := 0, cells := 0, slots := 0, locals := 0 } : Room).slots) := by
  refine MetFree.of_bodySF (plainFor_of_name own_pn1) hisR ?_
  intro p e s m args below meth c s₁ Bd hml0 hP hK
  obtain ⟨rfl, hZ, hh⟩ := hP
  have hx := Bd.exec
  have hby := Bd.bytes
  have hml : c.maxLocals = 1 := hml0
  have hown : s.vm.findClass "com/example/strikeboard/strikeboard/engine/Guideline$Kind" = some m.cls := findClass_of_methodNamed Bd.named
  have hnm := (name_of_methodNamed Bd.named Bd.method).1
  have X0 : Stand p l e ({ frames := 0, cells := 0, slots := 0, locals := 0 } : Room) s m #[(.ref w_D)] below meth c s₁ [] 0 0 := Stand.of_body Bd
  have e0 : s₁.heap = h0 := by rw [← hh, Bd.state]; rfl
  have N0 := Fr.nil n0
  refine Go.start fun P hPend => ?_
  refine Go.st (fun _ k => castTop (own_ef_rm_js3 m w_D) k) ?_
  show Go p.tables e below P (s₁.setTop (mkF m 0 #[.val (.ref w_D)] []))
  refine Go.st (fun _ => XS.aloadN X0.here hx rfl (hb hby own_d_prog_30_method_5_code_0) rfl rfl) ?_
  show Go p.tables e below P (s₁.setTop (mkF m 1 #[.val (.ref w_D)] [(.ref w_D)]))
  obtain ⟨T1, X1, e1, st1⟩ := getS2 X0 hx hZ hown (host := "") (Or.inl (hw _ (List.mem_of_getElem? (i := 13) rfl))) Via.refl e0 (S_E.ext X00.2) (g := (mkF m 1 #[.val (.ref w_D)] [(.ref w_D)])) rfl (hb hby own_d_prog_30_method_5_code_1)
  refine Go.st st1 ?_
  show Go p.tables e below P (T1.setTop (mkF m 4 #[.val (.ref w_D)] [(.ref w_E), (.ref w_D)]))
  refine Go.st (fun _ => Jvm.RoadKit.acmp (g := (mkF m 4 #[.val (.ref w_D)] [(.ref w_E), (.ref w_D)])) X1 hx rfl rfl rfl (pc0 := 4) (pc' := 7) (same := false) rfl (hb hby own_d_prog_30_method_5_code_4) rfl (decide_eq_false (fun q => ne_D_E (Value.ref.inj q))) (by decide) (by decide)) ?_
  show Go p.tables e below P (T1.setTop (mkF m 7 #[.val (.ref w_D)] []))
  refine Go.st (fun _ => XS.aloadN X1.here hx rfl (hb hby own_d_prog_30_method_5_code_7) rfl rfl) ?_
  show Go p.tables e below P (T1.setTop (mkF m 8 #[.val (.ref w_D)] [(.ref w_D)]))
  obtain ⟨T2, X2, e2, st2⟩ := getS2 X1 hx hZ hown (host := "") (Or.inl (hw _ (List.mem_of_getElem? (i := 15) rfl))) Via.refl e1 (S_F.ext X00.2) (g := (mkF m 8 #[.val (.ref w_D)] [(.ref w_D)])) rfl (hb hby own_d_prog_30_method_5_code_8)
  refine Go.st st2 ?_
  show Go p.tables e below P (T2.setTop (mkF m 11 #[.val (.ref w_D)] [(.ref w_F), (.ref w_D)]))
  refine Go.st (fun _ => Jvm.RoadKit.acmp (g := (mkF m 11 #[.val (.ref w_D)] [(.ref w_F), (.ref w_D)])) X2 hx rfl rfl rfl (pc0 := 11) (pc' := 18) (same := false) rfl (hb hby own_d_prog_30_method_5_code_11) rfl (decide_eq_false (fun q => ne_D_F (Value.ref.inj q))) (by decide) (by decide)) ?_
  show Go p.tables e below P (T2.setTop (mkF m 18 #[.val (.ref w_D)] []))
  refine Go.st (fun _ => XS.iconst X2.here hx rfl (hb hby own_d_prog_30_method_5_code_18)) ?_
  show Go p.tables e below P (T2.setTop (mkF m 19 #[.val (.ref w_D)] [(.int (0 : Int32))]))
  obtain ⟨fs, hr, hrun, hended, hW, hsame⟩ := X2.leave (v := some (.int (0 : Int32))) (fun h => by rw [Bd.returns] at h; cases h)
  refine ⟨_, ?_, hPend _ _ hrun hended ⟨_, _, rfl, ?_, ⟨_, rfl⟩, hW, hsame.mono (by decide) (by decide)⟩⟩
  · exact retN X2 hx (t := .boolean) Bd.returns (by simp) (hb hby own_d_prog_30_method_5_code_19) hr
  · show Q_rm_js3 Z _ _ _ _ _ _ h0 n0 _ T2.heap _
    rw [e2]
    exact ⟨rfl, N0, rfl⟩
theorem own_ef_rm_pick4 (m : MethodId) (x0 : Int32) : entryFrame m #[(.int x0)] 1 = mkF m 0 #[.val (.int x0)] [] := by first | (simp [entryFrame, mkF, argsToLocals, Value.category]; done) | rfl
theorem own_d_method_2_code_35 : decode method_2_code 35 = .ok (.iload_n 0, 1) := by decide +kernel
theorem own_d_method_2_code_36 : decode method_2_code 36 = .ok (.iconst 4, 1) := by decide +kernel
theorem own_d_method_2_code_37 : decode method_2_code 37 = .ok (.if_icmp .ne 7, 3) := by decide +kernel
theorem own_d_method_2_code_40 : decode method_2_code 40 = .ok (.getstatic 22, 3) := by decide +kernel
theorem own_d_method_2_code_43 : decode method_2_code 43 = .ok (.areturn, 1) := by decide +kernel
def Q_rm_pick4 (Z : State) (w_A : Addr) (w_B : Addr) (w_C : Addr) (w_D : Addr) (w_E : Addr) (w_F : Addr) (h0 : Heap) (n0 : Nat) (v : Option Value) (h : Heap) (L : List Loc) : Prop := v = some (.ref w_E) ∧ Fr n0 L ∧ h = h0
set_option maxRecDepth 65536 in
set_option maxHeartbeats 40000000 in
theorem rm_pick4 (l : Launch) (Z : State) (a0 : Array Value) (hw : ∀ d ∈ tables_1, d.before a0 Z = true) (ws : List Jvm.Cond) (w_A : Addr) (S_A : Sta Z Z.heap "com/example/strikeboard/strikeboard/engine/Guideline$Kind" "NO_ACTION" "Lcom/example/strikeboard/strikeboard/engine/Guideline$Kind;" (.ref w_A)) (X_A : Exa Z Z.heap w_A "com/example/strikeboard/strikeboard/engine/Guideline$Kind") (w_B : Addr) (S_B : Sta Z Z.heap "com/example/strikeboard/strikeboard/engine/Guideline$Kind" "WARNING" "Lcom/example/strikeboard/strikeboard/engine/Guideline$Kind;" (.ref w_B)) (X_B : Exa Z Z.heap w_B "com/example/strikeboard/strikeboard/engine/Guideline$Kind") (w_C : Addr) (S_C : Sta Z Z.heap "com/example/strikeboard/strikeboard/engine/Guideline$Kind" "KICK" "Lcom/example/strikeboard/strikeboard/engine/Guideline$Kind;" (.ref w_C)) (X_C : Exa Z Z.heap w_C "com/example/strikeboard/strikeboard/engine/Guideline$Kind") (w_D : Addr) (S_D : Sta Z Z.heap "com/example/strikeboard/strikeboard/engine/Guideline$Kind" "BANS" "Lcom/example/strikeboard/strikeboard/engine/Guideline$Kind;" (.ref w_D)) (X_D : Exa Z Z.heap w_D "com/example/strikeboard/strikeboard/engine/Guideline$Kind") (w_E : Addr) (S_E : Sta Z Z.heap "com/example/strikeboard/strikeboard/engine/Guideline$Kind" "VOUCHER_BAN" "Lcom/example/strikeboard/strikeboard/engine/Guideline$Kind;" (.ref w_E)) (X_E : Exa Z Z.heap w_E "com/example/strikeboard/strikeboard/engine/Guideline$Kind") (w_F : Addr) (S_F : Sta Z Z.heap "com/example/strikeboard/strikeboard/engine/Guideline$Kind" "PERMANENT_BAN" "Lcom/example/strikeboard/strikeboard/engine/Guideline$Kind;" (.ref w_F)) (X_F : Exa Z Z.heap w_F "com/example/strikeboard/strikeboard/engine/Guideline$Kind") (ne_A_E : w_A ≠ w_E) (ne_A_F : w_A ≠ w_F) (ne_B_E : w_B ≠ w_E) (ne_B_F : w_B ≠ w_F) (ne_C_E : w_C ≠ w_E) (ne_C_F : w_C ≠ w_F) (ne_D_E : w_D ≠ w_E) (ne_D_F : w_D ≠ w_F) (ne_E_F : w_E ≠ w_F) (h0 : Heap) (n0 : Nat) (X00 : Old Z n0 h0)  :
    MetFree l (⟨"com/example/strikeboard/strikeboard/engine/KindIsEndlessBanPinLaw", "pick", "(I)Lcom/example/strikeboard/strikeboard/engine/Guideline$Kind;"⟩ : MethodName) (head1 (Jvm.Cond.code (⟨"com/example/strikeboard/strikeboard/engine/KindIsEndlessBanPinLaw", "pick", "(I)Lcom/example/strikeboard/strikeboard/engine/Guideline$Kind;"⟩ : MethodName) method_2_code 1 (some (.object "com/example/strikeboard/strikeboard/engine/Guideline$Kind")) :: ws) ({ frames := 0, cells := 0, slots := 0, locals := 0 } : Room)) (fun a U => a = #[(.int (4 : Int32))] ∧ Z.Warmed39 U.vm ∧ U.heap = h0) (fun _ _ _ _ _ => True) (fun _ U o U' => ∃ v L, o = .returned v ∧ Q_rm_pick4 Z w_A w_B w_C w_D w_E w_F h0 n0 v U'.heap L ∧ FrameEnd U o U' L ({ frames := 0, cells := 0, slots := 0, locals := 0 } : Room).cells ({ frames := 0, cells := 0, slots := 0, locals := 0 } : Room).slots) := by
  refine MetFree.of_bodySF (plainFor_of_name own_pn0) hisR ?_
  intro p e s m args below meth c s₁ Bd hml0 hP hK
  obtain ⟨rfl, hZ, hh⟩ := hP
  have hx := Bd.exec
  have hby := Bd.bytes
  have hml : c.maxLocals = 1 := hml0
  have hown : s.vm.findClass "com/example/strikeboard/strikeboard/engine/KindIsEndlessBanPinLaw" = some m.cls := findClass_of_methodNamed Bd.named
  have hnm := (name_of_methodNamed Bd.named Bd.method).1
  have X0 : Stand p l e ({ frames := 0, cells := 0, slots := 0, locals := 0 } : Room) s m #[(.int (4 : Int32))] below meth c s₁ [] 0 0 := Stand.of_body Bd
  have e0 : s₁.heap = h0 := by rw [← hh, Bd.state]; rfl
  have N0 := Fr.nil n0
  refine Go.start fun P hPend => ?_
  refine Go.st (fun _ k => castTop (own_ef_rm_pick4 m ((4 : Int32))) k) ?_
  show Go p.tables e below P (s₁.setTop (mkF m 0 #[.val (.int (4 : Int32))] []))
  refine Go.st (fun _ => XS.iloadN X0.here hx rfl (hb hby own_d_method_2_code_0) rfl) ?_
  show Go p.tables e below P (s₁.setTop (mkF m 1 #[.val (.int (4 : Int32))] [(.int (4 : Int32))]))
  refine Go.st (fun _ => XS.ifYes X0.here hx rfl (pc0 := 1) (pc' := 8) rfl (hb hby own_d_method_2_code_1) rfl ((if0 _ _).trans (feq (by decide)).2) (by decide) (by decide)) ?_
  show Go p.tables e below P (s₁.setTop (mkF m 8 #[.val (.int (4 : Int32))] []))
  refine Go.st (fun _ => XS.iloadN X0.here hx rfl (hb hby own_d_method_2_code_8) rfl) ?_
  show Go p.tables e below P (s₁.setTop (mkF m 9 #[.val (.int (4 : Int32))] [(.int (4 : Int32))]))
  refine Go.st (fun _ => XS.iconst X0.here hx rfl (hb hby own_d_method_2_code_9)) ?_
  show Go p.tables e below P (s₁.setTop (mkF m 10 #[.val (.int (4 : Int32))] [(.int (1 : Int32)), (.int (4 : Int32))]))
  refine Go.st (fun _ => XS.icmpYes X0.here hx rfl (pc0 := 10) (pc' := 17) rfl (hb hby own_d_method_2_code_10) rfl (feq (by decide)).2 (by decide) (by decide)) ?_
  show Go p.tables e below P (s₁.setTop (mkF m 17 #[.val (.int (4 : Int32))] []))
  refine Go.st (fun _ => XS.iloadN X0.here hx rfl (hb hby own_d_method_2_code_17) rfl) ?_
  show Go p.tables e below P (s₁.setTop (mkF m 18 #[.val (.int (4 : Int32))] [(.int (4 : Int32))]))
  refine Go.st (fun _ => XS.iconst X0.here hx rfl (hb hby own_d_method_2_code_18)) ?_
  show Go p.tables e below P (s₁.setTop (mkF m 19 #[.val (.int (4 : Int32))] [(.int (2 : Int32)), (.int (4 : Int32))]))
  refine Go.st (fun _ => XS.icmpYes X0.here hx rfl (pc0 := 19) (pc' := 26) rfl (hb hby own_d_method_2_code_19) rfl (feq (by decide)).2 (by decide) (by decide)) ?_
  show Go p.tables e below P (s₁.setTop (mkF m 26 #[.val (.int (4 : Int32))] []))
  refine Go.st (fun _ => XS.iloadN X0.here hx rfl (hb hby own_d_method_2_code_26) rfl) ?_
  show Go p.tables e below P (s₁.setTop (mkF m 27 #[.val (.int (4 : Int32))] [(.int (4 : Int32))]))
  refine Go.st (fun _ => XS.iconst X0.here hx rfl (hb hby own_d_method_2_code_27)) ?_
  show Go p.tables e below P (s₁.setTop (mkF m 28 #[.val (.int (4 : Int32))] [(.int (3 : Int32)), (.int (4 : Int32))]))
  refine Go.st (fun _ => XS.icmpYes X0.here hx rfl (pc0 := 28) (pc' := 35) rfl (hb hby own_d_method_2_code_28) rfl (feq (by decide)).2 (by decide) (by decide)) ?_
  show Go p.tables e below P (s₁.setTop (mkF m 35 #[.val (.int (4 : Int32))] []))
  refine Go.st (fun _ => XS.iloadN X0.here hx rfl (hb hby own_d_method_2_code_35) rfl) ?_
  show Go p.tables e below P (s₁.setTop (mkF m 36 #[.val (.int (4 : Int32))] [(.int (4 : Int32))]))
  refine Go.st (fun _ => XS.iconst X0.here hx rfl (hb hby own_d_method_2_code_36)) ?_
  show Go p.tables e below P (s₁.setTop (mkF m 37 #[.val (.int (4 : Int32))] [(.int (4 : Int32)), (.int (4 : Int32))]))
  refine Go.st (fun _ => XS.icmpNo X0.here hx rfl (hb hby own_d_method_2_code_37) rfl (teq (by decide)).2) ?_
  show Go p.tables e below P (s₁.setTop (mkF m 40 #[.val (.int (4 : Int32))] []))
  obtain ⟨T1, X1, e1, st1⟩ := getS2 X0 hx hZ hown (host := "") (Or.inl (hw _ (List.mem_of_getElem? (i := 24) rfl))) Via.refl e0 (S_E.ext X00.2) (g := (mkF m 40 #[.val (.int (4 : Int32))] [])) rfl (hb hby own_d_method_2_code_40)
  refine Go.st st1 ?_
  show Go p.tables e below P (T1.setTop (mkF m 43 #[.val (.int (4 : Int32))] [(.ref w_E)]))
  obtain ⟨fs, hr, hrun, hended, hW, hsame⟩ := X1.leave (v := some (.ref w_E)) (fun h => by rw [Bd.returns] at h; cases h)
  refine ⟨_, ?_, hPend _ _ hrun hended ⟨_, _, rfl, ?_, ⟨_, rfl⟩, hW, hsame.mono (by decide) (by decide)⟩⟩
  · exact retOut X1 hx (t := (.object "com/example/strikeboard/strikeboard/engine/Guideline$Kind")) Bd.returns rfl (Or.inr (Or.inr (Or.inr (Or.inr ⟨rfl, rfl, rfl⟩)))) (hb hby own_d_method_2_code_43) hr
  · show Q_rm_pick4 Z _ _ _ _ _ _ h0 n0 _ T1.heap _
    rw [e1]
    exact ⟨rfl, N0, rfl⟩
theorem own_ef_rm_js4 (m : MethodId) (x0 : Addr) : entryFrame m #[(.ref x0)] 1 = mkF m 0 #[.val (.ref x0)] [] := by first | (simp [entryFrame, mkF, argsToLocals, Value.category]; done) | rfl
theorem own_d_prog_30_method_5_code_14 : decode prog_30_method_5_code 14 = .ok (.iconst 1, 1) := by decide +kernel
theorem own_d_prog_30_method_5_code_15 : decode prog_30_method_5_code 15 = .ok (.goto 4, 3) := by decide +kernel
def Q_rm_js4 (Z : State) (w_A : Addr) (w_B : Addr) (w_C : Addr) (w_D : Addr) (w_E : Addr) (w_F : Addr) (h0 : Heap) (n0 : Nat) (v : Option Value) (h : Heap) (L : List Loc) : Prop := v = some (.int (1 : Int32)) ∧ Fr n0 L ∧ h = h0
set_option maxRecDepth 65536 in
set_option maxHeartbeats 40000000 in
theorem rm_js4 (l : Launch) (Z : State) (a0 : Array Value) (hw : ∀ d ∈ tables_1, d.before a0 Z = true) (ws : List Jvm.Cond) (w_A : Addr) (S_A : Sta Z Z.heap "com/example/strikeboard/strikeboard/engine/Guideline$Kind" "NO_ACTION" "Lcom/example/strikeboard/strikeboard/engine/Guideline$Kind;" (.ref w_A)) (X_A : Exa Z Z.heap w_A "com/example/strikeboard/strikeboard/engine/Guideline$Kind") (w_B : Addr) (S_B : Sta Z Z.heap "com/example/strikeboard/strikeboard/engine/Guideline$Kind" "WARNING" "Lcom/example/strikeboard/strikeboard/engine/Guideline$Kind;" (.ref w_B)) (X_B : Exa Z Z.heap w_B "com/example/strikeboard/strikeboard/engine/Guideline$Kind") (w_C : Addr) (S_C : Sta Z Z.heap "com/example/strikeboard/strikeboard/engine/Guideline$Kind" "KICK" "Lcom/example/strikeboard/strikeboard/engine/Guideline$Kind;" (.ref w_C)) (X_C : Exa Z Z.heap w_C "com/example/strikeboard/strikeboard/engine/Guideline$Kind") (w_D : Addr) (S_D : Sta Z Z.heap "com/example/strikeboard/strikeboard/engine/Guideline$Kind" "BANS" "Lcom/example/strikeboard/strikeboard/engine/Guideline$Kind;" (.ref w_D)) (X_D : Exa Z Z.heap w_D "com/example/strikeboard/strikeboard/engine/Guideline$Kind") (w_E : Addr) (S_E : Sta Z Z.heap "com/example/strikeboard/strikeboard/engine/Guideline$Kind" "VOUCHER_BAN" "Lcom/example/strikeboard/strikeboard/engine/Guideline$Kind;" (.ref w_E)) (X_E : Exa Z Z.heap w_E "com/example/strikeboard/strikeboard/engine/Guideline$Kind") (w_F : Addr) (S_F : Sta Z Z.heap "com/example/strikeboard/strikeboard/engine/Guideline$Kind" "PERMANENT_BAN" "Lcom/example/strikeboard/strikeboard/engine/Guideline$Kind;" (.ref w_F)) (X_F : Exa Z Z.heap w_F "com/example/strikeboard/strikeboard/engine/Guideline$Kind") (ne_A_E : w_A ≠ w_E) (ne_A_F : w_A ≠ w_F) (ne_B_E : w_B ≠ w_E) (ne_B_F : w_B ≠ w_F) (ne_C_E : w_C ≠ w_E) (ne_C_F : w_C ≠ w_F) (ne_D_E : w_D ≠ w_E) (ne_D_F : w_D ≠ w_F) (ne_E_F : w_E ≠ w_F) (h0 : Heap) (n0 : Nat) (X00 : Old Z n0 h0)  :
    MetFree l (⟨"com/example/strikeboard/strikeboard/engine/Guideline$Kind", "isEndlessBan", "()Z"⟩ : MethodName) (head1 (Jvm.Cond.code (⟨"com/example/strikeboard/strikeboard/engine/Guideline$Kind", "isEndlessBan", "()Z"⟩ : MethodName) prog_30_method_5_code 1 (some .boolean) :: ws) ({ frames := 0, cells := 0, slots := 0, locals := 0 } : Room)) (fun a U => a = #[(.ref w_E)] ∧ Z.Warmed39 U.vm ∧ U.heap = h0) (fun _ _ _ _ _ => True) (fun _ U o U' => ∃ v L, o = .returned v ∧ Q_rm_js4 Z w_A w_B w_C w_D w_E w_F h0 n0 v U'.heap L ∧ FrameEnd U o U' L ({ frames := 0, cells := 0, slots := 0, locals := 0 } : Room).cells ({ frames := 0, cells := 0, slots := 0, locals := 0 } : Room).slots) := by
  refine MetFree.of_bodySF (plainFor_of_name own_pn1) hisR ?_
  intro p e s m args below meth c s₁ Bd hml0 hP hK
  obtain ⟨rfl, hZ, hh⟩ := hP
  have hx := Bd.exec
  have hby := Bd.bytes
  have hml : c.maxLocals = 1 := hml0
  have hown : s.vm.findClass "com/example/strikeboard/strikeboard/engine/Guideline$Kind" = some m.cls := findClass_of_methodNamed Bd.named
  have hnm := (name_of_methodNamed Bd.named Bd.method).1
  have X0 : Stand p l e ({ frames := 0, cells := 0, slots := 0, locals := 0 } : Room) s m #[(.ref w_E)] below meth c s₁ [] 0 0 := Stand.of_body Bd
  have e0 : s₁.heap = h0 := by rw [← hh, Bd.state]; rfl
  have N0 := Fr.nil n0
  refine Go.start fun P hPend => ?_
  refine Go.st (fun _ k => castTop (own_ef_rm_js4 m w_E) k) ?_
  show Go p.tables e below P (s₁.setTop (mkF m 0 #[.val (.ref w_E)] []))
  refine Go.st (fun _ => XS.aloadN X0.here hx rfl (hb hby own_d_prog_30_method_5_code_0) rfl rfl) ?_
  show Go p.tables e below P (s₁.setTop (mkF m 1 #[.val (.ref w_E)] [(.ref w_E)]))
  obtain ⟨T1, X1, e1, st1⟩ := getS2 X0 hx hZ hown (host := "") (Or.inl (hw _ (List.mem_of_getElem? (i := 13) rfl))) Via.refl e0 (S_E.ext X00.2) (g := (mkF m 1 #[.val (.ref w_E)] [(.ref w_E)])) rfl (hb hby own_d_prog_30_method_5_code_1)
  refine Go.st st1 ?_
  show Go p.tables e below P (T1.setTop (mkF m 4 #[.val (.ref w_E)] [(.ref w_E), (.ref w_E)]))
  refine Go.st (fun _ => Jvm.RoadKit.acmp (g := (mkF m 4 #[.val (.ref w_E)] [(.ref w_E), (.ref w_E)])) X1 hx rfl rfl rfl (pc0 := 4) (pc' := 14) (same := true) rfl (hb hby own_d_prog_30_method_5_code_4) rfl (decide_eq_true rfl) (by decide) (by decide)) ?_
  show Go p.tables e below P (T1.setTop (mkF m 14 #[.val (.ref w_E)] []))
  refine Go.st (fun _ => XS.iconst X1.here hx rfl (hb hby own_d_prog_30_method_5_code_14)) ?_
  show Go p.tables e below P (T1.setTop (mkF m 15 #[.val (.ref w_E)] [(.int (1 : Int32))]))
  refine Go.st (fun _ => XS.goto X1.here hx rfl (pc0 := 15) (pc' := 19) rfl (hb hby own_d_prog_30_method_5_code_15) (by decide) (by decide)) ?_
  show Go p.tables e below P (T1.setTop (mkF m 19 #[.val (.ref w_E)] [(.int (1 : Int32))]))
  obtain ⟨fs, hr, hrun, hended, hW, hsame⟩ := X1.leave (v := some (.int (1 : Int32))) (fun h => by rw [Bd.returns] at h; cases h)
  refine ⟨_, ?_, hPend _ _ hrun hended ⟨_, _, rfl, ?_, ⟨_, rfl⟩, hW, hsame.mono (by decide) (by decide)⟩⟩
  · exact retN X1 hx (t := .boolean) Bd.returns (by simp) (hb hby own_d_prog_30_method_5_code_19) hr
  · show Q_rm_js4 Z _ _ _ _ _ _ h0 n0 _ T1.heap _
    rw [e1]
    exact ⟨rfl, N0, rfl⟩
theorem own_ef_rm_pick5 (m : MethodId) (x0 : Int32) : entryFrame m #[(.int x0)] 1 = mkF m 0 #[.val (.int x0)] [] := by first | (simp [entryFrame, mkF, argsToLocals, Value.category]; done) | rfl
theorem own_d_method_2_code_44 : decode method_2_code 44 = .ok (.getstatic 25, 3) := by decide +kernel
theorem own_d_method_2_code_47 : decode method_2_code 47 = .ok (.areturn, 1) := by decide +kernel
def Q_rm_pick5 (Z : State) (w_A : Addr) (w_B : Addr) (w_C : Addr) (w_D : Addr) (w_E : Addr) (w_F : Addr) (h0 : Heap) (n0 : Nat) (v : Option Value) (h : Heap) (L : List Loc) : Prop := v = some (.ref w_F) ∧ Fr n0 L ∧ h = h0
set_option maxRecDepth 65536 in
set_option maxHeartbeats 40000000 in
theorem rm_pick5 (l : Launch) (Z : State) (a0 : Array Value) (hw : ∀ d ∈ tables_1, d.before a0 Z = true) (ws : List Jvm.Cond) (w_A : Addr) (S_A : Sta Z Z.heap "com/example/strikeboard/strikeboard/engine/Guideline$Kind" "NO_ACTION" "Lcom/example/strikeboard/strikeboard/engine/Guideline$Kind;" (.ref w_A)) (X_A : Exa Z Z.heap w_A "com/example/strikeboard/strikeboard/engine/Guideline$Kind") (w_B : Addr) (S_B : Sta Z Z.heap "com/example/strikeboard/strikeboard/engine/Guideline$Kind" "WARNING" "Lcom/example/strikeboard/strikeboard/engine/Guideline$Kind;" (.ref w_B)) (X_B : Exa Z Z.heap w_B "com/example/strikeboard/strikeboard/engine/Guideline$Kind") (w_C : Addr) (S_C : Sta Z Z.heap "com/example/strikeboard/strikeboard/engine/Guideline$Kind" "KICK" "Lcom/example/strikeboard/strikeboard/engine/Guideline$Kind;" (.ref w_C)) (X_C : Exa Z Z.heap w_C "com/example/strikeboard/strikeboard/engine/Guideline$Kind") (w_D : Addr) (S_D : Sta Z Z.heap "com/example/strikeboard/strikeboard/engine/Guideline$Kind" "BANS" "Lcom/example/strikeboard/strikeboard/engine/Guideline$Kind;" (.ref w_D)) (X_D : Exa Z Z.heap w_D "com/example/strikeboard/strikeboard/engine/Guideline$Kind") (w_E : Addr) (S_E : Sta Z Z.heap "com/example/strikeboard/strikeboard/engine/Guideline$Kind" "VOUCHER_BAN" "Lcom/example/strikeboard/strikeboard/engine/Guideline$Kind;" (.ref w_E)) (X_E : Exa Z Z.heap w_E "com/example/strikeboard/strikeboard/engine/Guideline$Kind") (w_F : Addr) (S_F : Sta Z Z.heap "com/example/strikeboard/strikeboard/engine/Guideline$Kind" "PERMANENT_BAN" "Lcom/example/strikeboard/strikeboard/engine/Guideline$Kind;" (.ref w_F)) (X_F : Exa Z Z.heap w_F "com/example/strikeboard/strikeboard/engine/Guideline$Kind") (ne_A_E : w_A ≠ w_E) (ne_A_F : w_A ≠ w_F) (ne_B_E : w_B ≠ w_E) (ne_B_F : w_B ≠ w_F) (ne_C_E : w_C ≠ w_E) (ne_C_F : w_C ≠ w_F) (ne_D_E : w_D ≠ w_E) (ne_D_F : w_D ≠ w_F) (ne_E_F : w_E ≠ w_F) (h0 : Heap) (n0 : Nat) (X00 : Old Z n0 h0)  :
    MetFree l (⟨"com/example/strikeboard/strikeboard/engine/KindIsEndlessBanPinLaw", "pick", "(I)Lcom/example/strikeboard/strikeboard/engine/Guideline$Kind;"⟩ : MethodName) (head1 (Jvm.Cond.code (⟨"com/example/strikeboard/strikeboard/engine/KindIsEndlessBanPinLaw", "pick", "(I)Lcom/example/strikeboard/strikeboard/engine/Guideline$Kind;"⟩ : MethodName) method_2_code 1 (some (.object "com/example/strikeboard/strikeboard/engine/Guideline$Kind")) :: ws) ({ frames := 0, cells := 0, slots := 0, locals := 0 } : Room)) (fun a U => a = #[(.int (5 : Int32))] ∧ Z.Warmed39 U.vm ∧ U.heap = h0) (fun _ _ _ _ _ => True) (fun _ U o U' => ∃ v L, o = .returned v ∧ Q_rm_pick5 Z w_A w_B w_C w_D w_E w_F h0 n0 v U'.heap L ∧ FrameEnd U o U' L ({ frames := 0, cells := 0, slots := 0, locals := 0 } : Room).cells ({ frames := 0, cells := 0, slots := 0, locals := 0 } : Room).slots) := by
  refine MetFree.of_bodySF (plainFor_of_name own_pn0) hisR ?_
  intro p e s m args below meth c s₁ Bd hml0 hP hK
  obtain ⟨rfl, hZ, hh⟩ := hP
  have hx := Bd.exec
  have hby := Bd.bytes
  have hml : c.maxLocals = 1 := hml0
  have hown : s.vm.findClass "com/example/strikeboard/strikeboard/engine/KindIsEndlessBanPinLaw" = some m.cls := findClass_of_methodNamed Bd.named
  have hnm := (name_of_methodNamed Bd.named Bd.method).1
  have X0 : Stand p l e ({ frames := 0, cells := 0, slots := 0, locals := 0 } : Room) s m #[(.int (5 : Int32))] below meth c s₁ [] 0 0 := Stand.of_body Bd
  have e0 : s₁.heap = h0 := by rw [← hh, Bd.state]; rfl
  have N0 := Fr.nil n0
  refine Go.start fun P hPend => ?_
  refine Go.st (fun _ k => castTop (own_ef_rm_pick5 m ((5 : Int32))) k) ?_
  show Go p.tables e below P (s₁.setTop (mkF m 0 #[.val (.int (5 : Int32))] []))
  refine Go.st (fun _ => XS.iloadN X0.here hx rfl (hb hby own_d_method_2_code_0) rfl) ?_
  show Go p.tables e below P (s₁.setTop (mkF m 1 #[.val (.int (5 : Int32))] [(.int (5 : Int32))]))
  refine Go.st (fun _ => XS.ifYes X0.here hx rfl (pc0 := 1) (pc' := 8) rfl (hb hby own_d_method_2_code_1) rfl ((if0 _ _).trans (feq (by decide)).2) (by decide) (by decide)) ?_
  show Go p.tables e below P (s₁.setTop (mkF m 8 #[.val (.int (5 : Int32))] []))
  refine Go.st (fun _ => XS.iloadN X0.here hx rfl (hb hby own_d_method_2_code_8) rfl) ?_
  show Go p.tables e below P (s₁.setTop (mkF m 9 #[.val (.int (5 : Int32))] [(.int (5 : Int32))]))
  refine Go.st (fun _ => XS.iconst X0.here hx rfl (hb hby own_d_method_2_code_9)) ?_
  show Go p.tables e below P (s₁.setTop (mkF m 10 #[.val (.int (5 : Int32))] [(.int (1 : Int32)), (.int (5 : Int32))]))
  refine Go.st (fun _ => XS.icmpYes X0.here hx rfl (pc0 := 10) (pc' := 17) rfl (hb hby own_d_method_2_code_10) rfl (feq (by decide)).2 (by decide) (by decide)) ?_
  show Go p.tables e below P (s₁.setTop (mkF m 17 #[.val (.int (5 : Int32))] []))
  refine Go.st (fun _ => XS.iloadN X0.here hx rfl (hb hby own_d_method_2_code_17) rfl) ?_
  show Go p.tables e below P (s₁.setTop (mkF m 18 #[.val (.int (5 : Int32))] [(.int (5 : Int32))]))
  refine Go.st (fun _ => XS.iconst X0.here hx rfl (hb hby own_d_method_2_code_18)) ?_
  show Go p.tables e below P (s₁.setTop (mkF m 19 #[.val (.int (5 : Int32))] [(.int (2 : Int32)), (.int (5 : Int32))]))
  refine Go.st (fun _ => XS.icmpYes X0.here hx rfl (pc0 := 19) (pc' := 26) rfl (hb hby own_d_method_2_code_19) rfl (feq (by decide)).2 (by decide) (by decide)) ?_
  show Go p.tables e below P (s₁.setTop (mkF m 26 #[.val (.int (5 : Int32))] []))
  refine Go.st (fun _ => XS.iloadN X0.here hx rfl (hb hby own_d_method_2_code_26) rfl) ?_
  show Go p.tables e below P (s₁.setTop (mkF m 27 #[.val (.int (5 : Int32))] [(.int (5 : Int32))]))
  refine Go.st (fun _ => XS.iconst X0.here hx rfl (hb hby own_d_method_2_code_27)) ?_
  show Go p.tables e below P (s₁.setTop (mkF m 28 #[.val (.int (5 : Int32))] [(.int (3 : Int32)), (.int (5 : Int32))]))
  refine Go.st (fun _ => XS.icmpYes X0.here hx rfl (pc0 := 28) (pc' := 35) rfl (hb hby own_d_method_2_code_28) rfl (feq (by decide)).2 (by decide) (by decide)) ?_
  show Go p.tables e below P (s₁.setTop (mkF m 35 #[.val (.int (5 : Int32))] []))
  refine Go.st (fun _ => XS.iloadN X0.here hx rfl (hb hby own_d_method_2_code_35) rfl) ?_
  show Go p.tables e below P (s₁.setTop (mkF m 36 #[.val (.int (5 : Int32))] [(.int (5 : Int32))]))
  refine Go.st (fun _ => XS.iconst X0.here hx rfl (hb hby own_d_method_2_code_36)) ?_
  show Go p.tables e below P (s₁.setTop (mkF m 37 #[.val (.int (5 : Int32))] [(.int (4 : Int32)), (.int (5 : Int32))]))
  refine Go.st (fun _ => XS.icmpYes X0.here hx rfl (pc0 := 37) (pc' := 44) rfl (hb hby own_d_method_2_code_37) rfl (feq (by decide)).2 (by decide) (by decide)) ?_
  show Go p.tables e below P (s₁.setTop (mkF m 44 #[.val (.int (5 : Int32))] []))
  obtain ⟨T1, X1, e1, st1⟩ := getS2 X0 hx hZ hown (host := "") (Or.inl (hw _ (List.mem_of_getElem? (i := 23) rfl))) Via.refl e0 (S_F.ext X00.2) (g := (mkF m 44 #[.val (.int (5 : Int32))] [])) rfl (hb hby own_d_method_2_code_44)
  refine Go.st st1 ?_
  show Go p.tables e below P (T1.setTop (mkF m 47 #[.val (.int (5 : Int32))] [(.ref w_F)]))
  obtain ⟨fs, hr, hrun, hended, hW, hsame⟩ := X1.leave (v := some (.ref w_F)) (fun h => by rw [Bd.returns] at h; cases h)
  refine ⟨_, ?_, hPend _ _ hrun hended ⟨_, _, rfl, ?_, ⟨_, rfl⟩, hW, hsame.mono (by decide) (by decide)⟩⟩
  · exact retOut X1 hx (t := (.object "com/example/strikeboard/strikeboard/engine/Guideline$Kind")) Bd.returns rfl (Or.inr (Or.inr (Or.inr (Or.inr ⟨rfl, rfl, rfl⟩)))) (hb hby own_d_method_2_code_47) hr
  · show Q_rm_pick5 Z _ _ _ _ _ _ h0 n0 _ T1.heap _
    rw [e1]
    exact ⟨rfl, N0, rfl⟩
theorem own_ef_rm_js5 (m : MethodId) (x0 : Addr) : entryFrame m #[(.ref x0)] 1 = mkF m 0 #[.val (.ref x0)] [] := by first | (simp [entryFrame, mkF, argsToLocals, Value.category]; done) | rfl
def Q_rm_js5 (Z : State) (w_A : Addr) (w_B : Addr) (w_C : Addr) (w_D : Addr) (w_E : Addr) (w_F : Addr) (h0 : Heap) (n0 : Nat) (v : Option Value) (h : Heap) (L : List Loc) : Prop := v = some (.int (1 : Int32)) ∧ Fr n0 L ∧ h = h0
set_option maxRecDepth 65536 in
set_option maxHeartbeats 40000000 in
theorem rm_js5 (l : Launch) (Z : State) (a0 : Array Value) (hw : ∀ d ∈ tables_1, d.before a0 Z = true) (ws : List Jvm.Cond) (w_A : Addr) (S_A : Sta Z Z.heap "com/example/strikeboard/strikeboard/engine/Guideline$Kind" "NO_ACTION" "Lcom/example/strikeboard/strikeboard/engine/Guideline$Kind;" (.ref w_A)) (X_A : Exa Z Z.heap w_A "com/example/strikeboard/strikeboard/engine/Guideline$Kind") (w_B : Addr) (S_B : Sta Z Z.heap "com/example/strikeboard/strikeboard/engine/Guideline$Kind" "WARNING" "Lcom/example/strikeboard/strikeboard/engine/Guideline$Kind;" (.ref w_B)) (X_B : Exa Z Z.heap w_B "com/example/strikeboard/strikeboard/engine/Guideline$Kind") (w_C : Addr) (S_C : Sta Z Z.heap "com/example/strikeboard/strikeboard/engine/Guideline$Kind" "KICK" "Lcom/example/strikeboard/strikeboard/engine/Guideline$Kind;" (.ref w_C)) (X_C : Exa Z Z.heap w_C "com/example/strikeboard/strikeboard/engine/Guideline$Kind") (w_D : Addr) (S_D : Sta Z Z.heap "com/example/strikeboard/strikeboard/engine/Guideline$Kind" "BANS" "Lcom/example/strikeboard/strikeboard/engine/Guideline$Kind;" (.ref w_D)) (X_D : Exa Z Z.heap w_D "com/example/strikeboard/strikeboard/engine/Guideline$Kind") (w_E : Addr) (S_E : Sta Z Z.heap "com/example/strikeboard/strikeboard/engine/Guideline$Kind" "VOUCHER_BAN" "Lcom/example/strikeboard/strikeboard/engine/Guideline$Kind;" (.ref w_E)) (X_E : Exa Z Z.heap w_E "com/example/strikeboard/strikeboard/engine/Guideline$Kind") (w_F : Addr) (S_F : Sta Z Z.heap "com/example/strikeboard/strikeboard/engine/Guideline$Kind" "PERMANENT_BAN" "Lcom/example/strikeboard/strikeboard/engine/Guideline$Kind;" (.ref w_F)) (X_F : Exa Z Z.heap w_F "com/example/strikeboard/strikeboard/engine/Guideline$Kind") (ne_A_E : w_A ≠ w_E) (ne_A_F : w_A ≠ w_F) (ne_B_E : w_B ≠ w_E) (ne_B_F : w_B ≠ w_F) (ne_C_E : w_C ≠ w_E) (ne_C_F : w_C ≠ w_F) (ne_D_E : w_D ≠ w_E) (ne_D_F : w_D ≠ w_F) (ne_E_F : w_E ≠ w_F) (h0 : Heap) (n0 : Nat) (X00 : Old Z n0 h0)  :
    MetFree l (⟨"com/example/strikeboard/strikeboard/engine/Guideline$Kind", "isEndlessBan", "()Z"⟩ : MethodName) (head1 (Jvm.Cond.code (⟨"com/example/strikeboard/strikeboard/engine/Guideline$Kind", "isEndlessBan", "()Z"⟩ : MethodName) prog_30_method_5_code 1 (some .boolean) :: ws) ({ frames := 0, cells := 0, slots := 0, locals := 0 } : Room)) (fun a U => a = #[(.ref w_F)] ∧ Z.Warmed39 U.vm ∧ U.heap = h0) (fun _ _ _ _ _ => True) (fun _ U o U' => ∃ v L, o = .returned v ∧ Q_rm_js5 Z w_A w_B w_C w_D w_E w_F h0 n0 v U'.heap L ∧ FrameEnd U o U' L ({ frames := 0, cells := 0, slots := 0, locals := 0 } : Room).cells ({ frames := 0, cells := 0, slots := 0, locals := 0 } : Room).slots) := by
  refine MetFree.of_bodySF (plainFor_of_name own_pn1) hisR ?_
  intro p e s m args below meth c s₁ Bd hml0 hP hK
  obtain ⟨rfl, hZ, hh⟩ := hP
  have hx := Bd.exec
  have hby := Bd.bytes
  have hml : c.maxLocals = 1 := hml0
  have hown : s.vm.findClass "com/example/strikeboard/strikeboard/engine/Guideline$Kind" = some m.cls := findClass_of_methodNamed Bd.named
  have hnm := (name_of_methodNamed Bd.named Bd.method).1
  have X0 : Stand p l e ({ frames := 0, cells := 0, slots := 0, locals := 0 } : Room) s m #[(.ref w_F)] below meth c s₁ [] 0 0 := Stand.of_body Bd
  have e0 : s₁.heap = h0 := by rw [← hh, Bd.state]; rfl
  have N0 := Fr.nil n0
  refine Go.start fun P hPend => ?_
  refine Go.st (fun _ k => castTop (own_ef_rm_js5 m w_F) k) ?_
  show Go p.tables e below P (s₁.setTop (mkF m 0 #[.val (.ref w_F)] []))
  refine Go.st (fun _ => XS.aloadN X0.here hx rfl (hb hby own_d_prog_30_method_5_code_0) rfl rfl) ?_
  show Go p.tables e below P (s₁.setTop (mkF m 1 #[.val (.ref w_F)] [(.ref w_F)]))
  obtain ⟨T1, X1, e1, st1⟩ := getS2 X0 hx hZ hown (host := "") (Or.inl (hw _ (List.mem_of_getElem? (i := 13) rfl))) Via.refl e0 (S_E.ext X00.2) (g := (mkF m 1 #[.val (.ref w_F)] [(.ref w_F)])) rfl (hb hby own_d_prog_30_method_5_code_1)
  refine Go.st st1 ?_
  show Go p.tables e below P (T1.setTop (mkF m 4 #[.val (.ref w_F)] [(.ref w_E), (.ref w_F)]))
  refine Go.st (fun _ => Jvm.RoadKit.acmp (g := (mkF m 4 #[.val (.ref w_F)] [(.ref w_E), (.ref w_F)])) X1 hx rfl rfl rfl (pc0 := 4) (pc' := 7) (same := false) rfl (hb hby own_d_prog_30_method_5_code_4) rfl (decide_eq_false (fun q => (Ne.symm ne_E_F) (Value.ref.inj q))) (by decide) (by decide)) ?_
  show Go p.tables e below P (T1.setTop (mkF m 7 #[.val (.ref w_F)] []))
  refine Go.st (fun _ => XS.aloadN X1.here hx rfl (hb hby own_d_prog_30_method_5_code_7) rfl rfl) ?_
  show Go p.tables e below P (T1.setTop (mkF m 8 #[.val (.ref w_F)] [(.ref w_F)]))
  obtain ⟨T2, X2, e2, st2⟩ := getS2 X1 hx hZ hown (host := "") (Or.inl (hw _ (List.mem_of_getElem? (i := 15) rfl))) Via.refl e1 (S_F.ext X00.2) (g := (mkF m 8 #[.val (.ref w_F)] [(.ref w_F)])) rfl (hb hby own_d_prog_30_method_5_code_8)
  refine Go.st st2 ?_
  show Go p.tables e below P (T2.setTop (mkF m 11 #[.val (.ref w_F)] [(.ref w_F), (.ref w_F)]))
  refine Go.st (fun _ => Jvm.RoadKit.acmp (g := (mkF m 11 #[.val (.ref w_F)] [(.ref w_F), (.ref w_F)])) X2 hx rfl rfl rfl (pc0 := 11) (pc' := 14) (same := true) rfl (hb hby own_d_prog_30_method_5_code_11) rfl (decide_eq_true rfl) (by decide) (by decide)) ?_
  show Go p.tables e below P (T2.setTop (mkF m 14 #[.val (.ref w_F)] []))
  refine Go.st (fun _ => XS.iconst X2.here hx rfl (hb hby own_d_prog_30_method_5_code_14)) ?_
  show Go p.tables e below P (T2.setTop (mkF m 15 #[.val (.ref w_F)] [(.int (1 : Int32))]))
  refine Go.st (fun _ => XS.goto X2.here hx rfl (pc0 := 15) (pc' := 19) rfl (hb hby own_d_prog_30_method_5_code_15) (by decide) (by decide)) ?_
  show Go p.tables e below P (T2.setTop (mkF m 19 #[.val (.ref w_F)] [(.int (1 : Int32))]))
  obtain ⟨fs, hr, hrun, hended, hW, hsame⟩ := X2.leave (v := some (.int (1 : Int32))) (fun h => by rw [Bd.returns] at h; cases h)
  refine ⟨_, ?_, hPend _ _ hrun hended ⟨_, _, rfl, ?_, ⟨_, rfl⟩, hW, hsame.mono (by decide) (by decide)⟩⟩
  · exact retN X2 hx (t := .boolean) Bd.returns (by simp) (hb hby own_d_prog_30_method_5_code_19) hr
  · show Q_rm_js5 Z _ _ _ _ _ _ h0 n0 _ T2.heap _
    rw [e2]
    exact ⟨rfl, N0, rfl⟩
theorem own_ef_rm_law (m : MethodId) (x0 : Int32) : entryFrame m #[(.int x0)] maxLocals = mkF m 0 #[.val (.int x0), .unset, .unset, .unset] [] := by first | (simp [entryFrame, mkF, argsToLocals, Value.category, maxLocals]; done) | rfl
theorem own_pd0 : parseMethodDescriptor "(I)Lcom/example/strikeboard/strikeboard/engine/Guideline$Kind;" = some ⟨[.int], some (.object "com/example/strikeboard/strikeboard/engine/Guideline$Kind")⟩ := by decide +kernel
theorem own_pd1 : parseMethodDescriptor "()Z" = some ⟨[], some .boolean⟩ := by decide +kernel
def Q_rm_law (Z : State) (w_A : Addr) (w_B : Addr) (w_C : Addr) (w_D : Addr) (w_E : Addr) (w_F : Addr) (p0 : Int32) (h0 : Heap) (n0 : Nat) (v : Option Value) (h : Heap) (L : List Loc) : Prop := v = some (.int (1 : Int32)) ∧ Fr n0 L ∧ h = h0
set_option maxRecDepth 65536 in
set_option maxHeartbeats 40000000 in
theorem rm_law (l : Launch) (Z : State) (a0 : Array Value) (hw : ∀ d ∈ tables_1, d.before a0 Z = true) (ws : List Jvm.Cond) (w_A : Addr) (S_A : Sta Z Z.heap "com/example/strikeboard/strikeboard/engine/Guideline$Kind" "NO_ACTION" "Lcom/example/strikeboard/strikeboard/engine/Guideline$Kind;" (.ref w_A)) (X_A : Exa Z Z.heap w_A "com/example/strikeboard/strikeboard/engine/Guideline$Kind") (w_B : Addr) (S_B : Sta Z Z.heap "com/example/strikeboard/strikeboard/engine/Guideline$Kind" "WARNING" "Lcom/example/strikeboard/strikeboard/engine/Guideline$Kind;" (.ref w_B)) (X_B : Exa Z Z.heap w_B "com/example/strikeboard/strikeboard/engine/Guideline$Kind") (w_C : Addr) (S_C : Sta Z Z.heap "com/example/strikeboard/strikeboard/engine/Guideline$Kind" "KICK" "Lcom/example/strikeboard/strikeboard/engine/Guideline$Kind;" (.ref w_C)) (X_C : Exa Z Z.heap w_C "com/example/strikeboard/strikeboard/engine/Guideline$Kind") (w_D : Addr) (S_D : Sta Z Z.heap "com/example/strikeboard/strikeboard/engine/Guideline$Kind" "BANS" "Lcom/example/strikeboard/strikeboard/engine/Guideline$Kind;" (.ref w_D)) (X_D : Exa Z Z.heap w_D "com/example/strikeboard/strikeboard/engine/Guideline$Kind") (w_E : Addr) (S_E : Sta Z Z.heap "com/example/strikeboard/strikeboard/engine/Guideline$Kind" "VOUCHER_BAN" "Lcom/example/strikeboard/strikeboard/engine/Guideline$Kind;" (.ref w_E)) (X_E : Exa Z Z.heap w_E "com/example/strikeboard/strikeboard/engine/Guideline$Kind") (w_F : Addr) (S_F : Sta Z Z.heap "com/example/strikeboard/strikeboard/engine/Guideline$Kind" "PERMANENT_BAN" "Lcom/example/strikeboard/strikeboard/engine/Guideline$Kind;" (.ref w_F)) (X_F : Exa Z Z.heap w_F "com/example/strikeboard/strikeboard/engine/Guideline$Kind") (ne_A_E : w_A ≠ w_E) (ne_A_F : w_A ≠ w_F) (ne_B_E : w_B ≠ w_E) (ne_B_F : w_B ≠ w_F) (ne_C_E : w_C ≠ w_E) (ne_C_F : w_C ≠ w_F) (ne_D_E : w_D ≠ w_E) (ne_D_F : w_D ≠ w_F) (ne_E_F : w_E ≠ w_F) (p0 : Int32) (h0 : Heap) (n0 : Nat) (X00 : Old Z n0 h0)  :
    MetFree l x (head1 (Jvm.Cond.code x code maxLocals ret :: ws) room_1) (fun a U => a = #[(.int p0)] ∧ Z.Warmed39 U.vm ∧ U.heap = h0) (fun _ _ _ _ _ => True) (fun _ U o U' => ∃ v L, o = .returned v ∧ Q_rm_law Z w_A w_B w_C w_D w_E w_F p0 h0 n0 v U'.heap L ∧ FrameEnd U o U' L 0 0) := by
  refine MetFree.of_bodySF (plainFor_of_name own_pn0) hisR ?_
  intro p e s m args below meth c s₁ Bd hml0 hP hK
  obtain ⟨rfl, hZ, hh⟩ := hP
  have hx := Bd.exec
  have hby := Bd.bytes
  have hml : c.maxLocals = 4 := hml0
  have hown : s.vm.findClass "com/example/strikeboard/strikeboard/engine/KindIsEndlessBanPinLaw" = some m.cls := findClass_of_methodNamed Bd.named
  have hnm := (name_of_methodNamed Bd.named Bd.method).1
  have X0 : Stand p l e room_1 s m #[(.int p0)] below meth c s₁ [] 0 0 := Stand.of_body Bd
  have e0 : s₁.heap = h0 := by rw [← hh, Bd.state]; rfl
  have N0 := Fr.nil n0
  refine Go.start fun P hPend => ?_
  refine Go.st (fun _ k => castTop (own_ef_rm_law m p0) k) ?_
  show Go p.tables e below P (s₁.setTop (mkF m 0 #[.val (.int p0), .unset, .unset, .unset] []))
  refine Go.st (fun _ => XS.iloadN X0.here hx rfl (hb hby at_0) rfl) ?_
  show Go p.tables e below P (s₁.setTop (mkF m 1 #[.val (.int p0), .unset, .unset, .unset] [(.int p0)]))
  refine Go.st (fun _ => X0.ldcInt hx hown (mvT hZ (hw _ (List.mem_of_getElem? (i := 0) rfl))) (g := (mkF m 1 #[.val (.int p0), .unset, .unset, .unset] [(.int p0)])) rfl (hb hby at_1) _) ?_
  show Go p.tables e below P (s₁.setTop (mkF m 3 #[.val (.int p0), .unset, .unset, .unset] [(.int (2147483647 : Int32)), (.int p0)]))
  refine Go.st (fun _ => XS.iand X0.here hx rfl (hb hby at_3) rfl) ?_
  show Go p.tables e below P (s₁.setTop (mkF m 4 #[.val (.int p0), .unset, .unset, .unset] [(.int (p0 &&& (2147483647 : Int32)))]))
  refine Go.st (fun _ => XS.bipush X0.here hx rfl (hb hby at_4)) ?_
  show Go p.tables e below P (s₁.setTop (mkF m 6 #[.val (.int p0), .unset, .unset, .unset] [(.int (6 : Int32)), (.int (p0 &&& (2147483647 : Int32)))]))
  refine Go.st (fun _ => iremM (g := (mkF m 6 #[.val (.int p0), .unset, .unset, .unset] [(.int (6 : Int32)), (.int (p0 &&& (2147483647 : Int32)))])) X0 hx rfl (hb hby at_6) rfl (by decide)) ?_
  show Go p.tables e below P (s₁.setTop (mkF m 7 #[.val (.int p0), .unset, .unset, .unset] [(.int ((p0 &&& (2147483647 : Int32)) % (6 : Int32)))]))
  refine Go.st (fun _ => XS.istoreN X0.here hx rfl (hb hby at_7) rfl (l' := #[.val (.int p0), .val (.int ((p0 &&& (2147483647 : Int32)) % (6 : Int32))), .unset, .unset]) rfl) ?_
  show Go p.tables e below P (s₁.setTop (mkF m 8 #[.val (.int p0), .val (.int ((p0 &&& (2147483647 : Int32)) % (6 : Int32))), .unset, .unset] []))
  rcases own_rem6 p0 with hq | hq | hq | hq | hq | hq
  · skip
    rw [hq]
    show Go p.tables e below P (s₁.setTop (mkF m 8 #[.val (.int p0), .val (.int (0 : Int32)), .unset, .unset] []))
    refine Go.st (fun _ => XS.iloadN X0.here hx rfl (hb hby at_8) rfl) ?_
    show Go p.tables e below P (s₁.setTop (mkF m 9 #[.val (.int p0), .val (.int (0 : Int32)), .unset, .unset] [(.int (0 : Int32))]))
    obtain ⟨_, _, ⟨T1, L1, k1, n1⟩, -, X1, ⟨Lc1, hQ1, l1, y1, z1⟩, st1⟩ := Jvm.LawKit.callS X0 hx (y := (⟨"com/example/strikeboard/strikeboard/engine/KindIsEndlessBanPinLaw", "pick", "(I)Lcom/example/strikeboard/strikeboard/engine/Guideline$Kind;"⟩ : MethodName)) hown (mvT hZ (hw _ (List.mem_of_getElem? (i := 1) rfl))) (mvT hZ (hw _ (List.mem_of_getElem? (i := 2) rfl))) (mvT hZ (hw _ (List.mem_of_getElem? (i := 3) rfl))) (mvT hZ (hw _ (List.mem_of_getElem? (i := 4) rfl))) (by decide) (backOf (W := 0) (rm_pick0 l Z a0 hw [] w_A S_A X_A w_B S_B X_B w_C S_C X_C w_D S_D X_D w_E S_E X_E w_F S_F X_F ne_A_E ne_A_F ne_B_E ne_B_F ne_C_E ne_C_F ne_D_E ne_D_F ne_E_F h0 n0 X00 ) hZ (hw _ (List.mem_of_getElem? (i := 4) rfl)) (hw _ (List.mem_of_getElem? (i := 3) rfl)) (by decide) (by decide)) (g := (mkF m 9 #[.val (.int p0), .val (.int (0 : Int32)), .unset, .unset] [(.int (0 : Int32))])) rfl (by rw [hml]; rfl) (argsL := [(.int (0 : Int32))]) (rest := []) (lenOf own_pd0 rfl) rfl (by show 2 * 0 + _ ≤ _; exact Nat.le_of_eq rfl) (hb hby at_9) (fun _ _ => ⟨rfl, e0, (by decide : 0 + 0 ≤ _), (by decide : 0 + 0 ≤ _)⟩)
    dsimp only [Pt.U, Pt.locs, Pt.cells, Pt.slots] at X1 l1 y1 z1 st1 hQ1
    subst l1 y1 z1
    refine Go.st st1 ?_
    obtain ⟨rfl, N1q, e1⟩ := hQ1
    have N1 := Fr.app N0 N1q
    show Go p.tables e below P (T1.setTop (mkF m 12 #[.val (.int p0), .val (.int (0 : Int32)), .unset, .unset] [(.ref w_A)]))
    refine Go.st (fun _ => XS.astoreN X1.here hx rfl (hb hby at_12) rfl rfl (l' := #[.val (.int p0), .val (.int (0 : Int32)), .val (.ref w_A), .unset]) rfl) ?_
    show Go p.tables e below P (T1.setTop (mkF m 13 #[.val (.int p0), .val (.int (0 : Int32)), .val (.ref w_A), .unset] []))
    refine Go.st (fun _ => XS.iloadN X1.here hx rfl (hb hby at_13) rfl) ?_
    show Go p.tables e below P (T1.setTop (mkF m 14 #[.val (.int p0), .val (.int (0 : Int32)), .val (.ref w_A), .unset] [(.int (0 : Int32))]))
    refine Go.st (fun _ => XS.iconst X1.here hx rfl (hb hby at_14)) ?_
    show Go p.tables e below P (T1.setTop (mkF m 15 #[.val (.int p0), .val (.int (0 : Int32)), .val (.ref w_A), .unset] [(.int (4 : Int32)), (.int (0 : Int32))]))
    refine Go.st (fun _ => XS.icmpYes X1.here hx rfl (pc0 := 15) (pc' := 22) rfl (hb hby at_15) rfl (tlt (by decide)).1 (by decide) (by decide)) ?_
    show Go p.tables e below P (T1.setTop (mkF m 22 #[.val (.int p0), .val (.int (0 : Int32)), .val (.ref w_A), .unset] []))
    refine Go.st (fun _ => XS.iconst X1.here hx rfl (hb hby at_22)) ?_
    show Go p.tables e below P (T1.setTop (mkF m 23 #[.val (.int p0), .val (.int (0 : Int32)), .val (.ref w_A), .unset] [(.int (0 : Int32))]))
    refine Go.st (fun _ => XS.istoreN X1.here hx rfl (hb hby at_23) rfl (l' := #[.val (.int p0), .val (.int (0 : Int32)), .val (.ref w_A), .val (.int (0 : Int32))]) rfl) ?_
    show Go p.tables e below P (T1.setTop (mkF m 24 #[.val (.int p0), .val (.int (0 : Int32)), .val (.ref w_A), .val (.int (0 : Int32))] []))
    refine Go.st (fun _ => XS.aloadN X1.here hx rfl (hb hby at_24) rfl rfl) ?_
    show Go p.tables e below P (T1.setTop (mkF m 25 #[.val (.int p0), .val (.int (0 : Int32)), .val (.ref w_A), .val (.int (0 : Int32))] [(.ref w_A)]))
    obtain ⟨cq2, kq2, q2a, q2b, q2c⟩ := isOf hZ e1 (X_A.ext X00.2)
    obtain ⟨_, _, ⟨T2, L2, k2, n2⟩, -, X2, ⟨Lc2, hQ2, l2, y2, z2⟩, st2⟩ := X1.virtualBack hx (y := (⟨"com/example/strikeboard/strikeboard/engine/Guideline$Kind", "isEndlessBan", "()Z"⟩ : MethodName)) (z := (⟨"com/example/strikeboard/strikeboard/engine/Guideline$Kind", "isEndlessBan", "()Z"⟩ : MethodName)) hown (mvT hZ (hw _ (List.mem_of_getElem? (i := 8) rfl))) (mvT hZ (hw _ (List.mem_of_getElem? (i := 9) rfl))) (notFace_of_selects (args := #[]) (mvT hZ (hw _ (List.mem_of_getElem? (i := 11) rfl)))) (mvT hZ (hw _ (List.mem_of_getElem? (i := 11) rfl))) (mvT hZ (hw _ (List.mem_of_getElem? (i := 10) rfl))) (by decide) (backOf (W := 0) (rm_js0 l Z a0 hw [] w_A S_A X_A w_B S_B X_B w_C S_C X_C w_D S_D X_D w_E S_E X_E w_F S_F X_F ne_A_E ne_A_F ne_B_E ne_B_F ne_C_E ne_C_F ne_D_E ne_D_F ne_E_F h0 n0 X00 ) hZ (hw _ (List.mem_of_getElem? (i := 12) rfl)) (hw _ (List.mem_of_getElem? (i := 6) rfl)) (by decide) (by decide)) q2a q2c (g := (mkF m 25 #[.val (.int p0), .val (.int (0 : Int32)), .val (.ref w_A), .val (.int (0 : Int32))] [(.ref w_A)])) rfl (by rw [hml]; rfl) (Steps.refl _) (argsL := []) (rest := []) (lenOf own_pd1 rfl) rfl (by show 2 * 0 + _ ≤ _; exact Nat.le_of_eq rfl) (hb hby at_25) (fun _ _ => ⟨rfl, e1, (by decide : 0 + 0 ≤ _), (by decide : 0 + 0 ≤ _)⟩)
    dsimp only [Pt.U, Pt.locs, Pt.cells, Pt.slots] at X2 l2 y2 z2 st2 hQ2
    subst l2 y2 z2
    refine Go.tr st2 ?_
    obtain ⟨rfl, N2q, e2⟩ := hQ2
    have N2 := Fr.app N1 N2q
    show Go p.tables e below P (T2.setTop (mkF m 28 #[.val (.int p0), .val (.int (0 : Int32)), .val (.ref w_A), .val (.int (0 : Int32))] [(.int (0 : Int32))]))
    refine Go.st (fun _ => XS.iloadN X2.here hx rfl (hb hby at_28) rfl) ?_
    show Go p.tables e below P (T2.setTop (mkF m 29 #[.val (.int p0), .val (.int (0 : Int32)), .val (.ref w_A), .val (.int (0 : Int32))] [(.int (0 : Int32)), (.int (0 : Int32))]))
    refine Go.st (fun _ => XS.icmpNo X2.here hx rfl (hb hby at_29) rfl (teq (by decide)).2) ?_
    show Go p.tables e below P (T2.setTop (mkF m 32 #[.val (.int p0), .val (.int (0 : Int32)), .val (.ref w_A), .val (.int (0 : Int32))] []))
    refine Go.st (fun _ => XS.iconst X2.here hx rfl (hb hby at_32)) ?_
    show Go p.tables e below P (T2.setTop (mkF m 33 #[.val (.int p0), .val (.int (0 : Int32)), .val (.ref w_A), .val (.int (0 : Int32))] [(.int (1 : Int32))]))
    refine Go.st (fun _ => XS.goto X2.here hx rfl (pc0 := 33) (pc' := 37) rfl (hb hby at_33) (by decide) (by decide)) ?_
    show Go p.tables e below P (T2.setTop (mkF m 37 #[.val (.int p0), .val (.int (0 : Int32)), .val (.ref w_A), .val (.int (0 : Int32))] [(.int (1 : Int32))]))
    obtain ⟨fs, hr, hrun, hended, hW, hsame⟩ := X2.leave (v := some (.int (1 : Int32))) (fun h => by rw [Bd.returns] at h; cases h)
    refine ⟨_, ?_, hPend _ _ hrun hended ⟨_, _, rfl, ?_, ⟨_, rfl⟩, hW, hsame.mono (by decide) (by decide)⟩⟩
    · exact retN X2 hx (t := .boolean) Bd.returns (by simp) (hb hby at_37) hr
    · show Q_rm_law Z _ _ _ _ _ _ _ h0 n0 _ T2.heap _
      rw [e2]
      exact ⟨rfl, N2, rfl⟩
  · skip
    rw [hq]
    show Go p.tables e below P (s₁.setTop (mkF m 8 #[.val (.int p0), .val (.int (1 : Int32)), .unset, .unset] []))
    refine Go.st (fun _ => XS.iloadN X0.here hx rfl (hb hby at_8) rfl) ?_
    show Go p.tables e below P (s₁.setTop (mkF m 9 #[.val (.int p0), .val (.int (1 : Int32)), .unset, .unset] [(.int (1 : Int32))]))
    obtain ⟨_, _, ⟨T3, L3, k3, n3⟩, -, X3, ⟨Lc3, hQ3, l3, y3, z3⟩, st3⟩ := Jvm.LawKit.callS X0 hx (y := (⟨"com/example/strikeboard/strikeboard/engine/KindIsEndlessBanPinLaw", "pick", "(I)Lcom/example/strikeboard/strikeboard/engine/Guideline$Kind;"⟩ : MethodName)) hown (mvT hZ (hw _ (List.mem_of_getElem? (i := 1) rfl))) (mvT hZ (hw _ (List.mem_of_getElem? (i := 2) rfl))) (mvT hZ (hw _ (List.mem_of_getElem? (i := 3) rfl))) (mvT hZ (hw _ (List.mem_of_getElem? (i := 4) rfl))) (by decide) (backOf (W := 0) (rm_pick1 l Z a0 hw [] w_A S_A X_A w_B S_B X_B w_C S_C X_C w_D S_D X_D w_E S_E X_E w_F S_F X_F ne_A_E ne_A_F ne_B_E ne_B_F ne_C_E ne_C_F ne_D_E ne_D_F ne_E_F h0 n0 X00 ) hZ (hw _ (List.mem_of_getElem? (i := 4) rfl)) (hw _ (List.mem_of_getElem? (i := 3) rfl)) (by decide) (by decide)) (g := (mkF m 9 #[.val (.int p0), .val (.int (1 : Int32)), .unset, .unset] [(.int (1 : Int32))])) rfl (by rw [hml]; rfl) (argsL := [(.int (1 : Int32))]) (rest := []) (lenOf own_pd0 rfl) rfl (by show 2 * 0 + _ ≤ _; exact Nat.le_of_eq rfl) (hb hby at_9) (fun _ _ => ⟨rfl, e0, (by decide : 0 + 0 ≤ _), (by decide : 0 + 0 ≤ _)⟩)
    dsimp only [Pt.U, Pt.locs, Pt.cells, Pt.slots] at X3 l3 y3 z3 st3 hQ3
    subst l3 y3 z3
    refine Go.st st3 ?_
    obtain ⟨rfl, N3q, e3⟩ := hQ3
    have N3 := Fr.app N0 N3q
    show Go p.tables e below P (T3.setTop (mkF m 12 #[.val (.int p0), .val (.int (1 : Int32)), .unset, .unset] [(.ref w_B)]))
    refine Go.st (fun _ => XS.astoreN X3.here hx rfl (hb hby at_12) rfl rfl (l' := #[.val (.int p0), .val (.int (1 : Int32)), .val (.ref w_B), .unset]) rfl) ?_
    show Go p.tables e below P (T3.setTop (mkF m 13 #[.val (.int p0), .val (.int (1 : Int32)), .val (.ref w_B), .unset] []))
    refine Go.st (fun _ => XS.iloadN X3.here hx rfl (hb hby at_13) rfl) ?_
    show Go p.tables e below P (T3.setTop (mkF m 14 #[.val (.int p0), .val (.int (1 : Int32)), .val (.ref w_B), .unset] [(.int (1 : Int32))]))
    refine Go.st (fun _ => XS.iconst X3.here hx rfl (hb hby at_14)) ?_
    show Go p.tables e below P (T3.setTop (mkF m 15 #[.val (.int p0), .val (.int (1 : Int32)), .val (.ref w_B), .unset] [(.int (4 : Int32)), (.int (1 : Int32))]))
    refine Go.st (fun _ => XS.icmpYes X3.here hx rfl (pc0 := 15) (pc' := 22) rfl (hb hby at_15) rfl (tlt (by decide)).1 (by decide) (by decide)) ?_
    show Go p.tables e below P (T3.setTop (mkF m 22 #[.val (.int p0), .val (.int (1 : Int32)), .val (.ref w_B), .unset] []))
    refine Go.st (fun _ => XS.iconst X3.here hx rfl (hb hby at_22)) ?_
    show Go p.tables e below P (T3.setTop (mkF m 23 #[.val (.int p0), .val (.int (1 : Int32)), .val (.ref w_B), .unset] [(.int (0 : Int32))]))
    refine Go.st (fun _ => XS.istoreN X3.here hx rfl (hb hby at_23) rfl (l' := #[.val (.int p0), .val (.int (1 : Int32)), .val (.ref w_B), .val (.int (0 : Int32))]) rfl) ?_
    show Go p.tables e below P (T3.setTop (mkF m 24 #[.val (.int p0), .val (.int (1 : Int32)), .val (.ref w_B), .val (.int (0 : Int32))] []))
    refine Go.st (fun _ => XS.aloadN X3.here hx rfl (hb hby at_24) rfl rfl) ?_
    show Go p.tables e below P (T3.setTop (mkF m 25 #[.val (.int p0), .val (.int (1 : Int32)), .val (.ref w_B), .val (.int (0 : Int32))] [(.ref w_B)]))
    obtain ⟨cq4, kq4, q4a, q4b, q4c⟩ := isOf hZ e3 (X_B.ext X00.2)
    obtain ⟨_, _, ⟨T4, L4, k4, n4⟩, -, X4, ⟨Lc4, hQ4, l4, y4, z4⟩, st4⟩ := X3.virtualBack hx (y := (⟨"com/example/strikeboard/strikeboard/engine/Guideline$Kind", "isEndlessBan", "()Z"⟩ : MethodName)) (z := (⟨"com/example/strikeboard/strikeboard/engine/Guideline$Kind", "isEndlessBan", "()Z"⟩ : MethodName)) hown (mvT hZ (hw _ (List.mem_of_getElem? (i := 8) rfl))) (mvT hZ (hw _ (List.mem_of_getElem? (i := 9) rfl))) (notFace_of_selects (args := #[]) (mvT hZ (hw _ (List.mem_of_getElem? (i := 11) rfl)))) (mvT hZ (hw _ (List.mem_of_getElem? (i := 11) rfl))) (mvT hZ (hw _ (List.mem_of_getElem? (i := 10) rfl))) (by decide) (backOf (W := 0) (rm_js1 l Z a0 hw [] w_A S_A X_A w_B S_B X_B w_C S_C X_C w_D S_D X_D w_E S_E X_E w_F S_F X_F ne_A_E ne_A_F ne_B_E ne_B_F ne_C_E ne_C_F ne_D_E ne_D_F ne_E_F h0 n0 X00 ) hZ (hw _ (List.mem_of_getElem? (i := 12) rfl)) (hw _ (List.mem_of_getElem? (i := 6) rfl)) (by decide) (by decide)) q4a q4c (g := (mkF m 25 #[.val (.int p0), .val (.int (1 : Int32)), .val (.ref w_B), .val (.int (0 : Int32))] [(.ref w_B)])) rfl (by rw [hml]; rfl) (Steps.refl _) (argsL := []) (rest := []) (lenOf own_pd1 rfl) rfl (by show 2 * 0 + _ ≤ _; exact Nat.le_of_eq rfl) (hb hby at_25) (fun _ _ => ⟨rfl, e3, (by decide : 0 + 0 ≤ _), (by decide : 0 + 0 ≤ _)⟩)
    dsimp only [Pt.U, Pt.locs, Pt.cells, Pt.slots] at X4 l4 y4 z4 st4 hQ4
    subst l4 y4 z4
    refine Go.tr st4 ?_
    obtain ⟨rfl, N4q, e4⟩ := hQ4
    have N4 := Fr.app N3 N4q
    show Go p.tables e below P (T4.setTop (mkF m 28 #[.val (.int p0), .val (.int (1 : Int32)), .val (.ref w_B), .val (.int (0 : Int32))] [(.int (0 : Int32))]))
    refine Go.st (fun _ => XS.iloadN X4.here hx rfl (hb hby at_28) rfl) ?_
    show Go p.tables e below P (T4.setTop (mkF m 29 #[.val (.int p0), .val (.int (1 : Int32)), .val (.ref w_B), .val (.int (0 : Int32))] [(.int (0 : Int32)), (.int (0 : Int32))]))
    refine Go.st (fun _ => XS.icmpNo X4.here hx rfl (hb hby at_29) rfl (teq (by decide)).2) ?_
    show Go p.tables e below P (T4.setTop (mkF m 32 #[.val (.int p0), .val (.int (1 : Int32)), .val (.ref w_B), .val (.int (0 : Int32))] []))
    refine Go.st (fun _ => XS.iconst X4.here hx rfl (hb hby at_32)) ?_
    show Go p.tables e below P (T4.setTop (mkF m 33 #[.val (.int p0), .val (.int (1 : Int32)), .val (.ref w_B), .val (.int (0 : Int32))] [(.int (1 : Int32))]))
    refine Go.st (fun _ => XS.goto X4.here hx rfl (pc0 := 33) (pc' := 37) rfl (hb hby at_33) (by decide) (by decide)) ?_
    show Go p.tables e below P (T4.setTop (mkF m 37 #[.val (.int p0), .val (.int (1 : Int32)), .val (.ref w_B), .val (.int (0 : Int32))] [(.int (1 : Int32))]))
    obtain ⟨fs, hr, hrun, hended, hW, hsame⟩ := X4.leave (v := some (.int (1 : Int32))) (fun h => by rw [Bd.returns] at h; cases h)
    refine ⟨_, ?_, hPend _ _ hrun hended ⟨_, _, rfl, ?_, ⟨_, rfl⟩, hW, hsame.mono (by decide) (by decide)⟩⟩
    · exact retN X4 hx (t := .boolean) Bd.returns (by simp) (hb hby at_37) hr
    · show Q_rm_law Z _ _ _ _ _ _ _ h0 n0 _ T4.heap _
      rw [e4]
      exact ⟨rfl, N4, rfl⟩
  · skip
    rw [hq]
    show Go p.tables e below P (s₁.setTop (mkF m 8 #[.val (.int p0), .val (.int (2 : Int32)), .unset, .unset] []))
    refine Go.st (fun _ => XS.iloadN X0.here hx rfl (hb hby at_8) rfl) ?_
    show Go p.tables e below P (s₁.setTop (mkF m 9 #[.val (.int p0), .val (.int (2 : Int32)), .unset, .unset] [(.int (2 : Int32))]))
    obtain ⟨_, _, ⟨T5, L5, k5, n5⟩, -, X5, ⟨Lc5, hQ5, l5, y5, z5⟩, st5⟩ := Jvm.LawKit.callS X0 hx (y := (⟨"com/example/strikeboard/strikeboard/engine/KindIsEndlessBanPinLaw", "pick", "(I)Lcom/example/strikeboard/strikeboard/engine/Guideline$Kind;"⟩ : MethodName)) hown (mvT hZ (hw _ (List.mem_of_getElem? (i := 1) rfl))) (mvT hZ (hw _ (List.mem_of_getElem? (i := 2) rfl))) (mvT hZ (hw _ (List.mem_of_getElem? (i := 3) rfl))) (mvT hZ (hw _ (List.mem_of_getElem? (i := 4) rfl))) (by decide) (backOf (W := 0) (rm_pick2 l Z a0 hw [] w_A S_A X_A w_B S_B X_B w_C S_C X_C w_D S_D X_D w_E S_E X_E w_F S_F X_F ne_A_E ne_A_F ne_B_E ne_B_F ne_C_E ne_C_F ne_D_E ne_D_F ne_E_F h0 n0 X00 ) hZ (hw _ (List.mem_of_getElem? (i := 4) rfl)) (hw _ (List.mem_of_getElem? (i := 3) rfl)) (by decide) (by decide)) (g := (mkF m 9 #[.val (.int p0), .val (.int (2 : Int32)), .unset, .unset] [(.int (2 : Int32))])) rfl (by rw [hml]; rfl) (argsL := [(.int (2 : Int32))]) (rest := []) (lenOf own_pd0 rfl) rfl (by show 2 * 0 + _ ≤ _; exact Nat.le_of_eq rfl) (hb hby at_9) (fun _ _ => ⟨rfl, e0, (by decide : 0 + 0 ≤ _), (by decide : 0 + 0 ≤ _)⟩)
    dsimp only [Pt.U, Pt.locs, Pt.cells, Pt.slots] at X5 l5 y5 z5 st5 hQ5
    subst l5 y5 z5
    refine Go.st st5 ?_
    obtain ⟨rfl, N5q, e5⟩ := hQ5
    have N5 := Fr.app N0 N5q
    show Go p.tables e below P (T5.setTop (mkF m 12 #[.val (.int p0), .val (.int (2 : Int32)), .unset, .unset] [(.ref w_C)]))
    refine Go.st (fun _ => XS.astoreN X5.here hx rfl (hb hby at_12) rfl rfl (l' := #[.val (.int p0), .val (.int (2 : Int32)), .val (.ref w_C), .unset]) rfl) ?_
    show Go p.tables e below P (T5.setTop (mkF m 13 #[.val (.int p0), .val (.int (2 : Int32)), .val (.ref w_C), .unset] []))
    refine Go.st (fun _ => XS.iloadN X5.here hx rfl (hb hby at_13) rfl) ?_
    show Go p.tables e below P (T5.setTop (mkF m 14 #[.val (.int p0), .val (.int (2 : Int32)), .val (.ref w_C), .unset] [(.int (2 : Int32))]))
    refine Go.st (fun _ => XS.iconst X5.here hx rfl (hb hby at_14)) ?_
    show Go p.tables e below P (T5.setTop (mkF m 15 #[.val (.int p0), .val (.int (2 : Int32)), .val (.ref w_C), .unset] [(.int (4 : Int32)), (.int (2 : Int32))]))
    refine Go.st (fun _ => XS.icmpYes X5.here hx rfl (pc0 := 15) (pc' := 22) rfl (hb hby at_15) rfl (tlt (by decide)).1 (by decide) (by decide)) ?_
    show Go p.tables e below P (T5.setTop (mkF m 22 #[.val (.int p0), .val (.int (2 : Int32)), .val (.ref w_C), .unset] []))
    refine Go.st (fun _ => XS.iconst X5.here hx rfl (hb hby at_22)) ?_
    show Go p.tables e below P (T5.setTop (mkF m 23 #[.val (.int p0), .val (.int (2 : Int32)), .val (.ref w_C), .unset] [(.int (0 : Int32))]))
    refine Go.st (fun _ => XS.istoreN X5.here hx rfl (hb hby at_23) rfl (l' := #[.val (.int p0), .val (.int (2 : Int32)), .val (.ref w_C), .val (.int (0 : Int32))]) rfl) ?_
    show Go p.tables e below P (T5.setTop (mkF m 24 #[.val (.int p0), .val (.int (2 : Int32)), .val (.ref w_C), .val (.int (0 : Int32))] []))
    refine Go.st (fun _ => XS.aloadN X5.here hx rfl (hb hby at_24) rfl rfl) ?_
    show Go p.tables e below P (T5.setTop (mkF m 25 #[.val (.int p0), .val (.int (2 : Int32)), .val (.ref w_C), .val (.int (0 : Int32))] [(.ref w_C)]))
    obtain ⟨cq6, kq6, q6a, q6b, q6c⟩ := isOf hZ e5 (X_C.ext X00.2)
    obtain ⟨_, _, ⟨T6, L6, k6, n6⟩, -, X6, ⟨Lc6, hQ6, l6, y6, z6⟩, st6⟩ := X5.virtualBack hx (y := (⟨"com/example/strikeboard/strikeboard/engine/Guideline$Kind", "isEndlessBan", "()Z"⟩ : MethodName)) (z := (⟨"com/example/strikeboard/strikeboard/engine/Guideline$Kind", "isEndlessBan", "()Z"⟩ : MethodName)) hown (mvT hZ (hw _ (List.mem_of_getElem? (i := 8) rfl))) (mvT hZ (hw _ (List.mem_of_getElem? (i := 9) rfl))) (notFace_of_selects (args := #[]) (mvT hZ (hw _ (List.mem_of_getElem? (i := 11) rfl)))) (mvT hZ (hw _ (List.mem_of_getElem? (i := 11) rfl))) (mvT hZ (hw _ (List.mem_of_getElem? (i := 10) rfl))) (by decide) (backOf (W := 0) (rm_js2 l Z a0 hw [] w_A S_A X_A w_B S_B X_B w_C S_C X_C w_D S_D X_D w_E S_E X_E w_F S_F X_F ne_A_E ne_A_F ne_B_E ne_B_F ne_C_E ne_C_F ne_D_E ne_D_F ne_E_F h0 n0 X00 ) hZ (hw _ (List.mem_of_getElem? (i := 12) rfl)) (hw _ (List.mem_of_getElem? (i := 6) rfl)) (by decide) (by decide)) q6a q6c (g := (mkF m 25 #[.val (.int p0), .val (.int (2 : Int32)), .val (.ref w_C), .val (.int (0 : Int32))] [(.ref w_C)])) rfl (by rw [hml]; rfl) (Steps.refl _) (argsL := []) (rest := []) (lenOf own_pd1 rfl) rfl (by show 2 * 0 + _ ≤ _; exact Nat.le_of_eq rfl) (hb hby at_25) (fun _ _ => ⟨rfl, e5, (by decide : 0 + 0 ≤ _), (by decide : 0 + 0 ≤ _)⟩)
    dsimp only [Pt.U, Pt.locs, Pt.cells, Pt.slots] at X6 l6 y6 z6 st6 hQ6
    subst l6 y6 z6
    refine Go.tr st6 ?_
    obtain ⟨rfl, N6q, e6⟩ := hQ6
    have N6 := Fr.app N5 N6q
    show Go p.tables e below P (T6.setTop (mkF m 28 #[.val (.int p0), .val (.int (2 : Int32)), .val (.ref w_C), .val (.int (0 : Int32))] [(.int (0 : Int32))]))
    refine Go.st (fun _ => XS.iloadN X6.here hx rfl (hb hby at_28) rfl) ?_
    show Go p.tables e below P (T6.setTop (mkF m 29 #[.val (.int p0), .val (.int (2 : Int32)), .val (.ref w_C), .val (.int (0 : Int32))] [(.int (0 : Int32)), (.int (0 : Int32))]))
    refine Go.st (fun _ => XS.icmpNo X6.here hx rfl (hb hby at_29) rfl (teq (by decide)).2) ?_
    show Go p.tables e below P (T6.setTop (mkF m 32 #[.val (.int p0), .val (.int (2 : Int32)), .val (.ref w_C), .val (.int (0 : Int32))] []))
    refine Go.st (fun _ => XS.iconst X6.here hx rfl (hb hby at_32)) ?_
    show Go p.tables e below P (T6.setTop (mkF m 33 #[.val (.int p0), .val (.int (2 : Int32)), .val (.ref w_C), .val (.int (0 : Int32))] [(.int (1 : Int32))]))
    refine Go.st (fun _ => XS.goto X6.here hx rfl (pc0 := 33) (pc' := 37) rfl (hb hby at_33) (by decide) (by decide)) ?_
    show Go p.tables e below P (T6.setTop (mkF m 37 #[.val (.int p0), .val (.int (2 : Int32)), .val (.ref w_C), .val (.int (0 : Int32))] [(.int (1 : Int32))]))
    obtain ⟨fs, hr, hrun, hended, hW, hsame⟩ := X6.leave (v := some (.int (1 : Int32))) (fun h => by rw [Bd.returns] at h; cases h)
    refine ⟨_, ?_, hPend _ _ hrun hended ⟨_, _, rfl, ?_, ⟨_, rfl⟩, hW, hsame.mono (by decide) (by decide)⟩⟩
    · exact retN X6 hx (t := .boolean) Bd.returns (by simp) (hb hby at_37) hr
    · show Q_rm_law Z _ _ _ _ _ _ _ h0 n0 _ T6.heap _
      rw [e6]
      exact ⟨rfl, N6, rfl⟩
  · skip
    rw [hq]
    show Go p.tables e below P (s₁.setTop (mkF m 8 #[.val (.int p0), .val (.int (3 : Int32)), .unset, .unset] []))
    refine Go.st (fun _ => XS.iloadN X0.here hx rfl (hb hby at_8) rfl) ?_
    show Go p.tables e below P (s₁.setTop (mkF m 9 #[.val (.int p0), .val (.int (3 : Int32)), .unset, .unset] [(.int (3 : Int32))]))
    obtain ⟨_, _, ⟨T7, L7, k7, n7⟩, -, X7, ⟨Lc7, hQ7, l7, y7, z7⟩, st7⟩ := Jvm.LawKit.callS X0 hx (y := (⟨"com/example/strikeboard/strikeboard/engine/KindIsEndlessBanPinLaw", "pick", "(I)Lcom/example/strikeboard/strikeboard/engine/Guideline$Kind;"⟩ : MethodName)) hown (mvT hZ (hw _ (List.mem_of_getElem? (i := 1) rfl))) (mvT hZ (hw _ (List.mem_of_getElem? (i := 2) rfl))) (mvT hZ (hw _ (List.mem_of_getElem? (i := 3) rfl))) (mvT hZ (hw _ (List.mem_of_getElem? (i := 4) rfl))) (by decide) (backOf (W := 0) (rm_pick3 l Z a0 hw [] w_A S_A X_A w_B S_B X_B w_C S_C X_C w_D S_D X_D w_E S_E X_E w_F S_F X_F ne_A_E ne_A_F ne_B_E ne_B_F ne_C_E ne_C_F ne_D_E ne_D_F ne_E_F h0 n0 X00 ) hZ (hw _ (List.mem_of_getElem? (i := 4) rfl)) (hw _ (List.mem_of_getElem? (i := 3) rfl)) (by decide) (by decide)) (g := (mkF m 9 #[.val (.int p0), .val (.int (3 : Int32)), .unset, .unset] [(.int (3 : Int32))])) rfl (by rw [hml]; rfl) (argsL := [(.int (3 : Int32))]) (rest := []) (lenOf own_pd0 rfl) rfl (by show 2 * 0 + _ ≤ _; exact Nat.le_of_eq rfl) (hb hby at_9) (fun _ _ => ⟨rfl, e0, (by decide : 0 + 0 ≤ _), (by decide : 0 + 0 ≤ _)⟩)
    dsimp only [Pt.U, Pt.locs, Pt.cells, Pt.slots] at X7 l7 y7 z7 st7 hQ7
    subst l7 y7 z7
    refine Go.st st7 ?_
    obtain ⟨rfl, N7q, e7⟩ := hQ7
    have N7 := Fr.app N0 N7q
    show Go p.tables e below P (T7.setTop (mkF m 12 #[.val (.int p0), .val (.int (3 : Int32)), .unset, .unset] [(.ref w_D)]))
    refine Go.st (fun _ => XS.astoreN X7.here hx rfl (hb hby at_12) rfl rfl (l' := #[.val (.int p0), .val (.int (3 : Int32)), .val (.ref w_D), .unset]) rfl) ?_
    show Go p.tables e below P (T7.setTop (mkF m 13 #[.val (.int p0), .val (.int (3 : Int32)), .val (.ref w_D), .unset] []))
    refine Go.st (fun _ => XS.iloadN X7.here hx rfl (hb hby at_13) rfl) ?_
    show Go p.tables e below P (T7.setTop (mkF m 14 #[.val (.int p0), .val (.int (3 : Int32)), .val (.ref w_D), .unset] [(.int (3 : Int32))]))
    refine Go.st (fun _ => XS.iconst X7.here hx rfl (hb hby at_14)) ?_
    show Go p.tables e below P (T7.setTop (mkF m 15 #[.val (.int p0), .val (.int (3 : Int32)), .val (.ref w_D), .unset] [(.int (4 : Int32)), (.int (3 : Int32))]))
    refine Go.st (fun _ => XS.icmpYes X7.here hx rfl (pc0 := 15) (pc' := 22) rfl (hb hby at_15) rfl (tlt (by decide)).1 (by decide) (by decide)) ?_
    show Go p.tables e below P (T7.setTop (mkF m 22 #[.val (.int p0), .val (.int (3 : Int32)), .val (.ref w_D), .unset] []))
    refine Go.st (fun _ => XS.iconst X7.here hx rfl (hb hby at_22)) ?_
    show Go p.tables e below P (T7.setTop (mkF m 23 #[.val (.int p0), .val (.int (3 : Int32)), .val (.ref w_D), .unset] [(.int (0 : Int32))]))
    refine Go.st (fun _ => XS.istoreN X7.here hx rfl (hb hby at_23) rfl (l' := #[.val (.int p0), .val (.int (3 : Int32)), .val (.ref w_D), .val (.int (0 : Int32))]) rfl) ?_
    show Go p.tables e below P (T7.setTop (mkF m 24 #[.val (.int p0), .val (.int (3 : Int32)), .val (.ref w_D), .val (.int (0 : Int32))] []))
    refine Go.st (fun _ => XS.aloadN X7.here hx rfl (hb hby at_24) rfl rfl) ?_
    show Go p.tables e below P (T7.setTop (mkF m 25 #[.val (.int p0), .val (.int (3 : Int32)), .val (.ref w_D), .val (.int (0 : Int32))] [(.ref w_D)]))
    obtain ⟨cq8, kq8, q8a, q8b, q8c⟩ := isOf hZ e7 (X_D.ext X00.2)
    obtain ⟨_, _, ⟨T8, L8, k8, n8⟩, -, X8, ⟨Lc8, hQ8, l8, y8, z8⟩, st8⟩ := X7.virtualBack hx (y := (⟨"com/example/strikeboard/strikeboard/engine/Guideline$Kind", "isEndlessBan", "()Z"⟩ : MethodName)) (z := (⟨"com/example/strikeboard/strikeboard/engine/Guideline$Kind", "isEndlessBan", "()Z"⟩ : MethodName)) hown (mvT hZ (hw _ (List.mem_of_getElem? (i := 8) rfl))) (mvT hZ (hw _ (List.mem_of_getElem? (i := 9) rfl))) (notFace_of_selects (args := #[]) (mvT hZ (hw _ (List.mem_of_getElem? (i := 11) rfl)))) (mvT hZ (hw _ (List.mem_of_getElem? (i := 11) rfl))) (mvT hZ (hw _ (List.mem_of_getElem? (i := 10) rfl))) (by decide) (backOf (W := 0) (rm_js3 l Z a0 hw [] w_A S_A X_A w_B S_B X_B w_C S_C X_C w_D S_D X_D w_E S_E X_E w_F S_F X_F ne_A_E ne_A_F ne_B_E ne_B_F ne_C_E ne_C_F ne_D_E ne_D_F ne_E_F h0 n0 X00 ) hZ (hw _ (List.mem_of_getElem? (i := 12) rfl)) (hw _ (List.mem_of_getElem? (i := 6) rfl)) (by decide) (by decide)) q8a q8c (g := (mkF m 25 #[.val (.int p0), .val (.int (3 : Int32)), .val (.ref w_D), .val (.int (0 : Int32))] [(.ref w_D)])) rfl (by rw [hml]; rfl) (Steps.refl _) (argsL := []) (rest := []) (lenOf own_pd1 rfl) rfl (by show 2 * 0 + _ ≤ _; exact Nat.le_of_eq rfl) (hb hby at_25) (fun _ _ => ⟨rfl, e7, (by decide : 0 + 0 ≤ _), (by decide : 0 + 0 ≤ _)⟩)
    dsimp only [Pt.U, Pt.locs, Pt.cells, Pt.slots] at X8 l8 y8 z8 st8 hQ8
    subst l8 y8 z8
    refine Go.tr st8 ?_
    obtain ⟨rfl, N8q, e8⟩ := hQ8
    have N8 := Fr.app N7 N8q
    show Go p.tables e below P (T8.setTop (mkF m 28 #[.val (.int p0), .val (.int (3 : Int32)), .val (.ref w_D), .val (.int (0 : Int32))] [(.int (0 : Int32))]))
    refine Go.st (fun _ => XS.iloadN X8.here hx rfl (hb hby at_28) rfl) ?_
    show Go p.tables e below P (T8.setTop (mkF m 29 #[.val (.int p0), .val (.int (3 : Int32)), .val (.ref w_D), .val (.int (0 : Int32))] [(.int (0 : Int32)), (.int (0 : Int32))]))
    refine Go.st (fun _ => XS.icmpNo X8.here hx rfl (hb hby at_29) rfl (teq (by decide)).2) ?_
    show Go p.tables e below P (T8.setTop (mkF m 32 #[.val (.int p0), .val (.int (3 : Int32)), .val (.ref w_D), .val (.int (0 : Int32))] []))
    refine Go.st (fun _ => XS.iconst X8.here hx rfl (hb hby at_32)) ?_
    show Go p.tables e below P (T8.setTop (mkF m 33 #[.val (.int p0), .val (.int (3 : Int32)), .val (.ref w_D), .val (.int (0 : Int32))] [(.int (1 : Int32))]))
    refine Go.st (fun _ => XS.goto X8.here hx rfl (pc0 := 33) (pc' := 37) rfl (hb hby at_33) (by decide) (by decide)) ?_
    show Go p.tables e below P (T8.setTop (mkF m 37 #[.val (.int p0), .val (.int (3 : Int32)), .val (.ref w_D), .val (.int (0 : Int32))] [(.int (1 : Int32))]))
    obtain ⟨fs, hr, hrun, hended, hW, hsame⟩ := X8.leave (v := some (.int (1 : Int32))) (fun h => by rw [Bd.returns] at h; cases h)
    refine ⟨_, ?_, hPend _ _ hrun hended ⟨_, _, rfl, ?_, ⟨_, rfl⟩, hW, hsame.mono (by decide) (by decide)⟩⟩
    · exact retN X8 hx (t := .boolean) Bd.returns (by simp) (hb hby at_37) hr
    · show Q_rm_law Z _ _ _ _ _ _ _ h0 n0 _ T8.heap _
      rw [e8]
      exact ⟨rfl, N8, rfl⟩
  · skip
    rw [hq]
    show Go p.tables e below P (s₁.setTop (mkF m 8 #[.val (.int p0), .val (.int (4 : Int32)), .unset, .unset] []))
    refine Go.st (fun _ => XS.iloadN X0.here hx rfl (hb hby at_8) rfl) ?_
    show Go p.tables e below P (s₁.setTop (mkF m 9 #[.val (.int p0), .val (.int (4 : Int32)), .unset, .unset] [(.int (4 : Int32))]))
    obtain ⟨_, _, ⟨T9, L9, k9, n9⟩, -, X9, ⟨Lc9, hQ9, l9, y9, z9⟩, st9⟩ := Jvm.LawKit.callS X0 hx (y := (⟨"com/example/strikeboard/strikeboard/engine/KindIsEndlessBanPinLaw", "pick", "(I)Lcom/example/strikeboard/strikeboard/engine/Guideline$Kind;"⟩ : MethodName)) hown (mvT hZ (hw _ (List.mem_of_getElem? (i := 1) rfl))) (mvT hZ (hw _ (List.mem_of_getElem? (i := 2) rfl))) (mvT hZ (hw _ (List.mem_of_getElem? (i := 3) rfl))) (mvT hZ (hw _ (List.mem_of_getElem? (i := 4) rfl))) (by decide) (backOf (W := 0) (rm_pick4 l Z a0 hw [] w_A S_A X_A w_B S_B X_B w_C S_C X_C w_D S_D X_D w_E S_E X_E w_F S_F X_F ne_A_E ne_A_F ne_B_E ne_B_F ne_C_E ne_C_F ne_D_E ne_D_F ne_E_F h0 n0 X00 ) hZ (hw _ (List.mem_of_getElem? (i := 4) rfl)) (hw _ (List.mem_of_getElem? (i := 3) rfl)) (by decide) (by decide)) (g := (mkF m 9 #[.val (.int p0), .val (.int (4 : Int32)), .unset, .unset] [(.int (4 : Int32))])) rfl (by rw [hml]; rfl) (argsL := [(.int (4 : Int32))]) (rest := []) (lenOf own_pd0 rfl) rfl (by show 2 * 0 + _ ≤ _; exact Nat.le_of_eq rfl) (hb hby at_9) (fun _ _ => ⟨rfl, e0, (by decide : 0 + 0 ≤ _), (by decide : 0 + 0 ≤ _)⟩)
    dsimp only [Pt.U, Pt.locs, Pt.cells, Pt.slots] at X9 l9 y9 z9 st9 hQ9
    subst l9 y9 z9
    refine Go.st st9 ?_
    obtain ⟨rfl, N9q, e9⟩ := hQ9
    have N9 := Fr.app N0 N9q
    show Go p.tables e below P (T9.setTop (mkF m 12 #[.val (.int p0), .val (.int (4 : Int32)), .unset, .unset] [(.ref w_E)]))
    refine Go.st (fun _ => XS.astoreN X9.here hx rfl (hb hby at_12) rfl rfl (l' := #[.val (.int p0), .val (.int (4 : Int32)), .val (.ref w_E), .unset]) rfl) ?_
    show Go p.tables e below P (T9.setTop (mkF m 13 #[.val (.int p0), .val (.int (4 : Int32)), .val (.ref w_E), .unset] []))
    refine Go.st (fun _ => XS.iloadN X9.here hx rfl (hb hby at_13) rfl) ?_
    show Go p.tables e below P (T9.setTop (mkF m 14 #[.val (.int p0), .val (.int (4 : Int32)), .val (.ref w_E), .unset] [(.int (4 : Int32))]))
    refine Go.st (fun _ => XS.iconst X9.here hx rfl (hb hby at_14)) ?_
    show Go p.tables e below P (T9.setTop (mkF m 15 #[.val (.int p0), .val (.int (4 : Int32)), .val (.ref w_E), .unset] [(.int (4 : Int32)), (.int (4 : Int32))]))
    refine Go.st (fun _ => XS.icmpNo X9.here hx rfl (hb hby at_15) rfl (flt (by decide)).1) ?_
    show Go p.tables e below P (T9.setTop (mkF m 18 #[.val (.int p0), .val (.int (4 : Int32)), .val (.ref w_E), .unset] []))
    refine Go.st (fun _ => XS.iconst X9.here hx rfl (hb hby at_18)) ?_
    show Go p.tables e below P (T9.setTop (mkF m 19 #[.val (.int p0), .val (.int (4 : Int32)), .val (.ref w_E), .unset] [(.int (1 : Int32))]))
    refine Go.st (fun _ => XS.goto X9.here hx rfl (pc0 := 19) (pc' := 23) rfl (hb hby at_19) (by decide) (by decide)) ?_
    show Go p.tables e below P (T9.setTop (mkF m 23 #[.val (.int p0), .val (.int (4 : Int32)), .val (.ref w_E), .unset] [(.int (1 : Int32))]))
    refine Go.st (fun _ => XS.istoreN X9.here hx rfl (hb hby at_23) rfl (l' := #[.val (.int p0), .val (.int (4 : Int32)), .val (.ref w_E), .val (.int (1 : Int32))]) rfl) ?_
    show Go p.tables e below P (T9.setTop (mkF m 24 #[.val (.int p0), .val (.int (4 : Int32)), .val (.ref w_E), .val (.int (1 : Int32))] []))
    refine Go.st (fun _ => XS.aloadN X9.here hx rfl (hb hby at_24) rfl rfl) ?_
    show Go p.tables e below P (T9.setTop (mkF m 25 #[.val (.int p0), .val (.int (4 : Int32)), .val (.ref w_E), .val (.int (1 : Int32))] [(.ref w_E)]))
    obtain ⟨cq10, kq10, q10a, q10b, q10c⟩ := isOf hZ e9 (X_E.ext X00.2)
    obtain ⟨_, _, ⟨T10, L10, k10, n10⟩, -, X10, ⟨Lc10, hQ10, l10, y10, z10⟩, st10⟩ := X9.virtualBack hx (y := (⟨"com/example/strikeboard/strikeboard/engine/Guideline$Kind", "isEndlessBan", "()Z"⟩ : MethodName)) (z := (⟨"com/example/strikeboard/strikeboard/engine/Guideline$Kind", "isEndlessBan", "()Z"⟩ : MethodName)) hown (mvT hZ (hw _ (List.mem_of_getElem? (i := 8) rfl))) (mvT hZ (hw _ (List.mem_of_getElem? (i := 9) rfl))) (notFace_of_selects (args := #[]) (mvT hZ (hw _ (List.mem_of_getElem? (i := 11) rfl)))) (mvT hZ (hw _ (List.mem_of_getElem? (i := 11) rfl))) (mvT hZ (hw _ (List.mem_of_getElem? (i := 10) rfl))) (by decide) (backOf (W := 0) (rm_js4 l Z a0 hw [] w_A S_A X_A w_B S_B X_B w_C S_C X_C w_D S_D X_D w_E S_E X_E w_F S_F X_F ne_A_E ne_A_F ne_B_E ne_B_F ne_C_E ne_C_F ne_D_E ne_D_F ne_E_F h0 n0 X00 ) hZ (hw _ (List.mem_of_getElem? (i := 12) rfl)) (hw _ (List.mem_of_getElem? (i := 6) rfl)) (by decide) (by decide)) q10a q10c (g := (mkF m 25 #[.val (.int p0), .val (.int (4 : Int32)), .val (.ref w_E), .val (.int (1 : Int32))] [(.ref w_E)])) rfl (by rw [hml]; rfl) (Steps.refl _) (argsL := []) (rest := []) (lenOf own_pd1 rfl) rfl (by show 2 * 0 + _ ≤ _; exact Nat.le_of_eq rfl) (hb hby at_25) (fun _ _ => ⟨rfl, e9, (by decide : 0 + 0 ≤ _), (by decide : 0 + 0 ≤ _)⟩)
    dsimp only [Pt.U, Pt.locs, Pt.cells, Pt.slots] at X10 l10 y10 z10 st10 hQ10
    subst l10 y10 z10
    refine Go.tr st10 ?_
    obtain ⟨rfl, N10q, e10⟩ := hQ10
    have N10 := Fr.app N9 N10q
    show Go p.tables e below P (T10.setTop (mkF m 28 #[.val (.int p0), .val (.int (4 : Int32)), .val (.ref w_E), .val (.int (1 : Int32))] [(.int (1 : Int32))]))
    refine Go.st (fun _ => XS.iloadN X10.here hx rfl (hb hby at_28) rfl) ?_
    show Go p.tables e below P (T10.setTop (mkF m 29 #[.val (.int p0), .val (.int (4 : Int32)), .val (.ref w_E), .val (.int (1 : Int32))] [(.int (1 : Int32)), (.int (1 : Int32))]))
    refine Go.st (fun _ => XS.icmpNo X10.here hx rfl (hb hby at_29) rfl (teq (by decide)).2) ?_
    show Go p.tables e below P (T10.setTop (mkF m 32 #[.val (.int p0), .val (.int (4 : Int32)), .val (.ref w_E), .val (.int (1 : Int32))] []))
    refine Go.st (fun _ => XS.iconst X10.here hx rfl (hb hby at_32)) ?_
    show Go p.tables e below P (T10.setTop (mkF m 33 #[.val (.int p0), .val (.int (4 : Int32)), .val (.ref w_E), .val (.int (1 : Int32))] [(.int (1 : Int32))]))
    refine Go.st (fun _ => XS.goto X10.here hx rfl (pc0 := 33) (pc' := 37) rfl (hb hby at_33) (by decide) (by decide)) ?_
    show Go p.tables e below P (T10.setTop (mkF m 37 #[.val (.int p0), .val (.int (4 : Int32)), .val (.ref w_E), .val (.int (1 : Int32))] [(.int (1 : Int32))]))
    obtain ⟨fs, hr, hrun, hended, hW, hsame⟩ := X10.leave (v := some (.int (1 : Int32))) (fun h => by rw [Bd.returns] at h; cases h)
    refine ⟨_, ?_, hPend _ _ hrun hended ⟨_, _, rfl, ?_, ⟨_, rfl⟩, hW, hsame.mono (by decide) (by decide)⟩⟩
    · exact retN X10 hx (t := .boolean) Bd.returns (by simp) (hb hby at_37) hr
    · show Q_rm_law Z _ _ _ _ _ _ _ h0 n0 _ T10.heap _
      rw [e10]
      exact ⟨rfl, N10, rfl⟩
  · skip
    rw [hq]
    show Go p.tables e below P (s₁.setTop (mkF m 8 #[.val (.int p0), .val (.int (5 : Int32)), .unset, .unset] []))
    refine Go.st (fun _ => XS.iloadN X0.here hx rfl (hb hby at_8) rfl) ?_
    show Go p.tables e below P (s₁.setTop (mkF m 9 #[.val (.int p0), .val (.int (5 : Int32)), .unset, .unset] [(.int (5 : Int32))]))
    obtain ⟨_, _, ⟨T11, L11, k11, n11⟩, -, X11, ⟨Lc11, hQ11, l11, y11, z11⟩, st11⟩ := Jvm.LawKit.callS X0 hx (y := (⟨"com/example/strikeboard/strikeboard/engine/KindIsEndlessBanPinLaw", "pick", "(I)Lcom/example/strikeboard/strikeboard/engine/Guideline$Kind;"⟩ : MethodName)) hown (mvT hZ (hw _ (List.mem_of_getElem? (i := 1) rfl))) (mvT hZ (hw _ (List.mem_of_getElem? (i := 2) rfl))) (mvT hZ (hw _ (List.mem_of_getElem? (i := 3) rfl))) (mvT hZ (hw _ (List.mem_of_getElem? (i := 4) rfl))) (by decide) (backOf (W := 0) (rm_pick5 l Z a0 hw [] w_A S_A X_A w_B S_B X_B w_C S_C X_C w_D S_D X_D w_E S_E X_E w_F S_F X_F ne_A_E ne_A_F ne_B_E ne_B_F ne_C_E ne_C_F ne_D_E ne_D_F ne_E_F h0 n0 X00 ) hZ (hw _ (List.mem_of_getElem? (i := 4) rfl)) (hw _ (List.mem_of_getElem? (i := 3) rfl)) (by decide) (by decide)) (g := (mkF m 9 #[.val (.int p0), .val (.int (5 : Int32)), .unset, .unset] [(.int (5 : Int32))])) rfl (by rw [hml]; rfl) (argsL := [(.int (5 : Int32))]) (rest := []) (lenOf own_pd0 rfl) rfl (by show 2 * 0 + _ ≤ _; exact Nat.le_of_eq rfl) (hb hby at_9) (fun _ _ => ⟨rfl, e0, (by decide : 0 + 0 ≤ _), (by decide : 0 + 0 ≤ _)⟩)
    dsimp only [Pt.U, Pt.locs, Pt.cells, Pt.slots] at X11 l11 y11 z11 st11 hQ11
    subst l11 y11 z11
    refine Go.st st11 ?_
    obtain ⟨rfl, N11q, e11⟩ := hQ11
    have N11 := Fr.app N0 N11q
    show Go p.tables e below P (T11.setTop (mkF m 12 #[.val (.int p0), .val (.int (5 : Int32)), .unset, .unset] [(.ref w_F)]))
    refine Go.st (fun _ => XS.astoreN X11.here hx rfl (hb hby at_12) rfl rfl (l' := #[.val (.int p0), .val (.int (5 : Int32)), .val (.ref w_F), .unset]) rfl) ?_
    show Go p.tables e below P (T11.setTop (mkF m 13 #[.val (.int p0), .val (.int (5 : Int32)), .val (.ref w_F), .unset] []))
    refine Go.st (fun _ => XS.iloadN X11.here hx rfl (hb hby at_13) rfl) ?_
    show Go p.tables e below P (T11.setTop (mkF m 14 #[.val (.int p0), .val (.int (5 : Int32)), .val (.ref w_F), .unset] [(.int (5 : Int32))]))
    refine Go.st (fun _ => XS.iconst X11.here hx rfl (hb hby at_14)) ?_
    show Go p.tables e below P (T11.setTop (mkF m 15 #[.val (.int p0), .val (.int (5 : Int32)), .val (.ref w_F), .unset] [(.int (4 : Int32)), (.int (5 : Int32))]))
    refine Go.st (fun _ => XS.icmpNo X11.here hx rfl (hb hby at_15) rfl (flt (by decide)).1) ?_
    show Go p.tables e below P (T11.setTop (mkF m 18 #[.val (.int p0), .val (.int (5 : Int32)), .val (.ref w_F), .unset] []))
    refine Go.st (fun _ => XS.iconst X11.here hx rfl (hb hby at_18)) ?_
    show Go p.tables e below P (T11.setTop (mkF m 19 #[.val (.int p0), .val (.int (5 : Int32)), .val (.ref w_F), .unset] [(.int (1 : Int32))]))
    refine Go.st (fun _ => XS.goto X11.here hx rfl (pc0 := 19) (pc' := 23) rfl (hb hby at_19) (by decide) (by decide)) ?_
    show Go p.tables e below P (T11.setTop (mkF m 23 #[.val (.int p0), .val (.int (5 : Int32)), .val (.ref w_F), .unset] [(.int (1 : Int32))]))
    refine Go.st (fun _ => XS.istoreN X11.here hx rfl (hb hby at_23) rfl (l' := #[.val (.int p0), .val (.int (5 : Int32)), .val (.ref w_F), .val (.int (1 : Int32))]) rfl) ?_
    show Go p.tables e below P (T11.setTop (mkF m 24 #[.val (.int p0), .val (.int (5 : Int32)), .val (.ref w_F), .val (.int (1 : Int32))] []))
    refine Go.st (fun _ => XS.aloadN X11.here hx rfl (hb hby at_24) rfl rfl) ?_
    show Go p.tables e below P (T11.setTop (mkF m 25 #[.val (.int p0), .val (.int (5 : Int32)), .val (.ref w_F), .val (.int (1 : Int32))] [(.ref w_F)]))
    obtain ⟨cq12, kq12, q12a, q12b, q12c⟩ := isOf hZ e11 (X_F.ext X00.2)
    obtain ⟨_, _, ⟨T12, L12, k12, n12⟩, -, X12, ⟨Lc12, hQ12, l12, y12, z12⟩, st12⟩ := X11.virtualBack hx (y := (⟨"com/example/strikeboard/strikeboard/engine/Guideline$Kind", "isEndlessBan", "()Z"⟩ : MethodName)) (z := (⟨"com/example/strikeboard/strikeboard/engine/Guideline$Kind", "isEndlessBan", "()Z"⟩ : MethodName)) hown (mvT hZ (hw _ (List.mem_of_getElem? (i := 8) rfl))) (mvT hZ (hw _ (List.mem_of_getElem? (i := 9) rfl))) (notFace_of_selects (args := #[]) (mvT hZ (hw _ (List.mem_of_getElem? (i := 11) rfl)))) (mvT hZ (hw _ (List.mem_of_getElem? (i := 11) rfl))) (mvT hZ (hw _ (List.mem_of_getElem? (i := 10) rfl))) (by decide) (backOf (W := 0) (rm_js5 l Z a0 hw [] w_A S_A X_A w_B S_B X_B w_C S_C X_C w_D S_D X_D w_E S_E X_E w_F S_F X_F ne_A_E ne_A_F ne_B_E ne_B_F ne_C_E ne_C_F ne_D_E ne_D_F ne_E_F h0 n0 X00 ) hZ (hw _ (List.mem_of_getElem? (i := 12) rfl)) (hw _ (List.mem_of_getElem? (i := 6) rfl)) (by decide) (by decide)) q12a q12c (g := (mkF m 25 #[.val (.int p0), .val (.int (5 : Int32)), .val (.ref w_F), .val (.int (1 : Int32))] [(.ref w_F)])) rfl (by rw [hml]; rfl) (Steps.refl _) (argsL := []) (rest := []) (lenOf own_pd1 rfl) rfl (by show 2 * 0 + _ ≤ _; exact Nat.le_of_eq rfl) (hb hby at_25) (fun _ _ => ⟨rfl, e11, (by decide : 0 + 0 ≤ _), (by decide : 0 + 0 ≤ _)⟩)
    dsimp only [Pt.U, Pt.locs, Pt.cells, Pt.slots] at X12 l12 y12 z12 st12 hQ12
    subst l12 y12 z12
    refine Go.tr st12 ?_
    obtain ⟨rfl, N12q, e12⟩ := hQ12
    have N12 := Fr.app N11 N12q
    show Go p.tables e below P (T12.setTop (mkF m 28 #[.val (.int p0), .val (.int (5 : Int32)), .val (.ref w_F), .val (.int (1 : Int32))] [(.int (1 : Int32))]))
    refine Go.st (fun _ => XS.iloadN X12.here hx rfl (hb hby at_28) rfl) ?_
    show Go p.tables e below P (T12.setTop (mkF m 29 #[.val (.int p0), .val (.int (5 : Int32)), .val (.ref w_F), .val (.int (1 : Int32))] [(.int (1 : Int32)), (.int (1 : Int32))]))
    refine Go.st (fun _ => XS.icmpNo X12.here hx rfl (hb hby at_29) rfl (teq (by decide)).2) ?_
    show Go p.tables e below P (T12.setTop (mkF m 32 #[.val (.int p0), .val (.int (5 : Int32)), .val (.ref w_F), .val (.int (1 : Int32))] []))
    refine Go.st (fun _ => XS.iconst X12.here hx rfl (hb hby at_32)) ?_
    show Go p.tables e below P (T12.setTop (mkF m 33 #[.val (.int p0), .val (.int (5 : Int32)), .val (.ref w_F), .val (.int (1 : Int32))] [(.int (1 : Int32))]))
    refine Go.st (fun _ => XS.goto X12.here hx rfl (pc0 := 33) (pc' := 37) rfl (hb hby at_33) (by decide) (by decide)) ?_
    show Go p.tables e below P (T12.setTop (mkF m 37 #[.val (.int p0), .val (.int (5 : Int32)), .val (.ref w_F), .val (.int (1 : Int32))] [(.int (1 : Int32))]))
    obtain ⟨fs, hr, hrun, hended, hW, hsame⟩ := X12.leave (v := some (.int (1 : Int32))) (fun h => by rw [Bd.returns] at h; cases h)
    refine ⟨_, ?_, hPend _ _ hrun hended ⟨_, _, rfl, ?_, ⟨_, rfl⟩, hW, hsame.mono (by decide) (by decide)⟩⟩
    · exact retN X12 hx (t := .boolean) Bd.returns (by simp) (hb hby at_37) hr
    · show Q_rm_law Z _ _ _ _ _ _ _ h0 n0 _ T12.heap _
      rw [e12]
      exact ⟨rfl, N12, rfl⟩
set_option maxRecDepth 65536 in
set_option maxHeartbeats 40000000 in
theorem comes_1 {Post : Tables → Env → Array Value → State → Outcome → State → Prop} (hpost : ∀ tb e args s v u, (limb_1_1.after args s (.returned v) u = true ∧ limb_1_2.after args s (.returned v) u = true ∧ True) → FrameEnd s (.returned v) u (Jvm.fieldLocs frame_1_writes args s ++ Jvm.arrayLocs frame_1_arrays args s ++ Jvm.staticLocs frame_1_statics s) 0 0 → Post tb e args s (.returned v) u) :
    ArmFor flags0 classFile x code maxLocals ret World_1 tables_1 room_1 Calls_1 rest_1 Pre_1 Post := by
  intro l hfl _ _ p e ha hc hk s m args below hf hA hF happ hP
  obtain ⟨hcalls, hrest, hpre⟩ := hP
  obtain ⟨-, -, -, hnamed, -, -, -, hat⟩ := (Spec.applies_iff hf).mp happ
  obtain ⟨hg, hn⟩ := and_e (Cond.before_iff.mp (show (Jvm.Cond.and given_1 narrow_1).before args s = true from hpre))
  obtain ⟨hc_1, hc_2⟩ := and_e hg
  obtain ⟨w0, rfl⟩ : ∃ w0 : Value, args = #[w0] := by
    have hs : args.size = 1 := by simpa [Cond.value, given_1] using hc_1
    obtain ⟨L⟩ := args
    match L, hs with
    | [w0], _ => exact ⟨w0, rfl⟩
  have hw := fun d (hd : d ∈ tables_1) => atoms_spec (ws := Jvm.Cond.code x code maxLocals ret :: tables_1) hat d (List.mem_cons_of_mem _ hd)
  have hfit : Fit s := fun {y c} hc i hi => by
    obtain ⟨ha, rfl⟩ := Array.getElem?_eq_some_iff.mp hc
    have q := List.all_eq_true.mp ((Array.all_eq_true_iff_forall_mem.mp hF) _ (Array.getElem_mem ha)) i (List.mem_range.mpr hi)
    simpa [Array.getElem?_eq_getElem hi] using q
  obtain ⟨i0, ea0⟩ := is_v hc_2
  obtain rfl : w0 = (.int i0) := Option.some.inj ea0
  obtain ⟨hc_3, hc_4⟩ := and_e hn
  obtain ⟨hc_5, hc_6⟩ := and_e hc_4
  obtain ⟨hc_7, hc_8⟩ := and_e hc_6
  obtain ⟨hc_9, hc_10⟩ := and_e hc_8
  obtain ⟨hc_11, hc_12⟩ := and_e hc_10
  obtain ⟨hc_13, hc_14⟩ := and_e hc_12
  obtain ⟨hc_15, hc_16⟩ := and_e hc_14
  obtain ⟨hc_17, hc_18⟩ := and_e hc_16
  obtain ⟨hc_19, hc_20⟩ := and_e hc_18
  obtain ⟨hc_21, hc_22⟩ := and_e hc_20
  obtain ⟨hc_23, hc_24⟩ := and_e hc_22
  obtain ⟨w_A, ev_A⟩ := exa_v hc_3
  have S_A := Sta.start ev_A (Or.inr ⟨(hw _ (List.mem_of_getElem? (i := 6) rfl)), (hw _ (List.mem_of_getElem? (i := 7) rfl))⟩)
  have X_A := Exa.start ev_A hc_3
  obtain ⟨w_E, ev_E⟩ := exa_v hc_5
  have S_E := Sta.start ev_E (Or.inr ⟨(hw _ (List.mem_of_getElem? (i := 6) rfl)), (hw _ (List.mem_of_getElem? (i := 14) rfl))⟩)
  have X_E := Exa.start ev_E hc_5
  obtain ⟨w_F, ev_F⟩ := exa_v hc_11
  have S_F := Sta.start ev_F (Or.inr ⟨(hw _ (List.mem_of_getElem? (i := 6) rfl)), (hw _ (List.mem_of_getElem? (i := 16) rfl))⟩)
  have X_F := Exa.start ev_F hc_11
  obtain ⟨w_D, ev_D⟩ := exa_v hc_15
  have S_D := Sta.start ev_D (Or.inr ⟨(hw _ (List.mem_of_getElem? (i := 6) rfl)), (hw _ (List.mem_of_getElem? (i := 18) rfl))⟩)
  have X_D := Exa.start ev_D hc_15
  obtain ⟨w_C, ev_C⟩ := exa_v hc_19
  have S_C := Sta.start ev_C (Or.inr ⟨(hw _ (List.mem_of_getElem? (i := 6) rfl)), (hw _ (List.mem_of_getElem? (i := 20) rfl))⟩)
  have X_C := Exa.start ev_C hc_19
  obtain ⟨w_B, ev_B⟩ := exa_v hc_23
  have S_B := Sta.start ev_B (Or.inr ⟨(hw _ (List.mem_of_getElem? (i := 6) rfl)), (hw _ (List.mem_of_getElem? (i := 22) rfl))⟩)
  have X_B := Exa.start ev_B hc_23
  have O_A := Fld.start ((fld_at ev_A).symm.trans (eqv_i (Term.int_eval (0)) hc_7))
  have O_E := Fld.start ((fld_at ev_E).symm.trans (eqv_i (Term.int_eval (4)) hc_9))
  have O_F := Fld.start ((fld_at ev_F).symm.trans (eqv_i (Term.int_eval (5)) hc_13))
  have O_D := Fld.start ((fld_at ev_D).symm.trans (eqv_i (Term.int_eval (3)) hc_17))
  have O_C := Fld.start ((fld_at ev_C).symm.trans (eqv_i (Term.int_eval (2)) hc_21))
  have O_B := Fld.start ((fld_at ev_B).symm.trans (eqv_i (Term.int_eval (1)) hc_24))
  have ne_A_E : w_A ≠ w_E := Fld.ne O_A O_E (by decide)
  have ne_A_F : w_A ≠ w_F := Fld.ne O_A O_F (by decide)
  have ne_B_E : w_B ≠ w_E := Fld.ne O_B O_E (by decide)
  have ne_B_F : w_B ≠ w_F := Fld.ne O_B O_F (by decide)
  have ne_C_E : w_C ≠ w_E := Fld.ne O_C O_E (by decide)
  have ne_C_F : w_C ≠ w_F := Fld.ne O_C O_F (by decide)
  have ne_D_E : w_D ≠ w_E := Fld.ne O_D O_E (by decide)
  have ne_D_F : w_D ≠ w_F := Fld.ne O_D O_F (by decide)
  have ne_E_F : w_E ≠ w_F := Fld.ne O_E O_F (by decide)
  obtain ⟨n, o, h1, h2, h3, _, L, rfl, ⟨rfl, N, _⟩, hq⟩ := rm_law l s _ hw tables_1 w_A S_A X_A w_B S_B X_B w_C S_C X_C w_D S_D X_D w_E S_E X_E w_F S_F X_F ne_A_E ne_A_F ne_B_E ne_B_F ne_C_E ne_C_F ne_D_E ne_D_F ne_E_F i0 s.heap s.heap.size (Old.start s) p e ha hc hk s m _ below hf ((Spec.applies_iff_loose hf).mp happ).1 ⟨rfl, State.Warmed39.refl s, rfl⟩ trivial
  refine ⟨n, _, h1, h2, h3, hpost _ _ _ _ _ _ ⟨Cond.after_iff.mpr rfl, Cond.after_iff.mpr (eq_i res_at (Term.int_eval (1)) rfl), trivial⟩ ⟨hq.1, hq.2.1, (hq.2.2.sift fun y hy => Or.inr (N y hy)).mono (by decide) (by decide)⟩⟩
theorem main_1_1 : Claimed_1_1 := comes_1 fun _ _ _ _ _ _ h hF => ⟨h.1, hF⟩
theorem main_1_2 : Claimed_1_2 := comes_1 fun _ _ _ _ _ _ h hF => ⟨h.2.1, hF⟩
end Jvm.Pilot.@@N@@
namespace Jvm.Pilot.@@N@@
open Jvm Jvm.ClassFile Sem Op Lib Jvm.Free Jvm.Stand Jvm.Pilot.@@N@@.Jvm.D
/-! MADE BY PROGRAM (witnessworld.py) out of the Statement's table words and the real class files: 10 classes; the members and pool entries that the words name. The judged class is class 1, her method 2. -/
namespace start1
open Jvm.ClassFile
def u (s : String) : CpInfo := .utf8 (stringToUtf16 s)
/-- a pool by its gaps: so many unusable entries, then the entry; so many at the end -/
def gap : Nat → List CpInfo → List CpInfo
  | 0, r => r
  | n + 1, r => .unusable :: gap n r
def poolList (es : List (Nat × CpInfo)) (last : Nat) : List CpInfo := es.foldr (fun e r => gap e.1 (e.2 :: r)) (gap last [])
def pool (es : List (Nat × CpInfo)) (last : Nat) : Array CpInfo := ⟨poolList es last⟩
def fileOf (pool : Array CpInfo) (this : Nat) (attrs : Array Attribute := #[]) (ms : Array MethodInfo := #[]) (fl : Nat := 33) (sup : Nat := 0) (ifs : Array Nat := #[]) (fds : Array FieldInfo := #[]) : ClassFile where
  minorVersion := 0
  majorVersion := 65
  constantPool := pool
  accessFlags := fl
  thisClass := this
  superClass := sup
  interfaces := ifs
  fields := fds
  methods := ms
  attributes := attrs
def plain (name : String) (sup : Option ClassId) : Class where
  name := name
  kind := .ordinary
  loader := none
  accessFlags := 33
  super := sup
  interfaces := #[]
  cf := none
  fields := #[]
  methods := #[]
  instanceTypes := #[]
  staticTypes := #[]
  resolved := #[]
  callSites := []
  init := .initialized
  statics := none
  mirror := none

def pool0 : Array CpInfo := pool [(5, u "<init>"), (0, u "()V"), (1, .class_ 10), (1, u "java/lang/Object")] 113

def k0m0 : Method := { name := "<init>", desc := "()V", sig := { parameters := [], returnType := none }, accessFlags := 1, code := none }
/-- java/lang/Object -/
def k0 : Class := { plain "java/lang/Object" none with
  accessFlags := 33
  interfaces := #[]
  cf := some (fileOf pool0 8 #[] #[{ accessFlags := 1, nameIndex := 5, descriptorIndex := 6, attributes := #[] }] 33 0 #[] #[])
  fields := #[]
  methods := #[k0m0]
  instanceTypes := #[]
  staticTypes := #[]
  resolved := Array.replicate 124 none
  statics := none }

def pool1 : Array CpInfo := pool [(2, .class_ 4), (1, u "java/lang/Object"), (0, u "<init>"), (0, u "()V"), (0, .fieldref 8 9), (0, .class_ 10), (0, .nameAndType 11 12), (0, u "com/example/strikeboard/strikeboard/engine/Guideline$Kind"), (0, u "NO_ACTION"), (0, u "Lcom/example/strikeboard/strikeboard/engine/Guideline$Kind;"), (0, .fieldref 8 14), (0, .nameAndType 15 12), (0, u "WARNING"), (0, .fieldref 8 17), (0, .nameAndType 18 12), (0, u "KICK"), (0, .fieldref 8 20), (0, .nameAndType 21 12), (0, u "BANS"), (0, .fieldref 8 23), (0, .nameAndType 24 12), (0, u "VOUCHER_BAN"), (0, .fieldref 8 26), (0, .nameAndType 27 12), (0, u "PERMANENT_BAN"), (0, .integer 2147483647), (0, .methodref 30 31), (0, .class_ 32), (0, .nameAndType 33 34), (0, u "com/example/strikeboard/strikeboard/engine/KindIsEndlessBanPinLaw"), (0, u "pick"), (0, u "(I)Lcom/example/strikeboard/strikeboard/engine/Guideline$Kind;"), (0, .methodref 8 36), (0, .nameAndType 37 38), (0, u "isEndlessBan"), (0, u "()Z"), (3, u "law"), (0, u "(I)Z")] 6

def k1m0 : Method := { name := "<init>", desc := "()V", sig := { parameters := [], returnType := none }, accessFlags := 2, code := none }
def k1c1 : Code := { maxStack := 2, maxLocals := 1, code := method_2_code, exceptionTable := #[], attributes := #[] }
def k1m1 : Method := { name := "pick", desc := "(I)Lcom/example/strikeboard/strikeboard/engine/Guideline$Kind;", sig := { parameters := [.int], returnType := some (.object "com/example/strikeboard/strikeboard/engine/Guideline$Kind") }, accessFlags := 10, code := some k1c1 }
def k1c2 : Code := { maxStack := 2, maxLocals := 4, code := code, exceptionTable := #[], attributes := #[] }
def k1m2 : Method := { name := "law", desc := "(I)Z", sig := { parameters := [.int], returnType := some .boolean }, accessFlags := 9, code := some k1c2 }
/-- com/example/strikeboard/strikeboard/engine/KindIsEndlessBanPinLaw -/
def k1 : Class := { plain "com/example/strikeboard/strikeboard/engine/KindIsEndlessBanPinLaw" (some 0) with
  accessFlags := 49
  interfaces := #[]
  cf := some (fileOf pool1 30 #[] #[{ accessFlags := 2, nameIndex := 5, descriptorIndex := 6, attributes := #[] }, { accessFlags := 10, nameIndex := 33, descriptorIndex := 34, attributes := #[] }, { accessFlags := 9, nameIndex := 42, descriptorIndex := 43, attributes := #[] }] 49 2 #[] #[])
  fields := #[]
  methods := #[k1m0, k1m1, k1m2]
  instanceTypes := #[]
  staticTypes := #[]
  resolved := Array.replicate 50 none
  statics := none }

def pool2 : Array CpInfo := pool [(1, .class_ 2), (0, u "java/lang/constant/Constable"), (0, .class_ 4), (0, u "java/lang/Object")] 6

/-- java/lang/constant/Constable -/
def k2 : Class := { plain "java/lang/constant/Constable" (some 0) with
  accessFlags := 1537
  interfaces := #[]
  cf := some (fileOf pool2 1 #[] #[] 1537 3 #[] #[])
  fields := #[]
  methods := #[]
  instanceTypes := #[]
  staticTypes := #[]
  resolved := Array.replicate 11 none
  statics := none }

def pool3 : Array CpInfo := pool [(1, .class_ 2), (0, u "java/lang/Comparable"), (0, .class_ 4), (0, u "java/lang/Object")] 7

/-- java/lang/Comparable -/
def k3 : Class := { plain "java/lang/Comparable" (some 0) with
  accessFlags := 1537
  interfaces := #[]
  cf := some (fileOf pool3 1 #[] #[] 1537 3 #[] #[])
  fields := #[]
  methods := #[]
  instanceTypes := #[]
  staticTypes := #[]
  resolved := Array.replicate 12 none
  statics := none }

def pool4 : Array CpInfo := pool [(1, .class_ 2), (0, u "java/io/Serializable"), (0, .class_ 4), (0, u "java/lang/Object")] 2

/-- java/io/Serializable -/
def k4 : Class := { plain "java/io/Serializable" (some 0) with
  accessFlags := 1537
  interfaces := #[]
  cf := some (fileOf pool4 1 #[] #[] 1537 3 #[] #[])
  fields := #[]
  methods := #[]
  instanceTypes := #[]
  staticTypes := #[]
  resolved := Array.replicate 7 none
  statics := none }

def pool5 : Array CpInfo := pool [(2, .class_ 4), (1, u "java/lang/Enum"), (0, u "name"), (0, u "Ljava/lang/String;"), (2, u "ordinal"), (0, u "I"), (1, .class_ 14), (1, u "java/lang/Object"), (4, u "hash"), (86, .class_ 108), (1, u "java/lang/Enum$EnumDesc"), (2, .class_ 112), (0, u "java/lang/constant/Constable"), (0, .class_ 114), (0, u "java/lang/Comparable"), (0, .class_ 116), (0, u "java/io/Serializable")] 87

/-- java/lang/Enum -/
def k5 : Class := { plain "java/lang/Enum" (some 0) with
  accessFlags := 1057
  interfaces := #[2, 3, 4]
  cf := some (fileOf pool5 2 #[.nestMembers #[106]] #[] 1057 12 #[111, 113, 115] #[{ accessFlags := 18, nameIndex := 5, descriptorIndex := 6, attributes := #[] }, { accessFlags := 18, nameIndex := 9, descriptorIndex := 10, attributes := #[] }, { accessFlags := 2, nameIndex := 19, descriptorIndex := 10, attributes := #[] }])
  fields := #[{ name := "name", type := (.object "java/lang/String"), accessFlags := 18, slot := 0, constantValue := 0 }, { name := "ordinal", type := .int, accessFlags := 18, slot := 1, constantValue := 0 }, { name := "hash", type := .int, accessFlags := 2, slot := 2, constantValue := 0 }]
  methods := #[]
  instanceTypes := #[(.object "java/lang/String"), .int, .int]
  staticTypes := #[]
  resolved := Array.replicate 204 none
  statics := none }

def pool6 : Array CpInfo := pool [(1, .class_ 2), (0, u "com/example/strikeboard/strikeboard/engine/Guideline$Kind"), (2, u "NO_ACTION"), (0, u "Lcom/example/strikeboard/strikeboard/engine/Guideline$Kind;"), (2, u "WARNING"), (2, u "KICK"), (2, u "BANS"), (0, .fieldref 1 17), (0, .nameAndType 18 6), (0, u "VOUCHER_BAN"), (0, .fieldref 1 20), (0, .nameAndType 21 6), (0, u "PERMANENT_BAN"), (2, u "$VALUES"), (0, u "[Lcom/example/strikeboard/strikeboard/engine/Guideline$Kind;"), (6, .class_ 34), (1, u "java/lang/Enum"), (8, u "word"), (0, u "Ljava/lang/String;"), (65, u "isEndlessBan"), (0, u "()Z"), (12, .class_ 125), (0, u "com/example/strikeboard/strikeboard/engine/Guideline")] 21

def k6c0 : Code := { maxStack := 2, maxLocals := 1, code := prog_30_method_5_code, exceptionTable := #[], attributes := #[] }
def k6m0 : Method := { name := "isEndlessBan", desc := "()Z", sig := { parameters := [], returnType := some .boolean }, accessFlags := 1, code := some k6c0 }
/-- com/example/strikeboard/strikeboard/engine/Guideline$Kind -/
def k6 : Class := { plain "com/example/strikeboard/strikeboard/engine/Guideline$Kind" (some 5) with
  accessFlags := 16433
  interfaces := #[]
  cf := some (fileOf pool6 1 #[.nestHost 124] #[{ accessFlags := 1, nameIndex := 110, descriptorIndex := 111, attributes := #[] }] 16433 32 #[] #[{ accessFlags := 16409, nameIndex := 5, descriptorIndex := 6, attributes := #[] }, { accessFlags := 16409, nameIndex := 9, descriptorIndex := 6, attributes := #[] }, { accessFlags := 16409, nameIndex := 12, descriptorIndex := 6, attributes := #[] }, { accessFlags := 16409, nameIndex := 15, descriptorIndex := 6, attributes := #[] }, { accessFlags := 16409, nameIndex := 18, descriptorIndex := 6, attributes := #[] }, { accessFlags := 16409, nameIndex := 21, descriptorIndex := 6, attributes := #[] }, { accessFlags := 18, nameIndex := 43, descriptorIndex := 44, attributes := #[] }, { accessFlags := 4122, nameIndex := 24, descriptorIndex := 25, attributes := #[] }])
  fields := #[{ name := "NO_ACTION", type := (.object "com/example/strikeboard/strikeboard/engine/Guideline$Kind"), accessFlags := 16409, slot := 0, constantValue := 0 }, { name := "WARNING", type := (.object "com/example/strikeboard/strikeboard/engine/Guideline$Kind"), accessFlags := 16409, slot := 1, constantValue := 0 }, { name := "KICK", type := (.object "com/example/strikeboard/strikeboard/engine/Guideline$Kind"), accessFlags := 16409, slot := 2, constantValue := 0 }, { name := "BANS", type := (.object "com/example/strikeboard/strikeboard/engine/Guideline$Kind"), accessFlags := 16409, slot := 3, constantValue := 0 }, { name := "VOUCHER_BAN", type := (.object "com/example/strikeboard/strikeboard/engine/Guideline$Kind"), accessFlags := 16409, slot := 4, constantValue := 0 }, { name := "PERMANENT_BAN", type := (.object "com/example/strikeboard/strikeboard/engine/Guideline$Kind"), accessFlags := 16409, slot := 5, constantValue := 0 }, { name := "word", type := (.object "java/lang/String"), accessFlags := 18, slot := 3, constantValue := 0 }, { name := "$VALUES", type := (.array (.object "com/example/strikeboard/strikeboard/engine/Guideline$Kind")), accessFlags := 4122, slot := 6, constantValue := 0 }]
  methods := #[k6m0]
  instanceTypes := #[(.object "java/lang/String"), .int, .int, (.object "java/lang/String")]
  staticTypes := #[(.object "com/example/strikeboard/strikeboard/engine/Guideline$Kind"), (.object "com/example/strikeboard/strikeboard/engine/Guideline$Kind"), (.object "com/example/strikeboard/strikeboard/engine/Guideline$Kind"), (.object "com/example/strikeboard/strikeboard/engine/Guideline$Kind"), (.object "com/example/strikeboard/strikeboard/engine/Guideline$Kind"), (.object "com/example/strikeboard/strikeboard/engine/Guideline$Kind"), (.array (.object "com/example/strikeboard/strikeboard/engine/Guideline$Kind"))]
  resolved := Array.replicate 147 none
  statics := some 0 }

def pool7 : Array CpInfo := pool [(1, u "java/lang/Cloneable"), (0, .class_ 1), (0, u "java/lang/Object"), (0, .class_ 3)] 3

/-- java/lang/Cloneable -/
def k7 : Class := { plain "java/lang/Cloneable" (some 0) with
  accessFlags := 1537
  interfaces := #[]
  cf := some (fileOf pool7 2 #[] #[] 1537 4 #[] #[])
  fields := #[]
  methods := #[]
  instanceTypes := #[]
  staticTypes := #[]
  resolved := Array.replicate 8 none
  statics := none }

/-- the primitive byte -/
def k8 : Class := { plain "byte" none with kind := .primitive 'B', accessFlags := 0x411 }
/-- [B -/
def k9 : Class := { plain "[B" (some 0) with kind := .array 8 .byte, interfaces := #[7, 4], accessFlags := 1041 }

def heap : Heap := #[{ cls := 6, slots := #[.ref 3, .ref 6, .ref 2, .ref 1, .ref 5, .ref 4, .null], vm := .statics 6 },
  { cls := 6, slots := #[.null, .int 3, .int 0, .null], vm := .none },
  { cls := 6, slots := #[.null, .int 2, .int 0, .null], vm := .none },
  { cls := 6, slots := #[.null, .int 0, .int 0, .null], vm := .none },
  { cls := 6, slots := #[.null, .int 5, .int 0, .null], vm := .none },
  { cls := 6, slots := #[.null, .int 4, .int 0, .null], vm := .none },
  { cls := 6, slots := #[.null, .int 1, .int 0, .null], vm := .none }]
def classes : Array Class := #[k0, k1, k2, k3, k4, k5, k6, k7, k8, k9]
def interned : List (Array UInt16 × Addr) := []
def slotsUsed : Nat := 31
def theMethod : MethodId := ⟨1, 2⟩
def args0 : Array Value := #[.int 5]
def aboutOver (below : List Frame) : State where
  vm := { classes := classes, interned := interned.toArray }
  heap := heap
  slotsUsed := slotsUsed
  threads := #[{ frames := .invoking theMethod args0 :: below }]
def below0 : List Frame := [.native { method := ⟨0, 0⟩, args := #[] }]
def about1 : State := aboutOver below0
def p0 : Program := .bare "" "" ""
def e0 : Env := launch0.env 0 0 0
theorem w_frames : about1.frames = Frame.invoking theMethod args0 :: below0 := rfl
set_option maxRecDepth 65536 in
theorem w_args : argsFit about1.vm theMethod args0 = true := by decide +kernel
set_option maxRecDepth 65536 in
theorem w_heap : heapFits about1 = true := by decide +kernel
set_option maxRecDepth 65536 in
theorem w_runnable : about1.curStatus? = some .runnable := by decide +kernel
set_option maxRecDepth 65536 in
theorem w_alone : about1.alone = true := by decide +kernel
set_option maxRecDepth 65536 in
theorem w_named : about1.methodNamed? x = some theMethod := by decide +kernel
set_option maxRecDepth 65536 in
theorem w_hears : about1.hears theMethod below0 = true := by decide +kernel
set_option maxRecDepth 65536 in
theorem w_ripe : about1.ripe theMethod args0 below0 = true := by decide +kernel
theorem w_running : about1.status = .running := rfl
set_option maxRecDepth 65536 in
theorem w_room : about1.hasRoom e0.platform room_1 = true :=
  launch0.hasRoom_least _ room_1 (by decide +kernel) (by decide +kernel) (by decide +kernel) (by decide +kernel) (by decide +kernel) (by decide +kernel)
theorem allAtoms_all (ts : List Jvm.Cond) (a : Array Jvm.Value) (st : Jvm.State) : (allAtoms ts).before a st = ts.all (fun c => c.before a st) := by
  induction ts with
  | nil => rfl
  | cons c t ih =>
    show (Jvm.Cond.and c (allAtoms t)).before a st = _
    rw [Jvm.Cond.before_and, ih, List.all_cons]
def words1 : List Jvm.Cond := Jvm.Cond.code x code maxLocals ret :: tables_1
/-- a 'code' word, met by the world's own term for the bytes: nothing is compared byte by byte -/
theorem code_word {y : MethodName} {bytes : ByteArray} {mx : Nat} {rt : Option FieldType} {a : Array Value} {s : State} {m : MethodId} {meth : Method} {c : Code} (h1 : s.methodNamed? y = some m) (h2 : s.vm.method? m = some meth) (h3 : meth.code = some c) (h4 : c.code = bytes)
    (h5 : (c.maxLocals == mx && c.exceptionTable.isEmpty && decide (c.maxStack ≤ mostOperands) && decide (meth.sig.returnType = rt) && !meth.locks && decide (parseMethodDescriptor y.desc = some meth.sig)) = true) : (Jvm.Cond.code y bytes mx rt).before a s = true := by
  simp only [Bool.and_eq_true, beq_iff_eq, Bool.not_eq_true', decide_eq_true_eq] at h5
  obtain ⟨⟨⟨⟨⟨g1, g2⟩, g3⟩, g4⟩, g5⟩, g6⟩ := h5
  simp [Cond.before, Cond.holds, Cond.value, h1, h2, h3, h4, g1, g2, g3, g4, g5, g6]
def isCode : Jvm.Cond → Bool
  | .code _ _ _ _ => true
  | _ => false
theorem all_split {L : List Jvm.Cond} {P : Jvm.Cond → Bool} (h1 : L.all (fun c => isCode c || P c) = true) (h2 : ∀ c ∈ L.filter isCode, P c = true) : L.all P = true := by
  refine List.all_eq_true.mpr fun c hc => ?_
  have h := List.all_eq_true.mp h1 c hc
  rcases Bool.eq_false_or_eq_true (isCode c) with hi | hi
  · exact h2 c (List.mem_filter.mpr ⟨hc, hi⟩)
  · simpa [hi] using h
set_option maxRecDepth 65536 in
theorem w_c0 : (Jvm.Cond.code x code maxLocals ret).before args0 about1 = true := code_word (m := ⟨1, 2⟩) (meth := k1m2) (c := k1c2) (by decide +kernel) rfl rfl rfl (by decide +kernel)
set_option maxRecDepth 65536 in
theorem w_c1 : (Jvm.Cond.code ({ cls := "com/example/strikeboard/strikeboard/engine/KindIsEndlessBanPinLaw", name := "pick", desc := "(I)Lcom/example/strikeboard/strikeboard/engine/Guideline$Kind;" } : Jvm.MethodName) method_2_code (1 : Nat) (Option.some (Jvm.ClassFile.FieldType.object "com/example/strikeboard/strikeboard/engine/Guideline$Kind"))).before args0 about1 = true := code_word (m := ⟨1, 1⟩) (meth := k1m1) (c := k1c1) (by decide +kernel) rfl rfl rfl (by decide +kernel)
set_option maxRecDepth 65536 in
theorem w_c2 : (Jvm.Cond.code ({ cls := "com/example/strikeboard/strikeboard/engine/Guideline$Kind", name := "isEndlessBan", desc := "()Z" } : Jvm.MethodName) prog_30_method_5_code (1 : Nat) (Option.some Jvm.ClassFile.FieldType.boolean)).before args0 about1 = true := code_word (m := ⟨6, 0⟩) (meth := k6m0) (c := k6c0) (by decide +kernel) rfl rfl rfl (by decide +kernel)
def codes1 : List Jvm.Cond := [Jvm.Cond.code x code maxLocals ret, Jvm.Cond.code ({ cls := "com/example/strikeboard/strikeboard/engine/KindIsEndlessBanPinLaw", name := "pick", desc := "(I)Lcom/example/strikeboard/strikeboard/engine/Guideline$Kind;" } : Jvm.MethodName) method_2_code (1 : Nat) (Option.some (Jvm.ClassFile.FieldType.object "com/example/strikeboard/strikeboard/engine/Guideline$Kind")), Jvm.Cond.code ({ cls := "com/example/strikeboard/strikeboard/engine/Guideline$Kind", name := "isEndlessBan", desc := "()Z" } : Jvm.MethodName) prog_30_method_5_code (1 : Nat) (Option.some Jvm.ClassFile.FieldType.boolean)]
set_option maxRecDepth 65536 in
theorem codes_eq : words1.filter isCode = codes1 := rfl
theorem w_codes : ∀ c ∈ words1.filter isCode, c.before args0 about1 = true := by
  rw [codes_eq]
  intro c hc
  simp only [codes1, List.mem_cons, List.not_mem_nil, or_false] at hc
  rcases hc with rfl | rfl | rfl
  · exact w_c0
  · exact w_c1
  · exact w_c2
set_option maxRecDepth 65536 in
theorem w_t1 : (words1.take 24).all (fun c => isCode c || c.before args0 about1) = true := by decide +kernel
set_option maxRecDepth 65536 in
theorem w_t2 : (words1.drop 24).all (fun c => isCode c || c.before args0 about1) = true := by decide +kernel
theorem w_tables : (allAtoms (Jvm.Cond.code x code maxLocals ret :: tables_1)).before args0 about1 = true := by
  rw [allAtoms_all]
  show words1.all (fun c => c.before args0 about1) = true
  refine all_split ?_ w_codes
  rw [← List.take_append_drop 24 words1, List.all_append, w_t1, w_t2]
  rfl
set_option maxRecDepth 65536 in
theorem w_case : (Jvm.Cond.and given_1 narrow_1).before args0 about1 = true := by decide +kernel
theorem w_applies : (headSpec (Jvm.Cond.code x code maxLocals ret :: tables_1) room_1).applies x e0.platform about1 = true :=
  (Spec.applies_iff w_frames).mpr ⟨w_running, w_runnable, w_alone, w_named, w_hears, w_ripe, w_room, w_tables⟩
theorem atStart : AtStart classFile x code maxLocals ret World_1 tables_1 room_1 Calls_1 rest_1 Pre_1 launch0 p0 e0 about1 theMethod args0 below0 :=
  ⟨lists_1, trivial, launch0.admits_env _ _ _, launch0.least_env, fairChoices_fair.cas, fairChoices_fair.clock, w_frames, w_args, w_heap, w_applies, trivial, trivial, w_case⟩
end start1
theorem witness_1 : WitnessClaimed_1 := ⟨start1.p0, start1.e0, start1.about1, start1.theMethod, start1.args0, start1.below0, start1.atStart⟩
end Jvm.Pilot.@@N@@
