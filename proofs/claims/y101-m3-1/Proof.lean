import JvmDerived
import JvmDerived.Pilot.@@N@@Statement
import JvmDerived.Pilot.@@N@@Code
set_option linter.unusedVariables false
set_option linter.unusedSimpArgs false
namespace Jvm.Pilot.@@N@@
open Jvm Jvm.ClassFile Sem Op Lib Jvm.Free Jvm.Stand Jvm.LawKit Jvm.RoadKit Bundle Jvm.Pilot.@@N@@.Jvm.D
/-! 0. own tools: the goal that a walk carries; an array's store and load by what is known of it -/
def Go (tb : Tables) (e : Env) (below : List Frame) (P : State → Prop) (s : State) : Prop := ∃ s₂, Steps tb e below s s₂ ∧ P s₂
section OwnTools
variable {tb : Tables} {e : Env} {below : List Frame} {P : State → Prop} {A B : State}
theorem Go.st (h : ∀ t, Steps tb e below A t → Steps tb e below B t) (g : Go tb e below P A) : Go tb e below P B := by
  obtain ⟨s₂, h1, h2⟩ := g
  exact ⟨s₂, h _ h1, h2⟩
theorem Go.tr (h : Steps tb e below B A) (g : Go tb e below P A) : Go tb e below P B := by
  obtain ⟨s₂, h1, h2⟩ := g
  exact ⟨s₂, h.trans h1, h2⟩
theorem Go.start {Q : Outcome → State → Prop} (h : ∀ P : State → Prop, (∀ s₂ o, s₂.status = .running → Ended s₂ below o → Q o s₂ → P s₂) → Go tb e below P A) : ∃ s₂ o, Steps tb e below A s₂ ∧ s₂.status = .running ∧ Ended s₂ below o ∧ Q o s₂ := by
  obtain ⟨s₂, h1, o, h2, h3, h4⟩ := h (fun s₂ => ∃ o, s₂.status = .running ∧ Ended s₂ below o ∧ Q o s₂) (fun s₂ o a b c => ⟨o, a, b, c⟩)
  exact ⟨s₂, o, h1, h2, h3, h4⟩
theorem own_oldsz {Z : State} {n0 : Nat} {h : Heap} (X : Old Z n0 h) : n0 ≤ h.size := by have := X.1; have := X.2.1; omega
theorem own_cat {v : Value} (h : v.isRef = true) : v.category = 1 := by cases v <;> first | rfl | simp [Value.isRef] at h
theorem own_refcase {v : Value} (h : v.isRef = true) : v = .null ∨ ∃ a, v = .ref a := by cases v <;> first | (left; rfl) | (right; exact ⟨_, rfl⟩) | (simp [Value.isRef] at h)
theorem own_nar_ref {v : Value} {t : FieldType} (h : v.isRef = true) : narrow t v = v := by cases v <;> first | (simp [Value.isRef] at h; done) | (cases t <;> rfl)
theorem own_fits_ref {v : Value} {t : FieldType} (h : v.isRef = true) (ht : t.isReference = true := by rfl) : fits t v = true := by cases v <;> first | (simp [Value.isRef] at h; done) | (cases t <;> first | rfl | (simp [FieldType.isReference] at ht))
theorem own_eq_ref {args : Array Value} {first s : State} {o : Option Outcome} {idx : List Nat} {a b : Term} {w : Addr} (hb : b.eval args first o idx s = some (.ref w)) (h : (Cond.eq a b).value args first o s idx = some true) : a.eval args first o idx s = some (.ref w) := by
  cases ha : a.eval args first o idx s with
  | none => simp [Cond.value, ha] at h
  | some x => cases x <;> simp [Cond.value, ha, hb] at h ⊢; exact h
theorem own_len_start {args : Array Value} {s : State} {t : Term} {n : Int32} {a : Addr} {cl : Cell} (h : (Term.length t).eval args s none [] s = some (.int n)) (ht : t.eval args s none [] s = some (.ref a)) (hc : s.heap[a]? = some cl) : cl.slots.size < 2 ^ 31 ∧ cl.slots.size.toInt32 = n := by
  simp only [Term.eval, ht, Option.bind_eq_bind, Option.bind_some] at h
  cases hq : s.arrayAt? a with
  | none => simp [hq] at h
  | some c2 =>
    have e := (State.arrayAt?_spec hq).1
    cases hc.symm.trans e
    simp only [hq, Option.bind_some] at h
    split at h
    · rename_i hlt; exact ⟨hlt, by simpa using h⟩
    · cases h
theorem own_since (s : State) : s.Since s.vm 0 := (State.WarmedH.refl s).since 0
theorem own_and255 (x : Int32) : ¬ (x &&& 255) < 0 ∧ ¬ (255 : Int32) < (x &&& 255) := by
  have h := c_and x 255 (by decide)
  have e0 : (0 : Int32).toInt = 0 := rfl
  have e1 : (255 : Int32).toInt = 255 := rfl
  rw [Int32.lt_iff_toInt_lt, Int32.lt_iff_toInt_lt]
  omega
theorem own_nar_i2c (x : Int32) : nar .char (x.toUInt32.toUInt16.toUInt32.toInt32) = x.toUInt32.toUInt16.toUInt32.toInt32 := by
  show (x.toUInt32.toUInt16.toUInt32.toInt32).toUInt32.toUInt16.toUInt32.toInt32 = _
  rw [UInt32.toUInt32_toInt32, UInt16.toUInt16_toUInt32]
theorem own_nar_i2b (x : Int32) : nar .byte (x.toInt8.toInt32) = x.toInt8.toInt32 := by
  show (x.toInt8.toInt32).toInt8.toInt32 = _
  simp
theorem own_narZ {x : Int32} (h : x = 0 ∨ x = 1) : nar .boolean x = x := by rcases h with rfl | rfl <;> rfl
theorem own_up (cs : List Int32) (h : ∀ c ∈ cs, ¬ c < 0 ∧ ¬ (255 : Int32) < c) : ∀ c ∈ cs, ¬ c < 0 ∧ ¬ (65535 : Int32) < c := fun c hc => ⟨(h c hc).1, fun q => (h c hc).2 (by rw [Int32.lt_iff_toInt_lt] at q ⊢; have e1 : (65535 : Int32).toInt = 65535 := rfl; have e2 : (255 : Int32).toInt = 255 := rfl; omega)⟩
theorem own_narC {x : Int32} (h : ¬ x < 0 ∧ ¬ (255 : Int32) < x) : nar .char x = x := by
  have e0 : (0 : Int32).toInt = 0 := rfl
  have e1 : (255 : Int32).toInt = 255 := rfl
  have a := h.1
  have b := h.2
  rw [Int32.lt_iff_toInt_lt, e0] at a
  rw [Int32.lt_iff_toInt_lt, e1] at b
  have c := c_i2c x
  exact Int32.toInt_inj.mp (show x.toUInt32.toUInt16.toUInt32.toInt32.toInt = x.toInt by omega)
theorem own_int {r : Int32} {k : Int} (h : r.toInt = k) {q : Int32} (hq : q.toInt = k) : r = q := Int32.toInt_inj.mp (by rw [h, hq])
end OwnTools
section OwnArrays
variable {p : Program} {l : Launch} {e : Env} {R : Room} {s : State} {m : MethodId} {args : Array Value} {below : List Frame} {meth : Method} {c : Code} {T : State} {locs : List Loc} {cells slots : Nat} {Z : State} {h : Heap} {a : Addr} {k : ClassId} {z : Int32} {vs : List Value} {dv : Value}
theorem own_stC (X : Stand p l e R s m args below meth c T locs cells slots) (hx : p.tables.exec = Jvm.exec) (hZ : Z.Warmed39 s.vm) (eT : T.heap = h) (V : Arv Z h a k .char z vs dv) {j x : Int32} {i : Nat} (hj : ¬ j < 0 ∧ j < z) (hji : j.toNatClampNeg = i) (hi : i < vs.length) {g : JFrame} (hg : g.method = m) {rest : List Value} (hs : g.stack = .int x :: .int j :: .ref a :: rest) (hd : decode c.code g.pc = .ok (.castore, 1)) :
    ∃ T' h', Stand p l e R s m args below meth c T' (locs ++ [⟨a, j.toNatClampNeg⟩]) cells slots ∧ T'.heap = h' ∧ Wr h h' a j.toNatClampNeg (.int (nar .char x)) ∧ Arv Z h' a k .char z (vs.set i (.int (nar .char x))) dv ∧ ∀ target, Steps p.tables e below (T'.setTop { g with pc := g.pc + 1, stack := rest }) target → Steps p.tables e below (T.setTop g) target := by
  obtain ⟨cl, A, q1, S, q3, H, G⟩ := V
  obtain ⟨T', h', X', e', W, st⟩ := stC X hx hZ eT A (inb_of S hj) hg hs hd
  exact ⟨T', h', X', e', W, Arv.set A q1 S q3 H G (fits_nar_char x) W i hji hi, st⟩
theorem own_stI (X : Stand p l e R s m args below meth c T locs cells slots) (hx : p.tables.exec = Jvm.exec) (hZ : Z.Warmed39 s.vm) (eT : T.heap = h) (V : Arv Z h a k .int z vs dv) {j x : Int32} {i : Nat} (hj : ¬ j < 0 ∧ j < z) (hji : j.toNatClampNeg = i) (hi : i < vs.length) {g : JFrame} (hg : g.method = m) {rest : List Value} (hs : g.stack = .int x :: .int j :: .ref a :: rest) (hd : decode c.code g.pc = .ok (.iastore, 1)) :
    ∃ T' h', Stand p l e R s m args below meth c T' (locs ++ [⟨a, j.toNatClampNeg⟩]) cells slots ∧ T'.heap = h' ∧ Wr h h' a j.toNatClampNeg (.int x) ∧ Arv Z h' a k .int z (vs.set i (.int x)) dv ∧ ∀ target, Steps p.tables e below (T'.setTop { g with pc := g.pc + 1, stack := rest }) target → Steps p.tables e below (T.setTop g) target := by
  obtain ⟨cl, A, q1, S, q3, H, G⟩ := V
  obtain ⟨T', h', X', e', W, st⟩ := stI X hx hZ eT A (inb_of S hj) hg hs hd
  exact ⟨T', h', X', e', W, Arv.set A q1 S q3 H G rfl W i hji hi, st⟩
theorem own_stZ (X : Stand p l e R s m args below meth c T locs cells slots) (hx : p.tables.exec = Jvm.exec) (hZ : Z.Warmed39 s.vm) (eT : T.heap = h) (V : Arv Z h a k .boolean z vs dv) {j x : Int32} {i : Nat} (hj : ¬ j < 0 ∧ j < z) (hji : j.toNatClampNeg = i) (hi : i < vs.length) {g : JFrame} (hg : g.method = m) {rest : List Value} (hs : g.stack = .int x :: .int j :: .ref a :: rest) (hd : decode c.code g.pc = .ok (.bastore, 1)) :
    ∃ T' h', Stand p l e R s m args below meth c T' (locs ++ [⟨a, j.toNatClampNeg⟩]) cells slots ∧ T'.heap = h' ∧ Wr h h' a j.toNatClampNeg (.int (nar .boolean x)) ∧ Arv Z h' a k .boolean z (vs.set i (.int (nar .boolean x))) dv ∧ ∀ target, Steps p.tables e below (T'.setTop { g with pc := g.pc + 1, stack := rest }) target → Steps p.tables e below (T.setTop g) target := by
  obtain ⟨cl, A, q1, S, q3, H, G⟩ := V
  obtain ⟨T', h', X', e', W, st⟩ := stZ X hx hZ eT A (inb_of S hj) hg hs hd
  exact ⟨T', h', X', e', W, Arv.set A q1 S q3 H G (fits_nar_bool x) W i hji hi, st⟩
theorem own_stB (X : Stand p l e R s m args below meth c T locs cells slots) (hx : p.tables.exec = Jvm.exec) (hZ : Z.Warmed39 s.vm) (eT : T.heap = h) (V : Arv Z h a k .byte z vs dv) {j x : Int32} {i : Nat} (hj : ¬ j < 0 ∧ j < z) (hji : j.toNatClampNeg = i) (hi : i < vs.length) {g : JFrame} (hg : g.method = m) {rest : List Value} (hs : g.stack = .int x :: .int j :: .ref a :: rest) (hd : decode c.code g.pc = .ok (.bastore, 1)) :
    ∃ T' h', Stand p l e R s m args below meth c T' (locs ++ [⟨a, j.toNatClampNeg⟩]) cells slots ∧ T'.heap = h' ∧ Wr h h' a j.toNatClampNeg (.int (nar .byte x)) ∧ Arv Z h' a k .byte z (vs.set i (.int (nar .byte x))) dv ∧ ∀ target, Steps p.tables e below (T'.setTop { g with pc := g.pc + 1, stack := rest }) target → Steps p.tables e below (T.setTop g) target := by
  obtain ⟨cl, A, q1, S, q3, H, G⟩ := V
  obtain ⟨T', h', X', e', W, st⟩ := stB X hx hZ eT A (inb_of S hj) hg hs hd
  exact ⟨T', h', X', e', W, Arv.set A q1 S q3 H G (fits_nar_byte x) W i hji hi, st⟩
theorem own_stD (X : Stand p l e R s m args below meth c T locs cells slots) (hx : p.tables.exec = Jvm.exec) (hZ : Z.Warmed39 s.vm) (eT : T.heap = h) (V : Arv Z h a k .double z vs dv) {j : Int32} {x : UInt64} {i : Nat} (hj : ¬ j < 0 ∧ j < z) (hji : j.toNatClampNeg = i) (hi : i < vs.length) {g : JFrame} (hg : g.method = m) {rest : List Value} (hs : g.stack = .double x :: .int j :: .ref a :: rest) (hd : decode c.code g.pc = .ok (.dastore, 1)) :
    ∃ T' h', Stand p l e R s m args below meth c T' (locs ++ [⟨a, j.toNatClampNeg⟩]) cells slots ∧ T'.heap = h' ∧ Wr h h' a j.toNatClampNeg (.double x) ∧ Arv Z h' a k .double z (vs.set i (.double x)) dv ∧ ∀ target, Steps p.tables e below (T'.setTop { g with pc := g.pc + 1, stack := rest }) target → Steps p.tables e below (T.setTop g) target := by
  obtain ⟨cl, A, q1, S, q3, H, G⟩ := V
  obtain ⟨T', h', X', e', W, st⟩ := stD X hx hZ eT A (inb_of S hj) hg hs hd
  exact ⟨T', h', X', e', W, Arv.set A q1 S q3 H G rfl W i hji hi, st⟩
theorem own_at {ty : FieldType} (V : Arv Z h a k ty z vs dv) {j : Int32} {i : Nat} {v : Value} (hj : ¬ j < 0 ∧ j < z) (hji : j.toNatClampNeg = i) (hv : vs.getD i dv = v) : ∃ cl : Cell, Arr Z h a cl ty ∧ ¬ (j < 0 ∨ cl.slots.size ≤ j.toNatClampNeg) ∧ cl.slots[j.toNatClampNeg]? = some v := by
  obtain ⟨cl, A, q1, S, q3, H, G⟩ := V
  exact ⟨cl, A, inb_of S hj, Has.at H (inb_of S hj) (by rw [hji]; exact hv)⟩
theorem own_ldI (X : Stand p l e R s m args below meth c T locs cells slots) (hx : p.tables.exec = Jvm.exec) (hZ : Z.Warmed39 s.vm) (eT : T.heap = h) (V : Arv Z h a k .int z vs dv) {j : Int32} {i : Nat} {v : Value} (hj : ¬ j < 0 ∧ j < z) (hji : j.toNatClampNeg = i) (hv : vs.getD i dv = v) {g : JFrame} (hg : g.method = m) {rest : List Value} (hs : g.stack = .int j :: .ref a :: rest) (hd : decode c.code g.pc = .ok (.iaload, 1)) (target : State) :
    Steps p.tables e below (T.setTop { g with pc := g.pc + 1, stack := v :: rest }) target → Steps p.tables e below (T.setTop g) target := by
  obtain ⟨cl, A, hin, hat⟩ := own_at V hj hji hv
  exact X.iaload hx (by rw [eT]; exact A.1) (State.isArrayOf_alike hZ.alike A.2.1) A.2.2 hin hat hg hs hd target
theorem own_ldC (X : Stand p l e R s m args below meth c T locs cells slots) (hx : p.tables.exec = Jvm.exec) (hZ : Z.Warmed39 s.vm) (eT : T.heap = h) (V : Arv Z h a k .char z vs dv) {j : Int32} {i : Nat} {v : Value} (hj : ¬ j < 0 ∧ j < z) (hji : j.toNatClampNeg = i) (hv : vs.getD i dv = v) {g : JFrame} (hg : g.method = m) {rest : List Value} (hs : g.stack = .int j :: .ref a :: rest) (hd : decode c.code g.pc = .ok (.caload, 1)) (target : State) :
    Steps p.tables e below (T.setTop { g with pc := g.pc + 1, stack := v :: rest }) target → Steps p.tables e below (T.setTop g) target := by
  obtain ⟨cl, A, hin, hat⟩ := own_at V hj hji hv
  exact X.caload hx (by rw [eT]; exact A.1) (State.isArrayOf_alike hZ.alike A.2.1) A.2.2 hin hat hg hs hd target
theorem own_ldZ (X : Stand p l e R s m args below meth c T locs cells slots) (hx : p.tables.exec = Jvm.exec) (hZ : Z.Warmed39 s.vm) (eT : T.heap = h) (V : Arv Z h a k .boolean z vs dv) {j : Int32} {i : Nat} {v : Value} (hj : ¬ j < 0 ∧ j < z) (hji : j.toNatClampNeg = i) (hv : vs.getD i dv = v) {g : JFrame} (hg : g.method = m) {rest : List Value} (hs : g.stack = .int j :: .ref a :: rest) (hd : decode c.code g.pc = .ok (.baload, 1)) (target : State) :
    Steps p.tables e below (T.setTop { g with pc := g.pc + 1, stack := v :: rest }) target → Steps p.tables e below (T.setTop g) target := by
  obtain ⟨cl, A, hin, hat⟩ := own_at V hj hji hv
  exact X.baloadBooleans hx (by rw [eT]; exact A.1) (State.isArrayOf_alike hZ.alike A.2.1) A.2.2 hin hat hg hs hd target
theorem own_ldB (X : Stand p l e R s m args below meth c T locs cells slots) (hx : p.tables.exec = Jvm.exec) (hZ : Z.Warmed39 s.vm) (eT : T.heap = h) (V : Arv Z h a k .byte z vs dv) {j : Int32} {i : Nat} {v : Value} (hj : ¬ j < 0 ∧ j < z) (hji : j.toNatClampNeg = i) (hv : vs.getD i dv = v) {g : JFrame} (hg : g.method = m) {rest : List Value} (hs : g.stack = .int j :: .ref a :: rest) (hd : decode c.code g.pc = .ok (.baload, 1)) (target : State) :
    Steps p.tables e below (T.setTop { g with pc := g.pc + 1, stack := v :: rest }) target → Steps p.tables e below (T.setTop g) target := by
  obtain ⟨cl, A, hin, hat⟩ := own_at V hj hji hv
  exact X.baloadBytes hx (by rw [eT]; exact A.1) (State.isArrayOf_alike hZ.alike A.2.1) A.2.2 hin hat hg hs hd target
theorem own_ldD (X : Stand p l e R s m args below meth c T locs cells slots) (hx : p.tables.exec = Jvm.exec) (hZ : Z.Warmed39 s.vm) (eT : T.heap = h) (V : Arv Z h a k .double z vs dv) {j : Int32} {i : Nat} {v : Value} (hj : ¬ j < 0 ∧ j < z) (hji : j.toNatClampNeg = i) (hv : vs.getD i dv = v) {g : JFrame} (hg : g.method = m) {rest : List Value} (hs : g.stack = .int j :: .ref a :: rest) (hd : decode c.code g.pc = .ok (.daload, 1)) (target : State) :
    Steps p.tables e below (T.setTop { g with pc := g.pc + 1, stack := v :: rest }) target → Steps p.tables e below (T.setTop g) target := by
  obtain ⟨cl, A, hin, hat⟩ := own_at V hj hji hv
  exact X.daload hx (by rw [eT]; exact A.1) (State.isArrayOf_alike hZ.alike A.2.1) A.2.2 hin hat hg hs hd target
theorem own_ldR {C : String} (X : Stand p l e R s m args below meth c T locs cells slots) (hx : p.tables.exec = Jvm.exec) (hZ : Z.Warmed39 s.vm) (eT : T.heap = h) (V : Arv Z h a k (.object C) z vs dv) {j : Int32} {i : Nat} {v : Value} (hj : ¬ j < 0 ∧ j < z) (hji : j.toNatClampNeg = i) (hv : vs.getD i dv = v) {g : JFrame} (hg : g.method = m) {rest : List Value} (hs : g.stack = .int j :: .ref a :: rest) (hd : decode c.code g.pc = .ok (.aaload, 1)) (target : State) :
    Steps p.tables e below (T.setTop { g with pc := g.pc + 1, stack := v :: rest }) target → Steps p.tables e below (T.setTop g) target := by
  obtain ⟨cl, A, hin, hat⟩ := own_at V hj hji hv
  exact X.aaload hx (by rw [eT]; exact A.1) (State.isArrayOf_alike hZ.alike A.2.1) rfl A.2.2 hin hat hg hs hd target
theorem own_len {ty : FieldType} (X : Stand p l e R s m args below meth c T locs cells slots) (hx : p.tables.exec = Jvm.exec) (hZ : Z.Warmed39 s.vm) (eT : T.heap = h) (V : Arv Z h a k ty z vs dv) {g : JFrame} (hg : g.method = m) {rest : List Value} (hs : g.stack = .ref a :: rest) (hd : decode c.code g.pc = .ok (.arraylength, 1)) (target : State) :
    Steps p.tables e below (T.setTop { g with pc := g.pc + 1, stack := .int z :: rest }) target → Steps p.tables e below (T.setTop g) target := by
  obtain ⟨cl, A, q1, S, q3, H, G⟩ := V
  have q := X.arraylength hx (by rw [eT]; exact A.1) (State.isArrayOf_alike hZ.alike A.2.1) hg hs hd target
  rw [len_of S q3] at q
  exact q
theorem own_getD_int (xs : List Int32) (i : Nat) : (xs.map Value.int).getD i (.int 0) = .int (xs.getD i 0) := by
  simp only [List.getD_eq_getElem?_getD, List.getElem?_map]
  cases xs[i]? <;> rfl
theorem own_arv_set {ty : FieldType} {xs : List Int32} {i : Nat} {v : Int32} (V : Arv Z h a k ty z ((xs.map Value.int).set i (.int v)) dv) : Arv Z h a k ty z ((xs.set i v).map Value.int) dv := by rw [List.map_set]; exact V
end OwnArrays

theorem own_strAtoms : ∀ a ∈ Bundle.stringAtoms, a ∈ tables_1 := by decide +kernel
theorem own_ef_rm_rec (m : MethodId) (x0 : Addr) : entryFrame m #[(.ref x0)] 1 = mkF m 0 #[.val (.ref x0)] [] := by first | (simp [entryFrame, mkF, argsToLocals, Value.category]; done) | rfl
theorem own_pn0 : plainName "java/lang/Record" = true := by first | (simp [plainName, overriddenIn]; done) | decide +kernel
theorem own_d_jdk_30_method_1_code_0 : decode jdk_30_method_1_code 0 = .ok (.aload_n 0, 1) := by decide +kernel
theorem own_d_jdk_30_method_1_code_1 : decode jdk_30_method_1_code 1 = .ok (.invokespecial 1, 3) := by decide +kernel
theorem own_d_jdk_30_method_1_code_4 : decode jdk_30_method_1_code 4 = .ok (.return_, 1) := by decide +kernel
def Q_rm_rec (Z : State) (w_N : Addr) (p0 : Addr) (h0 : Heap) (n0 : Nat) (v : Option Value) (h : Heap) (L : List Loc) : Prop := v = none ∧ Fr n0 L ∧ h = h0
set_option maxRecDepth 65536 in
set_option maxHeartbeats 40000000 in
theorem rm_rec (l : Launch) (Z : State) (a0 : Array Value) (hw : ∀ d ∈ tables_1, d.before a0 Z = true) (ws : List Jvm.Cond) (w_N : Addr) (S_N : Sta Z Z.heap "com/example/vacuum/vacuum/model/PrunePolicy$Method" "NUMBER_OF_TAGS" "Lcom/example/vacuum/vacuum/model/PrunePolicy$Method;" (.ref w_N)) (X_N : Exa Z Z.heap w_N "com/example/vacuum/vacuum/model/PrunePolicy$Method") (O_N : Fld Z Z.heap w_N "java/lang/Enum" "ordinal" "I" (.int (0 : Int32))) (p0 : Addr) (h0 : Heap) (n0 : Nat) (X00 : Old Z n0 h0)  :
    MetFree l (⟨"java/lang/Record", "<init>", "()V"⟩ : MethodName) (head1 (Jvm.Cond.code (⟨"java/lang/Record", "<init>", "()V"⟩ : MethodName) jdk_30_method_1_code 1 none :: ws) ({ frames := 1, cells := 0, slots := 0, locals := 12 } : Room)) (fun a U => a = #[(.ref p0)] ∧ Z.Warmed39 U.vm ∧ U.heap = h0) (fun _ _ _ _ _ => True) (fun _ U o U' => ∃ v L, o = .returned v ∧ Q_rm_rec Z w_N p0 h0 n0 v U'.heap L ∧ FrameEnd U o U' L ({ frames := 1, cells := 0, slots := 0, locals := 12 } : Room).cells ({ frames := 1, cells := 0, slots := 0, locals := 12 } : Room).slots) := by
  refine MetFree.of_bodySF (plainFor_of_name own_pn0) hisR ?_
  intro p e s m args below meth c s₁ Bd hml0 hP hK
  obtain ⟨rfl, hZ, hh⟩ := hP
  have hx := Bd.exec
  have hby := Bd.bytes
  have hml : c.maxLocals = 1 := hml0
  have hown : s.vm.findClass "java/lang/Record" = some m.cls := findClass_of_methodNamed Bd.named
  have hnm := (name_of_methodNamed Bd.named Bd.method).1
  have X0 : Stand p l e ({ frames := 1, cells := 0, slots := 0, locals := 12 } : Room) s m #[(.ref p0)] below meth c s₁ [] 0 0 := Stand.of_body Bd
  have e0 : s₁.heap = h0 := by rw [← hh, Bd.state]; rfl
  have N0 := Fr.nil n0
  refine Go.start fun P hPend => ?_
  refine Go.st (fun _ k => castTop (own_ef_rm_rec m p0) k) ?_
  show Go p.tables e below P (s₁.setTop (mkF m 0 #[.val (.ref p0)] []))
  refine Go.st (fun _ => XS.aloadN X0.here hx rfl (hb hby own_d_jdk_30_method_1_code_0) rfl rfl) ?_
  show Go p.tables e below P (s₁.setTop (mkF m 1 #[.val (.ref p0)] [(.ref p0)]))
  obtain ⟨T1, X1, e1, st1⟩ := initO X0 hx hZ hown (hw _ (List.mem_of_getElem? (i := 18) rfl)) (hw _ (List.mem_of_getElem? (i := 19) rfl)) (hw _ (List.mem_of_getElem? (i := 20) rfl)) e0 (g := (mkF m 1 #[.val (.ref p0)] [(.ref p0)])) rfl (by rw [hml]; rfl) rfl (hb hby own_d_jdk_30_method_1_code_1) (by decide) (W := 0) (by show 2 * 0 + _ ≤ _; exact Nat.le_of_eq rfl) (by decide)
  refine Go.st st1 ?_
  show Go p.tables e below P (T1.setTop (mkF m 4 #[.val (.ref p0)] []))
  obtain ⟨fs, hr, hrun, hended, hW, hsame⟩ := X1.leave (v := none) (fun _ => rfl)
  refine ⟨_, ?_, hPend _ _ hrun hended ⟨_, _, rfl, ?_, ⟨_, rfl⟩, hW, hsame.mono (by decide) (by decide)⟩⟩
  · exact X1.returnOut hx Bd.returns (hb hby own_d_jdk_30_method_1_code_4) hr
  · show Q_rm_rec Z _ _ h0 n0 _ T1.heap _
    rw [e1]
    exact ⟨rfl, N0, rfl⟩
theorem own_ef_rm_rnn (m : MethodId) (x0 : Addr) (x1 : Addr) : entryFrame m #[(.ref x0), (.ref x1)] 2 = mkF m 0 #[.val (.ref x0), .val (.ref x1)] [] := by first | (simp [entryFrame, mkF, argsToLocals, Value.category]; done) | rfl
theorem own_pn1 : plainName "java/util/Objects" = true := by first | (simp [plainName, overriddenIn]; done) | decide +kernel
theorem own_d_jdk_31_method_11_code_0 : decode jdk_31_method_11_code 0 = .ok (.aload_n 0, 1) := by decide +kernel
theorem own_d_jdk_31_method_11_code_1 : decode jdk_31_method_11_code 1 = .ok (.ifnonnull 12, 3) := by decide +kernel
theorem own_d_jdk_31_method_11_code_13 : decode jdk_31_method_11_code 13 = .ok (.aload_n 0, 1) := by decide +kernel
theorem own_d_jdk_31_method_11_code_14 : decode jdk_31_method_11_code 14 = .ok (.areturn, 1) := by decide +kernel
def Q_rm_rnn (Z : State) (w_N : Addr) (p0 : Addr) (p1 : Addr) (h0 : Heap) (n0 : Nat) (v : Option Value) (h : Heap) (L : List Loc) : Prop := v = some (.ref p0) ∧ Fr n0 L ∧ h = h0
set_option maxRecDepth 65536 in
set_option maxHeartbeats 40000000 in
theorem rm_rnn (l : Launch) (Z : State) (a0 : Array Value) (hw : ∀ d ∈ tables_1, d.before a0 Z = true) (ws : List Jvm.Cond) (w_N : Addr) (S_N : Sta Z Z.heap "com/example/vacuum/vacuum/model/PrunePolicy$Method" "NUMBER_OF_TAGS" "Lcom/example/vacuum/vacuum/model/PrunePolicy$Method;" (.ref w_N)) (X_N : Exa Z Z.heap w_N "com/example/vacuum/vacuum/model/PrunePolicy$Method") (O_N : Fld Z Z.heap w_N "java/lang/Enum" "ordinal" "I" (.int (0 : Int32))) (p0 : Addr) (p1 : Addr) (h0 : Heap) (n0 : Nat) (X00 : Old Z n0 h0)  :
    MetFree l (⟨"java/util/Objects", "requireNonNull", "(Ljava/lang/Object;Ljava/lang/String;)Ljava/lang/Object;"⟩ : MethodName) (head1 (Jvm.Cond.code (⟨"java/util/Objects", "requireNonNull", "(Ljava/lang/Object;Ljava/lang/String;)Ljava/lang/Object;"⟩ : MethodName) jdk_31_method_11_code 2 (some (.object "java/lang/Object")) :: ws) ({ frames := 0, cells := 0, slots := 0, locals := 0 } : Room)) (fun a U => a = #[(.ref p0), (.ref p1)] ∧ Z.Warmed39 U.vm ∧ U.heap = h0) (fun _ _ _ _ _ => True) (fun _ U o U' => ∃ v L, o = .returned v ∧ Q_rm_rnn Z w_N p0 p1 h0 n0 v U'.heap L ∧ FrameEnd U o U' L ({ frames := 0, cells := 0, slots := 0, locals := 0 } : Room).cells ({ frames := 0, cells := 0, slots := 0, locals := 0 } : Room).slots) := by
  refine MetFree.of_bodySF (plainFor_of_name own_pn1) hisR ?_
  intro p e s m args below meth c s₁ Bd hml0 hP hK
  obtain ⟨rfl, hZ, hh⟩ := hP
  have hx := Bd.exec
  have hby := Bd.bytes
  have hml : c.maxLocals = 2 := hml0
  have hown : s.vm.findClass "java/util/Objects" = some m.cls := findClass_of_methodNamed Bd.named
  have hnm := (name_of_methodNamed Bd.named Bd.method).1
  have X0 : Stand p l e ({ frames := 0, cells := 0, slots := 0, locals := 0 } : Room) s m #[(.ref p0), (.ref p1)] below meth c s₁ [] 0 0 := Stand.of_body Bd
  have e0 : s₁.heap = h0 := by rw [← hh, Bd.state]; rfl
  have N0 := Fr.nil n0
  refine Go.start fun P hPend => ?_
  refine Go.st (fun _ k => castTop (own_ef_rm_rnn m p0 p1) k) ?_
  show Go p.tables e below P (s₁.setTop (mkF m 0 #[.val (.ref p0), .val (.ref p1)] []))
  refine Go.st (fun _ => XS.aloadN X0.here hx rfl (hb hby own_d_jdk_31_method_11_code_0) rfl rfl) ?_
  show Go p.tables e below P (s₁.setTop (mkF m 1 #[.val (.ref p0), .val (.ref p1)] [(.ref p0)]))
  refine Go.st (fun _ => XS.ifnonnullYes X0.here hx rfl (pc0 := 1) (pc' := 13) rfl (hb hby own_d_jdk_31_method_11_code_1) rfl (by decide) (by decide)) ?_
  show Go p.tables e below P (s₁.setTop (mkF m 13 #[.val (.ref p0), .val (.ref p1)] []))
  refine Go.st (fun _ => XS.aloadN X0.here hx rfl (hb hby own_d_jdk_31_method_11_code_13) rfl rfl) ?_
  show Go p.tables e below P (s₁.setTop (mkF m 14 #[.val (.ref p0), .val (.ref p1)] [(.ref p0)]))
  obtain ⟨fs, hr, hrun, hended, hW, hsame⟩ := X0.leave (v := some (.ref p0)) (fun h => by rw [Bd.returns] at h; cases h)
  refine ⟨_, ?_, hPend _ _ hrun hended ⟨_, _, rfl, ?_, ⟨_, rfl⟩, hW, hsame.mono (by decide) (by decide)⟩⟩
  · exact retOut X0 hx (t := (.object "java/lang/Object")) Bd.returns rfl (Or.inr (Or.inr (Or.inr (Or.inr ⟨rfl, rfl, rfl⟩)))) (hb hby own_d_jdk_31_method_11_code_14) hr
  · show Q_rm_rnn Z _ _ _ h0 n0 _ s₁.heap _
    rw [e0]
    exact ⟨rfl, N0, rfl⟩
theorem own_ef_rm_ord (m : MethodId) (x0 : Addr) : entryFrame m #[(.ref x0)] 1 = mkF m 0 #[.val (.ref x0)] [] := by first | (simp [entryFrame, mkF, argsToLocals, Value.category]; done) | rfl
theorem own_pn2 : plainName "java/lang/Enum" = true := by first | (simp [plainName, overriddenIn]; done) | decide +kernel
theorem own_d_jdk_37_method_2_code_0 : decode jdk_37_method_2_code 0 = .ok (.aload_n 0, 1) := by decide +kernel
theorem own_d_jdk_37_method_2_code_1 : decode jdk_37_method_2_code 1 = .ok (.getfield 7, 3) := by decide +kernel
theorem own_d_jdk_37_method_2_code_4 : decode jdk_37_method_2_code 4 = .ok (.ireturn, 1) := by decide +kernel
def Q_rm_ord (Z : State) (w_N : Addr) (h0 : Heap) (n0 : Nat) (v : Option Value) (h : Heap) (L : List Loc) : Prop := v = some (.int (0 : Int32)) ∧ Fr n0 L ∧ h = h0
set_option maxRecDepth 65536 in
set_option maxHeartbeats 40000000 in
theorem rm_ord (l : Launch) (Z : State) (a0 : Array Value) (hw : ∀ d ∈ tables_1, d.before a0 Z = true) (ws : List Jvm.Cond) (w_N : Addr) (S_N : Sta Z Z.heap "com/example/vacuum/vacuum/model/PrunePolicy$Method" "NUMBER_OF_TAGS" "Lcom/example/vacuum/vacuum/model/PrunePolicy$Method;" (.ref w_N)) (X_N : Exa Z Z.heap w_N "com/example/vacuum/vacuum/model/PrunePolicy$Method") (O_N : Fld Z Z.heap w_N "java/lang/Enum" "ordinal" "I" (.int (0 : Int32))) (h0 : Heap) (n0 : Nat) (X00 : Old Z n0 h0)  :
    MetFree l (⟨"java/lang/Enum", "ordinal", "()I"⟩ : MethodName) (head1 (Jvm.Cond.code (⟨"java/lang/Enum", "ordinal", "()I"⟩ : MethodName) jdk_37_method_2_code 1 (some .int) :: ws) ({ frames := 0, cells := 0, slots := 0, locals := 0 } : Room)) (fun a U => a = #[(.ref w_N)] ∧ Z.Warmed39 U.vm ∧ U.heap = h0) (fun _ _ _ _ _ => True) (fun _ U o U' => ∃ v L, o = .returned v ∧ Q_rm_ord Z w_N h0 n0 v U'.heap L ∧ FrameEnd U o U' L ({ frames := 0, cells := 0, slots := 0, locals := 0 } : Room).cells ({ frames := 0, cells := 0, slots := 0, locals := 0 } : Room).slots) := by
  refine MetFree.of_bodySF (plainFor_of_name own_pn2) hisR ?_
  intro p e s m args below meth c s₁ Bd hml0 hP hK
  obtain ⟨rfl, hZ, hh⟩ := hP
  have hx := Bd.exec
  have hby := Bd.bytes
  have hml : c.maxLocals = 1 := hml0
  have hown : s.vm.findClass "java/lang/Enum" = some m.cls := findClass_of_methodNamed Bd.named
  have hnm := (name_of_methodNamed Bd.named Bd.method).1
  have X0 : Stand p l e ({ frames := 0, cells := 0, slots := 0, locals := 0 } : Room) s m #[(.ref w_N)] below meth c s₁ [] 0 0 := Stand.of_body Bd
  have e0 : s₁.heap = h0 := by rw [← hh, Bd.state]; rfl
  have N0 := Fr.nil n0
  refine Go.start fun P hPend => ?_
  refine Go.st (fun _ k => castTop (own_ef_rm_ord m w_N) k) ?_
  show Go p.tables e below P (s₁.setTop (mkF m 0 #[.val (.ref w_N)] []))
  refine Go.st (fun _ => XS.aloadN X0.here hx rfl (hb hby own_d_jdk_37_method_2_code_0) rfl rfl) ?_
  show Go p.tables e below P (s₁.setTop (mkF m 1 #[.val (.ref w_N)] [(.ref w_N)]))
  obtain ⟨T1, X1, e1, st1⟩ := getF X0 hx hZ hown (host := "") (Or.inl (hw _ (List.mem_of_getElem? (i := 40) rfl))) Via.refl e0 (O_N.ext X00.2) (g := (mkF m 1 #[.val (.ref w_N)] [(.ref w_N)])) rfl rfl (hb hby own_d_jdk_37_method_2_code_1)
  refine Go.st st1 ?_
  show Go p.tables e below P (T1.setTop (mkF m 4 #[.val (.ref w_N)] [(.int (0 : Int32))]))
  obtain ⟨fs, hr, hrun, hended, hW, hsame⟩ := X1.leave (v := some (.int (0 : Int32))) (fun h => by rw [Bd.returns] at h; cases h)
  refine ⟨_, ?_, hPend _ _ hrun hended ⟨_, _, rfl, ?_, ⟨_, rfl⟩, hW, hsame.mono (by decide) (by decide)⟩⟩
  · exact retOut X1 hx (t := .int) Bd.returns rfl (Or.inl ⟨rfl, Or.inl rfl, _, rfl⟩) (hb hby own_d_jdk_37_method_2_code_4) hr
  · show Q_rm_ord Z _ h0 n0 _ T1.heap _
    rw [e1]
    exact ⟨rfl, N0, rfl⟩
theorem own_ef_rm_ini (m : MethodId) (x0 : Addr) (x1 : Addr) (x2 : Int32) : entryFrame m #[(.ref x0), (.ref x1), (.int x2), .null] 5 = mkF m 0 #[.val (.ref x0), .val (.ref x1), .val (.int x2), .val .null, .unset] [] := by first | (simp [entryFrame, mkF, argsToLocals, Value.category]; done) | rfl
theorem own_pn3 : plainName "com/example/vacuum/vacuum/model/PrunePolicy" = true := by first | (simp [plainName, overriddenIn]; done) | decide +kernel
theorem own_d_prog_16_method_1_code_0 : decode prog_16_method_1_code 0 = .ok (.aload_n 0, 1) := by decide +kernel
theorem own_d_prog_16_method_1_code_1 : decode prog_16_method_1_code 1 = .ok (.invokespecial 1, 3) := by decide +kernel
theorem own_pd0 : parseMethodDescriptor "()V" = some ⟨[], none⟩ := by decide +kernel
theorem own_d_prog_16_method_1_code_4 : decode prog_16_method_1_code 4 = .ok (.aload_n 1, 1) := by decide +kernel
theorem own_d_prog_16_method_1_code_5 : decode prog_16_method_1_code 5 = .ok (.ldc 7, 2) := by decide +kernel
theorem own_d_prog_16_method_1_code_7 : decode prog_16_method_1_code 7 = .ok (.invokestatic 9, 3) := by decide +kernel
theorem own_pd1 : parseMethodDescriptor "(Ljava/lang/Object;Ljava/lang/String;)Ljava/lang/Object;" = some ⟨[(.object "java/lang/Object"), (.object "java/lang/String")], some (.object "java/lang/Object")⟩ := by decide +kernel
theorem own_d_prog_16_method_1_code_10 : decode prog_16_method_1_code 10 = .ok (.pop, 1) := by decide +kernel
theorem own_d_prog_16_method_1_code_11 : decode prog_16_method_1_code 11 = .ok (.aload_n 1, 1) := by decide +kernel
theorem own_d_prog_16_method_1_code_12 : decode prog_16_method_1_code 12 = .ok (.invokevirtual 15, 3) := by decide +kernel
theorem own_pd2 : parseMethodDescriptor "()I" = some ⟨[], some .int⟩ := by decide +kernel
theorem own_d_prog_16_method_1_code_15 : decode prog_16_method_1_code 15 = .ok (.lookupswitch 25 #[(0, 35), (1, 52)], 25) := by decide +kernel
theorem own_d_prog_16_method_1_code_50 : decode prog_16_method_1_code 50 = .ok (.iload_n 2, 1) := by decide +kernel
theorem own_d_prog_16_method_1_code_51 : decode prog_16_method_1_code 51 = .ok (.iconst 1, 1) := by decide +kernel
theorem own_d_prog_16_method_1_code_52 : decode prog_16_method_1_code 52 = .ok (.if_icmp .lt 11, 3) := by decide +kernel
theorem own_d_prog_16_method_1_code_55 : decode prog_16_method_1_code 55 = .ok (.aload_n 3, 1) := by decide +kernel
theorem own_d_prog_16_method_1_code_56 : decode prog_16_method_1_code 56 = .ok (.ifnonnull 7, 3) := by decide +kernel
theorem own_d_prog_16_method_1_code_59 : decode prog_16_method_1_code 59 = .ok (.iconst 1, 1) := by decide +kernel
theorem own_d_prog_16_method_1_code_60 : decode prog_16_method_1_code 60 = .ok (.goto 27, 3) := by decide +kernel
theorem own_d_prog_16_method_1_code_87 : decode prog_16_method_1_code 87 = .ok (.istore 4, 2) := by decide +kernel
theorem own_d_prog_16_method_1_code_89 : decode prog_16_method_1_code 89 = .ok (.iload 4, 2) := by decide +kernel
theorem own_d_prog_16_method_1_code_91 : decode prog_16_method_1_code 91 = .ok (.ifCond .ne 25, 3) := by decide +kernel
theorem own_d_prog_16_method_1_code_116 : decode prog_16_method_1_code 116 = .ok (.aload_n 0, 1) := by decide +kernel
theorem own_d_prog_16_method_1_code_117 : decode prog_16_method_1_code 117 = .ok (.aload_n 1, 1) := by decide +kernel
theorem own_d_prog_16_method_1_code_118 : decode prog_16_method_1_code 118 = .ok (.putfield 51, 3) := by decide +kernel
theorem own_d_prog_16_method_1_code_121 : decode prog_16_method_1_code 121 = .ok (.aload_n 0, 1) := by decide +kernel
theorem own_d_prog_16_method_1_code_122 : decode prog_16_method_1_code 122 = .ok (.iload_n 2, 1) := by decide +kernel
theorem own_d_prog_16_method_1_code_123 : decode prog_16_method_1_code 123 = .ok (.putfield 56, 3) := by decide +kernel
theorem own_d_prog_16_method_1_code_126 : decode prog_16_method_1_code 126 = .ok (.aload_n 0, 1) := by decide +kernel
theorem own_d_prog_16_method_1_code_127 : decode prog_16_method_1_code 127 = .ok (.aload_n 3, 1) := by decide +kernel
theorem own_d_prog_16_method_1_code_128 : decode prog_16_method_1_code 128 = .ok (.putfield 60, 3) := by decide +kernel
theorem own_d_prog_16_method_1_code_131 : decode prog_16_method_1_code 131 = .ok (.return_, 1) := by decide +kernel
def Q_rm_ini (Z : State) (w_N : Addr) (p0 : Addr) (p2 : Int32) (h0 : Heap) (n0 : Nat) (v : Option Value) (h : Heap) (L : List Loc) : Prop := v = none ∧ Fr n0 L ∧ Keep h0 h [p0] ∧ Exa Z h p0 "com/example/vacuum/vacuum/model/PrunePolicy" ∧ Fld Z h p0 "com/example/vacuum/vacuum/model/PrunePolicy" "method" "Lcom/example/vacuum/vacuum/model/PrunePolicy$Method;" (.ref w_N) ∧ Fld Z h p0 "com/example/vacuum/vacuum/model/PrunePolicy" "numTags" "I" (.int p2) ∧ Fld Z h p0 "com/example/vacuum/vacuum/model/PrunePolicy" "olderThan" "Ljava/time/Duration;" .null
set_option maxRecDepth 65536 in
set_option maxHeartbeats 40000000 in
theorem rm_ini (l : Launch) (Z : State) (a0 : Array Value) (hw : ∀ d ∈ tables_1, d.before a0 Z = true) (ws : List Jvm.Cond) (w_N : Addr) (S_N : Sta Z Z.heap "com/example/vacuum/vacuum/model/PrunePolicy$Method" "NUMBER_OF_TAGS" "Lcom/example/vacuum/vacuum/model/PrunePolicy$Method;" (.ref w_N)) (X_N : Exa Z Z.heap w_N "com/example/vacuum/vacuum/model/PrunePolicy$Method") (O_N : Fld Z Z.heap w_N "java/lang/Enum" "ordinal" "I" (.int (0 : Int32))) (p0 : Addr) (p2 : Int32) (h0 : Heap) (n0 : Nat) (X00 : Old Z n0 h0) (hp0 : Exa Z h0 p0 "com/example/vacuum/vacuum/model/PrunePolicy") (hp1 : Fld Z h0 p0 "com/example/vacuum/vacuum/model/PrunePolicy" "method" "Lcom/example/vacuum/vacuum/model/PrunePolicy$Method;" .null) (hp2 : Fld Z h0 p0 "com/example/vacuum/vacuum/model/PrunePolicy" "numTags" "I" (.int (0 : Int32))) (hp3 : Fld Z h0 p0 "com/example/vacuum/vacuum/model/PrunePolicy" "olderThan" "Ljava/time/Duration;" .null) (hp4 : n0 ≤ p0) (hpos : ¬ (p2 < (1 : Int32))) :
    MetFree l (⟨"com/example/vacuum/vacuum/model/PrunePolicy", "<init>", "(Lcom/example/vacuum/vacuum/model/PrunePolicy$Method;ILjava/time/Duration;)V"⟩ : MethodName) (head1 (Jvm.Cond.code (⟨"com/example/vacuum/vacuum/model/PrunePolicy", "<init>", "(Lcom/example/vacuum/vacuum/model/PrunePolicy$Method;ILjava/time/Duration;)V"⟩ : MethodName) prog_16_method_1_code 5 none :: ws) ({ frames := 2, cells := 2, slots := 28, locals := 24 } : Room)) (fun a U => a = #[(.ref p0), (.ref w_N), (.int p2), .null] ∧ Z.Warmed39 U.vm ∧ U.heap = h0) (fun _ _ _ _ _ => True) (fun _ U o U' => ∃ v L, o = .returned v ∧ Q_rm_ini Z w_N p0 p2 h0 n0 v U'.heap L ∧ ReturnedEndW U o U' L ({ frames := 2, cells := 2, slots := 28, locals := 24 } : Room).cells ({ frames := 2, cells := 2, slots := 28, locals := 24 } : Room).slots) := by
  refine MetFree.of_bodySF (plainFor_of_name own_pn3) hisR ?_
  intro p e s m args below meth c s₁ Bd hml0 hP hK
  obtain ⟨rfl, hZ, hh⟩ := hP
  have hx := Bd.exec
  have hby := Bd.bytes
  have hml : c.maxLocals = 5 := hml0
  have hown : s.vm.findClass "com/example/vacuum/vacuum/model/PrunePolicy" = some m.cls := findClass_of_methodNamed Bd.named
  have hnm := (name_of_methodNamed Bd.named Bd.method).1
  have X0 : Stand p l e ({ frames := 2, cells := 2, slots := 28, locals := 24 } : Room) (s.setVm s.vm) m #[(.ref p0), (.ref w_N), (.int p2), .null] below meth c s₁ [] 0 0 := Stand.of_body Bd
  have e0 : s₁.heap = h0 := by rw [← hh, Bd.state]; rfl
  have N0 := Fr.nil n0
  have hS0 : s.Since s.vm 0 := own_since s
  have hk0 : 0 ≤ h0.size := Nat.zero_le _
  have hZ : Z.Warmed39 (s.setVm s.vm).vm := hZ
  have hown : (s.setVm s.vm).vm.findClass "com/example/vacuum/vacuum/model/PrunePolicy" = some m.cls := hown
  refine Go.start fun P hPend => ?_
  refine Go.st (fun _ k => castTop (own_ef_rm_ini m p0 w_N p2) k) ?_
  show Go p.tables e below P (s₁.setTop (mkF m 0 #[.val (.ref p0), .val (.ref w_N), .val (.int p2), .val .null, .unset] []))
  refine Go.st (fun _ => XS.aloadN X0.here hx rfl (hb hby own_d_prog_16_method_1_code_0) rfl rfl) ?_
  show Go p.tables e below P (s₁.setTop (mkF m 1 #[.val (.ref p0), .val (.ref w_N), .val (.int p2), .val .null, .unset] [(.ref p0)]))
  obtain ⟨_, _, ⟨T1, L1, k1, n1⟩, -, X1, ⟨Lc1, hQ1, l1, y1, z1⟩, st1⟩ := X0.specialBack hx (y := (⟨"java/lang/Record", "<init>", "()V"⟩ : MethodName)) rfl hown (mvT hZ (hw _ (List.mem_of_getElem? (i := 13) rfl))) (mvT hZ (hw _ (List.mem_of_getElem? (i := 14) rfl))) (mvT hZ (hw _ (List.mem_of_getElem? (i := 17) rfl))) (by decide) (backOf (W := 0) (rm_rec l Z a0 hw [] w_N S_N X_N O_N p0 h0 n0 X00 ) hZ (hw _ (List.mem_of_getElem? (i := 17) rfl)) (hw _ (List.mem_of_getElem? (i := 16) rfl)) (by decide) (by decide)) (g := (mkF m 1 #[.val (.ref p0), .val (.ref w_N), .val (.int p2), .val .null, .unset] [(.ref p0)])) rfl (by rw [hml]; rfl) (Steps.refl _) (a := p0) (argsL := []) (rest := []) (lenOf own_pd0 rfl) rfl (by show 2 * 0 + _ ≤ _; exact Nat.le_of_eq rfl) (hb hby own_d_prog_16_method_1_code_1) (fun _ _ => ⟨rfl, e0, (by decide : 0 + 0 ≤ _), (by decide : 0 + 0 ≤ _)⟩)
  dsimp only [Pt.U, Pt.locs, Pt.cells, Pt.slots] at X1 l1 y1 z1 st1 hQ1
  subst l1 y1 z1
  refine Go.tr st1 ?_
  obtain ⟨rfl, N1q, e1⟩ := hQ1
  have N1 := Fr.app N0 N1q
  show Go p.tables e below P (T1.setTop (mkF m 4 #[.val (.ref p0), .val (.ref w_N), .val (.int p2), .val .null, .unset] []))
  refine Go.st (fun _ => XS.aloadN X1.here hx rfl (hb hby own_d_prog_16_method_1_code_4) rfl rfl) ?_
  show Go p.tables e below P (T1.setTop (mkF m 5 #[.val (.ref p0), .val (.ref w_N), .val (.int p2), .val .null, .unset] [(.ref w_N)]))
  obtain ⟨a2, T2, h2, kk2, X2, e2, E2, hS2, hk2, hZ2, hown2, st2⟩ := ldcS X1 hx hZ hown (hw _ (List.mem_of_getElem? (i := 21) rfl)) (fun a ha => hw a (own_strAtoms a ha)) e1 hS0 hk0 (g := (mkF m 5 #[.val (.ref p0), .val (.ref w_N), .val (.int p2), .val .null, .unset] [(.ref w_N)])) rfl (hb hby own_d_prog_16_method_1_code_5) (n := 24) (by decide +kernel) (by decide) (by decide) (by decide)
  refine Go.st st2 ?_
  have K2 : Keep h0 h2 [p0] := (Keep.refl h0 [p0]).ext E2
  have O2 := X00.ext E2
  show Go p.tables e below P (T2.setTop (mkF m 7 #[.val (.ref p0), .val (.ref w_N), .val (.int p2), .val .null, .unset] [(.ref a2), (.ref w_N)]))
  obtain ⟨_, _, ⟨T3, L3, k3, n3⟩, -, X3, ⟨Lc3, hQ3, l3, y3, z3⟩, st3⟩ := Jvm.LawKit.callS X2 hx (y := (⟨"java/util/Objects", "requireNonNull", "(Ljava/lang/Object;Ljava/lang/String;)Ljava/lang/Object;"⟩ : MethodName)) hown2 (mvT hZ2 (hw _ (List.mem_of_getElem? (i := 29) rfl))) (mvT hZ2 (hw _ (List.mem_of_getElem? (i := 30) rfl))) (mvT hZ2 (hw _ (List.mem_of_getElem? (i := 31) rfl))) (mvT hZ2 (hw _ (List.mem_of_getElem? (i := 32) rfl))) (by decide) (backOf (W := 0) (rm_rnn l Z a0 hw [] w_N S_N X_N O_N w_N a2 h2 n0 O2 ) hZ2 (hw _ (List.mem_of_getElem? (i := 32) rfl)) (hw _ (List.mem_of_getElem? (i := 31) rfl)) (by decide) (by decide)) (g := (mkF m 7 #[.val (.ref p0), .val (.ref w_N), .val (.int p2), .val .null, .unset] [(.ref a2), (.ref w_N)])) rfl (by rw [hml]; rfl) (argsL := [(.ref w_N), (.ref a2)]) (rest := []) (lenOf own_pd1 rfl) rfl (by show 2 * 0 + _ ≤ _; exact Nat.le_of_eq rfl) (hb hby own_d_prog_16_method_1_code_7) (fun _ _ => ⟨rfl, e2, (by decide : 2 + 0 ≤ _), (by decide : 28 + 0 ≤ _)⟩)
  dsimp only [Pt.U, Pt.locs, Pt.cells, Pt.slots] at X3 l3 y3 z3 st3 hQ3
  subst l3 y3 z3
  refine Go.st st3 ?_
  obtain ⟨rfl, N3q, e3⟩ := hQ3
  have N3 := Fr.app N1 N3q
  show Go p.tables e below P (T3.setTop (mkF m 10 #[.val (.ref p0), .val (.ref w_N), .val (.int p2), .val .null, .unset] [(.ref w_N)]))
  refine Go.st (fun _ => XS.pop X3.here hx rfl (hb hby own_d_prog_16_method_1_code_10) rfl rfl) ?_
  show Go p.tables e below P (T3.setTop (mkF m 11 #[.val (.ref p0), .val (.ref w_N), .val (.int p2), .val .null, .unset] []))
  refine Go.st (fun _ => XS.aloadN X3.here hx rfl (hb hby own_d_prog_16_method_1_code_11) rfl rfl) ?_
  show Go p.tables e below P (T3.setTop (mkF m 12 #[.val (.ref p0), .val (.ref w_N), .val (.int p2), .val .null, .unset] [(.ref w_N)]))
  obtain ⟨cq4, kq4, q4a, q4b, q4c⟩ := isOf hZ2 e3 (X_N.ext O2.2)
  obtain ⟨_, _, ⟨T4, L4, k4, n4⟩, -, X4, ⟨Lc4, hQ4, l4, y4, z4⟩, st4⟩ := X3.virtualBackUp hx (x := (⟨"com/example/vacuum/vacuum/model/PrunePolicy$Method", "ordinal", "()I"⟩ : MethodName)) (y := (⟨"java/lang/Enum", "ordinal", "()I"⟩ : MethodName)) hown2 (mvT hZ2 (hw _ (List.mem_of_getElem? (i := 33) rfl))) (mvT hZ2 (hw _ (List.mem_of_getElem? (i := 34) rfl))) (mvT hZ2 (hw _ (List.mem_of_getElem? (i := 35) rfl))) (by decide) (mvT hZ2 (hw _ (List.mem_of_getElem? (i := 37) rfl))) (mvT hZ2 (hw _ (List.mem_of_getElem? (i := 36) rfl))) (backOf (W := 0) (rm_ord l Z a0 hw [] w_N S_N X_N O_N h2 n0 O2 ) hZ2 (hw _ (List.mem_of_getElem? (i := 39) rfl)) (hw _ (List.mem_of_getElem? (i := 38) rfl)) (by decide) (by decide)) q4a q4c (g := (mkF m 12 #[.val (.ref p0), .val (.ref w_N), .val (.int p2), .val .null, .unset] [(.ref w_N)])) rfl (by rw [hml]; rfl) (Steps.refl _) (argsL := []) (rest := []) (lenOf own_pd2 rfl) rfl (by show 2 * 0 + _ ≤ _; exact Nat.le_of_eq rfl) (hb hby own_d_prog_16_method_1_code_12) (fun _ _ => ⟨rfl, e3, (by decide : 2 + 0 ≤ _), (by decide : 28 + 0 ≤ _)⟩)
  dsimp only [Pt.U, Pt.locs, Pt.cells, Pt.slots] at X4 l4 y4 z4 st4 hQ4
  subst l4 y4 z4
  refine Go.tr st4 ?_
  obtain ⟨rfl, N4q, e4⟩ := hQ4
  have N4 := Fr.app N3 N4q
  show Go p.tables e below P (T4.setTop (mkF m 15 #[.val (.ref p0), .val (.ref w_N), .val (.int p2), .val .null, .unset] [(.int (0 : Int32))]))
  refine Go.st (fun _ => X4.lookupswitchHit hx (g := (mkF m 15 #[.val (.ref p0), .val (.ref w_N), .val (.int p2), .val .null, .unset] [(.int (0 : Int32))])) rfl rfl (hb hby own_d_prog_16_method_1_code_15) (by decide) (a := 0) (off := 35) (by decide) (show (0 : Int) ≤ ((15 : Nat) : Int) + 35 by decide) _) ?_
  show Go p.tables e below P (T4.setTop (mkF m 50 #[.val (.ref p0), .val (.ref w_N), .val (.int p2), .val .null, .unset] []))
  refine Go.st (fun _ => XS.iloadN X4.here hx rfl (hb hby own_d_prog_16_method_1_code_50) rfl) ?_
  show Go p.tables e below P (T4.setTop (mkF m 51 #[.val (.ref p0), .val (.ref w_N), .val (.int p2), .val .null, .unset] [(.int p2)]))
  refine Go.st (fun _ => XS.iconst X4.here hx rfl (hb hby own_d_prog_16_method_1_code_51)) ?_
  show Go p.tables e below P (T4.setTop (mkF m 52 #[.val (.ref p0), .val (.ref w_N), .val (.int p2), .val .null, .unset] [(.int (1 : Int32)), (.int p2)]))
  have hb5 : ¬ (p2 < (1 : Int32)) := hpos
  refine Go.st (fun _ => XS.icmpNo X4.here hx rfl (hb hby own_d_prog_16_method_1_code_52) rfl (flt hb5).1) ?_
  show Go p.tables e below P (T4.setTop (mkF m 55 #[.val (.ref p0), .val (.ref w_N), .val (.int p2), .val .null, .unset] []))
  refine Go.st (fun _ => XS.aloadN X4.here hx rfl (hb hby own_d_prog_16_method_1_code_55) rfl rfl) ?_
  show Go p.tables e below P (T4.setTop (mkF m 56 #[.val (.ref p0), .val (.ref w_N), .val (.int p2), .val .null, .unset] [.null]))
  refine Go.st (fun _ => XS.ifnonnullNo X4.here hx rfl (hb hby own_d_prog_16_method_1_code_56) rfl) ?_
  show Go p.tables e below P (T4.setTop (mkF m 59 #[.val (.ref p0), .val (.ref w_N), .val (.int p2), .val .null, .unset] []))
  refine Go.st (fun _ => XS.iconst X4.here hx rfl (hb hby own_d_prog_16_method_1_code_59)) ?_
  show Go p.tables e below P (T4.setTop (mkF m 60 #[.val (.ref p0), .val (.ref w_N), .val (.int p2), .val .null, .unset] [(.int (1 : Int32))]))
  refine Go.st (fun _ => XS.goto X4.here hx rfl (pc0 := 60) (pc' := 87) rfl (hb hby own_d_prog_16_method_1_code_60) (by decide) (by decide)) ?_
  show Go p.tables e below P (T4.setTop (mkF m 87 #[.val (.ref p0), .val (.ref w_N), .val (.int p2), .val .null, .unset] [(.int (1 : Int32))]))
  refine Go.st (fun _ => XS.istore X4.here hx rfl (hb hby own_d_prog_16_method_1_code_87) rfl (l' := #[.val (.ref p0), .val (.ref w_N), .val (.int p2), .val .null, .val (.int (1 : Int32))]) rfl) ?_
  show Go p.tables e below P (T4.setTop (mkF m 89 #[.val (.ref p0), .val (.ref w_N), .val (.int p2), .val .null, .val (.int (1 : Int32))] []))
  refine Go.st (fun _ => XS.iload X4.here hx rfl (hb hby own_d_prog_16_method_1_code_89) rfl) ?_
  show Go p.tables e below P (T4.setTop (mkF m 91 #[.val (.ref p0), .val (.ref w_N), .val (.int p2), .val .null, .val (.int (1 : Int32))] [(.int (1 : Int32))]))
  refine Go.st (fun _ => XS.ifYes X4.here hx rfl (pc0 := 91) (pc' := 116) rfl (hb hby own_d_prog_16_method_1_code_91) rfl ((if0 _ _).trans (feq (by decide)).2) (by decide) (by decide)) ?_
  show Go p.tables e below P (T4.setTop (mkF m 116 #[.val (.ref p0), .val (.ref w_N), .val (.int p2), .val .null, .val (.int (1 : Int32))] []))
  refine Go.st (fun _ => XS.aloadN X4.here hx rfl (hb hby own_d_prog_16_method_1_code_116) rfl rfl) ?_
  show Go p.tables e below P (T4.setTop (mkF m 117 #[.val (.ref p0), .val (.ref w_N), .val (.int p2), .val .null, .val (.int (1 : Int32))] [(.ref p0)]))
  refine Go.st (fun _ => XS.aloadN X4.here hx rfl (hb hby own_d_prog_16_method_1_code_117) rfl rfl) ?_
  show Go p.tables e below P (T4.setTop (mkF m 118 #[.val (.ref p0), .val (.ref w_N), .val (.int p2), .val .null, .val (.int (1 : Int32))] [(.ref w_N), (.ref p0)]))
  have c6 := (hp1.ext E2)
  have c7 := (hp0.ext E2)
  obtain ⟨T8, h8, X8, e8, W8, st8⟩ := putF X4 hx hZ2 hown2 (host := "") (Or.inl (hw _ (List.mem_of_getElem? (i := 42) rfl))) Via.refl e4 c6 c7 (Or.inr ⟨(hw _ (List.mem_of_getElem? (i := 43) rfl)), rfl, hnm⟩) (hw _ (List.mem_of_getElem? (i := 6) rfl)) (ty := (.object "com/example/vacuum/vacuum/model/PrunePolicy$Method")) (by decide) rfl rfl (g := (mkF m 118 #[.val (.ref p0), .val (.ref w_N), .val (.int p2), .val .null, .val (.int (1 : Int32))] [(.ref w_N), (.ref p0)])) rfl rfl (hb hby own_d_prog_16_method_1_code_118)
  refine Go.st st8 ?_
  have K8 : Keep h0 h8 [p0] := K2.wr W8 (Or.inl (List.mem_of_getElem? (i := 0) rfl))
  have O8 := O2.wr W8 hp4
  have N8 := Fr.snoc X8 N4 hp4
  have F8 := c6.same W8
  show Go p.tables e below P (T8.setTop (mkF m 121 #[.val (.ref p0), .val (.ref w_N), .val (.int p2), .val .null, .val (.int (1 : Int32))] []))
  refine Go.st (fun _ => XS.aloadN X8.here hx rfl (hb hby own_d_prog_16_method_1_code_121) rfl rfl) ?_
  show Go p.tables e below P (T8.setTop (mkF m 122 #[.val (.ref p0), .val (.ref w_N), .val (.int p2), .val .null, .val (.int (1 : Int32))] [(.ref p0)]))
  refine Go.st (fun _ => XS.iloadN X8.here hx rfl (hb hby own_d_prog_16_method_1_code_122) rfl) ?_
  show Go p.tables e below P (T8.setTop (mkF m 123 #[.val (.ref p0), .val (.ref w_N), .val (.int p2), .val .null, .val (.int (1 : Int32))] [(.int p2), (.ref p0)]))
  have c9 := ((hp2.ext E2).other W8 (Or.inr (slot_ne (Or.inr (hw _ (List.mem_of_getElem? (i := 45) rfl))) (Or.inr (hw _ (List.mem_of_getElem? (i := 43) rfl))) (by decide) (t := .int) (t' := (.object "com/example/vacuum/vacuum/model/PrunePolicy$Method")) (by decide) (by decide))))
  have c10 := (c7.wr W8)
  obtain ⟨T11, h11, X11, e11, W11, st11⟩ := putF X8 hx hZ2 hown2 (host := "") (Or.inl (hw _ (List.mem_of_getElem? (i := 44) rfl))) Via.refl e8 c9 c10 (Or.inr ⟨(hw _ (List.mem_of_getElem? (i := 45) rfl)), rfl, hnm⟩) (hw _ (List.mem_of_getElem? (i := 6) rfl)) (ty := .int) (by decide) rfl rfl (g := (mkF m 123 #[.val (.ref p0), .val (.ref w_N), .val (.int p2), .val .null, .val (.int (1 : Int32))] [(.int p2), (.ref p0)])) rfl rfl (hb hby own_d_prog_16_method_1_code_123)
  refine Go.st st11 ?_
  have K11 : Keep h0 h11 [p0] := K8.wr W11 (Or.inl (List.mem_of_getElem? (i := 0) rfl))
  have O11 := O8.wr W11 hp4
  have N11 := Fr.snoc X11 N8 hp4
  have F11 := c9.same W11
  show Go p.tables e below P (T11.setTop (mkF m 126 #[.val (.ref p0), .val (.ref w_N), .val (.int p2), .val .null, .val (.int (1 : Int32))] []))
  refine Go.st (fun _ => XS.aloadN X11.here hx rfl (hb hby own_d_prog_16_method_1_code_126) rfl rfl) ?_
  show Go p.tables e below P (T11.setTop (mkF m 127 #[.val (.ref p0), .val (.ref w_N), .val (.int p2), .val .null, .val (.int (1 : Int32))] [(.ref p0)]))
  refine Go.st (fun _ => XS.aloadN X11.here hx rfl (hb hby own_d_prog_16_method_1_code_127) rfl rfl) ?_
  show Go p.tables e below P (T11.setTop (mkF m 128 #[.val (.ref p0), .val (.ref w_N), .val (.int p2), .val .null, .val (.int (1 : Int32))] [.null, (.ref p0)]))
  have c12 := (((hp3.ext E2).other W8 (Or.inr (slot_ne (Or.inr (hw _ (List.mem_of_getElem? (i := 47) rfl))) (Or.inr (hw _ (List.mem_of_getElem? (i := 43) rfl))) (by decide) (t := (.object "java/time/Duration")) (t' := (.object "com/example/vacuum/vacuum/model/PrunePolicy$Method")) (by decide) (by decide)))).other W11 (Or.inr (slot_ne (Or.inr (hw _ (List.mem_of_getElem? (i := 47) rfl))) (Or.inr (hw _ (List.mem_of_getElem? (i := 45) rfl))) (by decide) (t := (.object "java/time/Duration")) (t' := .int) (by decide) (by decide))))
  have c13 := (c10.wr W11)
  obtain ⟨T14, h14, X14, e14, W14, st14⟩ := putF X11 hx hZ2 hown2 (host := "") (Or.inl (hw _ (List.mem_of_getElem? (i := 46) rfl))) Via.refl e11 c12 c13 (Or.inr ⟨(hw _ (List.mem_of_getElem? (i := 47) rfl)), rfl, hnm⟩) (hw _ (List.mem_of_getElem? (i := 6) rfl)) (ty := (.object "java/time/Duration")) (by decide) rfl rfl (g := (mkF m 128 #[.val (.ref p0), .val (.ref w_N), .val (.int p2), .val .null, .val (.int (1 : Int32))] [.null, (.ref p0)])) rfl rfl (hb hby own_d_prog_16_method_1_code_128)
  refine Go.st st14 ?_
  have K14 : Keep h0 h14 [p0] := K11.wr W14 (Or.inl (List.mem_of_getElem? (i := 0) rfl))
  have O14 := O11.wr W14 hp4
  have N14 := Fr.snoc X14 N11 hp4
  have F14 := c12.same W14
  show Go p.tables e below P (T14.setTop (mkF m 131 #[.val (.ref p0), .val (.ref w_N), .val (.int p2), .val .null, .val (.int (1 : Int32))] []))
  obtain ⟨fs, hr, hrun, hended, -, hW, hpair, hsame⟩ := X14.leaveW hS2 (by rw [e14]; exact (Nat.le_trans (Nat.le_trans (Nat.le_trans hk2 (Keep.of_wr W8).1) (Keep.of_wr W11).1) (Keep.of_wr W14).1)) (v := none) (fun _ => rfl)
  refine ⟨_, ?_, hPend _ _ hrun hended ⟨_, _, rfl, ?_, ⟨_, rfl⟩, hW, hpair, hsame.mono (by decide) (by decide)⟩⟩
  · exact X14.returnOut hx Bd.returns (hb hby own_d_prog_16_method_1_code_131) hr
  · show Q_rm_ini Z _ _ _ h0 n0 _ T14.heap _
    rw [e14]
    have c15 := (c13.wr W14)
    have c16 := ((F8.other W11 (Or.inr (slot_ne (Or.inr (hw _ (List.mem_of_getElem? (i := 43) rfl))) (Or.inr (hw _ (List.mem_of_getElem? (i := 45) rfl))) (by decide) (t := (.object "com/example/vacuum/vacuum/model/PrunePolicy$Method")) (t' := .int) (by decide) (by decide)))).other W14 (Or.inr (slot_ne (Or.inr (hw _ (List.mem_of_getElem? (i := 43) rfl))) (Or.inr (hw _ (List.mem_of_getElem? (i := 47) rfl))) (by decide) (t := (.object "com/example/vacuum/vacuum/model/PrunePolicy$Method")) (t' := (.object "java/time/Duration")) (by decide) (by decide))))
    have c17 := (F11.other W14 (Or.inr (slot_ne (Or.inr (hw _ (List.mem_of_getElem? (i := 45) rfl))) (Or.inr (hw _ (List.mem_of_getElem? (i := 47) rfl))) (by decide) (t := .int) (t' := (.object "java/time/Duration")) (by decide) (by decide))))
    exact ⟨rfl, N14, K14, c15, c16, c17, F14⟩
theorem own_ef_rm_num (m : MethodId) (x0 : Int32) : entryFrame m #[(.int x0)] 1 = mkF m 0 #[.val (.int x0)] [] := by first | (simp [entryFrame, mkF, argsToLocals, Value.category]; done) | rfl
theorem own_d_prog_16_method_2_code_0 : decode prog_16_method_2_code 0 = .ok (.new 52, 3) := by decide +kernel
theorem own_d_prog_16_method_2_code_3 : decode prog_16_method_2_code 3 = .ok (.dup, 1) := by decide +kernel
theorem own_d_prog_16_method_2_code_4 : decode prog_16_method_2_code 4 = .ok (.getstatic 64, 3) := by decide +kernel
theorem own_d_prog_16_method_2_code_7 : decode prog_16_method_2_code 7 = .ok (.iload_n 0, 1) := by decide +kernel
theorem own_d_prog_16_method_2_code_8 : decode prog_16_method_2_code 8 = .ok (.aconst_null, 1) := by decide +kernel
theorem own_d_prog_16_method_2_code_9 : decode prog_16_method_2_code 9 = .ok (.invokespecial 67, 3) := by decide +kernel
theorem own_pd3 : parseMethodDescriptor "(Lcom/example/vacuum/vacuum/model/PrunePolicy$Method;ILjava/time/Duration;)V" = some ⟨[(.object "com/example/vacuum/vacuum/model/PrunePolicy$Method"), .int, (.object "java/time/Duration")], none⟩ := by decide +kernel
theorem own_d_prog_16_method_2_code_12 : decode prog_16_method_2_code 12 = .ok (.areturn, 1) := by decide +kernel
def Q_rm_num (Z : State) (w_N : Addr) (p0 : Int32) (h0 : Heap) (n0 : Nat) (v : Option Value) (h : Heap) (L : List Loc) : Prop := ∃ (ob : Addr), v = some (.ref ob) ∧ Fr n0 L ∧ Keep h0 h [] ∧ h0.size ≤ ob ∧ Exa Z h ob "com/example/vacuum/vacuum/model/PrunePolicy" ∧ Fld Z h ob "com/example/vacuum/vacuum/model/PrunePolicy" "method" "Lcom/example/vacuum/vacuum/model/PrunePolicy$Method;" (.ref w_N) ∧ Fld Z h ob "com/example/vacuum/vacuum/model/PrunePolicy" "numTags" "I" (.int p0) ∧ Fld Z h ob "com/example/vacuum/vacuum/model/PrunePolicy" "olderThan" "Ljava/time/Duration;" .null
set_option maxRecDepth 65536 in
set_option maxHeartbeats 40000000 in
theorem rm_num (l : Launch) (Z : State) (a0 : Array Value) (hw : ∀ d ∈ tables_1, d.before a0 Z = true) (ws : List Jvm.Cond) (w_N : Addr) (S_N : Sta Z Z.heap "com/example/vacuum/vacuum/model/PrunePolicy$Method" "NUMBER_OF_TAGS" "Lcom/example/vacuum/vacuum/model/PrunePolicy$Method;" (.ref w_N)) (X_N : Exa Z Z.heap w_N "com/example/vacuum/vacuum/model/PrunePolicy$Method") (O_N : Fld Z Z.heap w_N "java/lang/Enum" "ordinal" "I" (.int (0 : Int32))) (p0 : Int32) (h0 : Heap) (n0 : Nat) (X00 : Old Z n0 h0) (hpos : ¬ (p0 < (1 : Int32))) :
    MetFree l (⟨"com/example/vacuum/vacuum/model/PrunePolicy", "numberOfTags", "(I)Lcom/example/vacuum/vacuum/model/PrunePolicy;"⟩ : MethodName) (head1 (Jvm.Cond.code (⟨"com/example/vacuum/vacuum/model/PrunePolicy", "numberOfTags", "(I)Lcom/example/vacuum/vacuum/model/PrunePolicy;"⟩ : MethodName) prog_16_method_2_code 1 (some (.object "com/example/vacuum/vacuum/model/PrunePolicy")) :: ws) ({ frames := 3, cells := 3, slots := 31, locals := 41 } : Room)) (fun a U => a = #[(.int p0)] ∧ Z.Warmed39 U.vm ∧ U.heap = h0) (fun _ _ _ _ _ => True) (fun _ U o U' => ∃ v L, o = .returned v ∧ Q_rm_num Z w_N p0 h0 n0 v U'.heap L ∧ ReturnedEndW U o U' L ({ frames := 3, cells := 3, slots := 31, locals := 41 } : Room).cells ({ frames := 3, cells := 3, slots := 31, locals := 41 } : Room).slots) := by
  refine MetFree.of_bodySF (plainFor_of_name own_pn3) hisR ?_
  intro p e s m args below meth c s₁ Bd hml0 hP hK
  obtain ⟨rfl, hZ, hh⟩ := hP
  have hx := Bd.exec
  have hby := Bd.bytes
  have hml : c.maxLocals = 1 := hml0
  have hown : s.vm.findClass "com/example/vacuum/vacuum/model/PrunePolicy" = some m.cls := findClass_of_methodNamed Bd.named
  have hnm := (name_of_methodNamed Bd.named Bd.method).1
  have X0 : Stand p l e ({ frames := 3, cells := 3, slots := 31, locals := 41 } : Room) (s.setVm s.vm) m #[(.int p0)] below meth c s₁ [] 0 0 := Stand.of_body Bd
  have e0 : s₁.heap = h0 := by rw [← hh, Bd.state]; rfl
  have N0 := Fr.nil n0
  have hS0 : s.Since s.vm 0 := own_since s
  have hk0 : 0 ≤ h0.size := Nat.zero_le _
  have hZ : Z.Warmed39 (s.setVm s.vm).vm := hZ
  have hown : (s.setVm s.vm).vm.findClass "com/example/vacuum/vacuum/model/PrunePolicy" = some m.cls := hown
  refine Go.start fun P hPend => ?_
  refine Go.st (fun _ k => castTop (own_ef_rm_num m p0) k) ?_
  show Go p.tables e below P (s₁.setTop (mkF m 0 #[.val (.int p0)] []))
  obtain ⟨T1, h1, X1, e1, E1, A1, D1, -, st1⟩ := newO X0 hx hZ hown (hw _ (List.mem_of_getElem? (i := 5) rfl)) (hw _ (List.mem_of_getElem? (i := 6) rfl)) (hw _ (List.mem_of_getElem? (i := 3) rfl)) e0 (g := (mkF m 0 #[.val (.int p0)] [])) rfl (hb hby own_d_prog_16_method_2_code_0) (by decide) (by decide)
  obtain ⟨b1, g1⟩ : ∃ z, z = h0.size := ⟨_, rfl⟩
  rw [← g1] at A1 D1 st1
  refine Go.st st1 ?_
  have g_b1 : n0 ≤ b1 := Nat.le_trans (own_oldsz X00) (Nat.le_of_eq g1.symm)
  have sz_b1 : h0.size ≤ b1 := Nat.le_trans (Keep.refl h0 []).1 (Nat.le_of_eq g1.symm)
  have K1 : Keep h0 h1 [] := (Keep.refl h0 []).ext E1
  have O1 := X00.ext E1
  have F2 : Fld Z h1 b1 "com/example/vacuum/vacuum/model/PrunePolicy" "method" "Lcom/example/vacuum/vacuum/model/PrunePolicy$Method;" .null := D1 (Or.inr (hw _ (List.mem_of_getElem? (i := 43) rfl))) (ty := (.object "com/example/vacuum/vacuum/model/PrunePolicy$Method")) (by decide)
  have F3 : Fld Z h1 b1 "com/example/vacuum/vacuum/model/PrunePolicy" "numTags" "I" (.int (0 : Int32)) := D1 (Or.inr (hw _ (List.mem_of_getElem? (i := 45) rfl))) (ty := .int) (by decide)
  have F4 : Fld Z h1 b1 "com/example/vacuum/vacuum/model/PrunePolicy" "olderThan" "Ljava/time/Duration;" .null := D1 (Or.inr (hw _ (List.mem_of_getElem? (i := 47) rfl))) (ty := (.object "java/time/Duration")) (by decide)
  show Go p.tables e below P (T1.setTop (mkF m 3 #[.val (.int p0)] [(.ref b1)]))
  refine Go.st (fun _ => XS.dup X1.here hx rfl (hb hby own_d_prog_16_method_2_code_3) rfl rfl) ?_
  show Go p.tables e below P (T1.setTop (mkF m 4 #[.val (.int p0)] [(.ref b1), (.ref b1)]))
  obtain ⟨T5, X5, e5, st5⟩ := getS2 X1 hx hZ hown (host := "") (Or.inl (hw _ (List.mem_of_getElem? (i := 7) rfl))) Via.refl e1 (S_N.ext O1.2) (g := (mkF m 4 #[.val (.int p0)] [(.ref b1), (.ref b1)])) rfl (hb hby own_d_prog_16_method_2_code_4)
  refine Go.st st5 ?_
  show Go p.tables e below P (T5.setTop (mkF m 7 #[.val (.int p0)] [(.ref w_N), (.ref b1), (.ref b1)]))
  refine Go.st (fun _ => XS.iloadN X5.here hx rfl (hb hby own_d_prog_16_method_2_code_7) rfl) ?_
  show Go p.tables e below P (T5.setTop (mkF m 8 #[.val (.int p0)] [(.int p0), (.ref w_N), (.ref b1), (.ref b1)]))
  refine Go.st (fun _ => XS.aconstNull X5.here hx rfl (hb hby own_d_prog_16_method_2_code_8)) ?_
  show Go p.tables e below P (T5.setTop (mkF m 9 #[.val (.int p0)] [.null, (.int p0), (.ref w_N), (.ref b1), (.ref b1)]))
  obtain ⟨_, _, ⟨T6, L6, k6, n6⟩, -, X6, hS6, hg6, ⟨Lc6, hQ6, l6, y6, z6⟩, st6⟩ := X5.specialBackS hx (y := (⟨"com/example/vacuum/vacuum/model/PrunePolicy", "<init>", "(Lcom/example/vacuum/vacuum/model/PrunePolicy$Method;ILjava/time/Duration;)V"⟩ : MethodName)) rfl hown (mvT hZ (hw _ (List.mem_of_getElem? (i := 10) rfl))) (mvT hZ (hw _ (List.mem_of_getElem? (i := 11) rfl))) (mvT hZ (hw _ (List.mem_of_getElem? (i := 12) rfl))) (by decide) (backOfS (W := 1) (rm_ini l Z a0 hw [] w_N S_N X_N O_N b1 p0 h1 n0 O1 A1 F2 F3 F4 g_b1 hpos) hZ (hw _ (List.mem_of_getElem? (i := 12) rfl)) (hw _ (List.mem_of_getElem? (i := 3) rfl)) (by decide) (by decide)) (g := (mkF m 9 #[.val (.int p0)] [.null, (.int p0), (.ref w_N), (.ref b1), (.ref b1)])) rfl (by rw [hml]; rfl) (Steps.refl _) (a := b1) (argsL := [(.ref w_N), (.int p0), .null]) (rest := [(.ref b1)]) (lenOf own_pd3 rfl) rfl (by show 2 * 0 + _ ≤ _; exact Nat.le_of_eq rfl) (hb hby own_d_prog_16_method_2_code_9) (fun _ _ => ⟨rfl, e5, (by decide : 1 + 2 ≤ _), (by decide : 3 + 28 ≤ _)⟩)
  dsimp only [Pt.U, Pt.locs, Pt.cells, Pt.slots] at X6 l6 y6 z6 st6 hQ6 hS6 hg6
  subst l6 y6 z6
  refine Go.tr st6 ?_
  obtain ⟨XX6, hSS6, hZ6, hown6⟩ := rebS hS0 (by rw [e5]; exact (Nat.le_trans hk0 E1.1)) X6 hS6 hg6 hZ hown
  obtain ⟨rfl, N6q, K6q, q6_0, q6_1, q6_2, q6_3⟩ := hQ6
  have N6 := Fr.app N0 N6q
  have O6 := O1.keep K6q (allS g_b1 all0)
  have K6 : Keep h0 T6.heap [] := K1.trans K6q (allS (Or.inr sz_b1) all0)
  show Go p.tables e below P (T6.setTop (mkF m 12 #[.val (.int p0)] [(.ref b1)]))
  obtain ⟨fs, hr, hrun, hended, -, hW, hpair, hsame⟩ := XX6.leaveW hSS6 (Nat.le_refl _) (v := some (.ref b1)) (fun h => by rw [Bd.returns] at h; cases h)
  refine ⟨_, ?_, hPend _ _ hrun hended ⟨_, _, rfl, ?_, ⟨_, rfl⟩, hW, hpair, hsame.mono (by decide) (by decide)⟩⟩
  · exact retOut XX6 hx (t := (.object "com/example/vacuum/vacuum/model/PrunePolicy")) Bd.returns rfl (Or.inr (Or.inr (Or.inr (Or.inr ⟨rfl, rfl, rfl⟩)))) (hb hby own_d_prog_16_method_2_code_12) hr
  · show Q_rm_num Z _ _ h0 n0 _ T6.heap _
    exact ⟨b1, rfl, N6, K6, sz_b1, q6_0, q6_1, q6_2, q6_3⟩
theorem own_ef_rm_g1 (m : MethodId) (x0 : Addr) : entryFrame m #[(.ref x0)] 1 = mkF m 0 #[.val (.ref x0)] [] := by first | (simp [entryFrame, mkF, argsToLocals, Value.category]; done) | rfl
theorem own_d_prog_16_method_7_code_0 : decode prog_16_method_7_code 0 = .ok (.aload_n 0, 1) := by decide +kernel
theorem own_d_prog_16_method_7_code_1 : decode prog_16_method_7_code 1 = .ok (.getfield 51, 3) := by decide +kernel
theorem own_d_prog_16_method_7_code_4 : decode prog_16_method_7_code 4 = .ok (.areturn, 1) := by decide +kernel
def Q_rm_g1 (Z : State) (w_N : Addr) (p0 : Addr) (h0 : Heap) (n0 : Nat) (v : Option Value) (h : Heap) (L : List Loc) : Prop := v = some (.ref w_N) ∧ Fr n0 L ∧ h = h0
set_option maxRecDepth 65536 in
set_option maxHeartbeats 40000000 in
theorem rm_g1 (l : Launch) (Z : State) (a0 : Array Value) (hw : ∀ d ∈ tables_1, d.before a0 Z = true) (ws : List Jvm.Cond) (w_N : Addr) (S_N : Sta Z Z.heap "com/example/vacuum/vacuum/model/PrunePolicy$Method" "NUMBER_OF_TAGS" "Lcom/example/vacuum/vacuum/model/PrunePolicy$Method;" (.ref w_N)) (X_N : Exa Z Z.heap w_N "com/example/vacuum/vacuum/model/PrunePolicy$Method") (O_N : Fld Z Z.heap w_N "java/lang/Enum" "ordinal" "I" (.int (0 : Int32))) (p0 : Addr) (h0 : Heap) (n0 : Nat) (X00 : Old Z n0 h0) (hp0 : Fld Z h0 p0 "com/example/vacuum/vacuum/model/PrunePolicy" "method" "Lcom/example/vacuum/vacuum/model/PrunePolicy$Method;" (.ref w_N)) :
    MetFree l (⟨"com/example/vacuum/vacuum/model/PrunePolicy", "method", "()Lcom/example/vacuum/vacuum/model/PrunePolicy$Method;"⟩ : MethodName) (head1 (Jvm.Cond.code (⟨"com/example/vacuum/vacuum/model/PrunePolicy", "method", "()Lcom/example/vacuum/vacuum/model/PrunePolicy$Method;"⟩ : MethodName) prog_16_method_7_code 1 (some (.object "com/example/vacuum/vacuum/model/PrunePolicy$Method")) :: ws) ({ frames := 0, cells := 0, slots := 0, locals := 0 } : Room)) (fun a U => a = #[(.ref p0)] ∧ Z.Warmed39 U.vm ∧ U.heap = h0) (fun _ _ _ _ _ => True) (fun _ U o U' => ∃ v L, o = .returned v ∧ Q_rm_g1 Z w_N p0 h0 n0 v U'.heap L ∧ FrameEnd U o U' L ({ frames := 0, cells := 0, slots := 0, locals := 0 } : Room).cells ({ frames := 0, cells := 0, slots := 0, locals := 0 } : Room).slots) := by
  refine MetFree.of_bodySF (plainFor_of_name own_pn3) hisR ?_
  intro p e s m args below meth c s₁ Bd hml0 hP hK
  obtain ⟨rfl, hZ, hh⟩ := hP
  have hx := Bd.exec
  have hby := Bd.bytes
  have hml : c.maxLocals = 1 := hml0
  have hown : s.vm.findClass "com/example/vacuum/vacuum/model/PrunePolicy" = some m.cls := findClass_of_methodNamed Bd.named
  have hnm := (name_of_methodNamed Bd.named Bd.method).1
  have X0 : Stand p l e ({ frames := 0, cells := 0, slots := 0, locals := 0 } : Room) s m #[(.ref p0)] below meth c s₁ [] 0 0 := Stand.of_body Bd
  have e0 : s₁.heap = h0 := by rw [← hh, Bd.state]; rfl
  have N0 := Fr.nil n0
  refine Go.start fun P hPend => ?_
  refine Go.st (fun _ k => castTop (own_ef_rm_g1 m p0) k) ?_
  show Go p.tables e below P (s₁.setTop (mkF m 0 #[.val (.ref p0)] []))
  refine Go.st (fun _ => XS.aloadN X0.here hx rfl (hb hby own_d_prog_16_method_7_code_0) rfl rfl) ?_
  show Go p.tables e below P (s₁.setTop (mkF m 1 #[.val (.ref p0)] [(.ref p0)]))
  obtain ⟨T1, X1, e1, st1⟩ := getF X0 hx hZ hown (host := "") (Or.inl (hw _ (List.mem_of_getElem? (i := 42) rfl))) Via.refl e0 hp0 (g := (mkF m 1 #[.val (.ref p0)] [(.ref p0)])) rfl rfl (hb hby own_d_prog_16_method_7_code_1)
  refine Go.st st1 ?_
  show Go p.tables e below P (T1.setTop (mkF m 4 #[.val (.ref p0)] [(.ref w_N)]))
  obtain ⟨fs, hr, hrun, hended, hW, hsame⟩ := X1.leave (v := some (.ref w_N)) (fun h => by rw [Bd.returns] at h; cases h)
  refine ⟨_, ?_, hPend _ _ hrun hended ⟨_, _, rfl, ?_, ⟨_, rfl⟩, hW, hsame.mono (by decide) (by decide)⟩⟩
  · exact retOut X1 hx (t := (.object "com/example/vacuum/vacuum/model/PrunePolicy$Method")) Bd.returns rfl (Or.inr (Or.inr (Or.inr (Or.inr ⟨rfl, rfl, rfl⟩)))) (hb hby own_d_prog_16_method_7_code_4) hr
  · show Q_rm_g1 Z _ _ h0 n0 _ T1.heap _
    rw [e1]
    exact ⟨rfl, N0, rfl⟩
theorem own_ef_rm_g2 (m : MethodId) (x0 : Addr) : entryFrame m #[(.ref x0)] 1 = mkF m 0 #[.val (.ref x0)] [] := by first | (simp [entryFrame, mkF, argsToLocals, Value.category]; done) | rfl
theorem own_d_prog_16_method_8_code_0 : decode prog_16_method_8_code 0 = .ok (.aload_n 0, 1) := by decide +kernel
theorem own_d_prog_16_method_8_code_1 : decode prog_16_method_8_code 1 = .ok (.getfield 56, 3) := by decide +kernel
theorem own_d_prog_16_method_8_code_4 : decode prog_16_method_8_code 4 = .ok (.ireturn, 1) := by decide +kernel
def Q_rm_g2 (Z : State) (w_N : Addr) (p0 : Addr) (pn : Int32) (h0 : Heap) (n0 : Nat) (v : Option Value) (h : Heap) (L : List Loc) : Prop := v = some (.int pn) ∧ Fr n0 L ∧ h = h0
set_option maxRecDepth 65536 in
set_option maxHeartbeats 40000000 in
theorem rm_g2 (l : Launch) (Z : State) (a0 : Array Value) (hw : ∀ d ∈ tables_1, d.before a0 Z = true) (ws : List Jvm.Cond) (w_N : Addr) (S_N : Sta Z Z.heap "com/example/vacuum/vacuum/model/PrunePolicy$Method" "NUMBER_OF_TAGS" "Lcom/example/vacuum/vacuum/model/PrunePolicy$Method;" (.ref w_N)) (X_N : Exa Z Z.heap w_N "com/example/vacuum/vacuum/model/PrunePolicy$Method") (O_N : Fld Z Z.heap w_N "java/lang/Enum" "ordinal" "I" (.int (0 : Int32))) (p0 : Addr) (pn : Int32) (h0 : Heap) (n0 : Nat) (X00 : Old Z n0 h0) (hp0 : Fld Z h0 p0 "com/example/vacuum/vacuum/model/PrunePolicy" "numTags" "I" (.int pn)) :
    MetFree l (⟨"com/example/vacuum/vacuum/model/PrunePolicy", "numTags", "()I"⟩ : MethodName) (head1 (Jvm.Cond.code (⟨"com/example/vacuum/vacuum/model/PrunePolicy", "numTags", "()I"⟩ : MethodName) prog_16_method_8_code 1 (some .int) :: ws) ({ frames := 0, cells := 0, slots := 0, locals := 0 } : Room)) (fun a U => a = #[(.ref p0)] ∧ Z.Warmed39 U.vm ∧ U.heap = h0) (fun _ _ _ _ _ => True) (fun _ U o U' => ∃ v L, o = .returned v ∧ Q_rm_g2 Z w_N p0 pn h0 n0 v U'.heap L ∧ FrameEnd U o U' L ({ frames := 0, cells := 0, slots := 0, locals := 0 } : Room).cells ({ frames := 0, cells := 0, slots := 0, locals := 0 } : Room).slots) := by
  refine MetFree.of_bodySF (plainFor_of_name own_pn3) hisR ?_
  intro p e s m args below meth c s₁ Bd hml0 hP hK
  obtain ⟨rfl, hZ, hh⟩ := hP
  have hx := Bd.exec
  have hby := Bd.bytes
  have hml : c.maxLocals = 1 := hml0
  have hown : s.vm.findClass "com/example/vacuum/vacuum/model/PrunePolicy" = some m.cls := findClass_of_methodNamed Bd.named
  have hnm := (name_of_methodNamed Bd.named Bd.method).1
  have X0 : Stand p l e ({ frames := 0, cells := 0, slots := 0, locals := 0 } : Room) s m #[(.ref p0)] below meth c s₁ [] 0 0 := Stand.of_body Bd
  have e0 : s₁.heap = h0 := by rw [← hh, Bd.state]; rfl
  have N0 := Fr.nil n0
  refine Go.start fun P hPend => ?_
  refine Go.st (fun _ k => castTop (own_ef_rm_g2 m p0) k) ?_
  show Go p.tables e below P (s₁.setTop (mkF m 0 #[.val (.ref p0)] []))
  refine Go.st (fun _ => XS.aloadN X0.here hx rfl (hb hby own_d_prog_16_method_8_code_0) rfl rfl) ?_
  show Go p.tables e below P (s₁.setTop (mkF m 1 #[.val (.ref p0)] [(.ref p0)]))
  obtain ⟨T1, X1, e1, st1⟩ := getF X0 hx hZ hown (host := "") (Or.inl (hw _ (List.mem_of_getElem? (i := 44) rfl))) Via.refl e0 hp0 (g := (mkF m 1 #[.val (.ref p0)] [(.ref p0)])) rfl rfl (hb hby own_d_prog_16_method_8_code_1)
  refine Go.st st1 ?_
  show Go p.tables e below P (T1.setTop (mkF m 4 #[.val (.ref p0)] [(.int pn)]))
  obtain ⟨fs, hr, hrun, hended, hW, hsame⟩ := X1.leave (v := some (.int pn)) (fun h => by rw [Bd.returns] at h; cases h)
  refine ⟨_, ?_, hPend _ _ hrun hended ⟨_, _, rfl, ?_, ⟨_, rfl⟩, hW, hsame.mono (by decide) (by decide)⟩⟩
  · exact retOut X1 hx (t := .int) Bd.returns rfl (Or.inl ⟨rfl, Or.inl rfl, _, rfl⟩) (hb hby own_d_prog_16_method_8_code_4) hr
  · show Q_rm_g2 Z _ _ _ h0 n0 _ T1.heap _
    rw [e1]
    exact ⟨rfl, N0, rfl⟩
theorem own_ef_rm_g3 (m : MethodId) (x0 : Addr) : entryFrame m #[(.ref x0)] 1 = mkF m 0 #[.val (.ref x0)] [] := by first | (simp [entryFrame, mkF, argsToLocals, Value.category]; done) | rfl
theorem own_d_prog_16_method_9_code_0 : decode prog_16_method_9_code 0 = .ok (.aload_n 0, 1) := by decide +kernel
theorem own_d_prog_16_method_9_code_1 : decode prog_16_method_9_code 1 = .ok (.getfield 60, 3) := by decide +kernel
theorem own_d_prog_16_method_9_code_4 : decode prog_16_method_9_code 4 = .ok (.areturn, 1) := by decide +kernel
def Q_rm_g3 (Z : State) (w_N : Addr) (p0 : Addr) (h0 : Heap) (n0 : Nat) (v : Option Value) (h : Heap) (L : List Loc) : Prop := v = some .null ∧ Fr n0 L ∧ h = h0
set_option maxRecDepth 65536 in
set_option maxHeartbeats 40000000 in
theorem rm_g3 (l : Launch) (Z : State) (a0 : Array Value) (hw : ∀ d ∈ tables_1, d.before a0 Z = true) (ws : List Jvm.Cond) (w_N : Addr) (S_N : Sta Z Z.heap "com/example/vacuum/vacuum/model/PrunePolicy$Method" "NUMBER_OF_TAGS" "Lcom/example/vacuum/vacuum/model/PrunePolicy$Method;" (.ref w_N)) (X_N : Exa Z Z.heap w_N "com/example/vacuum/vacuum/model/PrunePolicy$Method") (O_N : Fld Z Z.heap w_N "java/lang/Enum" "ordinal" "I" (.int (0 : Int32))) (p0 : Addr) (h0 : Heap) (n0 : Nat) (X00 : Old Z n0 h0) (hp0 : Fld Z h0 p0 "com/example/vacuum/vacuum/model/PrunePolicy" "olderThan" "Ljava/time/Duration;" .null) :
    MetFree l (⟨"com/example/vacuum/vacuum/model/PrunePolicy", "olderThan", "()Ljava/time/Duration;"⟩ : MethodName) (head1 (Jvm.Cond.code (⟨"com/example/vacuum/vacuum/model/PrunePolicy", "olderThan", "()Ljava/time/Duration;"⟩ : MethodName) prog_16_method_9_code 1 (some (.object "java/time/Duration")) :: ws) ({ frames := 0, cells := 0, slots := 0, locals := 0 } : Room)) (fun a U => a = #[(.ref p0)] ∧ Z.Warmed39 U.vm ∧ U.heap = h0) (fun _ _ _ _ _ => True) (fun _ U o U' => ∃ v L, o = .returned v ∧ Q_rm_g3 Z w_N p0 h0 n0 v U'.heap L ∧ FrameEnd U o U' L ({ frames := 0, cells := 0, slots := 0, locals := 0 } : Room).cells ({ frames := 0, cells := 0, slots := 0, locals := 0 } : Room).slots) := by
  refine MetFree.of_bodySF (plainFor_of_name own_pn3) hisR ?_
  intro p e s m args below meth c s₁ Bd hml0 hP hK
  obtain ⟨rfl, hZ, hh⟩ := hP
  have hx := Bd.exec
  have hby := Bd.bytes
  have hml : c.maxLocals = 1 := hml0
  have hown : s.vm.findClass "com/example/vacuum/vacuum/model/PrunePolicy" = some m.cls := findClass_of_methodNamed Bd.named
  have hnm := (name_of_methodNamed Bd.named Bd.method).1
  have X0 : Stand p l e ({ frames := 0, cells := 0, slots := 0, locals := 0 } : Room) s m #[(.ref p0)] below meth c s₁ [] 0 0 := Stand.of_body Bd
  have e0 : s₁.heap = h0 := by rw [← hh, Bd.state]; rfl
  have N0 := Fr.nil n0
  refine Go.start fun P hPend => ?_
  refine Go.st (fun _ k => castTop (own_ef_rm_g3 m p0) k) ?_
  show Go p.tables e below P (s₁.setTop (mkF m 0 #[.val (.ref p0)] []))
  refine Go.st (fun _ => XS.aloadN X0.here hx rfl (hb hby own_d_prog_16_method_9_code_0) rfl rfl) ?_
  show Go p.tables e below P (s₁.setTop (mkF m 1 #[.val (.ref p0)] [(.ref p0)]))
  obtain ⟨T1, X1, e1, st1⟩ := getF X0 hx hZ hown (host := "") (Or.inl (hw _ (List.mem_of_getElem? (i := 46) rfl))) Via.refl e0 hp0 (g := (mkF m 1 #[.val (.ref p0)] [(.ref p0)])) rfl rfl (hb hby own_d_prog_16_method_9_code_1)
  refine Go.st st1 ?_
  show Go p.tables e below P (T1.setTop (mkF m 4 #[.val (.ref p0)] [.null]))
  obtain ⟨fs, hr, hrun, hended, hW, hsame⟩ := X1.leave (v := some .null) (fun h => by rw [Bd.returns] at h; cases h)
  refine ⟨_, ?_, hPend _ _ hrun hended ⟨_, _, rfl, ?_, ⟨_, rfl⟩, hW, hsame.mono (by decide) (by decide)⟩⟩
  · exact retOut X1 hx (t := (.object "java/time/Duration")) Bd.returns rfl (Or.inr (Or.inr (Or.inr (Or.inr ⟨rfl, rfl, rfl⟩)))) (hb hby own_d_prog_16_method_9_code_4) hr
  · show Q_rm_g3 Z _ _ h0 n0 _ T1.heap _
    rw [e1]
    exact ⟨rfl, N0, rfl⟩
theorem own_pos {x : Int32} (h : ¬ (x &&& 2147483647) = 0) : ¬ ((x &&& 2147483647) < 1) := by
  have e : (x &&& 2147483647).toInt = x.toInt % (2 ^ 31 : Nat) := c_mask x 2147483647 31 (by decide) (by decide)
  rw [Int32.lt_iff_toInt_lt]
  have e1 : (1 : Int32).toInt = 1 := rfl
  have : ¬ (x &&& 2147483647).toInt = 0 := fun q => h (own_int q rfl)
  omega
theorem own_ef_rm_law (m : MethodId) (x0 : Int32) : entryFrame m #[(.int x0)] maxLocals = mkF m 0 #[.val (.int x0), .unset, .unset] [] := by first | (simp [entryFrame, mkF, argsToLocals, Value.category, maxLocals]; done) | rfl
theorem own_pn4 : plainName "com/example/vacuum/vacuum/model/PrunePolicyNumberOfTagsPinLaw" = true := by first | (simp [plainName, overriddenIn]; done) | decide +kernel
theorem own_pd4 : parseMethodDescriptor "(I)Lcom/example/vacuum/vacuum/model/PrunePolicy;" = some ⟨[.int], some (.object "com/example/vacuum/vacuum/model/PrunePolicy")⟩ := by decide +kernel
theorem own_pd5 : parseMethodDescriptor "()Lcom/example/vacuum/vacuum/model/PrunePolicy$Method;" = some ⟨[], some (.object "com/example/vacuum/vacuum/model/PrunePolicy$Method")⟩ := by decide +kernel
theorem own_pd6 : parseMethodDescriptor "()Ljava/time/Duration;" = some ⟨[], some (.object "java/time/Duration")⟩ := by decide +kernel
def Q_rm_law (Z : State) (w_N : Addr) (p0 : Int32) (h0 : Heap) (n0 : Nat) (v : Option Value) (h : Heap) (L : List Loc) : Prop := v = some (.int (1 : Int32)) ∧ Fr n0 L ∧ Keep h0 h []
set_option maxRecDepth 65536 in
set_option maxHeartbeats 40000000 in
theorem rm_law (l : Launch) (Z : State) (a0 : Array Value) (hw : ∀ d ∈ tables_1, d.before a0 Z = true) (ws : List Jvm.Cond) (w_N : Addr) (S_N : Sta Z Z.heap "com/example/vacuum/vacuum/model/PrunePolicy$Method" "NUMBER_OF_TAGS" "Lcom/example/vacuum/vacuum/model/PrunePolicy$Method;" (.ref w_N)) (X_N : Exa Z Z.heap w_N "com/example/vacuum/vacuum/model/PrunePolicy$Method") (O_N : Fld Z Z.heap w_N "java/lang/Enum" "ordinal" "I" (.int (0 : Int32))) (p0 : Int32) (h0 : Heap) (n0 : Nat) (X00 : Old Z n0 h0)  :
    MetFree l x (head1 (Jvm.Cond.code x code maxLocals ret :: ws) room_1) (fun a U => a = #[(.int p0)] ∧ Z.Warmed39 U.vm ∧ U.heap = h0) (fun _ _ _ _ _ => True) (fun _ U o U' => ∃ v L, o = .returned v ∧ Q_rm_law Z w_N p0 h0 n0 v U'.heap L ∧ ReturnedEndW U o U' L 3 31) := by
  refine MetFree.of_bodySF (plainFor_of_name own_pn4) hisR ?_
  intro p e s m args below meth c s₁ Bd hml0 hP hK
  obtain ⟨rfl, hZ, hh⟩ := hP
  have hx := Bd.exec
  have hby := Bd.bytes
  have hml : c.maxLocals = 3 := hml0
  have hown : s.vm.findClass "com/example/vacuum/vacuum/model/PrunePolicyNumberOfTagsPinLaw" = some m.cls := findClass_of_methodNamed Bd.named
  have hnm := (name_of_methodNamed Bd.named Bd.method).1
  have X0 : Stand p l e room_1 (s.setVm s.vm) m #[(.int p0)] below meth c s₁ [] 0 0 := Stand.of_body Bd
  have e0 : s₁.heap = h0 := by rw [← hh, Bd.state]; rfl
  have N0 := Fr.nil n0
  have hS0 : s.Since s.vm 0 := own_since s
  have hk0 : 0 ≤ h0.size := Nat.zero_le _
  have hZ : Z.Warmed39 (s.setVm s.vm).vm := hZ
  have hown : (s.setVm s.vm).vm.findClass "com/example/vacuum/vacuum/model/PrunePolicyNumberOfTagsPinLaw" = some m.cls := hown
  refine Go.start fun P hPend => ?_
  refine Go.st (fun _ k => castTop (own_ef_rm_law m p0) k) ?_
  show Go p.tables e below P (s₁.setTop (mkF m 0 #[.val (.int p0), .unset, .unset] []))
  refine Go.st (fun _ => XS.iloadN X0.here hx rfl (hb hby at_0) rfl) ?_
  show Go p.tables e below P (s₁.setTop (mkF m 1 #[.val (.int p0), .unset, .unset] [(.int p0)]))
  refine Go.st (fun _ => X0.ldcInt hx hown (mvT hZ (hw _ (List.mem_of_getElem? (i := 0) rfl))) (g := (mkF m 1 #[.val (.int p0), .unset, .unset] [(.int p0)])) rfl (hb hby at_1) _) ?_
  show Go p.tables e below P (s₁.setTop (mkF m 3 #[.val (.int p0), .unset, .unset] [(.int (2147483647 : Int32)), (.int p0)]))
  refine Go.st (fun _ => XS.iand X0.here hx rfl (hb hby at_3) rfl) ?_
  show Go p.tables e below P (s₁.setTop (mkF m 4 #[.val (.int p0), .unset, .unset] [(.int (p0 &&& (2147483647 : Int32)))]))
  refine Go.st (fun _ => XS.istoreN X0.here hx rfl (hb hby at_4) rfl (l' := #[.val (.int p0), .val (.int (p0 &&& (2147483647 : Int32))), .unset]) rfl) ?_
  show Go p.tables e below P (s₁.setTop (mkF m 5 #[.val (.int p0), .val (.int (p0 &&& (2147483647 : Int32))), .unset] []))
  refine Go.st (fun _ => XS.iloadN X0.here hx rfl (hb hby at_5) rfl) ?_
  show Go p.tables e below P (s₁.setTop (mkF m 6 #[.val (.int p0), .val (.int (p0 &&& (2147483647 : Int32))), .unset] [(.int (p0 &&& (2147483647 : Int32)))]))
  by_cases hc1 : (p0 &&& (2147483647 : Int32)) = (0 : Int32)
  · skip
    refine Go.st (fun _ => XS.ifNo X0.here hx rfl (hb hby at_6) rfl ((if0 _ _).trans (teq hc1).2)) ?_
    show Go p.tables e below P (s₁.setTop (mkF m 9 #[.val (.int p0), .val (.int (p0 &&& (2147483647 : Int32))), .unset] []))
    refine Go.st (fun _ => XS.iconst X0.here hx rfl (hb hby at_9)) ?_
    show Go p.tables e below P (s₁.setTop (mkF m 10 #[.val (.int p0), .val (.int (p0 &&& (2147483647 : Int32))), .unset] [(.int (1 : Int32))]))
    refine Go.st (fun _ => XS.istoreN X0.here hx rfl (hb hby at_10) rfl (l' := #[.val (.int p0), .val (.int (1 : Int32)), .unset]) rfl) ?_
    show Go p.tables e below P (s₁.setTop (mkF m 11 #[.val (.int p0), .val (.int (1 : Int32)), .unset] []))
    refine Go.st (fun _ => XS.iloadN X0.here hx rfl (hb hby at_11) rfl) ?_
    show Go p.tables e below P (s₁.setTop (mkF m 12 #[.val (.int p0), .val (.int (1 : Int32)), .unset] [(.int (1 : Int32))]))
    obtain ⟨_, _, ⟨T2, L2, k2, n2⟩, -, X2, hS2, hg2, ⟨Lc2, hQ2, l2, y2, z2⟩, st2⟩ := Jvm.RoadKit.callSS X0 hx (y := (⟨"com/example/vacuum/vacuum/model/PrunePolicy", "numberOfTags", "(I)Lcom/example/vacuum/vacuum/model/PrunePolicy;"⟩ : MethodName)) hown (mvT hZ (hw _ (List.mem_of_getElem? (i := 1) rfl))) (mvT hZ (hw _ (List.mem_of_getElem? (i := 2) rfl))) (mvT hZ (hw _ (List.mem_of_getElem? (i := 3) rfl))) (mvT hZ (hw _ (List.mem_of_getElem? (i := 4) rfl))) (by decide) (backOfS (W := 0) (rm_num l Z a0 hw [] w_N S_N X_N O_N (1 : Int32) h0 n0 X00 (by decide)) hZ (hw _ (List.mem_of_getElem? (i := 4) rfl)) (hw _ (List.mem_of_getElem? (i := 3) rfl)) (by decide) (by decide)) (g := (mkF m 12 #[.val (.int p0), .val (.int (1 : Int32)), .unset] [(.int (1 : Int32))])) rfl (by rw [hml]; rfl) (argsL := [(.int (1 : Int32))]) (rest := []) (lenOf own_pd4 rfl) rfl (by show 2 * 0 + _ ≤ _; exact Nat.le_of_eq rfl) (hb hby at_12) (fun _ _ => ⟨rfl, e0, (by decide : 0 + 3 ≤ _), (by decide : 0 + 31 ≤ _)⟩)
    dsimp only [Pt.U, Pt.locs, Pt.cells, Pt.slots] at X2 l2 y2 z2 st2 hQ2 hS2 hg2
    subst l2 y2 z2
    refine Go.tr st2 ?_
    obtain ⟨XX2, hSS2, hZ2, hown2⟩ := rebS hS0 (by rw [e0]; exact hk0) X2 hS2 hg2 hZ hown
    obtain ⟨ob_3, rfl, N2q, K2q, q2_0, q2_1, q2_2, q2_3, q2_4⟩ := hQ2
    have N2 := Fr.app N0 N2q
    have O2 := X00.keep K2q all0
    have K2 : Keep h0 T2.heap [] := (Keep.refl h0 []).trans K2q all0
    have sz_ob_3 : h0.size ≤ ob_3 := Nat.le_trans (Keep.refl h0 []).1 q2_0
    have g_ob_3 : n0 ≤ ob_3 := Nat.le_trans (own_oldsz X00) sz_ob_3
    show Go p.tables e below P (T2.setTop (mkF m 15 #[.val (.int p0), .val (.int (1 : Int32)), .unset] [(.ref ob_3)]))
    refine Go.st (fun _ => XS.astoreN XX2.here hx rfl (hb hby at_15) rfl rfl (l' := #[.val (.int p0), .val (.int (1 : Int32)), .val (.ref ob_3)]) rfl) ?_
    show Go p.tables e below P (T2.setTop (mkF m 16 #[.val (.int p0), .val (.int (1 : Int32)), .val (.ref ob_3)] []))
    refine Go.st (fun _ => XS.aloadN XX2.here hx rfl (hb hby at_16) rfl rfl) ?_
    show Go p.tables e below P (T2.setTop (mkF m 17 #[.val (.int p0), .val (.int (1 : Int32)), .val (.ref ob_3)] [(.ref ob_3)]))
    refine Go.st (fun _ => XS.ifnonnullYes XX2.here hx rfl (pc0 := 17) (pc' := 22) rfl (hb hby at_17) rfl (by decide) (by decide)) ?_
    show Go p.tables e below P (T2.setTop (mkF m 22 #[.val (.int p0), .val (.int (1 : Int32)), .val (.ref ob_3)] []))
    refine Go.st (fun _ => XS.aloadN XX2.here hx rfl (hb hby at_22) rfl rfl) ?_
    show Go p.tables e below P (T2.setTop (mkF m 23 #[.val (.int p0), .val (.int (1 : Int32)), .val (.ref ob_3)] [(.ref ob_3)]))
    obtain ⟨cq4, kq4, q4a, q4b, q4c⟩ := isOf hZ2 rfl q2_1
    obtain ⟨_, _, ⟨T4, L4, k4, n4⟩, -, X4, ⟨Lc4, hQ4, l4, y4, z4⟩, st4⟩ := XX2.virtualBack hx (y := (⟨"com/example/vacuum/vacuum/model/PrunePolicy", "method", "()Lcom/example/vacuum/vacuum/model/PrunePolicy$Method;"⟩ : MethodName)) (z := (⟨"com/example/vacuum/vacuum/model/PrunePolicy", "method", "()Lcom/example/vacuum/vacuum/model/PrunePolicy$Method;"⟩ : MethodName)) hown2 (mvT hZ2 (hw _ (List.mem_of_getElem? (i := 48) rfl))) (mvT hZ2 (hw _ (List.mem_of_getElem? (i := 49) rfl))) (notFace_of_selects (args := #[]) (mvT hZ2 (hw _ (List.mem_of_getElem? (i := 51) rfl)))) (mvT hZ2 (hw _ (List.mem_of_getElem? (i := 51) rfl))) (mvT hZ2 (hw _ (List.mem_of_getElem? (i := 50) rfl))) (by decide) (backOf (W := 0) (rm_g1 l Z a0 hw [] w_N S_N X_N O_N ob_3 T2.heap n0 O2 q2_2) hZ2 (hw _ (List.mem_of_getElem? (i := 52) rfl)) (hw _ (List.mem_of_getElem? (i := 3) rfl)) (by decide) (by decide)) q4a q4c (g := (mkF m 23 #[.val (.int p0), .val (.int (1 : Int32)), .val (.ref ob_3)] [(.ref ob_3)])) rfl (by rw [hml]; rfl) (Steps.refl _) (argsL := []) (rest := []) (lenOf own_pd5 rfl) rfl (by show 2 * 0 + _ ≤ _; exact Nat.le_of_eq rfl) (hb hby at_23) (fun _ _ => ⟨rfl, rfl, (by decide : 3 + 0 ≤ _), (by decide : 31 + 0 ≤ _)⟩)
    dsimp only [Pt.U, Pt.locs, Pt.cells, Pt.slots] at X4 l4 y4 z4 st4 hQ4
    subst l4 y4 z4
    refine Go.tr st4 ?_
    obtain ⟨rfl, N4q, e4⟩ := hQ4
    have N4 := Fr.app N2 N4q
    show Go p.tables e below P (T4.setTop (mkF m 26 #[.val (.int p0), .val (.int (1 : Int32)), .val (.ref ob_3)] [(.ref w_N)]))
    obtain ⟨T5, X5, e5, st5⟩ := getS2 X4 hx hZ2 hown2 (host := "") (Or.inl (hw _ (List.mem_of_getElem? (i := 53) rfl))) Via.refl e4 (S_N.ext O2.2) (g := (mkF m 26 #[.val (.int p0), .val (.int (1 : Int32)), .val (.ref ob_3)] [(.ref w_N)])) rfl (hb hby at_26)
    refine Go.st st5 ?_
    show Go p.tables e below P (T5.setTop (mkF m 29 #[.val (.int p0), .val (.int (1 : Int32)), .val (.ref ob_3)] [(.ref w_N), (.ref w_N)]))
    refine Go.st (fun _ => Jvm.RoadKit.acmp (g := (mkF m 29 #[.val (.int p0), .val (.int (1 : Int32)), .val (.ref ob_3)] [(.ref w_N), (.ref w_N)])) X5 hx rfl rfl rfl (pc0 := 29) (pc' := 34) (same := true) rfl (hb hby at_29) rfl (decide_eq_true rfl) (by decide) (by decide)) ?_
    show Go p.tables e below P (T5.setTop (mkF m 34 #[.val (.int p0), .val (.int (1 : Int32)), .val (.ref ob_3)] []))
    refine Go.st (fun _ => XS.aloadN X5.here hx rfl (hb hby at_34) rfl rfl) ?_
    show Go p.tables e below P (T5.setTop (mkF m 35 #[.val (.int p0), .val (.int (1 : Int32)), .val (.ref ob_3)] [(.ref ob_3)]))
    obtain ⟨cq6, kq6, q6a, q6b, q6c⟩ := isOf hZ2 e5 q2_1
    obtain ⟨_, _, ⟨T6, L6, k6, n6⟩, -, X6, ⟨Lc6, hQ6, l6, y6, z6⟩, st6⟩ := X5.virtualBack hx (y := (⟨"com/example/vacuum/vacuum/model/PrunePolicy", "numTags", "()I"⟩ : MethodName)) (z := (⟨"com/example/vacuum/vacuum/model/PrunePolicy", "numTags", "()I"⟩ : MethodName)) hown2 (mvT hZ2 (hw _ (List.mem_of_getElem? (i := 54) rfl))) (mvT hZ2 (hw _ (List.mem_of_getElem? (i := 55) rfl))) (notFace_of_selects (args := #[]) (mvT hZ2 (hw _ (List.mem_of_getElem? (i := 57) rfl)))) (mvT hZ2 (hw _ (List.mem_of_getElem? (i := 57) rfl))) (mvT hZ2 (hw _ (List.mem_of_getElem? (i := 56) rfl))) (by decide) (backOf (W := 0) (rm_g2 l Z a0 hw [] w_N S_N X_N O_N ob_3 (1 : Int32) T2.heap n0 O2 q2_3) hZ2 (hw _ (List.mem_of_getElem? (i := 58) rfl)) (hw _ (List.mem_of_getElem? (i := 3) rfl)) (by decide) (by decide)) q6a q6c (g := (mkF m 35 #[.val (.int p0), .val (.int (1 : Int32)), .val (.ref ob_3)] [(.ref ob_3)])) rfl (by rw [hml]; rfl) (Steps.refl _) (argsL := []) (rest := []) (lenOf own_pd2 rfl) rfl (by show 2 * 0 + _ ≤ _; exact Nat.le_of_eq rfl) (hb hby at_35) (fun _ _ => ⟨rfl, e5, (by decide : 3 + 0 ≤ _), (by decide : 31 + 0 ≤ _)⟩)
    dsimp only [Pt.U, Pt.locs, Pt.cells, Pt.slots] at X6 l6 y6 z6 st6 hQ6
    subst l6 y6 z6
    refine Go.tr st6 ?_
    obtain ⟨rfl, N6q, e6⟩ := hQ6
    have N6 := Fr.app N4 N6q
    show Go p.tables e below P (T6.setTop (mkF m 38 #[.val (.int p0), .val (.int (1 : Int32)), .val (.ref ob_3)] [(.int (1 : Int32))]))
    refine Go.st (fun _ => XS.iloadN X6.here hx rfl (hb hby at_38) rfl) ?_
    show Go p.tables e below P (T6.setTop (mkF m 39 #[.val (.int p0), .val (.int (1 : Int32)), .val (.ref ob_3)] [(.int (1 : Int32)), (.int (1 : Int32))]))
    refine Go.st (fun _ => XS.icmpYes X6.here hx rfl (pc0 := 39) (pc' := 44) rfl (hb hby at_39) rfl (teq (by decide)).1 (by decide) (by decide)) ?_
    show Go p.tables e below P (T6.setTop (mkF m 44 #[.val (.int p0), .val (.int (1 : Int32)), .val (.ref ob_3)] []))
    refine Go.st (fun _ => XS.aloadN X6.here hx rfl (hb hby at_44) rfl rfl) ?_
    show Go p.tables e below P (T6.setTop (mkF m 45 #[.val (.int p0), .val (.int (1 : Int32)), .val (.ref ob_3)] [(.ref ob_3)]))
    obtain ⟨cq7, kq7, q7a, q7b, q7c⟩ := isOf hZ2 e6 q2_1
    obtain ⟨_, _, ⟨T7, L7, k7, n7⟩, -, X7, ⟨Lc7, hQ7, l7, y7, z7⟩, st7⟩ := X6.virtualBack hx (y := (⟨"com/example/vacuum/vacuum/model/PrunePolicy", "olderThan", "()Ljava/time/Duration;"⟩ : MethodName)) (z := (⟨"com/example/vacuum/vacuum/model/PrunePolicy", "olderThan", "()Ljava/time/Duration;"⟩ : MethodName)) hown2 (mvT hZ2 (hw _ (List.mem_of_getElem? (i := 59) rfl))) (mvT hZ2 (hw _ (List.mem_of_getElem? (i := 60) rfl))) (notFace_of_selects (args := #[]) (mvT hZ2 (hw _ (List.mem_of_getElem? (i := 62) rfl)))) (mvT hZ2 (hw _ (List.mem_of_getElem? (i := 62) rfl))) (mvT hZ2 (hw _ (List.mem_of_getElem? (i := 61) rfl))) (by decide) (backOf (W := 0) (rm_g3 l Z a0 hw [] w_N S_N X_N O_N ob_3 T2.heap n0 O2 q2_4) hZ2 (hw _ (List.mem_of_getElem? (i := 63) rfl)) (hw _ (List.mem_of_getElem? (i := 3) rfl)) (by decide) (by decide)) q7a q7c (g := (mkF m 45 #[.val (.int p0), .val (.int (1 : Int32)), .val (.ref ob_3)] [(.ref ob_3)])) rfl (by rw [hml]; rfl) (Steps.refl _) (argsL := []) (rest := []) (lenOf own_pd6 rfl) rfl (by show 2 * 0 + _ ≤ _; exact Nat.le_of_eq rfl) (hb hby at_45) (fun _ _ => ⟨rfl, e6, (by decide : 3 + 0 ≤ _), (by decide : 31 + 0 ≤ _)⟩)
    dsimp only [Pt.U, Pt.locs, Pt.cells, Pt.slots] at X7 l7 y7 z7 st7 hQ7
    subst l7 y7 z7
    refine Go.tr st7 ?_
    obtain ⟨rfl, N7q, e7⟩ := hQ7
    have N7 := Fr.app N6 N7q
    show Go p.tables e below P (T7.setTop (mkF m 48 #[.val (.int p0), .val (.int (1 : Int32)), .val (.ref ob_3)] [.null]))
    refine Go.st (fun _ => XS.ifnonnullNo X7.here hx rfl (hb hby at_48) rfl) ?_
    show Go p.tables e below P (T7.setTop (mkF m 51 #[.val (.int p0), .val (.int (1 : Int32)), .val (.ref ob_3)] []))
    refine Go.st (fun _ => XS.iconst X7.here hx rfl (hb hby at_51)) ?_
    show Go p.tables e below P (T7.setTop (mkF m 52 #[.val (.int p0), .val (.int (1 : Int32)), .val (.ref ob_3)] [(.int (1 : Int32))]))
    refine Go.st (fun _ => XS.goto X7.here hx rfl (pc0 := 52) (pc' := 56) rfl (hb hby at_52) (by decide) (by decide)) ?_
    show Go p.tables e below P (T7.setTop (mkF m 56 #[.val (.int p0), .val (.int (1 : Int32)), .val (.ref ob_3)] [(.int (1 : Int32))]))
    obtain ⟨fs, hr, hrun, hended, -, hW, hpair, hsame⟩ := X7.leaveW hSS2 (by rw [e7]; exact (Nat.le_refl _)) (v := some (.int (1 : Int32))) (fun h => by rw [Bd.returns] at h; cases h)
    refine ⟨_, ?_, hPend _ _ hrun hended ⟨_, _, rfl, ?_, ⟨_, rfl⟩, hW, hpair, hsame.mono (by decide) (by decide)⟩⟩
    · exact retN X7 hx (t := .boolean) Bd.returns (by simp) (hb hby at_56) hr
    · show Q_rm_law Z _ _ h0 n0 _ T7.heap _
      rw [e7]
      exact ⟨rfl, N7, K2⟩
  · skip
    refine Go.st (fun _ => XS.ifYes X0.here hx rfl (pc0 := 6) (pc' := 11) rfl (hb hby at_6) rfl ((if0 _ _).trans (feq hc1).2) (by decide) (by decide)) ?_
    show Go p.tables e below P (s₁.setTop (mkF m 11 #[.val (.int p0), .val (.int (p0 &&& (2147483647 : Int32))), .unset] []))
    refine Go.st (fun _ => XS.iloadN X0.here hx rfl (hb hby at_11) rfl) ?_
    show Go p.tables e below P (s₁.setTop (mkF m 12 #[.val (.int p0), .val (.int (p0 &&& (2147483647 : Int32))), .unset] [(.int (p0 &&& (2147483647 : Int32)))]))
    obtain ⟨_, _, ⟨T8, L8, k8, n8⟩, -, X8, hS8, hg8, ⟨Lc8, hQ8, l8, y8, z8⟩, st8⟩ := Jvm.RoadKit.callSS X0 hx (y := (⟨"com/example/vacuum/vacuum/model/PrunePolicy", "numberOfTags", "(I)Lcom/example/vacuum/vacuum/model/PrunePolicy;"⟩ : MethodName)) hown (mvT hZ (hw _ (List.mem_of_getElem? (i := 1) rfl))) (mvT hZ (hw _ (List.mem_of_getElem? (i := 2) rfl))) (mvT hZ (hw _ (List.mem_of_getElem? (i := 3) rfl))) (mvT hZ (hw _ (List.mem_of_getElem? (i := 4) rfl))) (by decide) (backOfS (W := 0) (rm_num l Z a0 hw [] w_N S_N X_N O_N (p0 &&& (2147483647 : Int32)) h0 n0 X00 (own_pos (by assumption))) hZ (hw _ (List.mem_of_getElem? (i := 4) rfl)) (hw _ (List.mem_of_getElem? (i := 3) rfl)) (by decide) (by decide)) (g := (mkF m 12 #[.val (.int p0), .val (.int (p0 &&& (2147483647 : Int32))), .unset] [(.int (p0 &&& (2147483647 : Int32)))])) rfl (by rw [hml]; rfl) (argsL := [(.int (p0 &&& (2147483647 : Int32)))]) (rest := []) (lenOf own_pd4 rfl) rfl (by show 2 * 0 + _ ≤ _; exact Nat.le_of_eq rfl) (hb hby at_12) (fun _ _ => ⟨rfl, e0, (by decide : 0 + 3 ≤ _), (by decide : 0 + 31 ≤ _)⟩)
    dsimp only [Pt.U, Pt.locs, Pt.cells, Pt.slots] at X8 l8 y8 z8 st8 hQ8 hS8 hg8
    subst l8 y8 z8
    refine Go.tr st8 ?_
    obtain ⟨XX8, hSS8, hZ8, hown8⟩ := rebS hS0 (by rw [e0]; exact hk0) X8 hS8 hg8 hZ hown
    obtain ⟨ob_9, rfl, N8q, K8q, q8_0, q8_1, q8_2, q8_3, q8_4⟩ := hQ8
    have N8 := Fr.app N0 N8q
    have O8 := X00.keep K8q all0
    have K8 : Keep h0 T8.heap [] := (Keep.refl h0 []).trans K8q all0
    have sz_ob_9 : h0.size ≤ ob_9 := Nat.le_trans (Keep.refl h0 []).1 q8_0
    have g_ob_9 : n0 ≤ ob_9 := Nat.le_trans (own_oldsz X00) sz_ob_9
    show Go p.tables e below P (T8.setTop (mkF m 15 #[.val (.int p0), .val (.int (p0 &&& (2147483647 : Int32))), .unset] [(.ref ob_9)]))
    refine Go.st (fun _ => XS.astoreN XX8.here hx rfl (hb hby at_15) rfl rfl (l' := #[.val (.int p0), .val (.int (p0 &&& (2147483647 : Int32))), .val (.ref ob_9)]) rfl) ?_
    show Go p.tables e below P (T8.setTop (mkF m 16 #[.val (.int p0), .val (.int (p0 &&& (2147483647 : Int32))), .val (.ref ob_9)] []))
    refine Go.st (fun _ => XS.aloadN XX8.here hx rfl (hb hby at_16) rfl rfl) ?_
    show Go p.tables e below P (T8.setTop (mkF m 17 #[.val (.int p0), .val (.int (p0 &&& (2147483647 : Int32))), .val (.ref ob_9)] [(.ref ob_9)]))
    refine Go.st (fun _ => XS.ifnonnullYes XX8.here hx rfl (pc0 := 17) (pc' := 22) rfl (hb hby at_17) rfl (by decide) (by decide)) ?_
    show Go p.tables e below P (T8.setTop (mkF m 22 #[.val (.int p0), .val (.int (p0 &&& (2147483647 : Int32))), .val (.ref ob_9)] []))
    refine Go.st (fun _ => XS.aloadN XX8.here hx rfl (hb hby at_22) rfl rfl) ?_
    show Go p.tables e below P (T8.setTop (mkF m 23 #[.val (.int p0), .val (.int (p0 &&& (2147483647 : Int32))), .val (.ref ob_9)] [(.ref ob_9)]))
    obtain ⟨cq10, kq10, q10a, q10b, q10c⟩ := isOf hZ8 rfl q8_1
    obtain ⟨_, _, ⟨T10, L10, k10, n10⟩, -, X10, ⟨Lc10, hQ10, l10, y10, z10⟩, st10⟩ := XX8.virtualBack hx (y := (⟨"com/example/vacuum/vacuum/model/PrunePolicy", "method", "()Lcom/example/vacuum/vacuum/model/PrunePolicy$Method;"⟩ : MethodName)) (z := (⟨"com/example/vacuum/vacuum/model/PrunePolicy", "method", "()Lcom/example/vacuum/vacuum/model/PrunePolicy$Method;"⟩ : MethodName)) hown8 (mvT hZ8 (hw _ (List.mem_of_getElem? (i := 48) rfl))) (mvT hZ8 (hw _ (List.mem_of_getElem? (i := 49) rfl))) (notFace_of_selects (args := #[]) (mvT hZ8 (hw _ (List.mem_of_getElem? (i := 51) rfl)))) (mvT hZ8 (hw _ (List.mem_of_getElem? (i := 51) rfl))) (mvT hZ8 (hw _ (List.mem_of_getElem? (i := 50) rfl))) (by decide) (backOf (W := 0) (rm_g1 l Z a0 hw [] w_N S_N X_N O_N ob_9 T8.heap n0 O8 q8_2) hZ8 (hw _ (List.mem_of_getElem? (i := 52) rfl)) (hw _ (List.mem_of_getElem? (i := 3) rfl)) (by decide) (by decide)) q10a q10c (g := (mkF m 23 #[.val (.int p0), .val (.int (p0 &&& (2147483647 : Int32))), .val (.ref ob_9)] [(.ref ob_9)])) rfl (by rw [hml]; rfl) (Steps.refl _) (argsL := []) (rest := []) (lenOf own_pd5 rfl) rfl (by show 2 * 0 + _ ≤ _; exact Nat.le_of_eq rfl) (hb hby at_23) (fun _ _ => ⟨rfl, rfl, (by decide : 3 + 0 ≤ _), (by decide : 31 + 0 ≤ _)⟩)
    dsimp only [Pt.U, Pt.locs, Pt.cells, Pt.slots] at X10 l10 y10 z10 st10 hQ10
    subst l10 y10 z10
    refine Go.tr st10 ?_
    obtain ⟨rfl, N10q, e10⟩ := hQ10
    have N10 := Fr.app N8 N10q
    show Go p.tables e below P (T10.setTop (mkF m 26 #[.val (.int p0), .val (.int (p0 &&& (2147483647 : Int32))), .val (.ref ob_9)] [(.ref w_N)]))
    obtain ⟨T11, X11, e11, st11⟩ := getS2 X10 hx hZ8 hown8 (host := "") (Or.inl (hw _ (List.mem_of_getElem? (i := 53) rfl))) Via.refl e10 (S_N.ext O8.2) (g := (mkF m 26 #[.val (.int p0), .val (.int (p0 &&& (2147483647 : Int32))), .val (.ref ob_9)] [(.ref w_N)])) rfl (hb hby at_26)
    refine Go.st st11 ?_
    show Go p.tables e below P (T11.setTop (mkF m 29 #[.val (.int p0), .val (.int (p0 &&& (2147483647 : Int32))), .val (.ref ob_9)] [(.ref w_N), (.ref w_N)]))
    refine Go.st (fun _ => Jvm.RoadKit.acmp (g := (mkF m 29 #[.val (.int p0), .val (.int (p0 &&& (2147483647 : Int32))), .val (.ref ob_9)] [(.ref w_N), (.ref w_N)])) X11 hx rfl rfl rfl (pc0 := 29) (pc' := 34) (same := true) rfl (hb hby at_29) rfl (decide_eq_true rfl) (by decide) (by decide)) ?_
    show Go p.tables e below P (T11.setTop (mkF m 34 #[.val (.int p0), .val (.int (p0 &&& (2147483647 : Int32))), .val (.ref ob_9)] []))
    refine Go.st (fun _ => XS.aloadN X11.here hx rfl (hb hby at_34) rfl rfl) ?_
    show Go p.tables e below P (T11.setTop (mkF m 35 #[.val (.int p0), .val (.int (p0 &&& (2147483647 : Int32))), .val (.ref ob_9)] [(.ref ob_9)]))
    obtain ⟨cq12, kq12, q12a, q12b, q12c⟩ := isOf hZ8 e11 q8_1
    obtain ⟨_, _, ⟨T12, L12, k12, n12⟩, -, X12, ⟨Lc12, hQ12, l12, y12, z12⟩, st12⟩ := X11.virtualBack hx (y := (⟨"com/example/vacuum/vacuum/model/PrunePolicy", "numTags", "()I"⟩ : MethodName)) (z := (⟨"com/example/vacuum/vacuum/model/PrunePolicy", "numTags", "()I"⟩ : MethodName)) hown8 (mvT hZ8 (hw _ (List.mem_of_getElem? (i := 54) rfl))) (mvT hZ8 (hw _ (List.mem_of_getElem? (i := 55) rfl))) (notFace_of_selects (args := #[]) (mvT hZ8 (hw _ (List.mem_of_getElem? (i := 57) rfl)))) (mvT hZ8 (hw _ (List.mem_of_getElem? (i := 57) rfl))) (mvT hZ8 (hw _ (List.mem_of_getElem? (i := 56) rfl))) (by decide) (backOf (W := 0) (rm_g2 l Z a0 hw [] w_N S_N X_N O_N ob_9 (p0 &&& (2147483647 : Int32)) T8.heap n0 O8 q8_3) hZ8 (hw _ (List.mem_of_getElem? (i := 58) rfl)) (hw _ (List.mem_of_getElem? (i := 3) rfl)) (by decide) (by decide)) q12a q12c (g := (mkF m 35 #[.val (.int p0), .val (.int (p0 &&& (2147483647 : Int32))), .val (.ref ob_9)] [(.ref ob_9)])) rfl (by rw [hml]; rfl) (Steps.refl _) (argsL := []) (rest := []) (lenOf own_pd2 rfl) rfl (by show 2 * 0 + _ ≤ _; exact Nat.le_of_eq rfl) (hb hby at_35) (fun _ _ => ⟨rfl, e11, (by decide : 3 + 0 ≤ _), (by decide : 31 + 0 ≤ _)⟩)
    dsimp only [Pt.U, Pt.locs, Pt.cells, Pt.slots] at X12 l12 y12 z12 st12 hQ12
    subst l12 y12 z12
    refine Go.tr st12 ?_
    obtain ⟨rfl, N12q, e12⟩ := hQ12
    have N12 := Fr.app N10 N12q
    show Go p.tables e below P (T12.setTop (mkF m 38 #[.val (.int p0), .val (.int (p0 &&& (2147483647 : Int32))), .val (.ref ob_9)] [(.int (p0 &&& (2147483647 : Int32)))]))
    refine Go.st (fun _ => XS.iloadN X12.here hx rfl (hb hby at_38) rfl) ?_
    show Go p.tables e below P (T12.setTop (mkF m 39 #[.val (.int p0), .val (.int (p0 &&& (2147483647 : Int32))), .val (.ref ob_9)] [(.int (p0 &&& (2147483647 : Int32))), (.int (p0 &&& (2147483647 : Int32)))]))
    refine Go.st (fun _ => XS.icmpYes X12.here hx rfl (pc0 := 39) (pc' := 44) rfl (hb hby at_39) rfl (teq (rfl)).1 (by decide) (by decide)) ?_
    show Go p.tables e below P (T12.setTop (mkF m 44 #[.val (.int p0), .val (.int (p0 &&& (2147483647 : Int32))), .val (.ref ob_9)] []))
    refine Go.st (fun _ => XS.aloadN X12.here hx rfl (hb hby at_44) rfl rfl) ?_
    show Go p.tables e below P (T12.setTop (mkF m 45 #[.val (.int p0), .val (.int (p0 &&& (2147483647 : Int32))), .val (.ref ob_9)] [(.ref ob_9)]))
    obtain ⟨cq13, kq13, q13a, q13b, q13c⟩ := isOf hZ8 e12 q8_1
    obtain ⟨_, _, ⟨T13, L13, k13, n13⟩, -, X13, ⟨Lc13, hQ13, l13, y13, z13⟩, st13⟩ := X12.virtualBack hx (y := (⟨"com/example/vacuum/vacuum/model/PrunePolicy", "olderThan", "()Ljava/time/Duration;"⟩ : MethodName)) (z := (⟨"com/example/vacuum/vacuum/model/PrunePolicy", "olderThan", "()Ljava/time/Duration;"⟩ : MethodName)) hown8 (mvT hZ8 (hw _ (List.mem_of_getElem? (i := 59) rfl))) (mvT hZ8 (hw _ (List.mem_of_getElem? (i := 60) rfl))) (notFace_of_selects (args := #[]) (mvT hZ8 (hw _ (List.mem_of_getElem? (i := 62) rfl)))) (mvT hZ8 (hw _ (List.mem_of_getElem? (i := 62) rfl))) (mvT hZ8 (hw _ (List.mem_of_getElem? (i := 61) rfl))) (by decide) (backOf (W := 0) (rm_g3 l Z a0 hw [] w_N S_N X_N O_N ob_9 T8.heap n0 O8 q8_4) hZ8 (hw _ (List.mem_of_getElem? (i := 63) rfl)) (hw _ (List.mem_of_getElem? (i := 3) rfl)) (by decide) (by decide)) q13a q13c (g := (mkF m 45 #[.val (.int p0), .val (.int (p0 &&& (2147483647 : Int32))), .val (.ref ob_9)] [(.ref ob_9)])) rfl (by rw [hml]; rfl) (Steps.refl _) (argsL := []) (rest := []) (lenOf own_pd6 rfl) rfl (by show 2 * 0 + _ ≤ _; exact Nat.le_of_eq rfl) (hb hby at_45) (fun _ _ => ⟨rfl, e12, (by decide : 3 + 0 ≤ _), (by decide : 31 + 0 ≤ _)⟩)
    dsimp only [Pt.U, Pt.locs, Pt.cells, Pt.slots] at X13 l13 y13 z13 st13 hQ13
    subst l13 y13 z13
    refine Go.tr st13 ?_
    obtain ⟨rfl, N13q, e13⟩ := hQ13
    have N13 := Fr.app N12 N13q
    show Go p.tables e below P (T13.setTop (mkF m 48 #[.val (.int p0), .val (.int (p0 &&& (2147483647 : Int32))), .val (.ref ob_9)] [.null]))
    refine Go.st (fun _ => XS.ifnonnullNo X13.here hx rfl (hb hby at_48) rfl) ?_
    show Go p.tables e below P (T13.setTop (mkF m 51 #[.val (.int p0), .val (.int (p0 &&& (2147483647 : Int32))), .val (.ref ob_9)] []))
    refine Go.st (fun _ => XS.iconst X13.here hx rfl (hb hby at_51)) ?_
    show Go p.tables e below P (T13.setTop (mkF m 52 #[.val (.int p0), .val (.int (p0 &&& (2147483647 : Int32))), .val (.ref ob_9)] [(.int (1 : Int32))]))
    refine Go.st (fun _ => XS.goto X13.here hx rfl (pc0 := 52) (pc' := 56) rfl (hb hby at_52) (by decide) (by decide)) ?_
    show Go p.tables e below P (T13.setTop (mkF m 56 #[.val (.int p0), .val (.int (p0 &&& (2147483647 : Int32))), .val (.ref ob_9)] [(.int (1 : Int32))]))
    obtain ⟨fs, hr, hrun, hended, -, hW, hpair, hsame⟩ := X13.leaveW hSS8 (by rw [e13]; exact (Nat.le_refl _)) (v := some (.int (1 : Int32))) (fun h => by rw [Bd.returns] at h; cases h)
    refine ⟨_, ?_, hPend _ _ hrun hended ⟨_, _, rfl, ?_, ⟨_, rfl⟩, hW, hpair, hsame.mono (by decide) (by decide)⟩⟩
    · exact retN X13 hx (t := .boolean) Bd.returns (by simp) (hb hby at_56) hr
    · show Q_rm_law Z _ _ h0 n0 _ T13.heap _
      rw [e13]
      exact ⟨rfl, N13, K8⟩
set_option maxRecDepth 65536 in
set_option maxHeartbeats 40000000 in
theorem comes_1 {Post : Tables → Env → Array Value → State → Outcome → State → Prop} (hpost : ∀ tb e args s v u, (limb_1_1.after args s (.returned v) u = true ∧ limb_1_2.after args s (.returned v) u = true ∧ True) → ReturnedEndW s (.returned v) u (Jvm.fieldLocs frame_1_writes args s ++ Jvm.arrayLocs frame_1_arrays args s ++ Jvm.staticLocs frame_1_statics s) 16 1152 → Post tb e args s (.returned v) u) :
    ArmFor flags0 classFile x code maxLocals ret World_1 tables_1 room_1 Calls_1 rest_1 Pre_1 Post := by
  intro l hfl _ _ p e ha hc hk s m args below hf hA hF happ hP
  obtain ⟨hcalls, hrest, hpre⟩ := hP
  obtain ⟨-, -, -, hnamed, -, -, -, hat⟩ := (Spec.applies_iff hf).mp happ
  obtain ⟨hg, hn⟩ := and_e (Cond.before_iff.mp (show (Jvm.Cond.and given_1 narrow_1).before args s = true from hpre))
  obtain ⟨hc_1, hc_2⟩ := and_e hg
  obtain ⟨w0, rfl⟩ : ∃ w0 : Value, args = #[w0] := by
    have hs : args.size = 1 := by simpa [Cond.value, given_1] using hc_1
    obtain ⟨L⟩ := args
    match L, hs with
    | [w0], _ => exact ⟨w0, rfl⟩
  have hw := fun d (hd : d ∈ tables_1) => atoms_spec (ws := Jvm.Cond.code x code maxLocals ret :: tables_1) hat d (List.mem_cons_of_mem _ hd)
  have hfit : Fit s := fun {y c} hc i hi => by
    obtain ⟨ha, rfl⟩ := Array.getElem?_eq_some_iff.mp hc
    have q := List.all_eq_true.mp ((Array.all_eq_true_iff_forall_mem.mp hF) _ (Array.getElem_mem ha)) i (List.mem_range.mpr hi)
    simpa [Array.getElem?_eq_getElem hi] using q
  obtain ⟨i0, ea0⟩ := is_v hc_2
  obtain rfl : w0 = (.int i0) := Option.some.inj ea0
  obtain ⟨hc_3, hc_4⟩ := and_e hn
  obtain ⟨w_N, ev_N⟩ := exa_v hc_3
  have S_N := Sta.start ev_N (Or.inr ⟨(hw _ (List.mem_of_getElem? (i := 8) rfl)), (hw _ (List.mem_of_getElem? (i := 9) rfl))⟩)
  have X_N := Exa.start ev_N hc_3
  have O_N := Fld.start ((fld_at ev_N).symm.trans (eqv_i (Term.int_eval (0)) hc_4))
  obtain ⟨n, o, h1, h2, h3, _, L, rfl, ⟨rfl, N, _⟩, hq⟩ := rm_law l s _ hw tables_1 w_N S_N X_N O_N i0 s.heap s.heap.size (Old.start s) p e ha hc hk s m _ below hf ((Spec.applies_iff_loose hf).mp happ).1 ⟨rfl, State.Warmed39.refl s, rfl⟩ trivial
  refine ⟨n, _, h1, h2, h3, hpost _ _ _ _ _ _ ⟨Cond.after_iff.mpr rfl, Cond.after_iff.mpr (eq_i res_at (Term.int_eval (1)) rfl), trivial⟩ ⟨hq.1, hq.2.1, hq.2.2.1, (hq.2.2.2.sift fun y hy => Or.inr (N y hy)).mono (by decide) (by decide)⟩⟩
theorem main_1_1 : Claimed_1_1 := comes_1 fun _ _ _ _ _ _ h hF => ⟨h.1, hF⟩
theorem main_1_2 : Claimed_1_2 := comes_1 fun _ _ _ _ _ _ h hF => ⟨h.2.1, hF⟩
end Jvm.Pilot.@@N@@
namespace Jvm.Pilot.@@N@@
open Jvm Jvm.ClassFile Sem Op Lib Jvm.Free Jvm.Stand Jvm.Pilot.@@N@@.Jvm.D
/-! MADE BY PROGRAM (witnessworld.py) out of the Statement's table words and the real class files: 16 classes; the members and pool entries that the words name. The judged class is class 1, her method 1. -/
namespace start1
open Jvm.ClassFile
def u (s : String) : CpInfo := .utf8 (stringToUtf16 s)
/-- a pool by its gaps: so many unusable entries, then the entry; so many at the end -/
def gap : Nat → List CpInfo → List CpInfo
  | 0, r => r
  | n + 1, r => .unusable :: gap n r
def poolList (es : List (Nat × CpInfo)) (last : Nat) : List CpInfo := es.foldr (fun e r => gap e.1 (e.2 :: r)) (gap last [])
def pool (es : List (Nat × CpInfo)) (last : Nat) : Array CpInfo := ⟨poolList es last⟩
def fileOf (pool : Array CpInfo) (this : Nat) (attrs : Array Attribute := #[]) (ms : Array MethodInfo := #[]) (fl : Nat := 33) (sup : Nat := 0) (ifs : Array Nat := #[]) (fds : Array FieldInfo := #[]) : ClassFile where
  minorVersion := 0
  majorVersion := 65
  constantPool := pool
  accessFlags := fl
  thisClass := this
  superClass := sup
  interfaces := ifs
  fields := fds
  methods := ms
  attributes := attrs
def plain (name : String) (sup : Option ClassId) : Class where
  name := name
  kind := .ordinary
  loader := none
  accessFlags := 33
  super := sup
  interfaces := #[]
  cf := none
  fields := #[]
  methods := #[]
  instanceTypes := #[]
  staticTypes := #[]
  resolved := #[]
  callSites := []
  init := .initialized
  statics := none
  mirror := none

def pool0 : Array CpInfo := pool [(5, u "<init>"), (0, u "()V"), (1, .class_ 10), (1, u "java/lang/Object")] 113

def k0c0 : Code := { maxStack := 0, maxLocals := 1, code := object_method_1_code, exceptionTable := #[], attributes := #[] }
def k0m0 : Method := { name := "<init>", desc := "()V", sig := { parameters := [], returnType := none }, accessFlags := 1, code := some k0c0 }
/-- java/lang/Object -/
def k0 : Class := { plain "java/lang/Object" none with
  accessFlags := 33
  interfaces := #[]
  cf := some (fileOf pool0 8 #[] #[{ accessFlags := 1, nameIndex := 5, descriptorIndex := 6, attributes := #[] }] 33 0 #[] #[])
  fields := #[]
  methods := #[k0m0]
  instanceTypes := #[]
  staticTypes := #[]
  resolved := Array.replicate 124 none
  statics := none }

def pool1 : Array CpInfo := pool [(2, .class_ 4), (1, u "java/lang/Object"), (0, u "<init>"), (0, u "()V"), (0, .integer 2147483647), (0, .methodref 9 10), (0, .class_ 11), (0, .nameAndType 12 13), (0, u "com/example/vacuum/vacuum/model/PrunePolicy"), (0, u "numberOfTags"), (0, u "(I)Lcom/example/vacuum/vacuum/model/PrunePolicy;"), (0, .methodref 9 15), (0, .nameAndType 16 17), (0, u "method"), (0, u "()Lcom/example/vacuum/vacuum/model/PrunePolicy$Method;"), (0, .fieldref 19 20), (0, .class_ 21), (0, .nameAndType 22 23), (0, u "com/example/vacuum/vacuum/model/PrunePolicy$Method"), (0, u "NUMBER_OF_TAGS"), (0, u "Lcom/example/vacuum/vacuum/model/PrunePolicy$Method;"), (0, .methodref 9 25), (0, .nameAndType 26 27), (0, u "numTags"), (0, u "()I"), (0, .methodref 9 29), (0, .nameAndType 30 31), (0, u "olderThan"), (0, u "()Ljava/time/Duration;"), (0, .class_ 33), (0, u "com/example/vacuum/vacuum/model/PrunePolicyNumberOfTagsPinLaw"), (2, u "law"), (0, u "(I)Z")] 5

def k1m0 : Method := { name := "<init>", desc := "()V", sig := { parameters := [], returnType := none }, accessFlags := 2, code := none }
def k1c1 : Code := { maxStack := 2, maxLocals := 3, code := code, exceptionTable := #[], attributes := #[] }
def k1m1 : Method := { name := "law", desc := "(I)Z", sig := { parameters := [.int], returnType := some .boolean }, accessFlags := 9, code := some k1c1 }
/-- com/example/vacuum/vacuum/model/PrunePolicyNumberOfTagsPinLaw -/
def k1 : Class := { plain "com/example/vacuum/vacuum/model/PrunePolicyNumberOfTagsPinLaw" (some 0) with
  accessFlags := 49
  interfaces := #[]
  cf := some (fileOf pool1 32 #[] #[{ accessFlags := 2, nameIndex := 5, descriptorIndex := 6, attributes := #[] }, { accessFlags := 9, nameIndex := 36, descriptorIndex := 37, attributes := #[] }] 49 2 #[] #[])
  fields := #[]
  methods := #[k1m0, k1m1]
  instanceTypes := #[]
  staticTypes := #[]
  resolved := Array.replicate 43 none
  statics := none }

def pool2 : Array CpInfo := pool [(1, .methodref 2 3), (0, .class_ 4), (0, .nameAndType 5 6), (0, u "java/lang/Object"), (0, u "<init>"), (0, u "()V"), (0, .class_ 8), (0, u "java/lang/Record")] 13

def k2c0 : Code := { maxStack := 1, maxLocals := 1, code := jdk_30_method_1_code, exceptionTable := #[], attributes := #[] }
def k2m0 : Method := { name := "<init>", desc := "()V", sig := { parameters := [], returnType := none }, accessFlags := 4, code := some k2c0 }
/-- java/lang/Record -/
def k2 : Class := { plain "java/lang/Record" (some 0) with
  accessFlags := 1057
  interfaces := #[]
  cf := some (fileOf pool2 7 #[] #[{ accessFlags := 4, nameIndex := 5, descriptorIndex := 6, attributes := #[] }] 1057 2 #[] #[])
  fields := #[]
  methods := #[k2m0]
  instanceTypes := #[]
  staticTypes := #[]
  resolved := Array.replicate 22 none
  statics := none }

def pool3 : Array CpInfo := pool [(1, .methodref 2 3), (0, .class_ 4), (0, .nameAndType 5 6), (0, u "java/lang/Record"), (0, u "<init>"), (0, u "()V"), (0, .string 8), (0, u "method"), (0, .methodref 10 11), (0, .class_ 12), (0, .nameAndType 13 14), (0, u "java/util/Objects"), (0, u "requireNonNull"), (0, u "(Ljava/lang/Object;Ljava/lang/String;)Ljava/lang/Object;"), (0, .methodref 16 17), (0, .class_ 18), (0, .nameAndType 19 20), (0, u "com/example/vacuum/vacuum/model/PrunePolicy$Method"), (0, u "ordinal"), (0, u "()I"), (30, .fieldref 52 53), (0, .class_ 54), (0, .nameAndType 8 55), (0, u "com/example/vacuum/vacuum/model/PrunePolicy"), (0, u "Lcom/example/vacuum/vacuum/model/PrunePolicy$Method;"), (0, .fieldref 52 57), (0, .nameAndType 58 59), (0, u "numTags"), (0, u "I"), (0, .fieldref 52 61), (0, .nameAndType 62 63), (0, u "olderThan"), (0, u "Ljava/time/Duration;"), (0, .fieldref 16 65), (0, .nameAndType 66 55), (0, u "NUMBER_OF_TAGS"), (0, .methodref 52 68), (0, .nameAndType 5 69), (0, u "(Lcom/example/vacuum/vacuum/model/PrunePolicy$Method;ILjava/time/Duration;)V"), (19, u "numberOfTags"), (0, u "(I)Lcom/example/vacuum/vacuum/model/PrunePolicy;"), (3, u "()Lcom/example/vacuum/vacuum/model/PrunePolicy$Method;"), (0, u "()Ljava/time/Duration;")] 32

def k3c0 : Code := { maxStack := 5, maxLocals := 5, code := prog_16_method_1_code, exceptionTable := #[], attributes := #[] }
def k3m0 : Method := { name := "<init>", desc := "(Lcom/example/vacuum/vacuum/model/PrunePolicy$Method;ILjava/time/Duration;)V", sig := { parameters := [(.object "com/example/vacuum/vacuum/model/PrunePolicy$Method"), .int, (.object "java/time/Duration")], returnType := none }, accessFlags := 1, code := some k3c0 }
def k3c1 : Code := { maxStack := 5, maxLocals := 1, code := prog_16_method_2_code, exceptionTable := #[], attributes := #[] }
def k3m1 : Method := { name := "numberOfTags", desc := "(I)Lcom/example/vacuum/vacuum/model/PrunePolicy;", sig := { parameters := [.int], returnType := some (.object "com/example/vacuum/vacuum/model/PrunePolicy") }, accessFlags := 9, code := some k3c1 }
def k3c2 : Code := { maxStack := 1, maxLocals := 1, code := prog_16_method_7_code, exceptionTable := #[], attributes := #[] }
def k3m2 : Method := { name := "method", desc := "()Lcom/example/vacuum/vacuum/model/PrunePolicy$Method;", sig := { parameters := [], returnType := some (.object "com/example/vacuum/vacuum/model/PrunePolicy$Method") }, accessFlags := 1, code := some k3c2 }
def k3c3 : Code := { maxStack := 1, maxLocals := 1, code := prog_16_method_8_code, exceptionTable := #[], attributes := #[] }
def k3m3 : Method := { name := "numTags", desc := "()I", sig := { parameters := [], returnType := some .int }, accessFlags := 1, code := some k3c3 }
def k3c4 : Code := { maxStack := 1, maxLocals := 1, code := prog_16_method_9_code, exceptionTable := #[], attributes := #[] }
def k3m4 : Method := { name := "olderThan", desc := "()Ljava/time/Duration;", sig := { parameters := [], returnType := some (.object "java/time/Duration") }, accessFlags := 1, code := some k3c4 }
/-- com/example/vacuum/vacuum/model/PrunePolicy -/
def k3 : Class := { plain "com/example/vacuum/vacuum/model/PrunePolicy" (some 2) with
  accessFlags := 49
  interfaces := #[]
  cf := some (fileOf pool3 52 #[.nestMembers #[16]] #[{ accessFlags := 1, nameIndex := 5, descriptorIndex := 69, attributes := #[] }, { accessFlags := 9, nameIndex := 89, descriptorIndex := 90, attributes := #[] }, { accessFlags := 1, nameIndex := 8, descriptorIndex := 94, attributes := #[] }, { accessFlags := 1, nameIndex := 58, descriptorIndex := 20, attributes := #[] }, { accessFlags := 1, nameIndex := 62, descriptorIndex := 95, attributes := #[] }] 49 2 #[] #[{ accessFlags := 18, nameIndex := 8, descriptorIndex := 55, attributes := #[] }, { accessFlags := 18, nameIndex := 58, descriptorIndex := 59, attributes := #[] }, { accessFlags := 18, nameIndex := 62, descriptorIndex := 63, attributes := #[] }])
  fields := #[{ name := "method", type := (.object "com/example/vacuum/vacuum/model/PrunePolicy$Method"), accessFlags := 18, slot := 0, constantValue := 0 }, { name := "numTags", type := .int, accessFlags := 18, slot := 1, constantValue := 0 }, { name := "olderThan", type := (.object "java/time/Duration"), accessFlags := 18, slot := 2, constantValue := 0 }]
  methods := #[k3m0, k3m1, k3m2, k3m3, k3m4]
  instanceTypes := #[(.object "com/example/vacuum/vacuum/model/PrunePolicy$Method"), .int, (.object "java/time/Duration")]
  staticTypes := #[]
  resolved := Array.replicate 128 none
  statics := none }

def pool4 : Array CpInfo := pool [(1, .class_ 2), (0, u "java/lang/constant/Constable"), (0, .class_ 4), (0, u "java/lang/Object")] 6

/-- java/lang/constant/Constable -/
def k4 : Class := { plain "java/lang/constant/Constable" (some 0) with
  accessFlags := 1537
  interfaces := #[]
  cf := some (fileOf pool4 1 #[] #[] 1537 3 #[] #[])
  fields := #[]
  methods := #[]
  instanceTypes := #[]
  staticTypes := #[]
  resolved := Array.replicate 11 none
  statics := none }

def pool5 : Array CpInfo := pool [(1, .class_ 2), (0, u "java/lang/Comparable"), (0, .class_ 4), (0, u "java/lang/Object")] 7

/-- java/lang/Comparable -/
def k5 : Class := { plain "java/lang/Comparable" (some 0) with
  accessFlags := 1537
  interfaces := #[]
  cf := some (fileOf pool5 1 #[] #[] 1537 3 #[] #[])
  fields := #[]
  methods := #[]
  instanceTypes := #[]
  staticTypes := #[]
  resolved := Array.replicate 12 none
  statics := none }

def pool6 : Array CpInfo := pool [(1, .class_ 2), (0, u "java/io/Serializable"), (0, .class_ 4), (0, u "java/lang/Object")] 2

/-- java/io/Serializable -/
def k6 : Class := { plain "java/io/Serializable" (some 0) with
  accessFlags := 1537
  interfaces := #[]
  cf := some (fileOf pool6 1 #[] #[] 1537 3 #[] #[])
  fields := #[]
  methods := #[]
  instanceTypes := #[]
  staticTypes := #[]
  resolved := Array.replicate 7 none
  statics := none }

def pool7 : Array CpInfo := pool [(2, .class_ 4), (1, u "java/lang/Enum"), (0, u "name"), (0, u "Ljava/lang/String;"), (0, .fieldref 2 8), (0, .nameAndType 9 10), (0, u "ordinal"), (0, u "I"), (1, .class_ 14), (1, u "java/lang/Object"), (4, u "hash"), (86, .class_ 108), (1, u "java/lang/Enum$EnumDesc"), (2, .class_ 112), (0, u "java/lang/constant/Constable"), (0, .class_ 114), (0, u "java/lang/Comparable"), (0, .class_ 116), (0, u "java/io/Serializable"), (9, u "()I")] 77

def k7c0 : Code := { maxStack := 1, maxLocals := 1, code := jdk_37_method_2_code, exceptionTable := #[], attributes := #[] }
def k7m0 : Method := { name := "ordinal", desc := "()I", sig := { parameters := [], returnType := some .int }, accessFlags := 17, code := some k7c0 }
/-- java/lang/Enum -/
def k7 : Class := { plain "java/lang/Enum" (some 0) with
  accessFlags := 1057
  interfaces := #[4, 5, 6]
  cf := some (fileOf pool7 2 #[.nestMembers #[106]] #[{ accessFlags := 17, nameIndex := 9, descriptorIndex := 126, attributes := #[] }] 1057 12 #[111, 113, 115] #[{ accessFlags := 18, nameIndex := 5, descriptorIndex := 6, attributes := #[] }, { accessFlags := 18, nameIndex := 9, descriptorIndex := 10, attributes := #[] }, { accessFlags := 2, nameIndex := 19, descriptorIndex := 10, attributes := #[] }])
  fields := #[{ name := "name", type := (.object "java/lang/String"), accessFlags := 18, slot := 0, constantValue := 0 }, { name := "ordinal", type := .int, accessFlags := 18, slot := 1, constantValue := 0 }, { name := "hash", type := .int, accessFlags := 2, slot := 2, constantValue := 0 }]
  methods := #[k7m0]
  instanceTypes := #[(.object "java/lang/String"), .int, .int]
  staticTypes := #[]
  resolved := Array.replicate 204 none
  statics := none }

def pool8 : Array CpInfo := pool [(1, .class_ 2), (0, u "com/example/vacuum/vacuum/model/PrunePolicy$Method"), (2, u "NUMBER_OF_TAGS"), (0, u "Lcom/example/vacuum/vacuum/model/PrunePolicy$Method;"), (2, u "CREATION_DATE"), (2, u "$VALUES"), (0, u "[Lcom/example/vacuum/vacuum/model/PrunePolicy$Method;"), (6, .class_ 22), (1, u "java/lang/Enum"), (8, u "wireName"), (0, u "Ljava/lang/String;"), (49, .class_ 83), (0, u "com/example/vacuum/vacuum/model/PrunePolicy")] 2

/-- com/example/vacuum/vacuum/model/PrunePolicy$Method -/
def k8 : Class := { plain "com/example/vacuum/vacuum/model/PrunePolicy$Method" (some 7) with
  accessFlags := 16433
  interfaces := #[]
  cf := some (fileOf pool8 1 #[.nestHost 82] #[] 16433 20 #[] #[{ accessFlags := 16409, nameIndex := 5, descriptorIndex := 6, attributes := #[] }, { accessFlags := 16409, nameIndex := 9, descriptorIndex := 6, attributes := #[] }, { accessFlags := 18, nameIndex := 31, descriptorIndex := 32, attributes := #[] }, { accessFlags := 4122, nameIndex := 12, descriptorIndex := 13, attributes := #[] }])
  fields := #[{ name := "NUMBER_OF_TAGS", type := (.object "com/example/vacuum/vacuum/model/PrunePolicy$Method"), accessFlags := 16409, slot := 0, constantValue := 0 }, { name := "CREATION_DATE", type := (.object "com/example/vacuum/vacuum/model/PrunePolicy$Method"), accessFlags := 16409, slot := 1, constantValue := 0 }, { name := "wireName", type := (.object "java/lang/String"), accessFlags := 18, slot := 3, constantValue := 0 }, { name := "$VALUES", type := (.array (.object "com/example/vacuum/vacuum/model/PrunePolicy$Method")), accessFlags := 4122, slot := 2, constantValue := 0 }]
  methods := #[]
  instanceTypes := #[(.object "java/lang/String"), .int, .int, (.object "java/lang/String")]
  staticTypes := #[(.object "com/example/vacuum/vacuum/model/PrunePolicy$Method"), (.object "com/example/vacuum/vacuum/model/PrunePolicy$Method"), (.array (.object "com/example/vacuum/vacuum/model/PrunePolicy$Method"))]
  resolved := Array.replicate 86 none
  statics := some 0 }

def pool9 : Array CpInfo := pool [(2, .class_ 4), (1, u "java/lang/CharSequence"), (42, .class_ 48), (0, u "java/lang/CharSequence$1CodePointIterator"), (10, .class_ 60), (0, u "java/lang/CharSequence$1CharIterator"), (5, .class_ 67), (0, u "java/lang/Object")] 63

/-- java/lang/CharSequence -/
def k9 : Class := { plain "java/lang/CharSequence" (some 0) with
  accessFlags := 1537
  interfaces := #[]
  cf := some (fileOf pool9 2 #[.nestMembers #[47, 59]] #[] 1537 66 #[] #[])
  fields := #[]
  methods := #[]
  instanceTypes := #[]
  staticTypes := #[]
  resolved := Array.replicate 131 none
  statics := none }

def pool10 : Array CpInfo := pool [(1, .class_ 2), (0, u "java/lang/constant/ConstantDesc"), (0, .class_ 4), (0, u "java/lang/Object")] 32

/-- java/lang/constant/ConstantDesc -/
def k10 : Class := { plain "java/lang/constant/ConstantDesc" (some 0) with
  accessFlags := 1537
  interfaces := #[]
  cf := some (fileOf pool10 1 #[] #[] 1537 3 #[] #[])
  fields := #[]
  methods := #[]
  instanceTypes := #[]
  staticTypes := #[]
  resolved := Array.replicate 37 none
  statics := none }

def pool11 : Array CpInfo := pool [(2, .class_ 4), (1, u "java/lang/Object"), (0, u "<init>"), (0, u "()V"), (3, .class_ 12), (1, u "java/lang/String"), (0, u "value"), (0, u "[B"), (2, u "coder"), (0, u "B"), (2, u "hash"), (0, u "I"), (2, u "hashIsZero"), (0, u "Z"), (13, u "COMPACT_STRINGS"), (534, .class_ 576), (0, u "java/lang/CharSequence"), (22, u "CASE_INSENSITIVE_ORDER"), (0, u "Ljava/util/Comparator;"), (500, u "serialPersistentFields"), (0, u "[Ljava/io/ObjectStreamField;"), (0, .class_ 1104), (0, u "java/lang/String$CaseInsensitiveComparator"), (1, .class_ 1107), (0, u "java/io/Serializable"), (0, .class_ 1109), (0, u "java/lang/Comparable"), (0, .class_ 1111), (0, u "java/lang/constant/Constable"), (0, .class_ 1113), (0, u "java/lang/constant/ConstantDesc"), (2, u "serialVersionUID"), (0, u "J"), (3, u "REPL"), (0, u "C"), (2, u "LATIN1"), (1, u "UTF16")] 323

def k11m0 : Method := { name := "<init>", desc := "()V", sig := { parameters := [], returnType := none }, accessFlags := 1, code := none }
/-- java/lang/String -/
def k11 : Class := { plain "java/lang/String" (some 0) with
  accessFlags := 49
  interfaces := #[6, 5, 9, 4, 10]
  cf := some (fileOf pool11 10 #[.nestMembers #[1103]] #[{ accessFlags := 1, nameIndex := 5, descriptorIndex := 6, attributes := #[] }] 49 2 #[1106, 1108, 575, 1110, 1112] #[{ accessFlags := 18, nameIndex := 13, descriptorIndex := 14, attributes := #[] }, { accessFlags := 18, nameIndex := 17, descriptorIndex := 18, attributes := #[] }, { accessFlags := 2, nameIndex := 21, descriptorIndex := 22, attributes := #[] }, { accessFlags := 2, nameIndex := 25, descriptorIndex := 26, attributes := #[] }, { accessFlags := 26, nameIndex := 1116, descriptorIndex := 1117, attributes := #[] }, { accessFlags := 24, nameIndex := 40, descriptorIndex := 26, attributes := #[] }, { accessFlags := 26, nameIndex := 1101, descriptorIndex := 1102, attributes := #[] }, { accessFlags := 26, nameIndex := 1121, descriptorIndex := 1122, attributes := #[] }, { accessFlags := 25, nameIndex := 599, descriptorIndex := 600, attributes := #[] }, { accessFlags := 24, nameIndex := 1125, descriptorIndex := 18, attributes := #[] }, { accessFlags := 24, nameIndex := 1127, descriptorIndex := 18, attributes := #[] }])
  fields := #[{ name := "value", type := (.array .byte), accessFlags := 18, slot := 0, constantValue := 0 }, { name := "coder", type := .byte, accessFlags := 18, slot := 1, constantValue := 0 }, { name := "hash", type := .int, accessFlags := 2, slot := 2, constantValue := 0 }, { name := "hashIsZero", type := .boolean, accessFlags := 2, slot := 3, constantValue := 0 }, { name := "serialVersionUID", type := .long, accessFlags := 26, slot := 0, constantValue := 0 }, { name := "COMPACT_STRINGS", type := .boolean, accessFlags := 24, slot := 1, constantValue := 0 }, { name := "serialPersistentFields", type := (.array (.object "java/io/ObjectStreamField")), accessFlags := 26, slot := 2, constantValue := 0 }, { name := "REPL", type := .char, accessFlags := 26, slot := 3, constantValue := 0 }, { name := "CASE_INSENSITIVE_ORDER", type := (.object "java/util/Comparator"), accessFlags := 25, slot := 4, constantValue := 0 }, { name := "LATIN1", type := .byte, accessFlags := 24, slot := 5, constantValue := 0 }, { name := "UTF16", type := .byte, accessFlags := 24, slot := 6, constantValue := 0 }]
  methods := #[k11m0]
  instanceTypes := #[(.array .byte), .byte, .int, .boolean]
  staticTypes := #[.long, .boolean, (.array (.object "java/io/ObjectStreamField")), .char, (.object "java/util/Comparator"), .byte, .byte]
  resolved := Array.replicate 1451 none
  statics := none }

def pool12 : Array CpInfo := pool [(2, .class_ 4), (1, u "java/lang/Object"), (0, u "<init>"), (0, u "()V"), (35, .class_ 44), (1, u "java/util/Objects"), (0, u "requireNonNull"), (48, u "(Ljava/lang/Object;Ljava/lang/String;)Ljava/lang/Object;")] 89

def k12m0 : Method := { name := "<init>", desc := "()V", sig := { parameters := [], returnType := none }, accessFlags := 2, code := none }
def k12c1 : Code := { maxStack := 3, maxLocals := 2, code := jdk_31_method_11_code, exceptionTable := #[], attributes := #[] }
def k12m1 : Method := { name := "requireNonNull", desc := "(Ljava/lang/Object;Ljava/lang/String;)Ljava/lang/Object;", sig := { parameters := [(.object "java/lang/Object"), (.object "java/lang/String")], returnType := some (.object "java/lang/Object") }, accessFlags := 9, code := some k12c1 }
/-- java/util/Objects -/
def k12 : Class := { plain "java/util/Objects" (some 0) with
  accessFlags := 49
  interfaces := #[]
  cf := some (fileOf pool12 42 #[] #[{ accessFlags := 2, nameIndex := 5, descriptorIndex := 6, attributes := #[] }, { accessFlags := 9, nameIndex := 45, descriptorIndex := 94, attributes := #[] }] 49 2 #[] #[])
  fields := #[]
  methods := #[k12m0, k12m1]
  instanceTypes := #[]
  staticTypes := #[]
  resolved := Array.replicate 184 none
  statics := none }

def pool13 : Array CpInfo := pool [(1, u "java/lang/Cloneable"), (0, .class_ 1), (0, u "java/lang/Object"), (0, .class_ 3)] 3

/-- java/lang/Cloneable -/
def k13 : Class := { plain "java/lang/Cloneable" (some 0) with
  accessFlags := 1537
  interfaces := #[]
  cf := some (fileOf pool13 2 #[] #[] 1537 4 #[] #[])
  fields := #[]
  methods := #[]
  instanceTypes := #[]
  staticTypes := #[]
  resolved := Array.replicate 8 none
  statics := none }

/-- the primitive byte -/
def k14 : Class := { plain "byte" none with kind := .primitive 'B', accessFlags := 0x411 }
/-- [B -/
def k15 : Class := { plain "[B" (some 0) with kind := .array 14 .byte, interfaces := #[13, 6], accessFlags := 1041 }

def heap : Heap := #[{ cls := 8, slots := #[.ref 1, .null, .null], vm := .statics 8 },
  { cls := 8, slots := #[.null, .int 0, .int 0, .null], vm := .none }]
def classes : Array Class := #[k0, k1, k2, k3, k4, k5, k6, k7, k8, k9, k10, k11, k12, k13, k14, k15]
def interned : List (Array UInt16 × Addr) := []
def slotsUsed : Nat := 7
def theMethod : MethodId := ⟨1, 1⟩
def args0 : Array Value := #[.int 5]
def aboutOver (below : List Frame) : State where
  vm := { classes := classes, interned := interned.toArray }
  heap := heap
  slotsUsed := slotsUsed
  threads := #[{ frames := .invoking theMethod args0 :: below }]
def below0 : List Frame := [.native { method := ⟨0, 0⟩, args := #[] }]
def about1 : State := aboutOver below0
def p0 : Program := .bare "" "" ""
def e0 : Env := launch0.env 0 0 0
theorem w_frames : about1.frames = Frame.invoking theMethod args0 :: below0 := rfl
set_option maxRecDepth 65536 in
theorem w_args : argsFit about1.vm theMethod args0 = true := by decide +kernel
set_option maxRecDepth 65536 in
theorem w_heap : heapFits about1 = true := by decide +kernel
set_option maxRecDepth 65536 in
theorem w_runnable : about1.curStatus? = some .runnable := by decide +kernel
set_option maxRecDepth 65536 in
theorem w_alone : about1.alone = true := by decide +kernel
set_option maxRecDepth 65536 in
theorem w_named : about1.methodNamed? x = some theMethod := by decide +kernel
set_option maxRecDepth 65536 in
theorem w_hears : about1.hears theMethod below0 = true := by decide +kernel
set_option maxRecDepth 65536 in
theorem w_ripe : about1.ripe theMethod args0 below0 = true := by decide +kernel
theorem w_running : about1.status = .running := rfl
set_option maxRecDepth 65536 in
theorem w_room : about1.hasRoom e0.platform room_1 = true :=
  launch0.hasRoom_least _ room_1 (by decide +kernel) (by decide +kernel) (by decide +kernel) (by decide +kernel) (by decide +kernel) (by decide +kernel)
theorem allAtoms_all (ts : List Jvm.Cond) (a : Array Jvm.Value) (st : Jvm.State) : (allAtoms ts).before a st = ts.all (fun c => c.before a st) := by
  induction ts with
  | nil => rfl
  | cons c t ih =>
    show (Jvm.Cond.and c (allAtoms t)).before a st = _
    rw [Jvm.Cond.before_and, ih, List.all_cons]
def words1 : List Jvm.Cond := Jvm.Cond.code x code maxLocals ret :: tables_1
/-- a 'code' word, met by the world's own term for the bytes: nothing is compared byte by byte -/
theorem code_word {y : MethodName} {bytes : ByteArray} {mx : Nat} {rt : Option FieldType} {a : Array Value} {s : State} {m : MethodId} {meth : Method} {c : Code} (h1 : s.methodNamed? y = some m) (h2 : s.vm.method? m = some meth) (h3 : meth.code = some c) (h4 : c.code = bytes)
    (h5 : (c.maxLocals == mx && c.exceptionTable.isEmpty && decide (c.maxStack ≤ mostOperands) && decide (meth.sig.returnType = rt) && !meth.locks && decide (parseMethodDescriptor y.desc = some meth.sig)) = true) : (Jvm.Cond.code y bytes mx rt).before a s = true := by
  simp only [Bool.and_eq_true, beq_iff_eq, Bool.not_eq_true', decide_eq_true_eq] at h5
  obtain ⟨⟨⟨⟨⟨g1, g2⟩, g3⟩, g4⟩, g5⟩, g6⟩ := h5
  simp [Cond.before, Cond.holds, Cond.value, h1, h2, h3, h4, g1, g2, g3, g4, g5, g6]
def isCode : Jvm.Cond → Bool
  | .code _ _ _ _ => true
  | _ => false
theorem all_split {L : List Jvm.Cond} {P : Jvm.Cond → Bool} (h1 : L.all (fun c => isCode c || P c) = true) (h2 : ∀ c ∈ L.filter isCode, P c = true) : L.all P = true := by
  refine List.all_eq_true.mpr fun c hc => ?_
  have h := List.all_eq_true.mp h1 c hc
  rcases Bool.eq_false_or_eq_true (isCode c) with hi | hi
  · exact h2 c (List.mem_filter.mpr ⟨hc, hi⟩)
  · simpa [hi] using h
set_option maxRecDepth 65536 in
theorem w_c0 : (Jvm.Cond.code x code maxLocals ret).before args0 about1 = true := code_word (m := ⟨1, 1⟩) (meth := k1m1) (c := k1c1) (by decide +kernel) rfl rfl rfl (by decide +kernel)
set_option maxRecDepth 65536 in
theorem w_c1 : (Jvm.Cond.code ({ cls := "com/example/vacuum/vacuum/model/PrunePolicy", name := "numberOfTags", desc := "(I)Lcom/example/vacuum/vacuum/model/PrunePolicy;" } : Jvm.MethodName) prog_16_method_2_code (1 : Nat) (Option.some (Jvm.ClassFile.FieldType.object "com/example/vacuum/vacuum/model/PrunePolicy"))).before args0 about1 = true := code_word (m := ⟨3, 1⟩) (meth := k3m1) (c := k3c1) (by decide +kernel) rfl rfl rfl (by decide +kernel)
set_option maxRecDepth 65536 in
theorem w_c2 : (Jvm.Cond.code ({ cls := "com/example/vacuum/vacuum/model/PrunePolicy", name := "<init>", desc := "(Lcom/example/vacuum/vacuum/model/PrunePolicy$Method;ILjava/time/Duration;)V" } : Jvm.MethodName) prog_16_method_1_code (5 : Nat) (Option.none : Option Jvm.ClassFile.FieldType)).before args0 about1 = true := code_word (m := ⟨3, 0⟩) (meth := k3m0) (c := k3c0) (by decide +kernel) rfl rfl rfl (by decide +kernel)
set_option maxRecDepth 65536 in
theorem w_c3 : (Jvm.Cond.code ({ cls := "java/lang/Record", name := "<init>", desc := "()V" } : Jvm.MethodName) jdk_30_method_1_code (1 : Nat) (Option.none : Option Jvm.ClassFile.FieldType)).before args0 about1 = true := code_word (m := ⟨2, 0⟩) (meth := k2m0) (c := k2c0) (by decide +kernel) rfl rfl rfl (by decide +kernel)
set_option maxRecDepth 65536 in
theorem w_c4 : (Jvm.Cond.code ({ cls := "java/lang/Object", name := "<init>", desc := "()V" } : Jvm.MethodName) object_method_1_code (1 : Nat) (Option.none : Option Jvm.ClassFile.FieldType)).before args0 about1 = true := code_word (m := ⟨0, 0⟩) (meth := k0m0) (c := k0c0) (by decide +kernel) rfl rfl rfl (by decide +kernel)
set_option maxRecDepth 65536 in
theorem w_c5 : (Jvm.Cond.code ({ cls := "java/util/Objects", name := "requireNonNull", desc := "(Ljava/lang/Object;Ljava/lang/String;)Ljava/lang/Object;" } : Jvm.MethodName) jdk_31_method_11_code (2 : Nat) (Option.some (Jvm.ClassFile.FieldType.object "java/lang/Object"))).before args0 about1 = true := code_word (m := ⟨12, 1⟩) (meth := k12m1) (c := k12c1) (by decide +kernel) rfl rfl rfl (by decide +kernel)
set_option maxRecDepth 65536 in
theorem w_c6 : (Jvm.Cond.code ({ cls := "java/lang/Enum", name := "ordinal", desc := "()I" } : Jvm.MethodName) jdk_37_method_2_code (1 : Nat) (Option.some Jvm.ClassFile.FieldType.int)).before args0 about1 = true := code_word (m := ⟨7, 0⟩) (meth := k7m0) (c := k7c0) (by decide +kernel) rfl rfl rfl (by decide +kernel)
set_option maxRecDepth 65536 in
theorem w_c7 : (Jvm.Cond.code ({ cls := "com/example/vacuum/vacuum/model/PrunePolicy", name := "method", desc := "()Lcom/example/vacuum/vacuum/model/PrunePolicy$Method;" } : Jvm.MethodName) prog_16_method_7_code (1 : Nat) (Option.some (Jvm.ClassFile.FieldType.object "com/example/vacuum/vacuum/model/PrunePolicy$Method"))).before args0 about1 = true := code_word (m := ⟨3, 2⟩) (meth := k3m2) (c := k3c2) (by decide +kernel) rfl rfl rfl (by decide +kernel)
set_option maxRecDepth 65536 in
theorem w_c8 : (Jvm.Cond.code ({ cls := "com/example/vacuum/vacuum/model/PrunePolicy", name := "numTags", desc := "()I" } : Jvm.MethodName) prog_16_method_8_code (1 : Nat) (Option.some Jvm.ClassFile.FieldType.int)).before args0 about1 = true := code_word (m := ⟨3, 3⟩) (meth := k3m3) (c := k3c3) (by decide +kernel) rfl rfl rfl (by decide +kernel)
set_option maxRecDepth 65536 in
theorem w_c9 : (Jvm.Cond.code ({ cls := "com/example/vacuum/vacuum/model/PrunePolicy", name := "olderThan", desc := "()Ljava/time/Duration;" } : Jvm.MethodName) prog_16_method_9_code (1 : Nat) (Option.some (Jvm.ClassFile.FieldType.object "java/time/Duration"))).before args0 about1 = true := code_word (m := ⟨3, 4⟩) (meth := k3m4) (c := k3c4) (by decide +kernel) rfl rfl rfl (by decide +kernel)
def codes1 : List Jvm.Cond := [Jvm.Cond.code x code maxLocals ret, Jvm.Cond.code ({ cls := "com/example/vacuum/vacuum/model/PrunePolicy", name := "numberOfTags", desc := "(I)Lcom/example/vacuum/vacuum/model/PrunePolicy;" } : Jvm.MethodName) prog_16_method_2_code (1 : Nat) (Option.some (Jvm.ClassFile.FieldType.object "com/example/vacuum/vacuum/model/PrunePolicy")), Jvm.Cond.code ({ cls := "com/example/vacuum/vacuum/model/PrunePolicy", name := "<init>", desc := "(Lcom/example/vacuum/vacuum/model/PrunePolicy$Method;ILjava/time/Duration;)V" } : Jvm.MethodName) prog_16_method_1_code (5 : Nat) (Option.none : Option Jvm.ClassFile.FieldType), Jvm.Cond.code ({ cls := "java/lang/Record", name := "<init>", desc := "()V" } : Jvm.MethodName) jdk_30_method_1_code (1 : Nat) (Option.none : Option Jvm.ClassFile.FieldType), Jvm.Cond.code ({ cls := "java/lang/Object", name := "<init>", desc := "()V" } : Jvm.MethodName) object_method_1_code (1 : Nat) (Option.none : Option Jvm.ClassFile.FieldType), Jvm.Cond.code ({ cls := "java/util/Objects", name := "requireNonNull", desc := "(Ljava/lang/Object;Ljava/lang/String;)Ljava/lang/Object;" } : Jvm.MethodName) jdk_31_method_11_code (2 : Nat) (Option.some (Jvm.ClassFile.FieldType.object "java/lang/Object")), Jvm.Cond.code ({ cls := "java/lang/Enum", name := "ordinal", desc := "()I" } : Jvm.MethodName) jdk_37_method_2_code (1 : Nat) (Option.some Jvm.ClassFile.FieldType.int), Jvm.Cond.code ({ cls := "com/example/vacuum/vacuum/model/PrunePolicy", name := "method", desc := "()Lcom/example/vacuum/vacuum/model/PrunePolicy$Method;" } : Jvm.MethodName) prog_16_method_7_code (1 : Nat) (Option.some (Jvm.ClassFile.FieldType.object "com/example/vacuum/vacuum/model/PrunePolicy$Method")), Jvm.Cond.code ({ cls := "com/example/vacuum/vacuum/model/PrunePolicy", name := "numTags", desc := "()I" } : Jvm.MethodName) prog_16_method_8_code (1 : Nat) (Option.some Jvm.ClassFile.FieldType.int), Jvm.Cond.code ({ cls := "com/example/vacuum/vacuum/model/PrunePolicy", name := "olderThan", desc := "()Ljava/time/Duration;" } : Jvm.MethodName) prog_16_method_9_code (1 : Nat) (Option.some (Jvm.ClassFile.FieldType.object "java/time/Duration"))]
set_option maxRecDepth 65536 in
theorem codes_eq : words1.filter isCode = codes1 := rfl
theorem w_codes : ∀ c ∈ words1.filter isCode, c.before args0 about1 = true := by
  rw [codes_eq]
  intro c hc
  simp only [codes1, List.mem_cons, List.not_mem_nil, or_false] at hc
  rcases hc with rfl | rfl | rfl | rfl | rfl | rfl | rfl | rfl | rfl | rfl
  · exact w_c0
  · exact w_c1
  · exact w_c2
  · exact w_c3
  · exact w_c4
  · exact w_c5
  · exact w_c6
  · exact w_c7
  · exact w_c8
  · exact w_c9
set_option maxRecDepth 65536 in
theorem w_t1 : (words1.take 24).all (fun c => isCode c || c.before args0 about1) = true := by decide +kernel
set_option maxRecDepth 65536 in
theorem w_t2 : ((words1.drop 24).take 24).all (fun c => isCode c || c.before args0 about1) = true := by decide +kernel
set_option maxRecDepth 65536 in
theorem w_t3 : ((words1.drop 24).drop 24).all (fun c => isCode c || c.before args0 about1) = true := by decide +kernel
theorem w_tables : (allAtoms (Jvm.Cond.code x code maxLocals ret :: tables_1)).before args0 about1 = true := by
  rw [allAtoms_all]
  show words1.all (fun c => c.before args0 about1) = true
  refine all_split ?_ w_codes
  rw [← List.take_append_drop 24 words1, List.all_append, w_t1, ← List.take_append_drop 24 (words1.drop 24), List.all_append, w_t2, w_t3]
  rfl
set_option maxRecDepth 65536 in
theorem w_case : (Jvm.Cond.and given_1 narrow_1).before args0 about1 = true := by decide +kernel
theorem w_applies : (headSpec (Jvm.Cond.code x code maxLocals ret :: tables_1) room_1).applies x e0.platform about1 = true :=
  (Spec.applies_iff w_frames).mpr ⟨w_running, w_runnable, w_alone, w_named, w_hears, w_ripe, w_room, w_tables⟩
theorem atStart : AtStart classFile x code maxLocals ret World_1 tables_1 room_1 Calls_1 rest_1 Pre_1 launch0 p0 e0 about1 theMethod args0 below0 :=
  ⟨lists_1, trivial, launch0.admits_env _ _ _, launch0.least_env, fairChoices_fair.cas, fairChoices_fair.clock, w_frames, w_args, w_heap, w_applies, trivial, trivial, w_case⟩
end start1
theorem witness_1 : WitnessClaimed_1 := ⟨start1.p0, start1.e0, start1.about1, start1.theMethod, start1.args0, start1.below0, start1.atStart⟩
end Jvm.Pilot.@@N@@
