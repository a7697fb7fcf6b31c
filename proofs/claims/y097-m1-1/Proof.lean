import JvmDerived
import JvmDerived.Pilot.@@N@@Statement
import JvmDerived.Pilot.@@N@@Code
set_option linter.unusedVariables false
set_option linter.unusedSimpArgs false
namespace Jvm.Pilot.@@N@@
open Jvm Jvm.ClassFile Sem Op Lib Jvm.Free Jvm.Stand Jvm.LawKit Jvm.RoadKit Bundle Jvm.Pilot.@@N@@.Jvm.D
/-! 0. own tools: the goal that a walk carries; an array's store and load by what is known of it -/
def Go (tb : Tables) (e : Env) (below : List Frame) (P : State → Prop) (s : State) : Prop := ∃ s₂, Steps tb e below s s₂ ∧ P s₂
section OwnTools
variable {tb : Tables} {e : Env} {below : List Frame} {P : State → Prop} {A B : State}
theorem Go.st (h : ∀ t, Steps tb e below A t → Steps tb e below B t) (g : Go tb e below P A) : Go tb e below P B := by
  obtain ⟨s₂, h1, h2⟩ := g
  exact ⟨s₂, h _ h1, h2⟩
theorem Go.tr (h : Steps tb e below B A) (g : Go tb e below P A) : Go tb e below P B := by
  obtain ⟨s₂, h1, h2⟩ := g
  exact ⟨s₂, h.trans h1, h2⟩
theorem Go.start {Q : Outcome → State → Prop} (h : ∀ P : State → Prop, (∀ s₂ o, s₂.status = .running → Ended s₂ below o → Q o s₂ → P s₂) → Go tb e below P A) : ∃ s₂ o, Steps tb e below A s₂ ∧ s₂.status = .running ∧ Ended s₂ below o ∧ Q o s₂ := by
  obtain ⟨s₂, h1, o, h2, h3, h4⟩ := h (fun s₂ => ∃ o, s₂.status = .running ∧ Ended s₂ below o ∧ Q o s₂) (fun s₂ o a b c => ⟨o, a, b, c⟩)
  exact ⟨s₂, o, h1, h2, h3, h4⟩
theorem own_oldsz {Z : State} {n0 : Nat} {h : Heap} (X : Old Z n0 h) : n0 ≤ h.size := by have := X.1; have := X.2.1; omega
theorem own_cat {v : Value} (h : v.isRef = true) : v.category = 1 := by cases v <;> first | rfl | simp [Value.isRef] at h
theorem own_refcase {v : Value} (h : v.isRef = true) : v = .null ∨ ∃ a, v = .ref a := by cases v <;> first | (left; rfl) | (right; exact ⟨_, rfl⟩) | (simp [Value.isRef] at h)
theorem own_nar_ref {v : Value} {t : FieldType} (h : v.isRef = true) : narrow t v = v := by cases v <;> first | (simp [Value.isRef] at h; done) | (cases t <;> rfl)
theorem own_fits_ref {v : Value} {t : FieldType} (h : v.isRef = true) (ht : t.isReference = true := by rfl) : fits t v = true := by cases v <;> first | (simp [Value.isRef] at h; done) | (cases t <;> first | rfl | (simp [FieldType.isReference] at ht))
theorem own_eq_ref {args : Array Value} {first s : State} {o : Option Outcome} {idx : List Nat} {a b : Term} {w : Addr} (hb : b.eval args first o idx s = some (.ref w)) (h : (Cond.eq a b).value args first o s idx = some true) : a.eval args first o idx s = some (.ref w) := by
  cases ha : a.eval args first o idx s with
  | none => simp [Cond.value, ha] at h
  | some x => cases x <;> simp [Cond.value, ha, hb] at h ⊢; exact h
theorem own_len_start {args : Array Value} {s : State} {t : Term} {n : Int32} {a : Addr} {cl : Cell} (h : (Term.length t).eval args s none [] s = some (.int n)) (ht : t.eval args s none [] s = some (.ref a)) (hc : s.heap[a]? = some cl) : cl.slots.size < 2 ^ 31 ∧ cl.slots.size.toInt32 = n := by
  simp only [Term.eval, ht, Option.bind_eq_bind, Option.bind_some] at h
  cases hq : s.arrayAt? a with
  | none => simp [hq] at h
  | some c2 =>
    have e := (State.arrayAt?_spec hq).1
    cases hc.symm.trans e
    simp only [hq, Option.bind_some] at h
    split at h
    · rename_i hlt; exact ⟨hlt, by simpa using h⟩
    · cases h
theorem own_since (s : State) : s.Since s.vm 0 := (State.WarmedH.refl s).since 0
theorem own_and255 (x : Int32) : ¬ (x &&& 255) < 0 ∧ ¬ (255 : Int32) < (x &&& 255) := by
  have h := c_and x 255 (by decide)
  have e0 : (0 : Int32).toInt = 0 := rfl
  have e1 : (255 : Int32).toInt = 255 := rfl
  rw [Int32.lt_iff_toInt_lt, Int32.lt_iff_toInt_lt]
  omega
theorem own_nar_i2c (x : Int32) : nar .char (x.toUInt32.toUInt16.toUInt32.toInt32) = x.toUInt32.toUInt16.toUInt32.toInt32 := by
  show (x.toUInt32.toUInt16.toUInt32.toInt32).toUInt32.toUInt16.toUInt32.toInt32 = _
  rw [UInt32.toUInt32_toInt32, UInt16.toUInt16_toUInt32]
theorem own_nar_i2b (x : Int32) : nar .byte (x.toInt8.toInt32) = x.toInt8.toInt32 := by
  show (x.toInt8.toInt32).toInt8.toInt32 = _
  simp
theorem own_narZ {x : Int32} (h : x = 0 ∨ x = 1) : nar .boolean x = x := by rcases h with rfl | rfl <;> rfl
theorem own_up (cs : List Int32) (h : ∀ c ∈ cs, ¬ c < 0 ∧ ¬ (255 : Int32) < c) : ∀ c ∈ cs, ¬ c < 0 ∧ ¬ (65535 : Int32) < c := fun c hc => ⟨(h c hc).1, fun q => (h c hc).2 (by rw [Int32.lt_iff_toInt_lt] at q ⊢; have e1 : (65535 : Int32).toInt = 65535 := rfl; have e2 : (255 : Int32).toInt = 255 := rfl; omega)⟩
theorem own_narC {x : Int32} (h : ¬ x < 0 ∧ ¬ (255 : Int32) < x) : nar .char x = x := by
  have e0 : (0 : Int32).toInt = 0 := rfl
  have e1 : (255 : Int32).toInt = 255 := rfl
  have a := h.1
  have b := h.2
  rw [Int32.lt_iff_toInt_lt, e0] at a
  rw [Int32.lt_iff_toInt_lt, e1] at b
  have c := c_i2c x
  exact Int32.toInt_inj.mp (show x.toUInt32.toUInt16.toUInt32.toInt32.toInt = x.toInt by omega)
theorem own_int {r : Int32} {k : Int} (h : r.toInt = k) {q : Int32} (hq : q.toInt = k) : r = q := Int32.toInt_inj.mp (by rw [h, hq])
end OwnTools
section OwnArrays
variable {p : Program} {l : Launch} {e : Env} {R : Room} {s : State} {m : MethodId} {args : Array Value} {below : List Frame} {meth : Method} {c : Code} {T : State} {locs : List Loc} {cells slots : Nat} {Z : State} {h : Heap} {a : Addr} {k : ClassId} {z : Int32} {vs : List Value} {dv : Value}
theorem own_stC (X : Stand p l e R s m args below meth c T locs cells slots) (hx : p.tables.exec = Jvm.exec) (hZ : Z.Warmed39 s.vm) (eT : T.heap = h) (V : Arv Z h a k .char z vs dv) {j x : Int32} {i : Nat} (hj : ¬ j < 0 ∧ j < z) (hji : j.toNatClampNeg = i) (hi : i < vs.length) {g : JFrame} (hg : g.method = m) {rest : List Value} (hs : g.stack = .int x :: .int j :: .ref a :: rest) (hd : decode c.code g.pc = .ok (.castore, 1)) :
    ∃ T' h', Stand p l e R s m args below meth c T' (locs ++ [⟨a, j.toNatClampNeg⟩]) cells slots ∧ T'.heap = h' ∧ Wr h h' a j.toNatClampNeg (.int (nar .char x)) ∧ Arv Z h' a k .char z (vs.set i (.int (nar .char x))) dv ∧ ∀ target, Steps p.tables e below (T'.setTop { g with pc := g.pc + 1, stack := rest }) target → Steps p.tables e below (T.setTop g) target := by
  obtain ⟨cl, A, q1, S, q3, H, G⟩ := V
  obtain ⟨T', h', X', e', W, st⟩ := stC X hx hZ eT A (inb_of S hj) hg hs hd
  exact ⟨T', h', X', e', W, Arv.set A q1 S q3 H G (fits_nar_char x) W i hji hi, st⟩
theorem own_stI (X : Stand p l e R s m args below meth c T locs cells slots) (hx : p.tables.exec = Jvm.exec) (hZ : Z.Warmed39 s.vm) (eT : T.heap = h) (V : Arv Z h a k .int z vs dv) {j x : Int32} {i : Nat} (hj : ¬ j < 0 ∧ j < z) (hji : j.toNatClampNeg = i) (hi : i < vs.length) {g : JFrame} (hg : g.method = m) {rest : List Value} (hs : g.stack = .int x :: .int j :: .ref a :: rest) (hd : decode c.code g.pc = .ok (.iastore, 1)) :
    ∃ T' h', Stand p l e R s m args below meth c T' (locs ++ [⟨a, j.toNatClampNeg⟩]) cells slots ∧ T'.heap = h' ∧ Wr h h' a j.toNatClampNeg (.int x) ∧ Arv Z h' a k .int z (vs.set i (.int x)) dv ∧ ∀ target, Steps p.tables e below (T'.setTop { g with pc := g.pc + 1, stack := rest }) target → Steps p.tables e below (T.setTop g) target := by
  obtain ⟨cl, A, q1, S, q3, H, G⟩ := V
  obtain ⟨T', h', X', e', W, st⟩ := stI X hx hZ eT A (inb_of S hj) hg hs hd
  exact ⟨T', h', X', e', W, Arv.set A q1 S q3 H G rfl W i hji hi, st⟩
theorem own_stZ (X : Stand p l e R s m args below meth c T locs cells slots) (hx : p.tables.exec = Jvm.exec) (hZ : Z.Warmed39 s.vm) (eT : T.heap = h) (V : Arv Z h a k .boolean z vs dv) {j x : Int32} {i : Nat} (hj : ¬ j < 0 ∧ j < z) (hji : j.toNatClampNeg = i) (hi : i < vs.length) {g : JFrame} (hg : g.method = m) {rest : List Value} (hs : g.stack = .int x :: .int j :: .ref a :: rest) (hd : decode c.code g.pc = .ok (.bastore, 1)) :
    ∃ T' h', Stand p l e R s m args below meth c T' (locs ++ [⟨a, j.toNatClampNeg⟩]) cells slots ∧ T'.heap = h' ∧ Wr h h' a j.toNatClampNeg (.int (nar .boolean x)) ∧ Arv Z h' a k .boolean z (vs.set i (.int (nar .boolean x))) dv ∧ ∀ target, Steps p.tables e below (T'.setTop { g with pc := g.pc + 1, stack := rest }) target → Steps p.tables e below (T.setTop g) target := by
  obtain ⟨cl, A, q1, S, q3, H, G⟩ := V
  obtain ⟨T', h', X', e', W, st⟩ := stZ X hx hZ eT A (inb_of S hj) hg hs hd
  exact ⟨T', h', X', e', W, Arv.set A q1 S q3 H G (fits_nar_bool x) W i hji hi, st⟩
theorem own_stB (X : Stand p l e R s m args below meth c T locs cells slots) (hx : p.tables.exec = Jvm.exec) (hZ : Z.Warmed39 s.vm) (eT : T.heap = h) (V : Arv Z h a k .byte z vs dv) {j x : Int32} {i : Nat} (hj : ¬ j < 0 ∧ j < z) (hji : j.toNatClampNeg = i) (hi : i < vs.length) {g : JFrame} (hg : g.method = m) {rest : List Value} (hs : g.stack = .int x :: .int j :: .ref a :: rest) (hd : decode c.code g.pc = .ok (.bastore, 1)) :
    ∃ T' h', Stand p l e R s m args below meth c T' (locs ++ [⟨a, j.toNatClampNeg⟩]) cells slots ∧ T'.heap = h' ∧ Wr h h' a j.toNatClampNeg (.int (nar .byte x)) ∧ Arv Z h' a k .byte z (vs.set i (.int (nar .byte x))) dv ∧ ∀ target, Steps p.tables e below (T'.setTop { g with pc := g.pc + 1, stack := rest }) target → Steps p.tables e below (T.setTop g) target := by
  obtain ⟨cl, A, q1, S, q3, H, G⟩ := V
  obtain ⟨T', h', X', e', W, st⟩ := stB X hx hZ eT A (inb_of S hj) hg hs hd
  exact ⟨T', h', X', e', W, Arv.set A q1 S q3 H G (fits_nar_byte x) W i hji hi, st⟩
theorem own_stD (X : Stand p l e R s m args below meth c T locs cells slots) (hx : p.tables.exec = Jvm.exec) (hZ : Z.Warmed39 s.vm) (eT : T.heap = h) (V : Arv Z h a k .double z vs dv) {j : Int32} {x : UInt64} {i : Nat} (hj : ¬ j < 0 ∧ j < z) (hji : j.toNatClampNeg = i) (hi : i < vs.length) {g : JFrame} (hg : g.method = m) {rest : List Value} (hs : g.stack = .double x :: .int j :: .ref a :: rest) (hd : decode c.code g.pc = .ok (.dastore, 1)) :
    ∃ T' h', Stand p l e R s m args below meth c T' (locs ++ [⟨a, j.toNatClampNeg⟩]) cells slots ∧ T'.heap = h' ∧ Wr h h' a j.toNatClampNeg (.double x) ∧ Arv Z h' a k .double z (vs.set i (.double x)) dv ∧ ∀ target, Steps p.tables e below (T'.setTop { g with pc := g.pc + 1, stack := rest }) target → Steps p.tables e below (T.setTop g) target := by
  obtain ⟨cl, A, q1, S, q3, H, G⟩ := V
  obtain ⟨T', h', X', e', W, st⟩ := stD X hx hZ eT A (inb_of S hj) hg hs hd
  exact ⟨T', h', X', e', W, Arv.set A q1 S q3 H G rfl W i hji hi, st⟩
theorem own_at {ty : FieldType} (V : Arv Z h a k ty z vs dv) {j : Int32} {i : Nat} {v : Value} (hj : ¬ j < 0 ∧ j < z) (hji : j.toNatClampNeg = i) (hv : vs.getD i dv = v) : ∃ cl : Cell, Arr Z h a cl ty ∧ ¬ (j < 0 ∨ cl.slots.size ≤ j.toNatClampNeg) ∧ cl.slots[j.toNatClampNeg]? = some v := by
  obtain ⟨cl, A, q1, S, q3, H, G⟩ := V
  exact ⟨cl, A, inb_of S hj, Has.at H (inb_of S hj) (by rw [hji]; exact hv)⟩
theorem own_ldI (X : Stand p l e R s m args below meth c T locs cells slots) (hx : p.tables.exec = Jvm.exec) (hZ : Z.Warmed39 s.vm) (eT : T.heap = h) (V : Arv Z h a k .int z vs dv) {j : Int32} {i : Nat} {v : Value} (hj : ¬ j < 0 ∧ j < z) (hji : j.toNatClampNeg = i) (hv : vs.getD i dv = v) {g : JFrame} (hg : g.method = m) {rest : List Value} (hs : g.stack = .int j :: .ref a :: rest) (hd : decode c.code g.pc = .ok (.iaload, 1)) (target : State) :
    Steps p.tables e below (T.setTop { g with pc := g.pc + 1, stack := v :: rest }) target → Steps p.tables e below (T.setTop g) target := by
  obtain ⟨cl, A, hin, hat⟩ := own_at V hj hji hv
  exact X.iaload hx (by rw [eT]; exact A.1) (State.isArrayOf_alike hZ.alike A.2.1) A.2.2 hin hat hg hs hd target
theorem own_ldC (X : Stand p l e R s m args below meth c T locs cells slots) (hx : p.tables.exec = Jvm.exec) (hZ : Z.Warmed39 s.vm) (eT : T.heap = h) (V : Arv Z h a k .char z vs dv) {j : Int32} {i : Nat} {v : Value} (hj : ¬ j < 0 ∧ j < z) (hji : j.toNatClampNeg = i) (hv : vs.getD i dv = v) {g : JFrame} (hg : g.method = m) {rest : List Value} (hs : g.stack = .int j :: .ref a :: rest) (hd : decode c.code g.pc = .ok (.caload, 1)) (target : State) :
    Steps p.tables e below (T.setTop { g with pc := g.pc + 1, stack := v :: rest }) target → Steps p.tables e below (T.setTop g) target := by
  obtain ⟨cl, A, hin, hat⟩ := own_at V hj hji hv
  exact X.caload hx (by rw [eT]; exact A.1) (State.isArrayOf_alike hZ.alike A.2.1) A.2.2 hin hat hg hs hd target
theorem own_ldZ (X : Stand p l e R s m args below meth c T locs cells slots) (hx : p.tables.exec = Jvm.exec) (hZ : Z.Warmed39 s.vm) (eT : T.heap = h) (V : Arv Z h a k .boolean z vs dv) {j : Int32} {i : Nat} {v : Value} (hj : ¬ j < 0 ∧ j < z) (hji : j.toNatClampNeg = i) (hv : vs.getD i dv = v) {g : JFrame} (hg : g.method = m) {rest : List Value} (hs : g.stack = .int j :: .ref a :: rest) (hd : decode c.code g.pc = .ok (.baload, 1)) (target : State) :
    Steps p.tables e below (T.setTop { g with pc := g.pc + 1, stack := v :: rest }) target → Steps p.tables e below (T.setTop g) target := by
  obtain ⟨cl, A, hin, hat⟩ := own_at V hj hji hv
  exact X.baloadBooleans hx (by rw [eT]; exact A.1) (State.isArrayOf_alike hZ.alike A.2.1) A.2.2 hin hat hg hs hd target
theorem own_ldB (X : Stand p l e R s m args below meth c T locs cells slots) (hx : p.tables.exec = Jvm.exec) (hZ : Z.Warmed39 s.vm) (eT : T.heap = h) (V : Arv Z h a k .byte z vs dv) {j : Int32} {i : Nat} {v : Value} (hj : ¬ j < 0 ∧ j < z) (hji : j.toNatClampNeg = i) (hv : vs.getD i dv = v) {g : JFrame} (hg : g.method = m) {rest : List Value} (hs : g.stack = .int j :: .ref a :: rest) (hd : decode c.code g.pc = .ok (.baload, 1)) (target : State) :
    Steps p.tables e below (T.setTop { g with pc := g.pc + 1, stack := v :: rest }) target → Steps p.tables e below (T.setTop g) target := by
  obtain ⟨cl, A, hin, hat⟩ := own_at V hj hji hv
  exact X.baloadBytes hx (by rw [eT]; exact A.1) (State.isArrayOf_alike hZ.alike A.2.1) A.2.2 hin hat hg hs hd target
theorem own_ldD (X : Stand p l e R s m args below meth c T locs cells slots) (hx : p.tables.exec = Jvm.exec) (hZ : Z.Warmed39 s.vm) (eT : T.heap = h) (V : Arv Z h a k .double z vs dv) {j : Int32} {i : Nat} {v : Value} (hj : ¬ j < 0 ∧ j < z) (hji : j.toNatClampNeg = i) (hv : vs.getD i dv = v) {g : JFrame} (hg : g.method = m) {rest : List Value} (hs : g.stack = .int j :: .ref a :: rest) (hd : decode c.code g.pc = .ok (.daload, 1)) (target : State) :
    Steps p.tables e below (T.setTop { g with pc := g.pc + 1, stack := v :: rest }) target → Steps p.tables e below (T.setTop g) target := by
  obtain ⟨cl, A, hin, hat⟩ := own_at V hj hji hv
  exact X.daload hx (by rw [eT]; exact A.1) (State.isArrayOf_alike hZ.alike A.2.1) A.2.2 hin hat hg hs hd target
theorem own_ldR {C : String} (X : Stand p l e R s m args below meth c T locs cells slots) (hx : p.tables.exec = Jvm.exec) (hZ : Z.Warmed39 s.vm) (eT : T.heap = h) (V : Arv Z h a k (.object C) z vs dv) {j : Int32} {i : Nat} {v : Value} (hj : ¬ j < 0 ∧ j < z) (hji : j.toNatClampNeg = i) (hv : vs.getD i dv = v) {g : JFrame} (hg : g.method = m) {rest : List Value} (hs : g.stack = .int j :: .ref a :: rest) (hd : decode c.code g.pc = .ok (.aaload, 1)) (target : State) :
    Steps p.tables e below (T.setTop { g with pc := g.pc + 1, stack := v :: rest }) target → Steps p.tables e below (T.setTop g) target := by
  obtain ⟨cl, A, hin, hat⟩ := own_at V hj hji hv
  exact X.aaload hx (by rw [eT]; exact A.1) (State.isArrayOf_alike hZ.alike A.2.1) rfl A.2.2 hin hat hg hs hd target
theorem own_len {ty : FieldType} (X : Stand p l e R s m args below meth c T locs cells slots) (hx : p.tables.exec = Jvm.exec) (hZ : Z.Warmed39 s.vm) (eT : T.heap = h) (V : Arv Z h a k ty z vs dv) {g : JFrame} (hg : g.method = m) {rest : List Value} (hs : g.stack = .ref a :: rest) (hd : decode c.code g.pc = .ok (.arraylength, 1)) (target : State) :
    Steps p.tables e below (T.setTop { g with pc := g.pc + 1, stack := .int z :: rest }) target → Steps p.tables e below (T.setTop g) target := by
  obtain ⟨cl, A, q1, S, q3, H, G⟩ := V
  have q := X.arraylength hx (by rw [eT]; exact A.1) (State.isArrayOf_alike hZ.alike A.2.1) hg hs hd target
  rw [len_of S q3] at q
  exact q
theorem own_getD_int (xs : List Int32) (i : Nat) : (xs.map Value.int).getD i (.int 0) = .int (xs.getD i 0) := by
  simp only [List.getD_eq_getElem?_getD, List.getElem?_map]
  cases xs[i]? <;> rfl
theorem own_arv_set {ty : FieldType} {xs : List Int32} {i : Nat} {v : Int32} (V : Arv Z h a k ty z ((xs.map Value.int).set i (.int v)) dv) : Arv Z h a k ty z ((xs.set i v).map Value.int) dv := by rw [List.map_set]; exact V
end OwnArrays

theorem own_ef_rm_mof (m : MethodId)  : entryFrame m #[] 0 = mkF m 0 #[] [] := by first | (simp [entryFrame, mkF, argsToLocals, Value.category]; done) | rfl
theorem own_pn0 : plainName "java/util/Map" = true := by first | (simp [plainName, overriddenIn]; done) | decide +kernel
theorem own_d_jdk_72_method_26_code_0 : decode jdk_72_method_26_code 0 = .ok (.getstatic 81, 3) := by decide +kernel
theorem own_d_jdk_72_method_26_code_3 : decode jdk_72_method_26_code 3 = .ok (.areturn, 1) := by decide +kernel
def Q_rm_mof (Z : State) (w_EM : Addr) (h0 : Heap) (n0 : Nat) (v : Option Value) (h : Heap) (L : List Loc) : Prop := v = some (.ref w_EM) ∧ Fr n0 L ∧ h = h0
set_option maxRecDepth 65536 in
set_option maxHeartbeats 40000000 in
theorem rm_mof (l : Launch) (Z : State) (a0 : Array Value) (hw : ∀ d ∈ tables_1, d.before a0 Z = true) (ws : List Jvm.Cond) (w_EM : Addr) (S_EM : Sta Z Z.heap "java/util/ImmutableCollections" "EMPTY_MAP" "Ljava/util/ImmutableCollections$MapN;" (.ref w_EM)) (X_EM : Exa Z Z.heap w_EM "java/util/ImmutableCollections$MapN") (h0 : Heap) (n0 : Nat) (X00 : Old Z n0 h0)  :
    MetFree l (⟨"java/util/Map", "of", "()Ljava/util/Map;"⟩ : MethodName) (head1 (Jvm.Cond.code (⟨"java/util/Map", "of", "()Ljava/util/Map;"⟩ : MethodName) jdk_72_method_26_code 0 (some (.object "java/util/Map")) :: ws) ({ frames := 0, cells := 0, slots := 0, locals := 0 } : Room)) (fun a U => a = #[] ∧ Z.Warmed39 U.vm ∧ U.heap = h0) (fun _ _ _ _ _ => True) (fun _ U o U' => ∃ v L, o = .returned v ∧ Q_rm_mof Z w_EM h0 n0 v U'.heap L ∧ FrameEnd U o U' L ({ frames := 0, cells := 0, slots := 0, locals := 0 } : Room).cells ({ frames := 0, cells := 0, slots := 0, locals := 0 } : Room).slots) := by
  refine MetFree.of_bodySF (plainFor_of_name own_pn0) hisR ?_
  intro p e s m args below meth c s₁ Bd hml0 hP hK
  obtain ⟨rfl, hZ, hh⟩ := hP
  have hx := Bd.exec
  have hby := Bd.bytes
  have hml : c.maxLocals = 0 := hml0
  have hown : s.vm.findClass "java/util/Map" = some m.cls := findClass_of_methodNamed Bd.named
  have hnm := (name_of_methodNamed Bd.named Bd.method).1
  have X0 : Stand p l e ({ frames := 0, cells := 0, slots := 0, locals := 0 } : Room) s m #[] below meth c s₁ [] 0 0 := Stand.of_body Bd
  have e0 : s₁.heap = h0 := by rw [← hh, Bd.state]; rfl
  have N0 := Fr.nil n0
  refine Go.start fun P hPend => ?_
  refine Go.st (fun _ k => castTop (own_ef_rm_mof m ) k) ?_
  show Go p.tables e below P (s₁.setTop (mkF m 0 #[] []))
  obtain ⟨T1, X1, e1, st1⟩ := getS2 X0 hx hZ hown (host := "") (Or.inl (hw _ (List.mem_of_getElem? (i := 16) rfl))) Via.refl e0 (S_EM.ext X00.2) (g := (mkF m 0 #[] [])) rfl (hb hby own_d_jdk_72_method_26_code_0)
  refine Go.st st1 ?_
  show Go p.tables e below P (T1.setTop (mkF m 3 #[] [(.ref w_EM)]))
  obtain ⟨fs, hr, hrun, hended, hW, hsame⟩ := X1.leave (v := some (.ref w_EM)) (fun h => by rw [Bd.returns] at h; cases h)
  refine ⟨_, ?_, hPend _ _ hrun hended ⟨_, _, rfl, ?_, ⟨_, rfl⟩, hW, hsame.mono (by decide) (by decide)⟩⟩
  · exact retOut X1 hx (t := (.object "java/util/Map")) Bd.returns rfl (Or.inr (Or.inr (Or.inr (Or.inr ⟨rfl, rfl, rfl⟩)))) (hb hby own_d_jdk_72_method_26_code_3) hr
  · show Q_rm_mof Z _ h0 n0 _ T1.heap _
    rw [e1]
    exact ⟨rfl, N0, rfl⟩
theorem own_ef_rm_mco (m : MethodId) (x0 : Addr) : entryFrame m #[(.ref x0)] 1 = mkF m 0 #[.val (.ref x0)] [] := by first | (simp [entryFrame, mkF, argsToLocals, Value.category]; done) | rfl
theorem own_d_jdk_72_method_39_code_0 : decode jdk_72_method_39_code 0 = .ok (.aload_n 0, 1) := by decide +kernel
theorem own_d_jdk_72_method_39_code_1 : decode jdk_72_method_39_code 1 = .ok (.instanceof 101, 3) := by decide +kernel
theorem own_d_jdk_72_method_39_code_4 : decode jdk_72_method_39_code 4 = .ok (.ifCond .eq 5, 3) := by decide +kernel
theorem own_d_jdk_72_method_39_code_7 : decode jdk_72_method_39_code 7 = .ok (.aload_n 0, 1) := by decide +kernel
theorem own_d_jdk_72_method_39_code_8 : decode jdk_72_method_39_code 8 = .ok (.areturn, 1) := by decide +kernel
def Q_rm_mco (Z : State) (w_EM : Addr) (h0 : Heap) (n0 : Nat) (v : Option Value) (h : Heap) (L : List Loc) : Prop := v = some (.ref w_EM) ∧ Fr n0 L ∧ h = h0
set_option maxRecDepth 65536 in
set_option maxHeartbeats 40000000 in
theorem rm_mco (l : Launch) (Z : State) (a0 : Array Value) (hw : ∀ d ∈ tables_1, d.before a0 Z = true) (ws : List Jvm.Cond) (w_EM : Addr) (S_EM : Sta Z Z.heap "java/util/ImmutableCollections" "EMPTY_MAP" "Ljava/util/ImmutableCollections$MapN;" (.ref w_EM)) (X_EM : Exa Z Z.heap w_EM "java/util/ImmutableCollections$MapN") (h0 : Heap) (n0 : Nat) (X00 : Old Z n0 h0)  :
    MetFree l (⟨"java/util/Map", "copyOf", "(Ljava/util/Map;)Ljava/util/Map;"⟩ : MethodName) (head1 (Jvm.Cond.code (⟨"java/util/Map", "copyOf", "(Ljava/util/Map;)Ljava/util/Map;"⟩ : MethodName) jdk_72_method_39_code 1 (some (.object "java/util/Map")) :: ws) ({ frames := 0, cells := 0, slots := 0, locals := 0 } : Room)) (fun a U => a = #[(.ref w_EM)] ∧ Z.Warmed39 U.vm ∧ U.heap = h0) (fun _ _ _ _ _ => True) (fun _ U o U' => ∃ v L, o = .returned v ∧ Q_rm_mco Z w_EM h0 n0 v U'.heap L ∧ FrameEnd U o U' L ({ frames := 0, cells := 0, slots := 0, locals := 0 } : Room).cells ({ frames := 0, cells := 0, slots := 0, locals := 0 } : Room).slots) := by
  refine MetFree.of_bodySF (plainFor_of_name own_pn0) hisR ?_
  intro p e s m args below meth c s₁ Bd hml0 hP hK
  obtain ⟨rfl, hZ, hh⟩ := hP
  have hx := Bd.exec
  have hby := Bd.bytes
  have hml : c.maxLocals = 1 := hml0
  have hown : s.vm.findClass "java/util/Map" = some m.cls := findClass_of_methodNamed Bd.named
  have hnm := (name_of_methodNamed Bd.named Bd.method).1
  have X0 : Stand p l e ({ frames := 0, cells := 0, slots := 0, locals := 0 } : Room) s m #[(.ref w_EM)] below meth c s₁ [] 0 0 := Stand.of_body Bd
  have e0 : s₁.heap = h0 := by rw [← hh, Bd.state]; rfl
  have N0 := Fr.nil n0
  refine Go.start fun P hPend => ?_
  refine Go.st (fun _ k => castTop (own_ef_rm_mco m w_EM) k) ?_
  show Go p.tables e below P (s₁.setTop (mkF m 0 #[.val (.ref w_EM)] []))
  refine Go.st (fun _ => XS.aloadN X0.here hx rfl (hb hby own_d_jdk_72_method_39_code_0) rfl rfl) ?_
  show Go p.tables e below P (s₁.setTop (mkF m 1 #[.val (.ref w_EM)] [(.ref w_EM)]))
  obtain ⟨T1, X1, e1, st1⟩ := instY X0 hx hZ hown (hw _ (List.mem_of_getElem? (i := 43) rfl)) e0 (Ins.of_exa (X_EM.ext X00.2) (hw _ (List.mem_of_getElem? (i := 44) rfl))) (g := (mkF m 1 #[.val (.ref w_EM)] [(.ref w_EM)])) rfl rfl (hb hby own_d_jdk_72_method_39_code_1)
  refine Go.st st1 ?_
  show Go p.tables e below P (T1.setTop (mkF m 4 #[.val (.ref w_EM)] [(.int (1 : Int32))]))
  refine Go.st (fun _ => XS.ifNo X1.here hx rfl (hb hby own_d_jdk_72_method_39_code_4) rfl ((if0 _ _).trans (feq (by decide)).1)) ?_
  show Go p.tables e below P (T1.setTop (mkF m 7 #[.val (.ref w_EM)] []))
  refine Go.st (fun _ => XS.aloadN X1.here hx rfl (hb hby own_d_jdk_72_method_39_code_7) rfl rfl) ?_
  show Go p.tables e below P (T1.setTop (mkF m 8 #[.val (.ref w_EM)] [(.ref w_EM)]))
  obtain ⟨fs, hr, hrun, hended, hW, hsame⟩ := X1.leave (v := some (.ref w_EM)) (fun h => by rw [Bd.returns] at h; cases h)
  refine ⟨_, ?_, hPend _ _ hrun hended ⟨_, _, rfl, ?_, ⟨_, rfl⟩, hW, hsame.mono (by decide) (by decide)⟩⟩
  · exact retOut X1 hx (t := (.object "java/util/Map")) Bd.returns rfl (Or.inr (Or.inr (Or.inr (Or.inr ⟨rfl, rfl, rfl⟩)))) (hb hby own_d_jdk_72_method_39_code_8) hr
  · show Q_rm_mco Z _ h0 n0 _ T1.heap _
    rw [e1]
    exact ⟨rfl, N0, rfl⟩
theorem own_ef_rm_tin (m : MethodId) (x0 : Addr) (x2 : Addr) (x3 : Int32) (x4 : Addr) (x5 : Addr) (x6 : Addr) (x7 : Addr) (x8 : Int32) (x9 : Addr) : entryFrame m #[(.ref x0), .null, (.ref x2), (.int x3), (.ref x4), (.ref x5), (.ref x6), (.ref x7), (.int x8), (.ref x9)] 10 = mkF m 0 #[.val (.ref x0), .val .null, .val (.ref x2), .val (.int x3), .val (.ref x4), .val (.ref x5), .val (.ref x6), .val (.ref x7), .val (.int x8), .val (.ref x9)] [] := by first | (simp [entryFrame, mkF, argsToLocals, Value.category]; done) | rfl
theorem own_pn1 : plainName "com/example/parametree/parametree/Tree" = true := by first | (simp [plainName, overriddenIn]; done) | decide +kernel
theorem own_d_prog_64_method_1_code_0 : decode prog_64_method_1_code 0 = .ok (.aload_n 0, 1) := by decide +kernel
theorem own_d_prog_64_method_1_code_1 : decode prog_64_method_1_code 1 = .ok (.invokespecial 1, 3) := by decide +kernel
theorem own_d_prog_64_method_1_code_4 : decode prog_64_method_1_code 4 = .ok (.aload_n 0, 1) := by decide +kernel
theorem own_d_prog_64_method_1_code_5 : decode prog_64_method_1_code 5 = .ok (.aload_n 1, 1) := by decide +kernel
theorem own_d_prog_64_method_1_code_6 : decode prog_64_method_1_code 6 = .ok (.putfield 7, 3) := by decide +kernel
theorem own_d_prog_64_method_1_code_9 : decode prog_64_method_1_code 9 = .ok (.aload_n 0, 1) := by decide +kernel
theorem own_d_prog_64_method_1_code_10 : decode prog_64_method_1_code 10 = .ok (.aload_n 2, 1) := by decide +kernel
theorem own_d_prog_64_method_1_code_11 : decode prog_64_method_1_code 11 = .ok (.putfield 13, 3) := by decide +kernel
theorem own_d_prog_64_method_1_code_14 : decode prog_64_method_1_code 14 = .ok (.aload_n 0, 1) := by decide +kernel
theorem own_d_prog_64_method_1_code_15 : decode prog_64_method_1_code 15 = .ok (.iload_n 3, 1) := by decide +kernel
theorem own_d_prog_64_method_1_code_16 : decode prog_64_method_1_code 16 = .ok (.putfield 17, 3) := by decide +kernel
theorem own_d_prog_64_method_1_code_19 : decode prog_64_method_1_code 19 = .ok (.aload_n 0, 1) := by decide +kernel
theorem own_d_prog_64_method_1_code_20 : decode prog_64_method_1_code 20 = .ok (.aload 4, 2) := by decide +kernel
theorem own_d_prog_64_method_1_code_22 : decode prog_64_method_1_code 22 = .ok (.putfield 21, 3) := by decide +kernel
theorem own_d_prog_64_method_1_code_25 : decode prog_64_method_1_code 25 = .ok (.aload_n 0, 1) := by decide +kernel
theorem own_d_prog_64_method_1_code_26 : decode prog_64_method_1_code 26 = .ok (.aload 5, 2) := by decide +kernel
theorem own_d_prog_64_method_1_code_28 : decode prog_64_method_1_code 28 = .ok (.putfield 24, 3) := by decide +kernel
theorem own_d_prog_64_method_1_code_31 : decode prog_64_method_1_code 31 = .ok (.aload_n 0, 1) := by decide +kernel
theorem own_d_prog_64_method_1_code_32 : decode prog_64_method_1_code 32 = .ok (.aload 6, 2) := by decide +kernel
theorem own_d_prog_64_method_1_code_34 : decode prog_64_method_1_code 34 = .ok (.putfield 27, 3) := by decide +kernel
theorem own_d_prog_64_method_1_code_37 : decode prog_64_method_1_code 37 = .ok (.aload_n 0, 1) := by decide +kernel
theorem own_d_prog_64_method_1_code_38 : decode prog_64_method_1_code 38 = .ok (.aload 7, 2) := by decide +kernel
theorem own_d_prog_64_method_1_code_40 : decode prog_64_method_1_code 40 = .ok (.putfield 30, 3) := by decide +kernel
theorem own_d_prog_64_method_1_code_43 : decode prog_64_method_1_code 43 = .ok (.aload_n 0, 1) := by decide +kernel
theorem own_d_prog_64_method_1_code_44 : decode prog_64_method_1_code 44 = .ok (.iload 8, 2) := by decide +kernel
theorem own_d_prog_64_method_1_code_46 : decode prog_64_method_1_code 46 = .ok (.putfield 33, 3) := by decide +kernel
theorem own_d_prog_64_method_1_code_49 : decode prog_64_method_1_code 49 = .ok (.aload_n 0, 1) := by decide +kernel
theorem own_d_prog_64_method_1_code_50 : decode prog_64_method_1_code 50 = .ok (.aload 9, 2) := by decide +kernel
theorem own_d_prog_64_method_1_code_52 : decode prog_64_method_1_code 52 = .ok (.invokestatic 36, 3) := by decide +kernel
theorem own_pd0 : parseMethodDescriptor "(Ljava/util/Map;)Ljava/util/Map;" = some ⟨[(.object "java/util/Map")], some (.object "java/util/Map")⟩ := by decide +kernel
theorem own_d_prog_64_method_1_code_55 : decode prog_64_method_1_code 55 = .ok (.putfield 42, 3) := by decide +kernel
theorem own_d_prog_64_method_1_code_58 : decode prog_64_method_1_code 58 = .ok (.return_, 1) := by decide +kernel
def Q_rm_tin (Z : State) (w_EM : Addr) (p0 : Addr) (p2 : Addr) (p3 : Int32) (p4 : Addr) (p5 : Addr) (p6 : Addr) (p7 : Addr) (p8 : Int32) (h0 : Heap) (n0 : Nat) (v : Option Value) (h : Heap) (L : List Loc) : Prop := v = none ∧ Fr n0 L ∧ Keep h0 h [p0] ∧ Exa Z h p0 "com/example/parametree/parametree/Tree" ∧ Fld Z h p0 "com/example/parametree/parametree/Tree" "parents" "[I" (.ref p2) ∧ Fld Z h p0 "com/example/parametree/parametree/Tree" "preorder" "[I" (.ref p6) ∧ Fld Z h p0 "com/example/parametree/parametree/Tree" "depths" "[I" (.ref p7) ∧ Fld Z h p0 "com/example/parametree/parametree/Tree" "height" "I" (.int p8)
set_option maxRecDepth 65536 in
set_option maxHeartbeats 40000000 in
theorem rm_tin (l : Launch) (Z : State) (a0 : Array Value) (hw : ∀ d ∈ tables_1, d.before a0 Z = true) (ws : List Jvm.Cond) (w_EM : Addr) (S_EM : Sta Z Z.heap "java/util/ImmutableCollections" "EMPTY_MAP" "Ljava/util/ImmutableCollections$MapN;" (.ref w_EM)) (X_EM : Exa Z Z.heap w_EM "java/util/ImmutableCollections$MapN") (p0 : Addr) (p2 : Addr) (p3 : Int32) (p4 : Addr) (p5 : Addr) (p6 : Addr) (p7 : Addr) (p8 : Int32) (h0 : Heap) (n0 : Nat) (X00 : Old Z n0 h0) (hp0 : Exa Z h0 p0 "com/example/parametree/parametree/Tree") (hp1 : Fld Z h0 p0 "com/example/parametree/parametree/Tree" "ids" "Lcom/example/parametree/parametree/Ids;" .null) (hp2 : Fld Z h0 p0 "com/example/parametree/parametree/Tree" "parents" "[I" .null) (hp3 : Fld Z h0 p0 "com/example/parametree/parametree/Tree" "root" "I" (.int (0 : Int32))) (hp4 : Fld Z h0 p0 "com/example/parametree/parametree/Tree" "childStart" "[I" .null) (hp5 : Fld Z h0 p0 "com/example/parametree/parametree/Tree" "children" "[I" .null) (hp6 : Fld Z h0 p0 "com/example/parametree/parametree/Tree" "preorder" "[I" .null) (hp7 : Fld Z h0 p0 "com/example/parametree/parametree/Tree" "depths" "[I" .null) (hp8 : Fld Z h0 p0 "com/example/parametree/parametree/Tree" "height" "I" (.int (0 : Int32))) (hp9 : Fld Z h0 p0 "com/example/parametree/parametree/Tree" "columns" "Ljava/util/Map;" .null) (hp10 : n0 ≤ p0) :
    MetFree l (⟨"com/example/parametree/parametree/Tree", "<init>", "(Lcom/example/parametree/parametree/Ids;[II[I[I[I[IILjava/util/Map;)V"⟩ : MethodName) (head1 (Jvm.Cond.code (⟨"com/example/parametree/parametree/Tree", "<init>", "(Lcom/example/parametree/parametree/Ids;[II[I[I[I[IILjava/util/Map;)V"⟩ : MethodName) prog_64_method_1_code 10 none :: ws) ({ frames := 1, cells := 0, slots := 0, locals := 13 } : Room)) (fun a U => a = #[(.ref p0), .null, (.ref p2), (.int p3), (.ref p4), (.ref p5), (.ref p6), (.ref p7), (.int p8), (.ref w_EM)] ∧ Z.Warmed39 U.vm ∧ U.heap = h0) (fun _ _ _ _ _ => True) (fun _ U o U' => ∃ v L, o = .returned v ∧ Q_rm_tin Z w_EM p0 p2 p3 p4 p5 p6 p7 p8 h0 n0 v U'.heap L ∧ FrameEnd U o U' L ({ frames := 1, cells := 0, slots := 0, locals := 13 } : Room).cells ({ frames := 1, cells := 0, slots := 0, locals := 13 } : Room).slots) := by
  refine MetFree.of_bodySF (plainFor_of_name own_pn1) hisR ?_
  intro p e s m args below meth c s₁ Bd hml0 hP hK
  obtain ⟨rfl, hZ, hh⟩ := hP
  have hx := Bd.exec
  have hby := Bd.bytes
  have hml : c.maxLocals = 10 := hml0
  have hown : s.vm.findClass "com/example/parametree/parametree/Tree" = some m.cls := findClass_of_methodNamed Bd.named
  have hnm := (name_of_methodNamed Bd.named Bd.method).1
  have X0 : Stand p l e ({ frames := 1, cells := 0, slots := 0, locals := 13 } : Room) s m #[(.ref p0), .null, (.ref p2), (.int p3), (.ref p4), (.ref p5), (.ref p6), (.ref p7), (.int p8), (.ref w_EM)] below meth c s₁ [] 0 0 := Stand.of_body Bd
  have e0 : s₁.heap = h0 := by rw [← hh, Bd.state]; rfl
  have N0 := Fr.nil n0
  refine Go.start fun P hPend => ?_
  refine Go.st (fun _ k => castTop (own_ef_rm_tin m p0 p2 p3 p4 p5 p6 p7 p8 w_EM) k) ?_
  show Go p.tables e below P (s₁.setTop (mkF m 0 #[.val (.ref p0), .val .null, .val (.ref p2), .val (.int p3), .val (.ref p4), .val (.ref p5), .val (.ref p6), .val (.ref p7), .val (.int p8), .val (.ref w_EM)] []))
  refine Go.st (fun _ => XS.aloadN X0.here hx rfl (hb hby own_d_prog_64_method_1_code_0) rfl rfl) ?_
  show Go p.tables e below P (s₁.setTop (mkF m 1 #[.val (.ref p0), .val .null, .val (.ref p2), .val (.int p3), .val (.ref p4), .val (.ref p5), .val (.ref p6), .val (.ref p7), .val (.int p8), .val (.ref w_EM)] [(.ref p0)]))
  obtain ⟨T1, X1, e1, st1⟩ := initO X0 hx hZ hown (hw _ (List.mem_of_getElem? (i := 21) rfl)) (hw _ (List.mem_of_getElem? (i := 22) rfl)) (hw _ (List.mem_of_getElem? (i := 23) rfl)) e0 (g := (mkF m 1 #[.val (.ref p0), .val .null, .val (.ref p2), .val (.int p3), .val (.ref p4), .val (.ref p5), .val (.ref p6), .val (.ref p7), .val (.int p8), .val (.ref w_EM)] [(.ref p0)])) rfl (by rw [hml]; rfl) rfl (hb hby own_d_prog_64_method_1_code_1) (by decide) (W := 0) (by show 2 * 0 + _ ≤ _; exact Nat.le_of_eq rfl) (by decide)
  refine Go.st st1 ?_
  show Go p.tables e below P (T1.setTop (mkF m 4 #[.val (.ref p0), .val .null, .val (.ref p2), .val (.int p3), .val (.ref p4), .val (.ref p5), .val (.ref p6), .val (.ref p7), .val (.int p8), .val (.ref w_EM)] []))
  refine Go.st (fun _ => XS.aloadN X1.here hx rfl (hb hby own_d_prog_64_method_1_code_4) rfl rfl) ?_
  show Go p.tables e below P (T1.setTop (mkF m 5 #[.val (.ref p0), .val .null, .val (.ref p2), .val (.int p3), .val (.ref p4), .val (.ref p5), .val (.ref p6), .val (.ref p7), .val (.int p8), .val (.ref w_EM)] [(.ref p0)]))
  refine Go.st (fun _ => XS.aloadN X1.here hx rfl (hb hby own_d_prog_64_method_1_code_5) rfl rfl) ?_
  show Go p.tables e below P (T1.setTop (mkF m 6 #[.val (.ref p0), .val .null, .val (.ref p2), .val (.int p3), .val (.ref p4), .val (.ref p5), .val (.ref p6), .val (.ref p7), .val (.int p8), .val (.ref w_EM)] [.null, (.ref p0)]))
  obtain ⟨T2, h2, X2, e2, W2, st2⟩ := putF X1 hx hZ hown (host := "") (Or.inl (hw _ (List.mem_of_getElem? (i := 24) rfl))) Via.refl e1 hp1 hp0 (Or.inr ⟨(hw _ (List.mem_of_getElem? (i := 25) rfl)), rfl, hnm⟩) (hw _ (List.mem_of_getElem? (i := 10) rfl)) (ty := (.object "com/example/parametree/parametree/Ids")) (by decide) rfl rfl (g := (mkF m 6 #[.val (.ref p0), .val .null, .val (.ref p2), .val (.int p3), .val (.ref p4), .val (.ref p5), .val (.ref p6), .val (.ref p7), .val (.int p8), .val (.ref w_EM)] [.null, (.ref p0)])) rfl rfl (hb hby own_d_prog_64_method_1_code_6)
  refine Go.st st2 ?_
  have K2 : Keep h0 h2 [p0] := (Keep.refl h0 [p0]).wr W2 (Or.inl (List.mem_of_getElem? (i := 0) rfl))
  have O2 := X00.wr W2 hp10
  have N2 := Fr.snoc X2 N0 hp10
  have F2 := hp1.same W2
  show Go p.tables e below P (T2.setTop (mkF m 9 #[.val (.ref p0), .val .null, .val (.ref p2), .val (.int p3), .val (.ref p4), .val (.ref p5), .val (.ref p6), .val (.ref p7), .val (.int p8), .val (.ref w_EM)] []))
  refine Go.st (fun _ => XS.aloadN X2.here hx rfl (hb hby own_d_prog_64_method_1_code_9) rfl rfl) ?_
  show Go p.tables e below P (T2.setTop (mkF m 10 #[.val (.ref p0), .val .null, .val (.ref p2), .val (.int p3), .val (.ref p4), .val (.ref p5), .val (.ref p6), .val (.ref p7), .val (.int p8), .val (.ref w_EM)] [(.ref p0)]))
  refine Go.st (fun _ => XS.aloadN X2.here hx rfl (hb hby own_d_prog_64_method_1_code_10) rfl rfl) ?_
  show Go p.tables e below P (T2.setTop (mkF m 11 #[.val (.ref p0), .val .null, .val (.ref p2), .val (.int p3), .val (.ref p4), .val (.ref p5), .val (.ref p6), .val (.ref p7), .val (.int p8), .val (.ref w_EM)] [(.ref p2), (.ref p0)]))
  have c3 := (hp2.other W2 (Or.inr (slot_ne (Or.inr (hw _ (List.mem_of_getElem? (i := 27) rfl))) (Or.inr (hw _ (List.mem_of_getElem? (i := 25) rfl))) (by decide) (t := (.array .int)) (t' := (.object "com/example/parametree/parametree/Ids")) (by decide) (by decide))))
  have c4 := (hp0.wr W2)
  obtain ⟨T5, h5, X5, e5, W5, st5⟩ := putF X2 hx hZ hown (host := "") (Or.inl (hw _ (List.mem_of_getElem? (i := 26) rfl))) Via.refl e2 c3 c4 (Or.inr ⟨(hw _ (List.mem_of_getElem? (i := 27) rfl)), rfl, hnm⟩) (hw _ (List.mem_of_getElem? (i := 10) rfl)) (ty := (.array .int)) (by decide) rfl rfl (g := (mkF m 11 #[.val (.ref p0), .val .null, .val (.ref p2), .val (.int p3), .val (.ref p4), .val (.ref p5), .val (.ref p6), .val (.ref p7), .val (.int p8), .val (.ref w_EM)] [(.ref p2), (.ref p0)])) rfl rfl (hb hby own_d_prog_64_method_1_code_11)
  refine Go.st st5 ?_
  have K5 : Keep h0 h5 [p0] := K2.wr W5 (Or.inl (List.mem_of_getElem? (i := 0) rfl))
  have O5 := O2.wr W5 hp10
  have N5 := Fr.snoc X5 N2 hp10
  have F5 := c3.same W5
  show Go p.tables e below P (T5.setTop (mkF m 14 #[.val (.ref p0), .val .null, .val (.ref p2), .val (.int p3), .val (.ref p4), .val (.ref p5), .val (.ref p6), .val (.ref p7), .val (.int p8), .val (.ref w_EM)] []))
  refine Go.st (fun _ => XS.aloadN X5.here hx rfl (hb hby own_d_prog_64_method_1_code_14) rfl rfl) ?_
  show Go p.tables e below P (T5.setTop (mkF m 15 #[.val (.ref p0), .val .null, .val (.ref p2), .val (.int p3), .val (.ref p4), .val (.ref p5), .val (.ref p6), .val (.ref p7), .val (.int p8), .val (.ref w_EM)] [(.ref p0)]))
  refine Go.st (fun _ => XS.iloadN X5.here hx rfl (hb hby own_d_prog_64_method_1_code_15) rfl) ?_
  show Go p.tables e below P (T5.setTop (mkF m 16 #[.val (.ref p0), .val .null, .val (.ref p2), .val (.int p3), .val (.ref p4), .val (.ref p5), .val (.ref p6), .val (.ref p7), .val (.int p8), .val (.ref w_EM)] [(.int p3), (.ref p0)]))
  have c6 := ((hp3.other W2 (Or.inr (slot_ne (Or.inr (hw _ (List.mem_of_getElem? (i := 29) rfl))) (Or.inr (hw _ (List.mem_of_getElem? (i := 25) rfl))) (by decide) (t := .int) (t' := (.object "com/example/parametree/parametree/Ids")) (by decide) (by decide)))).other W5 (Or.inr (slot_ne (Or.inr (hw _ (List.mem_of_getElem? (i := 29) rfl))) (Or.inr (hw _ (List.mem_of_getElem? (i := 27) rfl))) (by decide) (t := .int) (t' := (.array .int)) (by decide) (by decide))))
  have c7 := (c4.wr W5)
  obtain ⟨T8, h8, X8, e8, W8, st8⟩ := putF X5 hx hZ hown (host := "") (Or.inl (hw _ (List.mem_of_getElem? (i := 28) rfl))) Via.refl e5 c6 c7 (Or.inr ⟨(hw _ (List.mem_of_getElem? (i := 29) rfl)), rfl, hnm⟩) (hw _ (List.mem_of_getElem? (i := 10) rfl)) (ty := .int) (by decide) rfl rfl (g := (mkF m 16 #[.val (.ref p0), .val .null, .val (.ref p2), .val (.int p3), .val (.ref p4), .val (.ref p5), .val (.ref p6), .val (.ref p7), .val (.int p8), .val (.ref w_EM)] [(.int p3), (.ref p0)])) rfl rfl (hb hby own_d_prog_64_method_1_code_16)
  refine Go.st st8 ?_
  have K8 : Keep h0 h8 [p0] := K5.wr W8 (Or.inl (List.mem_of_getElem? (i := 0) rfl))
  have O8 := O5.wr W8 hp10
  have N8 := Fr.snoc X8 N5 hp10
  have F8 := c6.same W8
  show Go p.tables e below P (T8.setTop (mkF m 19 #[.val (.ref p0), .val .null, .val (.ref p2), .val (.int p3), .val (.ref p4), .val (.ref p5), .val (.ref p6), .val (.ref p7), .val (.int p8), .val (.ref w_EM)] []))
  refine Go.st (fun _ => XS.aloadN X8.here hx rfl (hb hby own_d_prog_64_method_1_code_19) rfl rfl) ?_
  show Go p.tables e below P (T8.setTop (mkF m 20 #[.val (.ref p0), .val .null, .val (.ref p2), .val (.int p3), .val (.ref p4), .val (.ref p5), .val (.ref p6), .val (.ref p7), .val (.int p8), .val (.ref w_EM)] [(.ref p0)]))
  refine Go.st (fun _ => XS.aload X8.here hx rfl (hb hby own_d_prog_64_method_1_code_20) rfl rfl) ?_
  show Go p.tables e below P (T8.setTop (mkF m 22 #[.val (.ref p0), .val .null, .val (.ref p2), .val (.int p3), .val (.ref p4), .val (.ref p5), .val (.ref p6), .val (.ref p7), .val (.int p8), .val (.ref w_EM)] [(.ref p4), (.ref p0)]))
  have c9 := (((hp4.other W2 (Or.inr (slot_ne (Or.inr (hw _ (List.mem_of_getElem? (i := 31) rfl))) (Or.inr (hw _ (List.mem_of_getElem? (i := 25) rfl))) (by decide) (t := (.array .int)) (t' := (.object "com/example/parametree/parametree/Ids")) (by decide) (by decide)))).other W5 (Or.inr (slot_ne (Or.inr (hw _ (List.mem_of_getElem? (i := 31) rfl))) (Or.inr (hw _ (List.mem_of_getElem? (i := 27) rfl))) (by decide) (t := (.array .int)) (t' := (.array .int)) (by decide) (by decide)))).other W8 (Or.inr (slot_ne (Or.inr (hw _ (List.mem_of_getElem? (i := 31) rfl))) (Or.inr (hw _ (List.mem_of_getElem? (i := 29) rfl))) (by decide) (t := (.array .int)) (t' := .int) (by decide) (by decide))))
  have c10 := (c7.wr W8)
  obtain ⟨T11, h11, X11, e11, W11, st11⟩ := putF X8 hx hZ hown (host := "") (Or.inl (hw _ (List.mem_of_getElem? (i := 30) rfl))) Via.refl e8 c9 c10 (Or.inr ⟨(hw _ (List.mem_of_getElem? (i := 31) rfl)), rfl, hnm⟩) (hw _ (List.mem_of_getElem? (i := 10) rfl)) (ty := (.array .int)) (by decide) rfl rfl (g := (mkF m 22 #[.val (.ref p0), .val .null, .val (.ref p2), .val (.int p3), .val (.ref p4), .val (.ref p5), .val (.ref p6), .val (.ref p7), .val (.int p8), .val (.ref w_EM)] [(.ref p4), (.ref p0)])) rfl rfl (hb hby own_d_prog_64_method_1_code_22)
  refine Go.st st11 ?_
  have K11 : Keep h0 h11 [p0] := K8.wr W11 (Or.inl (List.mem_of_getElem? (i := 0) rfl))
  have O11 := O8.wr W11 hp10
  have N11 := Fr.snoc X11 N8 hp10
  have F11 := c9.same W11
  show Go p.tables e below P (T11.setTop (mkF m 25 #[.val (.ref p0), .val .null, .val (.ref p2), .val (.int p3), .val (.ref p4), .val (.ref p5), .val (.ref p6), .val (.ref p7), .val (.int p8), .val (.ref w_EM)] []))
  refine Go.st (fun _ => XS.aloadN X11.here hx rfl (hb hby own_d_prog_64_method_1_code_25) rfl rfl) ?_
  show Go p.tables e below P (T11.setTop (mkF m 26 #[.val (.ref p0), .val .null, .val (.ref p2), .val (.int p3), .val (.ref p4), .val (.ref p5), .val (.ref p6), .val (.ref p7), .val (.int p8), .val (.ref w_EM)] [(.ref p0)]))
  refine Go.st (fun _ => XS.aload X11.here hx rfl (hb hby own_d_prog_64_method_1_code_26) rfl rfl) ?_
  show Go p.tables e below P (T11.setTop (mkF m 28 #[.val (.ref p0), .val .null, .val (.ref p2), .val (.int p3), .val (.ref p4), .val (.ref p5), .val (.ref p6), .val (.ref p7), .val (.int p8), .val (.ref w_EM)] [(.ref p5), (.ref p0)]))
  have c12 := ((((hp5.other W2 (Or.inr (slot_ne (Or.inr (hw _ (List.mem_of_getElem? (i := 33) rfl))) (Or.inr (hw _ (List.mem_of_getElem? (i := 25) rfl))) (by decide) (t := (.array .int)) (t' := (.object "com/example/parametree/parametree/Ids")) (by decide) (by decide)))).other W5 (Or.inr (slot_ne (Or.inr (hw _ (List.mem_of_getElem? (i := 33) rfl))) (Or.inr (hw _ (List.mem_of_getElem? (i := 27) rfl))) (by decide) (t := (.array .int)) (t' := (.array .int)) (by decide) (by decide)))).other W8 (Or.inr (slot_ne (Or.inr (hw _ (List.mem_of_getElem? (i := 33) rfl))) (Or.inr (hw _ (List.mem_of_getElem? (i := 29) rfl))) (by decide) (t := (.array .int)) (t' := .int) (by decide) (by decide)))).other W11 (Or.inr (slot_ne (Or.inr (hw _ (List.mem_of_getElem? (i := 33) rfl))) (Or.inr (hw _ (List.mem_of_getElem? (i := 31) rfl))) (by decide) (t := (.array .int)) (t' := (.array .int)) (by decide) (by decide))))
  have c13 := (c10.wr W11)
  obtain ⟨T14, h14, X14, e14, W14, st14⟩ := putF X11 hx hZ hown (host := "") (Or.inl (hw _ (List.mem_of_getElem? (i := 32) rfl))) Via.refl e11 c12 c13 (Or.inr ⟨(hw _ (List.mem_of_getElem? (i := 33) rfl)), rfl, hnm⟩) (hw _ (List.mem_of_getElem? (i := 10) rfl)) (ty := (.array .int)) (by decide) rfl rfl (g := (mkF m 28 #[.val (.ref p0), .val .null, .val (.ref p2), .val (.int p3), .val (.ref p4), .val (.ref p5), .val (.ref p6), .val (.ref p7), .val (.int p8), .val (.ref w_EM)] [(.ref p5), (.ref p0)])) rfl rfl (hb hby own_d_prog_64_method_1_code_28)
  refine Go.st st14 ?_
  have K14 : Keep h0 h14 [p0] := K11.wr W14 (Or.inl (List.mem_of_getElem? (i := 0) rfl))
  have O14 := O11.wr W14 hp10
  have N14 := Fr.snoc X14 N11 hp10
  have F14 := c12.same W14
  show Go p.tables e below P (T14.setTop (mkF m 31 #[.val (.ref p0), .val .null, .val (.ref p2), .val (.int p3), .val (.ref p4), .val (.ref p5), .val (.ref p6), .val (.ref p7), .val (.int p8), .val (.ref w_EM)] []))
  refine Go.st (fun _ => XS.aloadN X14.here hx rfl (hb hby own_d_prog_64_method_1_code_31) rfl rfl) ?_
  show Go p.tables e below P (T14.setTop (mkF m 32 #[.val (.ref p0), .val .null, .val (.ref p2), .val (.int p3), .val (.ref p4), .val (.ref p5), .val (.ref p6), .val (.ref p7), .val (.int p8), .val (.ref w_EM)] [(.ref p0)]))
  refine Go.st (fun _ => XS.aload X14.here hx rfl (hb hby own_d_prog_64_method_1_code_32) rfl rfl) ?_
  show Go p.tables e below P (T14.setTop (mkF m 34 #[.val (.ref p0), .val .null, .val (.ref p2), .val (.int p3), .val (.ref p4), .val (.ref p5), .val (.ref p6), .val (.ref p7), .val (.int p8), .val (.ref w_EM)] [(.ref p6), (.ref p0)]))
  have c15 := (((((hp6.other W2 (Or.inr (slot_ne (Or.inr (hw _ (List.mem_of_getElem? (i := 35) rfl))) (Or.inr (hw _ (List.mem_of_getElem? (i := 25) rfl))) (by decide) (t := (.array .int)) (t' := (.object "com/example/parametree/parametree/Ids")) (by decide) (by decide)))).other W5 (Or.inr (slot_ne (Or.inr (hw _ (List.mem_of_getElem? (i := 35) rfl))) (Or.inr (hw _ (List.mem_of_getElem? (i := 27) rfl))) (by decide) (t := (.array .int)) (t' := (.array .int)) (by decide) (by decide)))).other W8 (Or.inr (slot_ne (Or.inr (hw _ (List.mem_of_getElem? (i := 35) rfl))) (Or.inr (hw _ (List.mem_of_getElem? (i := 29) rfl))) (by decide) (t := (.array .int)) (t' := .int) (by decide) (by decide)))).other W11 (Or.inr (slot_ne (Or.inr (hw _ (List.mem_of_getElem? (i := 35) rfl))) (Or.inr (hw _ (List.mem_of_getElem? (i := 31) rfl))) (by decide) (t := (.array .int)) (t' := (.array .int)) (by decide) (by decide)))).other W14 (Or.inr (slot_ne (Or.inr (hw _ (List.mem_of_getElem? (i := 35) rfl))) (Or.inr (hw _ (List.mem_of_getElem? (i := 33) rfl))) (by decide) (t := (.array .int)) (t' := (.array .int)) (by decide) (by decide))))
  have c16 := (c13.wr W14)
  obtain ⟨T17, h17, X17, e17, W17, st17⟩ := putF X14 hx hZ hown (host := "") (Or.inl (hw _ (List.mem_of_getElem? (i := 34) rfl))) Via.refl e14 c15 c16 (Or.inr ⟨(hw _ (List.mem_of_getElem? (i := 35) rfl)), rfl, hnm⟩) (hw _ (List.mem_of_getElem? (i := 10) rfl)) (ty := (.array .int)) (by decide) rfl rfl (g := (mkF m 34 #[.val (.ref p0), .val .null, .val (.ref p2), .val (.int p3), .val (.ref p4), .val (.ref p5), .val (.ref p6), .val (.ref p7), .val (.int p8), .val (.ref w_EM)] [(.ref p6), (.ref p0)])) rfl rfl (hb hby own_d_prog_64_method_1_code_34)
  refine Go.st st17 ?_
  have K17 : Keep h0 h17 [p0] := K14.wr W17 (Or.inl (List.mem_of_getElem? (i := 0) rfl))
  have O17 := O14.wr W17 hp10
  have N17 := Fr.snoc X17 N14 hp10
  have F17 := c15.same W17
  show Go p.tables e below P (T17.setTop (mkF m 37 #[.val (.ref p0), .val .null, .val (.ref p2), .val (.int p3), .val (.ref p4), .val (.ref p5), .val (.ref p6), .val (.ref p7), .val (.int p8), .val (.ref w_EM)] []))
  refine Go.st (fun _ => XS.aloadN X17.here hx rfl (hb hby own_d_prog_64_method_1_code_37) rfl rfl) ?_
  show Go p.tables e below P (T17.setTop (mkF m 38 #[.val (.ref p0), .val .null, .val (.ref p2), .val (.int p3), .val (.ref p4), .val (.ref p5), .val (.ref p6), .val (.ref p7), .val (.int p8), .val (.ref w_EM)] [(.ref p0)]))
  refine Go.st (fun _ => XS.aload X17.here hx rfl (hb hby own_d_prog_64_method_1_code_38) rfl rfl) ?_
  show Go p.tables e below P (T17.setTop (mkF m 40 #[.val (.ref p0), .val .null, .val (.ref p2), .val (.int p3), .val (.ref p4), .val (.ref p5), .val (.ref p6), .val (.ref p7), .val (.int p8), .val (.ref w_EM)] [(.ref p7), (.ref p0)]))
  have c18 := ((((((hp7.other W2 (Or.inr (slot_ne (Or.inr (hw _ (List.mem_of_getElem? (i := 37) rfl))) (Or.inr (hw _ (List.mem_of_getElem? (i := 25) rfl))) (by decide) (t := (.array .int)) (t' := (.object "com/example/parametree/parametree/Ids")) (by decide) (by decide)))).other W5 (Or.inr (slot_ne (Or.inr (hw _ (List.mem_of_getElem? (i := 37) rfl))) (Or.inr (hw _ (List.mem_of_getElem? (i := 27) rfl))) (by decide) (t := (.array .int)) (t' := (.array .int)) (by decide) (by decide)))).other W8 (Or.inr (slot_ne (Or.inr (hw _ (List.mem_of_getElem? (i := 37) rfl))) (Or.inr (hw _ (List.mem_of_getElem? (i := 29) rfl))) (by decide) (t := (.array .int)) (t' := .int) (by decide) (by decide)))).other W11 (Or.inr (slot_ne (Or.inr (hw _ (List.mem_of_getElem? (i := 37) rfl))) (Or.inr (hw _ (List.mem_of_getElem? (i := 31) rfl))) (by decide) (t := (.array .int)) (t' := (.array .int)) (by decide) (by decide)))).other W14 (Or.inr (slot_ne (Or.inr (hw _ (List.mem_of_getElem? (i := 37) rfl))) (Or.inr (hw _ (List.mem_of_getElem? (i := 33) rfl))) (by decide) (t := (.array .int)) (t' := (.array .int)) (by decide) (by decide)))).other W17 (Or.inr (slot_ne (Or.inr (hw _ (List.mem_of_getElem? (i := 37) rfl))) (Or.inr (hw _ (List.mem_of_getElem? (i := 35) rfl))) (by decide) (t := (.array .int)) (t' := (.array .int)) (by decide) (by decide))))
  have c19 := (c16.wr W17)
  obtain ⟨T20, h20, X20, e20, W20, st20⟩ := putF X17 hx hZ hown (host := "") (Or.inl (hw _ (List.mem_of_getElem? (i := 36) rfl))) Via.refl e17 c18 c19 (Or.inr ⟨(hw _ (List.mem_of_getElem? (i := 37) rfl)), rfl, hnm⟩) (hw _ (List.mem_of_getElem? (i := 10) rfl)) (ty := (.array .int)) (by decide) rfl rfl (g := (mkF m 40 #[.val (.ref p0), .val .null, .val (.ref p2), .val (.int p3), .val (.ref p4), .val (.ref p5), .val (.ref p6), .val (.ref p7), .val (.int p8), .val (.ref w_EM)] [(.ref p7), (.ref p0)])) rfl rfl (hb hby own_d_prog_64_method_1_code_40)
  refine Go.st st20 ?_
  have K20 : Keep h0 h20 [p0] := K17.wr W20 (Or.inl (List.mem_of_getElem? (i := 0) rfl))
  have O20 := O17.wr W20 hp10
  have N20 := Fr.snoc X20 N17 hp10
  have F20 := c18.same W20
  show Go p.tables e below P (T20.setTop (mkF m 43 #[.val (.ref p0), .val .null, .val (.ref p2), .val (.int p3), .val (.ref p4), .val (.ref p5), .val (.ref p6), .val (.ref p7), .val (.int p8), .val (.ref w_EM)] []))
  refine Go.st (fun _ => XS.aloadN X20.here hx rfl (hb hby own_d_prog_64_method_1_code_43) rfl rfl) ?_
  show Go p.tables e below P (T20.setTop (mkF m 44 #[.val (.ref p0), .val .null, .val (.ref p2), .val (.int p3), .val (.ref p4), .val (.ref p5), .val (.ref p6), .val (.ref p7), .val (.int p8), .val (.ref w_EM)] [(.ref p0)]))
  refine Go.st (fun _ => XS.iload X20.here hx rfl (hb hby own_d_prog_64_method_1_code_44) rfl) ?_
  show Go p.tables e below P (T20.setTop (mkF m 46 #[.val (.ref p0), .val .null, .val (.ref p2), .val (.int p3), .val (.ref p4), .val (.ref p5), .val (.ref p6), .val (.ref p7), .val (.int p8), .val (.ref w_EM)] [(.int p8), (.ref p0)]))
  have c21 := (((((((hp8.other W2 (Or.inr (slot_ne (Or.inr (hw _ (List.mem_of_getElem? (i := 39) rfl))) (Or.inr (hw _ (List.mem_of_getElem? (i := 25) rfl))) (by decide) (t := .int) (t' := (.object "com/example/parametree/parametree/Ids")) (by decide) (by decide)))).other W5 (Or.inr (slot_ne (Or.inr (hw _ (List.mem_of_getElem? (i := 39) rfl))) (Or.inr (hw _ (List.mem_of_getElem? (i := 27) rfl))) (by decide) (t := .int) (t' := (.array .int)) (by decide) (by decide)))).other W8 (Or.inr (slot_ne (Or.inr (hw _ (List.mem_of_getElem? (i := 39) rfl))) (Or.inr (hw _ (List.mem_of_getElem? (i := 29) rfl))) (by decide) (t := .int) (t' := .int) (by decide) (by decide)))).other W11 (Or.inr (slot_ne (Or.inr (hw _ (List.mem_of_getElem? (i := 39) rfl))) (Or.inr (hw _ (List.mem_of_getElem? (i := 31) rfl))) (by decide) (t := .int) (t' := (.array .int)) (by decide) (by decide)))).other W14 (Or.inr (slot_ne (Or.inr (hw _ (List.mem_of_getElem? (i := 39) rfl))) (Or.inr (hw _ (List.mem_of_getElem? (i := 33) rfl))) (by decide) (t := .int) (t' := (.array .int)) (by decide) (by decide)))).other W17 (Or.inr (slot_ne (Or.inr (hw _ (List.mem_of_getElem? (i := 39) rfl))) (Or.inr (hw _ (List.mem_of_getElem? (i := 35) rfl))) (by decide) (t := .int) (t' := (.array .int)) (by decide) (by decide)))).other W20 (Or.inr (slot_ne (Or.inr (hw _ (List.mem_of_getElem? (i := 39) rfl))) (Or.inr (hw _ (List.mem_of_getElem? (i := 37) rfl))) (by decide) (t := .int) (t' := (.array .int)) (by decide) (by decide))))
  have c22 := (c19.wr W20)
  obtain ⟨T23, h23, X23, e23, W23, st23⟩ := putF X20 hx hZ hown (host := "") (Or.inl (hw _ (List.mem_of_getElem? (i := 38) rfl))) Via.refl e20 c21 c22 (Or.inr ⟨(hw _ (List.mem_of_getElem? (i := 39) rfl)), rfl, hnm⟩) (hw _ (List.mem_of_getElem? (i := 10) rfl)) (ty := .int) (by decide) rfl rfl (g := (mkF m 46 #[.val (.ref p0), .val .null, .val (.ref p2), .val (.int p3), .val (.ref p4), .val (.ref p5), .val (.ref p6), .val (.ref p7), .val (.int p8), .val (.ref w_EM)] [(.int p8), (.ref p0)])) rfl rfl (hb hby own_d_prog_64_method_1_code_46)
  refine Go.st st23 ?_
  have K23 : Keep h0 h23 [p0] := K20.wr W23 (Or.inl (List.mem_of_getElem? (i := 0) rfl))
  have O23 := O20.wr W23 hp10
  have N23 := Fr.snoc X23 N20 hp10
  have F23 := c21.same W23
  show Go p.tables e below P (T23.setTop (mkF m 49 #[.val (.ref p0), .val .null, .val (.ref p2), .val (.int p3), .val (.ref p4), .val (.ref p5), .val (.ref p6), .val (.ref p7), .val (.int p8), .val (.ref w_EM)] []))
  refine Go.st (fun _ => XS.aloadN X23.here hx rfl (hb hby own_d_prog_64_method_1_code_49) rfl rfl) ?_
  show Go p.tables e below P (T23.setTop (mkF m 50 #[.val (.ref p0), .val .null, .val (.ref p2), .val (.int p3), .val (.ref p4), .val (.ref p5), .val (.ref p6), .val (.ref p7), .val (.int p8), .val (.ref w_EM)] [(.ref p0)]))
  refine Go.st (fun _ => XS.aload X23.here hx rfl (hb hby own_d_prog_64_method_1_code_50) rfl rfl) ?_
  show Go p.tables e below P (T23.setTop (mkF m 52 #[.val (.ref p0), .val .null, .val (.ref p2), .val (.int p3), .val (.ref p4), .val (.ref p5), .val (.ref p6), .val (.ref p7), .val (.int p8), .val (.ref w_EM)] [(.ref w_EM), (.ref p0)]))
  obtain ⟨_, _, ⟨T24, L24, k24, n24⟩, -, X24, ⟨Lc24, hQ24, l24, y24, z24⟩, st24⟩ := Jvm.LawKit.callS X23 hx (y := (⟨"java/util/Map", "copyOf", "(Ljava/util/Map;)Ljava/util/Map;"⟩ : MethodName)) hown (mvT hZ (hw _ (List.mem_of_getElem? (i := 40) rfl))) (mvT hZ (hw _ (List.mem_of_getElem? (i := 41) rfl))) (mvT hZ (hw _ (List.mem_of_getElem? (i := 14) rfl))) (mvT hZ (hw _ (List.mem_of_getElem? (i := 42) rfl))) (by decide) (backOf (W := 1) (rm_mco l Z a0 hw [] w_EM S_EM X_EM h23 n0 O23 ) hZ (hw _ (List.mem_of_getElem? (i := 42) rfl)) (hw _ (List.mem_of_getElem? (i := 14) rfl)) (by decide) (by decide)) (g := (mkF m 52 #[.val (.ref p0), .val .null, .val (.ref p2), .val (.int p3), .val (.ref p4), .val (.ref p5), .val (.ref p6), .val (.ref p7), .val (.int p8), .val (.ref w_EM)] [(.ref w_EM), (.ref p0)])) rfl (by rw [hml]; rfl) (argsL := [(.ref w_EM)]) (rest := [(.ref p0)]) (lenOf own_pd0 rfl) rfl (by show 2 * 0 + _ ≤ _; exact Nat.le_of_eq rfl) (hb hby own_d_prog_64_method_1_code_52) (fun _ _ => ⟨rfl, e23, (by decide : 0 + 0 ≤ _), (by decide : 0 + 0 ≤ _)⟩)
  dsimp only [Pt.U, Pt.locs, Pt.cells, Pt.slots] at X24 l24 y24 z24 st24 hQ24
  subst y24 z24
  refine Go.st st24 ?_
  obtain ⟨rfl, N24q, e24⟩ := hQ24
  have N24 : Fr n0 L24 := by rw [l24]; exact Fr.app N23 N24q
  show Go p.tables e below P (T24.setTop (mkF m 55 #[.val (.ref p0), .val .null, .val (.ref p2), .val (.int p3), .val (.ref p4), .val (.ref p5), .val (.ref p6), .val (.ref p7), .val (.int p8), .val (.ref w_EM)] [(.ref w_EM), (.ref p0)]))
  have c25 := ((((((((hp9.other W2 (Or.inr (slot_ne (Or.inr (hw _ (List.mem_of_getElem? (i := 46) rfl))) (Or.inr (hw _ (List.mem_of_getElem? (i := 25) rfl))) (by decide) (t := (.object "java/util/Map")) (t' := (.object "com/example/parametree/parametree/Ids")) (by decide) (by decide)))).other W5 (Or.inr (slot_ne (Or.inr (hw _ (List.mem_of_getElem? (i := 46) rfl))) (Or.inr (hw _ (List.mem_of_getElem? (i := 27) rfl))) (by decide) (t := (.object "java/util/Map")) (t' := (.array .int)) (by decide) (by decide)))).other W8 (Or.inr (slot_ne (Or.inr (hw _ (List.mem_of_getElem? (i := 46) rfl))) (Or.inr (hw _ (List.mem_of_getElem? (i := 29) rfl))) (by decide) (t := (.object "java/util/Map")) (t' := .int) (by decide) (by decide)))).other W11 (Or.inr (slot_ne (Or.inr (hw _ (List.mem_of_getElem? (i := 46) rfl))) (Or.inr (hw _ (List.mem_of_getElem? (i := 31) rfl))) (by decide) (t := (.object "java/util/Map")) (t' := (.array .int)) (by decide) (by decide)))).other W14 (Or.inr (slot_ne (Or.inr (hw _ (List.mem_of_getElem? (i := 46) rfl))) (Or.inr (hw _ (List.mem_of_getElem? (i := 33) rfl))) (by decide) (t := (.object "java/util/Map")) (t' := (.array .int)) (by decide) (by decide)))).other W17 (Or.inr (slot_ne (Or.inr (hw _ (List.mem_of_getElem? (i := 46) rfl))) (Or.inr (hw _ (List.mem_of_getElem? (i := 35) rfl))) (by decide) (t := (.object "java/util/Map")) (t' := (.array .int)) (by decide) (by decide)))).other W20 (Or.inr (slot_ne (Or.inr (hw _ (List.mem_of_getElem? (i := 46) rfl))) (Or.inr (hw _ (List.mem_of_getElem? (i := 37) rfl))) (by decide) (t := (.object "java/util/Map")) (t' := (.array .int)) (by decide) (by decide)))).other W23 (Or.inr (slot_ne (Or.inr (hw _ (List.mem_of_getElem? (i := 46) rfl))) (Or.inr (hw _ (List.mem_of_getElem? (i := 39) rfl))) (by decide) (t := (.object "java/util/Map")) (t' := .int) (by decide) (by decide))))
  have c26 := (c22.wr W23)
  obtain ⟨T27, h27, X27, e27, W27, st27⟩ := putF X24 hx hZ hown (host := "") (Or.inl (hw _ (List.mem_of_getElem? (i := 45) rfl))) Via.refl e24 c25 c26 (Or.inr ⟨(hw _ (List.mem_of_getElem? (i := 46) rfl)), rfl, hnm⟩) (hw _ (List.mem_of_getElem? (i := 10) rfl)) (ty := (.object "java/util/Map")) (by decide) rfl rfl (g := (mkF m 55 #[.val (.ref p0), .val .null, .val (.ref p2), .val (.int p3), .val (.ref p4), .val (.ref p5), .val (.ref p6), .val (.ref p7), .val (.int p8), .val (.ref w_EM)] [(.ref w_EM), (.ref p0)])) rfl rfl (hb hby own_d_prog_64_method_1_code_55)
  refine Go.st st27 ?_
  have K27 : Keep h0 h27 [p0] := K23.wr W27 (Or.inl (List.mem_of_getElem? (i := 0) rfl))
  have O27 := O23.wr W27 hp10
  have N27 := Fr.snoc X27 N24 hp10
  have F27 := c25.same W27
  show Go p.tables e below P (T27.setTop (mkF m 58 #[.val (.ref p0), .val .null, .val (.ref p2), .val (.int p3), .val (.ref p4), .val (.ref p5), .val (.ref p6), .val (.ref p7), .val (.int p8), .val (.ref w_EM)] []))
  obtain ⟨fs, hr, hrun, hended, hW, hsame⟩ := X27.leave (v := none) (fun _ => rfl)
  refine ⟨_, ?_, hPend _ _ hrun hended ⟨_, _, rfl, ?_, ⟨_, rfl⟩, hW, hsame.mono (by decide) (by decide)⟩⟩
  · exact X27.returnOut hx Bd.returns (hb hby own_d_prog_64_method_1_code_58) hr
  · show Q_rm_tin Z _ _ _ _ _ _ _ _ _ h0 n0 _ T27.heap _
    rw [e27]
    have c28 := (c26.wr W27)
    have c29 := (((((((F5.other W8 (Or.inr (slot_ne (Or.inr (hw _ (List.mem_of_getElem? (i := 27) rfl))) (Or.inr (hw _ (List.mem_of_getElem? (i := 29) rfl))) (by decide) (t := (.array .int)) (t' := .int) (by decide) (by decide)))).other W11 (Or.inr (slot_ne (Or.inr (hw _ (List.mem_of_getElem? (i := 27) rfl))) (Or.inr (hw _ (List.mem_of_getElem? (i := 31) rfl))) (by decide) (t := (.array .int)) (t' := (.array .int)) (by decide) (by decide)))).other W14 (Or.inr (slot_ne (Or.inr (hw _ (List.mem_of_getElem? (i := 27) rfl))) (Or.inr (hw _ (List.mem_of_getElem? (i := 33) rfl))) (by decide) (t := (.array .int)) (t' := (.array .int)) (by decide) (by decide)))).other W17 (Or.inr (slot_ne (Or.inr (hw _ (List.mem_of_getElem? (i := 27) rfl))) (Or.inr (hw _ (List.mem_of_getElem? (i := 35) rfl))) (by decide) (t := (.array .int)) (t' := (.array .int)) (by decide) (by decide)))).other W20 (Or.inr (slot_ne (Or.inr (hw _ (List.mem_of_getElem? (i := 27) rfl))) (Or.inr (hw _ (List.mem_of_getElem? (i := 37) rfl))) (by decide) (t := (.array .int)) (t' := (.array .int)) (by decide) (by decide)))).other W23 (Or.inr (slot_ne (Or.inr (hw _ (List.mem_of_getElem? (i := 27) rfl))) (Or.inr (hw _ (List.mem_of_getElem? (i := 39) rfl))) (by decide) (t := (.array .int)) (t' := .int) (by decide) (by decide)))).other W27 (Or.inr (slot_ne (Or.inr (hw _ (List.mem_of_getElem? (i := 27) rfl))) (Or.inr (hw _ (List.mem_of_getElem? (i := 46) rfl))) (by decide) (t := (.array .int)) (t' := (.object "java/util/Map")) (by decide) (by decide))))
    have c30 := (((F17.other W20 (Or.inr (slot_ne (Or.inr (hw _ (List.mem_of_getElem? (i := 35) rfl))) (Or.inr (hw _ (List.mem_of_getElem? (i := 37) rfl))) (by decide) (t := (.array .int)) (t' := (.array .int)) (by decide) (by decide)))).other W23 (Or.inr (slot_ne (Or.inr (hw _ (List.mem_of_getElem? (i := 35) rfl))) (Or.inr (hw _ (List.mem_of_getElem? (i := 39) rfl))) (by decide) (t := (.array .int)) (t' := .int) (by decide) (by decide)))).other W27 (Or.inr (slot_ne (Or.inr (hw _ (List.mem_of_getElem? (i := 35) rfl))) (Or.inr (hw _ (List.mem_of_getElem? (i := 46) rfl))) (by decide) (t := (.array .int)) (t' := (.object "java/util/Map")) (by decide) (by decide))))
    have c31 := ((F20.other W23 (Or.inr (slot_ne (Or.inr (hw _ (List.mem_of_getElem? (i := 37) rfl))) (Or.inr (hw _ (List.mem_of_getElem? (i := 39) rfl))) (by decide) (t := (.array .int)) (t' := .int) (by decide) (by decide)))).other W27 (Or.inr (slot_ne (Or.inr (hw _ (List.mem_of_getElem? (i := 37) rfl))) (Or.inr (hw _ (List.mem_of_getElem? (i := 46) rfl))) (by decide) (t := (.array .int)) (t' := (.object "java/util/Map")) (by decide) (by decide))))
    have c32 := (F23.other W27 (Or.inr (slot_ne (Or.inr (hw _ (List.mem_of_getElem? (i := 39) rfl))) (Or.inr (hw _ (List.mem_of_getElem? (i := 46) rfl))) (by decide) (t := .int) (t' := (.object "java/util/Map")) (by decide) (by decide))))
    exact ⟨rfl, N27, K27, c28, c29, c30, c31, c32⟩
theorem own_ef_rm_tpo (m : MethodId) (x0 : Addr) : entryFrame m #[(.ref x0)] 1 = mkF m 0 #[.val (.ref x0)] [] := by first | (simp [entryFrame, mkF, argsToLocals, Value.category]; done) | rfl
theorem own_d_prog_64_method_9_code_0 : decode prog_64_method_9_code 0 = .ok (.aload_n 0, 1) := by decide +kernel
theorem own_d_prog_64_method_9_code_1 : decode prog_64_method_9_code 1 = .ok (.getfield 27, 3) := by decide +kernel
theorem own_d_prog_64_method_9_code_4 : decode prog_64_method_9_code 4 = .ok (.areturn, 1) := by decide +kernel
def Q_rm_tpo (Z : State) (w_EM : Addr) (p0 : Addr) (pv : Addr) (h0 : Heap) (n0 : Nat) (v : Option Value) (h : Heap) (L : List Loc) : Prop := v = some (.ref pv) ∧ Fr n0 L ∧ h = h0
set_option maxRecDepth 65536 in
set_option maxHeartbeats 40000000 in
theorem rm_tpo (l : Launch) (Z : State) (a0 : Array Value) (hw : ∀ d ∈ tables_1, d.before a0 Z = true) (ws : List Jvm.Cond) (w_EM : Addr) (S_EM : Sta Z Z.heap "java/util/ImmutableCollections" "EMPTY_MAP" "Ljava/util/ImmutableCollections$MapN;" (.ref w_EM)) (X_EM : Exa Z Z.heap w_EM "java/util/ImmutableCollections$MapN") (p0 : Addr) (pv : Addr) (h0 : Heap) (n0 : Nat) (X00 : Old Z n0 h0) (hp0 : Fld Z h0 p0 "com/example/parametree/parametree/Tree" "preorder" "[I" (.ref pv)) :
    MetFree l (⟨"com/example/parametree/parametree/Tree", "sharedPreorder", "()[I"⟩ : MethodName) (head1 (Jvm.Cond.code (⟨"com/example/parametree/parametree/Tree", "sharedPreorder", "()[I"⟩ : MethodName) prog_64_method_9_code 1 (some (.array .int)) :: ws) ({ frames := 0, cells := 0, slots := 0, locals := 0 } : Room)) (fun a U => a = #[(.ref p0)] ∧ Z.Warmed39 U.vm ∧ U.heap = h0) (fun _ _ _ _ _ => True) (fun _ U o U' => ∃ v L, o = .returned v ∧ Q_rm_tpo Z w_EM p0 pv h0 n0 v U'.heap L ∧ FrameEnd U o U' L ({ frames := 0, cells := 0, slots := 0, locals := 0 } : Room).cells ({ frames := 0, cells := 0, slots := 0, locals := 0 } : Room).slots) := by
  refine MetFree.of_bodySF (plainFor_of_name own_pn1) hisR ?_
  intro p e s m args below meth c s₁ Bd hml0 hP hK
  obtain ⟨rfl, hZ, hh⟩ := hP
  have hx := Bd.exec
  have hby := Bd.bytes
  have hml : c.maxLocals = 1 := hml0
  have hown : s.vm.findClass "com/example/parametree/parametree/Tree" = some m.cls := findClass_of_methodNamed Bd.named
  have hnm := (name_of_methodNamed Bd.named Bd.method).1
  have X0 : Stand p l e ({ frames := 0, cells := 0, slots := 0, locals := 0 } : Room) s m #[(.ref p0)] below meth c s₁ [] 0 0 := Stand.of_body Bd
  have e0 : s₁.heap = h0 := by rw [← hh, Bd.state]; rfl
  have N0 := Fr.nil n0
  refine Go.start fun P hPend => ?_
  refine Go.st (fun _ k => castTop (own_ef_rm_tpo m p0) k) ?_
  show Go p.tables e below P (s₁.setTop (mkF m 0 #[.val (.ref p0)] []))
  refine Go.st (fun _ => XS.aloadN X0.here hx rfl (hb hby own_d_prog_64_method_9_code_0) rfl rfl) ?_
  show Go p.tables e below P (s₁.setTop (mkF m 1 #[.val (.ref p0)] [(.ref p0)]))
  obtain ⟨T1, X1, e1, st1⟩ := getF X0 hx hZ hown (host := "") (Or.inl (hw _ (List.mem_of_getElem? (i := 34) rfl))) Via.refl e0 hp0 (g := (mkF m 1 #[.val (.ref p0)] [(.ref p0)])) rfl rfl (hb hby own_d_prog_64_method_9_code_1)
  refine Go.st st1 ?_
  show Go p.tables e below P (T1.setTop (mkF m 4 #[.val (.ref p0)] [(.ref pv)]))
  obtain ⟨fs, hr, hrun, hended, hW, hsame⟩ := X1.leave (v := some (.ref pv)) (fun h => by rw [Bd.returns] at h; cases h)
  refine ⟨_, ?_, hPend _ _ hrun hended ⟨_, _, rfl, ?_, ⟨_, rfl⟩, hW, hsame.mono (by decide) (by decide)⟩⟩
  · exact retOut X1 hx (t := (.array .int)) Bd.returns rfl (Or.inr (Or.inr (Or.inr (Or.inr ⟨rfl, rfl, rfl⟩)))) (hb hby own_d_prog_64_method_9_code_4) hr
  · show Q_rm_tpo Z _ _ _ h0 n0 _ T1.heap _
    rw [e1]
    exact ⟨rfl, N0, rfl⟩
theorem own_ef_rm_tde (m : MethodId) (x0 : Addr) : entryFrame m #[(.ref x0)] 1 = mkF m 0 #[.val (.ref x0)] [] := by first | (simp [entryFrame, mkF, argsToLocals, Value.category]; done) | rfl
theorem own_d_prog_64_method_10_code_0 : decode prog_64_method_10_code 0 = .ok (.aload_n 0, 1) := by decide +kernel
theorem own_d_prog_64_method_10_code_1 : decode prog_64_method_10_code 1 = .ok (.getfield 30, 3) := by decide +kernel
theorem own_d_prog_64_method_10_code_4 : decode prog_64_method_10_code 4 = .ok (.areturn, 1) := by decide +kernel
def Q_rm_tde (Z : State) (w_EM : Addr) (p0 : Addr) (pv : Addr) (h0 : Heap) (n0 : Nat) (v : Option Value) (h : Heap) (L : List Loc) : Prop := v = some (.ref pv) ∧ Fr n0 L ∧ h = h0
set_option maxRecDepth 65536 in
set_option maxHeartbeats 40000000 in
theorem rm_tde (l : Launch) (Z : State) (a0 : Array Value) (hw : ∀ d ∈ tables_1, d.before a0 Z = true) (ws : List Jvm.Cond) (w_EM : Addr) (S_EM : Sta Z Z.heap "java/util/ImmutableCollections" "EMPTY_MAP" "Ljava/util/ImmutableCollections$MapN;" (.ref w_EM)) (X_EM : Exa Z Z.heap w_EM "java/util/ImmutableCollections$MapN") (p0 : Addr) (pv : Addr) (h0 : Heap) (n0 : Nat) (X00 : Old Z n0 h0) (hp0 : Fld Z h0 p0 "com/example/parametree/parametree/Tree" "depths" "[I" (.ref pv)) :
    MetFree l (⟨"com/example/parametree/parametree/Tree", "depths", "()[I"⟩ : MethodName) (head1 (Jvm.Cond.code (⟨"com/example/parametree/parametree/Tree", "depths", "()[I"⟩ : MethodName) prog_64_method_10_code 1 (some (.array .int)) :: ws) ({ frames := 0, cells := 0, slots := 0, locals := 0 } : Room)) (fun a U => a = #[(.ref p0)] ∧ Z.Warmed39 U.vm ∧ U.heap = h0) (fun _ _ _ _ _ => True) (fun _ U o U' => ∃ v L, o = .returned v ∧ Q_rm_tde Z w_EM p0 pv h0 n0 v U'.heap L ∧ FrameEnd U o U' L ({ frames := 0, cells := 0, slots := 0, locals := 0 } : Room).cells ({ frames := 0, cells := 0, slots := 0, locals := 0 } : Room).slots) := by
  refine MetFree.of_bodySF (plainFor_of_name own_pn1) hisR ?_
  intro p e s m args below meth c s₁ Bd hml0 hP hK
  obtain ⟨rfl, hZ, hh⟩ := hP
  have hx := Bd.exec
  have hby := Bd.bytes
  have hml : c.maxLocals = 1 := hml0
  have hown : s.vm.findClass "com/example/parametree/parametree/Tree" = some m.cls := findClass_of_methodNamed Bd.named
  have hnm := (name_of_methodNamed Bd.named Bd.method).1
  have X0 : Stand p l e ({ frames := 0, cells := 0, slots := 0, locals := 0 } : Room) s m #[(.ref p0)] below meth c s₁ [] 0 0 := Stand.of_body Bd
  have e0 : s₁.heap = h0 := by rw [← hh, Bd.state]; rfl
  have N0 := Fr.nil n0
  refine Go.start fun P hPend => ?_
  refine Go.st (fun _ k => castTop (own_ef_rm_tde m p0) k) ?_
  show Go p.tables e below P (s₁.setTop (mkF m 0 #[.val (.ref p0)] []))
  refine Go.st (fun _ => XS.aloadN X0.here hx rfl (hb hby own_d_prog_64_method_10_code_0) rfl rfl) ?_
  show Go p.tables e below P (s₁.setTop (mkF m 1 #[.val (.ref p0)] [(.ref p0)]))
  obtain ⟨T1, X1, e1, st1⟩ := getF X0 hx hZ hown (host := "") (Or.inl (hw _ (List.mem_of_getElem? (i := 36) rfl))) Via.refl e0 hp0 (g := (mkF m 1 #[.val (.ref p0)] [(.ref p0)])) rfl rfl (hb hby own_d_prog_64_method_10_code_1)
  refine Go.st st1 ?_
  show Go p.tables e below P (T1.setTop (mkF m 4 #[.val (.ref p0)] [(.ref pv)]))
  obtain ⟨fs, hr, hrun, hended, hW, hsame⟩ := X1.leave (v := some (.ref pv)) (fun h => by rw [Bd.returns] at h; cases h)
  refine ⟨_, ?_, hPend _ _ hrun hended ⟨_, _, rfl, ?_, ⟨_, rfl⟩, hW, hsame.mono (by decide) (by decide)⟩⟩
  · exact retOut X1 hx (t := (.array .int)) Bd.returns rfl (Or.inr (Or.inr (Or.inr (Or.inr ⟨rfl, rfl, rfl⟩)))) (hb hby own_d_prog_64_method_10_code_4) hr
  · show Q_rm_tde Z _ _ _ h0 n0 _ T1.heap _
    rw [e1]
    exact ⟨rfl, N0, rfl⟩
theorem own_ef_rm_the (m : MethodId) (x0 : Addr) : entryFrame m #[(.ref x0)] 1 = mkF m 0 #[.val (.ref x0)] [] := by first | (simp [entryFrame, mkF, argsToLocals, Value.category]; done) | rfl
theorem own_d_prog_64_method_11_code_0 : decode prog_64_method_11_code 0 = .ok (.aload_n 0, 1) := by decide +kernel
theorem own_d_prog_64_method_11_code_1 : decode prog_64_method_11_code 1 = .ok (.getfield 33, 3) := by decide +kernel
theorem own_d_prog_64_method_11_code_4 : decode prog_64_method_11_code 4 = .ok (.ireturn, 1) := by decide +kernel
def Q_rm_the (Z : State) (w_EM : Addr) (p0 : Addr) (pv : Int32) (h0 : Heap) (n0 : Nat) (v : Option Value) (h : Heap) (L : List Loc) : Prop := v = some (.int pv) ∧ Fr n0 L ∧ h = h0
set_option maxRecDepth 65536 in
set_option maxHeartbeats 40000000 in
theorem rm_the (l : Launch) (Z : State) (a0 : Array Value) (hw : ∀ d ∈ tables_1, d.before a0 Z = true) (ws : List Jvm.Cond) (w_EM : Addr) (S_EM : Sta Z Z.heap "java/util/ImmutableCollections" "EMPTY_MAP" "Ljava/util/ImmutableCollections$MapN;" (.ref w_EM)) (X_EM : Exa Z Z.heap w_EM "java/util/ImmutableCollections$MapN") (p0 : Addr) (pv : Int32) (h0 : Heap) (n0 : Nat) (X00 : Old Z n0 h0) (hp0 : Fld Z h0 p0 "com/example/parametree/parametree/Tree" "height" "I" (.int pv)) :
    MetFree l (⟨"com/example/parametree/parametree/Tree", "height", "()I"⟩ : MethodName) (head1 (Jvm.Cond.code (⟨"com/example/parametree/parametree/Tree", "height", "()I"⟩ : MethodName) prog_64_method_11_code 1 (some .int) :: ws) ({ frames := 0, cells := 0, slots := 0, locals := 0 } : Room)) (fun a U => a = #[(.ref p0)] ∧ Z.Warmed39 U.vm ∧ U.heap = h0) (fun _ _ _ _ _ => True) (fun _ U o U' => ∃ v L, o = .returned v ∧ Q_rm_the Z w_EM p0 pv h0 n0 v U'.heap L ∧ FrameEnd U o U' L ({ frames := 0, cells := 0, slots := 0, locals := 0 } : Room).cells ({ frames := 0, cells := 0, slots := 0, locals := 0 } : Room).slots) := by
  refine MetFree.of_bodySF (plainFor_of_name own_pn1) hisR ?_
  intro p e s m args below meth c s₁ Bd hml0 hP hK
  obtain ⟨rfl, hZ, hh⟩ := hP
  have hx := Bd.exec
  have hby := Bd.bytes
  have hml : c.maxLocals = 1 := hml0
  have hown : s.vm.findClass "com/example/parametree/parametree/Tree" = some m.cls := findClass_of_methodNamed Bd.named
  have hnm := (name_of_methodNamed Bd.named Bd.method).1
  have X0 : Stand p l e ({ frames := 0, cells := 0, slots := 0, locals := 0 } : Room) s m #[(.ref p0)] below meth c s₁ [] 0 0 := Stand.of_body Bd
  have e0 : s₁.heap = h0 := by rw [← hh, Bd.state]; rfl
  have N0 := Fr.nil n0
  refine Go.start fun P hPend => ?_
  refine Go.st (fun _ k => castTop (own_ef_rm_the m p0) k) ?_
  show Go p.tables e below P (s₁.setTop (mkF m 0 #[.val (.ref p0)] []))
  refine Go.st (fun _ => XS.aloadN X0.here hx rfl (hb hby own_d_prog_64_method_11_code_0) rfl rfl) ?_
  show Go p.tables e below P (s₁.setTop (mkF m 1 #[.val (.ref p0)] [(.ref p0)]))
  obtain ⟨T1, X1, e1, st1⟩ := getF X0 hx hZ hown (host := "") (Or.inl (hw _ (List.mem_of_getElem? (i := 38) rfl))) Via.refl e0 hp0 (g := (mkF m 1 #[.val (.ref p0)] [(.ref p0)])) rfl rfl (hb hby own_d_prog_64_method_11_code_1)
  refine Go.st st1 ?_
  show Go p.tables e below P (T1.setTop (mkF m 4 #[.val (.ref p0)] [(.int pv)]))
  obtain ⟨fs, hr, hrun, hended, hW, hsame⟩ := X1.leave (v := some (.int pv)) (fun h => by rw [Bd.returns] at h; cases h)
  refine ⟨_, ?_, hPend _ _ hrun hended ⟨_, _, rfl, ?_, ⟨_, rfl⟩, hW, hsame.mono (by decide) (by decide)⟩⟩
  · exact retOut X1 hx (t := .int) Bd.returns rfl (Or.inl ⟨rfl, Or.inl rfl, _, rfl⟩) (hb hby own_d_prog_64_method_11_code_4) hr
  · show Q_rm_the Z _ _ _ h0 n0 _ T1.heap _
    rw [e1]
    exact ⟨rfl, N0, rfl⟩
theorem own_ef_rm_tsz (m : MethodId) (x0 : Addr) : entryFrame m #[(.ref x0)] 1 = mkF m 0 #[.val (.ref x0)] [] := by first | (simp [entryFrame, mkF, argsToLocals, Value.category]; done) | rfl
theorem own_d_prog_64_method_2_code_0 : decode prog_64_method_2_code 0 = .ok (.aload_n 0, 1) := by decide +kernel
theorem own_d_prog_64_method_2_code_1 : decode prog_64_method_2_code 1 = .ok (.getfield 13, 3) := by decide +kernel
theorem own_d_prog_64_method_2_code_4 : decode prog_64_method_2_code 4 = .ok (.arraylength, 1) := by decide +kernel
theorem own_d_prog_64_method_2_code_5 : decode prog_64_method_2_code 5 = .ok (.ireturn, 1) := by decide +kernel
def Q_rm_tsz (Z : State) (w_EM : Addr) (p0 : Addr) (pa : Addr) (ka : ClassId) (q0 : Int32) (q1 : Int32) (q2 : Int32) (q3 : Int32) (q4 : Int32) (h0 : Heap) (n0 : Nat) (v : Option Value) (h : Heap) (L : List Loc) : Prop := v = some (.int (5 : Int32)) ∧ Fr n0 L ∧ h = h0
set_option maxRecDepth 65536 in
set_option maxHeartbeats 40000000 in
theorem rm_tsz (l : Launch) (Z : State) (a0 : Array Value) (hw : ∀ d ∈ tables_1, d.before a0 Z = true) (ws : List Jvm.Cond) (w_EM : Addr) (S_EM : Sta Z Z.heap "java/util/ImmutableCollections" "EMPTY_MAP" "Ljava/util/ImmutableCollections$MapN;" (.ref w_EM)) (X_EM : Exa Z Z.heap w_EM "java/util/ImmutableCollections$MapN") (p0 : Addr) (pa : Addr) (ka : ClassId) (q0 : Int32) (q1 : Int32) (q2 : Int32) (q3 : Int32) (q4 : Int32) (h0 : Heap) (n0 : Nat) (X00 : Old Z n0 h0) (hp0 : Fld Z h0 p0 "com/example/parametree/parametree/Tree" "parents" "[I" (.ref pa)) (hp1 : Arv Z h0 pa ka .int (5 : Int32) [(.int q0), (.int q1), (.int q2), (.int q3), (.int q4)] (.int (0 : Int32))) :
    MetFree l (⟨"com/example/parametree/parametree/Tree", "size", "()I"⟩ : MethodName) (head1 (Jvm.Cond.code (⟨"com/example/parametree/parametree/Tree", "size", "()I"⟩ : MethodName) prog_64_method_2_code 1 (some .int) :: ws) ({ frames := 0, cells := 0, slots := 0, locals := 0 } : Room)) (fun a U => a = #[(.ref p0)] ∧ Z.Warmed39 U.vm ∧ U.heap = h0) (fun _ _ _ _ _ => True) (fun _ U o U' => ∃ v L, o = .returned v ∧ Q_rm_tsz Z w_EM p0 pa ka q0 q1 q2 q3 q4 h0 n0 v U'.heap L ∧ FrameEnd U o U' L ({ frames := 0, cells := 0, slots := 0, locals := 0 } : Room).cells ({ frames := 0, cells := 0, slots := 0, locals := 0 } : Room).slots) := by
  refine MetFree.of_bodySF (plainFor_of_name own_pn1) hisR ?_
  intro p e s m args below meth c s₁ Bd hml0 hP hK
  obtain ⟨rfl, hZ, hh⟩ := hP
  have hx := Bd.exec
  have hby := Bd.bytes
  have hml : c.maxLocals = 1 := hml0
  have hown : s.vm.findClass "com/example/parametree/parametree/Tree" = some m.cls := findClass_of_methodNamed Bd.named
  have hnm := (name_of_methodNamed Bd.named Bd.method).1
  have X0 : Stand p l e ({ frames := 0, cells := 0, slots := 0, locals := 0 } : Room) s m #[(.ref p0)] below meth c s₁ [] 0 0 := Stand.of_body Bd
  have e0 : s₁.heap = h0 := by rw [← hh, Bd.state]; rfl
  have N0 := Fr.nil n0
  refine Go.start fun P hPend => ?_
  refine Go.st (fun _ k => castTop (own_ef_rm_tsz m p0) k) ?_
  show Go p.tables e below P (s₁.setTop (mkF m 0 #[.val (.ref p0)] []))
  refine Go.st (fun _ => XS.aloadN X0.here hx rfl (hb hby own_d_prog_64_method_2_code_0) rfl rfl) ?_
  show Go p.tables e below P (s₁.setTop (mkF m 1 #[.val (.ref p0)] [(.ref p0)]))
  obtain ⟨T1, X1, e1, st1⟩ := getF X0 hx hZ hown (host := "") (Or.inl (hw _ (List.mem_of_getElem? (i := 26) rfl))) Via.refl e0 hp0 (g := (mkF m 1 #[.val (.ref p0)] [(.ref p0)])) rfl rfl (hb hby own_d_prog_64_method_2_code_1)
  refine Go.st st1 ?_
  show Go p.tables e below P (T1.setTop (mkF m 4 #[.val (.ref p0)] [(.ref pa)]))
  refine Go.st (fun _ => own_len X1 hx hZ e1 hp1 (g := (mkF m 4 #[.val (.ref p0)] [(.ref pa)])) rfl rfl (hb hby own_d_prog_64_method_2_code_4) _) ?_
  show Go p.tables e below P (T1.setTop (mkF m 5 #[.val (.ref p0)] [(.int (5 : Int32))]))
  obtain ⟨fs, hr, hrun, hended, hW, hsame⟩ := X1.leave (v := some (.int (5 : Int32))) (fun h => by rw [Bd.returns] at h; cases h)
  refine ⟨_, ?_, hPend _ _ hrun hended ⟨_, _, rfl, ?_, ⟨_, rfl⟩, hW, hsame.mono (by decide) (by decide)⟩⟩
  · exact retOut X1 hx (t := .int) Bd.returns rfl (Or.inl ⟨rfl, Or.inl rfl, _, rfl⟩) (hb hby own_d_prog_64_method_2_code_5) hr
  · show Q_rm_tsz Z _ _ _ _ _ _ _ _ _ h0 n0 _ T1.heap _
    rw [e1]
    exact ⟨rfl, N0, rfl⟩
theorem own_ef_rm_min (m : MethodId) (x0 : Addr) (x1 : Addr) (x2 : Addr) (x3 : Addr) : entryFrame m #[(.ref x0), (.ref x1), (.ref x2), (.ref x3)] 7 = mkF m 0 #[.val (.ref x0), .val (.ref x1), .val (.ref x2), .val (.ref x3), .unset, .unset, .unset] [] := by first | (simp [entryFrame, mkF, argsToLocals, Value.category]; done) | rfl
theorem own_pn2 : plainName "com/example/parametree/parametree/MeanTree" = true := by first | (simp [plainName, overriddenIn]; done) | decide +kernel
theorem own_d_prog_43_method_1_code_0 : decode prog_43_method_1_code 0 = .ok (.aload_n 0, 1) := by decide +kernel
theorem own_d_prog_43_method_1_code_1 : decode prog_43_method_1_code 1 = .ok (.invokespecial 1, 3) := by decide +kernel
theorem own_d_prog_43_method_1_code_4 : decode prog_43_method_1_code 4 = .ok (.aload_n 0, 1) := by decide +kernel
theorem own_d_prog_43_method_1_code_5 : decode prog_43_method_1_code 5 = .ok (.aload_n 1, 1) := by decide +kernel
theorem own_d_prog_43_method_1_code_6 : decode prog_43_method_1_code 6 = .ok (.invokevirtual 7, 3) := by decide +kernel
theorem own_pd1 : parseMethodDescriptor "()I" = some ⟨[], some .int⟩ := by decide +kernel
theorem own_d_prog_43_method_1_code_9 : decode prog_43_method_1_code 9 = .ok (.putfield 13, 3) := by decide +kernel
theorem own_d_prog_43_method_1_code_12 : decode prog_43_method_1_code 12 = .ok (.aload_n 0, 1) := by decide +kernel
theorem own_d_prog_43_method_1_code_13 : decode prog_43_method_1_code 13 = .ok (.aload_n 1, 1) := by decide +kernel
theorem own_d_prog_43_method_1_code_14 : decode prog_43_method_1_code 14 = .ok (.invokevirtual 18, 3) := by decide +kernel
theorem own_pd2 : parseMethodDescriptor "()[I" = some ⟨[], some (.array .int)⟩ := by decide +kernel
theorem own_d_prog_43_method_1_code_17 : decode prog_43_method_1_code 17 = .ok (.putfield 22, 3) := by decide +kernel
theorem own_d_prog_43_method_1_code_20 : decode prog_43_method_1_code 20 = .ok (.aload_n 0, 1) := by decide +kernel
theorem own_d_prog_43_method_1_code_21 : decode prog_43_method_1_code 21 = .ok (.aload_n 1, 1) := by decide +kernel
theorem own_d_prog_43_method_1_code_22 : decode prog_43_method_1_code 22 = .ok (.invokevirtual 26, 3) := by decide +kernel
theorem own_d_prog_43_method_1_code_25 : decode prog_43_method_1_code 25 = .ok (.putfield 29, 3) := by decide +kernel
theorem own_d_prog_43_method_1_code_28 : decode prog_43_method_1_code 28 = .ok (.aload_n 0, 1) := by decide +kernel
theorem own_d_prog_43_method_1_code_29 : decode prog_43_method_1_code 29 = .ok (.aload_n 0, 1) := by decide +kernel
theorem own_d_prog_43_method_1_code_30 : decode prog_43_method_1_code 30 = .ok (.getfield 13, 3) := by decide +kernel
theorem own_d_prog_43_method_1_code_33 : decode prog_43_method_1_code 33 = .ok (.newarray .double, 2) := by decide +kernel
theorem own_d_prog_43_method_1_code_35 : decode prog_43_method_1_code 35 = .ok (.putfield 32, 3) := by decide +kernel
theorem own_d_prog_43_method_1_code_38 : decode prog_43_method_1_code 38 = .ok (.aload_n 0, 1) := by decide +kernel
theorem own_d_prog_43_method_1_code_39 : decode prog_43_method_1_code 39 = .ok (.aload_n 0, 1) := by decide +kernel
theorem own_d_prog_43_method_1_code_40 : decode prog_43_method_1_code 40 = .ok (.getfield 13, 3) := by decide +kernel
theorem own_d_prog_43_method_1_code_43 : decode prog_43_method_1_code 43 = .ok (.newarray .double, 2) := by decide +kernel
theorem own_d_prog_43_method_1_code_45 : decode prog_43_method_1_code 45 = .ok (.putfield 36, 3) := by decide +kernel
theorem own_d_prog_43_method_1_code_48 : decode prog_43_method_1_code 48 = .ok (.aload_n 0, 1) := by decide +kernel
theorem own_d_prog_43_method_1_code_49 : decode prog_43_method_1_code 49 = .ok (.aload_n 0, 1) := by decide +kernel
theorem own_d_prog_43_method_1_code_50 : decode prog_43_method_1_code 50 = .ok (.getfield 13, 3) := by decide +kernel
theorem own_d_prog_43_method_1_code_53 : decode prog_43_method_1_code 53 = .ok (.newarray .boolean, 2) := by decide +kernel
theorem own_d_prog_43_method_1_code_55 : decode prog_43_method_1_code 55 = .ok (.putfield 39, 3) := by decide +kernel
theorem own_d_prog_43_method_1_code_58 : decode prog_43_method_1_code 58 = .ok (.aload_n 0, 1) := by decide +kernel
theorem own_d_prog_43_method_1_code_59 : decode prog_43_method_1_code 59 = .ok (.aload_n 1, 1) := by decide +kernel
theorem own_d_prog_43_method_1_code_60 : decode prog_43_method_1_code 60 = .ok (.invokevirtual 43, 3) := by decide +kernel
theorem own_d_prog_43_method_1_code_63 : decode prog_43_method_1_code 63 = .ok (.iconst 2, 1) := by decide +kernel
theorem own_d_prog_43_method_1_code_64 : decode prog_43_method_1_code 64 = .ok (.iadd, 1) := by decide +kernel
theorem own_d_prog_43_method_1_code_65 : decode prog_43_method_1_code 65 = .ok (.putfield 46, 3) := by decide +kernel
theorem own_d_prog_43_method_1_code_68 : decode prog_43_method_1_code 68 = .ok (.aload_n 0, 1) := by decide +kernel
theorem own_d_prog_43_method_1_code_69 : decode prog_43_method_1_code 69 = .ok (.aload_n 0, 1) := by decide +kernel
theorem own_d_prog_43_method_1_code_70 : decode prog_43_method_1_code 70 = .ok (.getfield 46, 3) := by decide +kernel
theorem own_d_prog_43_method_1_code_73 : decode prog_43_method_1_code 73 = .ok (.newarray .double, 2) := by decide +kernel
theorem own_d_prog_43_method_1_code_75 : decode prog_43_method_1_code 75 = .ok (.putfield 49, 3) := by decide +kernel
theorem own_d_prog_43_method_1_code_78 : decode prog_43_method_1_code 78 = .ok (.aload_n 0, 1) := by decide +kernel
theorem own_d_prog_43_method_1_code_79 : decode prog_43_method_1_code 79 = .ok (.aload_n 0, 1) := by decide +kernel
theorem own_d_prog_43_method_1_code_80 : decode prog_43_method_1_code 80 = .ok (.getfield 46, 3) := by decide +kernel
theorem own_d_prog_43_method_1_code_83 : decode prog_43_method_1_code 83 = .ok (.newarray .double, 2) := by decide +kernel
theorem own_d_prog_43_method_1_code_85 : decode prog_43_method_1_code 85 = .ok (.putfield 52, 3) := by decide +kernel
theorem own_d_prog_43_method_1_code_88 : decode prog_43_method_1_code 88 = .ok (.iconst 2, 1) := by decide +kernel
theorem own_d_prog_43_method_1_code_89 : decode prog_43_method_1_code 89 = .ok (.aload_n 0, 1) := by decide +kernel
theorem own_d_prog_43_method_1_code_90 : decode prog_43_method_1_code 90 = .ok (.getfield 13, 3) := by decide +kernel
theorem own_d_prog_43_method_1_code_93 : decode prog_43_method_1_code 93 = .ok (.imul, 1) := by decide +kernel
theorem own_d_prog_43_method_1_code_94 : decode prog_43_method_1_code 94 = .ok (.newarray .double, 2) := by decide +kernel
theorem own_d_prog_43_method_1_code_96 : decode prog_43_method_1_code 96 = .ok (.astore 4, 2) := by decide +kernel
theorem own_d_prog_43_method_1_code_98 : decode prog_43_method_1_code 98 = .ok (.iconst 0, 1) := by decide +kernel
theorem own_d_prog_43_method_1_code_99 : decode prog_43_method_1_code 99 = .ok (.istore 5, 2) := by decide +kernel
theorem own_d_prog_43_method_1_code_101 : decode prog_43_method_1_code 101 = .ok (.iload 5, 2) := by decide +kernel
theorem own_d_prog_43_method_1_code_103 : decode prog_43_method_1_code 103 = .ok (.aload_n 0, 1) := by decide +kernel
theorem own_d_prog_43_method_1_code_104 : decode prog_43_method_1_code 104 = .ok (.getfield 13, 3) := by decide +kernel
theorem own_d_prog_43_method_1_code_107 : decode prog_43_method_1_code 107 = .ok (.if_icmp .ge 33, 3) := by decide +kernel
theorem own_d_prog_43_method_1_code_110 : decode prog_43_method_1_code 110 = .ok (.aload 4, 2) := by decide +kernel
theorem own_d_prog_43_method_1_code_112 : decode prog_43_method_1_code 112 = .ok (.iconst 2, 1) := by decide +kernel
theorem own_d_prog_43_method_1_code_113 : decode prog_43_method_1_code 113 = .ok (.iload 5, 2) := by decide +kernel
theorem own_d_prog_43_method_1_code_115 : decode prog_43_method_1_code 115 = .ok (.imul, 1) := by decide +kernel
theorem own_d_prog_43_method_1_code_116 : decode prog_43_method_1_code 116 = .ok (.aload_n 2, 1) := by decide +kernel
theorem own_d_prog_43_method_1_code_117 : decode prog_43_method_1_code 117 = .ok (.iload 5, 2) := by decide +kernel
theorem own_d_prog_43_method_1_code_119 : decode prog_43_method_1_code 119 = .ok (.daload, 1) := by decide +kernel
theorem own_d_prog_43_method_1_code_120 : decode prog_43_method_1_code 120 = .ok (.dastore, 1) := by decide +kernel
theorem own_d_prog_43_method_1_code_121 : decode prog_43_method_1_code 121 = .ok (.aload 4, 2) := by decide +kernel
theorem own_d_prog_43_method_1_code_123 : decode prog_43_method_1_code 123 = .ok (.iconst 2, 1) := by decide +kernel
theorem own_d_prog_43_method_1_code_124 : decode prog_43_method_1_code 124 = .ok (.iload 5, 2) := by decide +kernel
theorem own_d_prog_43_method_1_code_126 : decode prog_43_method_1_code 126 = .ok (.imul, 1) := by decide +kernel
theorem own_d_prog_43_method_1_code_127 : decode prog_43_method_1_code 127 = .ok (.iconst 1, 1) := by decide +kernel
theorem own_d_prog_43_method_1_code_128 : decode prog_43_method_1_code 128 = .ok (.iadd, 1) := by decide +kernel
theorem own_d_prog_43_method_1_code_129 : decode prog_43_method_1_code 129 = .ok (.aload_n 3, 1) := by decide +kernel
theorem own_d_prog_43_method_1_code_130 : decode prog_43_method_1_code 130 = .ok (.iload 5, 2) := by decide +kernel
theorem own_d_prog_43_method_1_code_132 : decode prog_43_method_1_code 132 = .ok (.daload, 1) := by decide +kernel
theorem own_d_prog_43_method_1_code_133 : decode prog_43_method_1_code 133 = .ok (.dastore, 1) := by decide +kernel
theorem own_d_prog_43_method_1_code_134 : decode prog_43_method_1_code 134 = .ok (.iinc 5 1, 3) := by decide +kernel
theorem own_d_prog_43_method_1_code_137 : decode prog_43_method_1_code 137 = .ok (.goto (-36), 3) := by decide +kernel
theorem own_d_prog_43_method_1_code_140 : decode prog_43_method_1_code 140 = .ok (.iconst 0, 1) := by decide +kernel
theorem own_d_prog_43_method_1_code_141 : decode prog_43_method_1_code 141 = .ok (.istore 5, 2) := by decide +kernel
theorem own_d_prog_43_method_1_code_143 : decode prog_43_method_1_code 143 = .ok (.iload 5, 2) := by decide +kernel
theorem own_d_prog_43_method_1_code_145 : decode prog_43_method_1_code 145 = .ok (.aload_n 0, 1) := by decide +kernel
theorem own_d_prog_43_method_1_code_146 : decode prog_43_method_1_code 146 = .ok (.getfield 13, 3) := by decide +kernel
theorem own_d_prog_43_method_1_code_149 : decode prog_43_method_1_code 149 = .ok (.if_icmp .ge 46, 3) := by decide +kernel
theorem own_d_prog_43_method_1_code_152 : decode prog_43_method_1_code 152 = .ok (.iconst 2, 1) := by decide +kernel
theorem own_d_prog_43_method_1_code_153 : decode prog_43_method_1_code 153 = .ok (.aload_n 0, 1) := by decide +kernel
theorem own_d_prog_43_method_1_code_154 : decode prog_43_method_1_code 154 = .ok (.getfield 22, 3) := by decide +kernel
theorem own_d_prog_43_method_1_code_157 : decode prog_43_method_1_code 157 = .ok (.iload 5, 2) := by decide +kernel
theorem own_d_prog_43_method_1_code_159 : decode prog_43_method_1_code 159 = .ok (.iaload, 1) := by decide +kernel
theorem own_d_prog_43_method_1_code_160 : decode prog_43_method_1_code 160 = .ok (.imul, 1) := by decide +kernel
theorem own_d_prog_43_method_1_code_161 : decode prog_43_method_1_code 161 = .ok (.istore 6, 2) := by decide +kernel
theorem own_d_prog_43_method_1_code_163 : decode prog_43_method_1_code 163 = .ok (.aload_n 0, 1) := by decide +kernel
theorem own_d_prog_43_method_1_code_164 : decode prog_43_method_1_code 164 = .ok (.getfield 32, 3) := by decide +kernel
theorem own_d_prog_43_method_1_code_167 : decode prog_43_method_1_code 167 = .ok (.iload 5, 2) := by decide +kernel
theorem own_d_prog_43_method_1_code_169 : decode prog_43_method_1_code 169 = .ok (.aload 4, 2) := by decide +kernel
theorem own_d_prog_43_method_1_code_171 : decode prog_43_method_1_code 171 = .ok (.iload 6, 2) := by decide +kernel
theorem own_d_prog_43_method_1_code_173 : decode prog_43_method_1_code 173 = .ok (.daload, 1) := by decide +kernel
theorem own_d_prog_43_method_1_code_174 : decode prog_43_method_1_code 174 = .ok (.dastore, 1) := by decide +kernel
theorem own_d_prog_43_method_1_code_175 : decode prog_43_method_1_code 175 = .ok (.aload_n 0, 1) := by decide +kernel
theorem own_d_prog_43_method_1_code_176 : decode prog_43_method_1_code 176 = .ok (.getfield 36, 3) := by decide +kernel
theorem own_d_prog_43_method_1_code_179 : decode prog_43_method_1_code 179 = .ok (.iload 5, 2) := by decide +kernel
theorem own_d_prog_43_method_1_code_181 : decode prog_43_method_1_code 181 = .ok (.aload 4, 2) := by decide +kernel
theorem own_d_prog_43_method_1_code_183 : decode prog_43_method_1_code 183 = .ok (.iload 6, 2) := by decide +kernel
theorem own_d_prog_43_method_1_code_185 : decode prog_43_method_1_code 185 = .ok (.iconst 1, 1) := by decide +kernel
theorem own_d_prog_43_method_1_code_186 : decode prog_43_method_1_code 186 = .ok (.iadd, 1) := by decide +kernel
theorem own_d_prog_43_method_1_code_187 : decode prog_43_method_1_code 187 = .ok (.daload, 1) := by decide +kernel
theorem own_d_prog_43_method_1_code_188 : decode prog_43_method_1_code 188 = .ok (.dastore, 1) := by decide +kernel
theorem own_d_prog_43_method_1_code_189 : decode prog_43_method_1_code 189 = .ok (.iinc 5 1, 3) := by decide +kernel
theorem own_d_prog_43_method_1_code_192 : decode prog_43_method_1_code 192 = .ok (.goto (-49), 3) := by decide +kernel
theorem own_d_prog_43_method_1_code_195 : decode prog_43_method_1_code 195 = .ok (.return_, 1) := by decide +kernel
def Q_rm_min (Z : State) (w_EM : Addr) (p0 : Addr) (p1 : Addr) (p2 : Addr) (p3 : Addr) (pa : Addr) (ka : ClassId) (q0 : Int32) (q1 : Int32) (q2 : Int32) (q3 : Int32) (q4 : Int32) (pr : Addr) (kr : ClassId) (pd : Addr) (ph : Int32) (k2 : ClassId) (k3 : ClassId) (h0 : Heap) (n0 : Nat) (v : Option Value) (h : Heap) (L : List Loc) : Prop := v = none ∧ Fr n0 L ∧ Keep h0 h [p0] ∧ Exa Z h p0 "com/example/parametree/parametree/MeanTree" ∧ Fld Z h p0 "com/example/parametree/parametree/MeanTree" "size" "I" (.int (5 : Int32)) ∧ Fld Z h p0 "com/example/parametree/parametree/MeanTree" "depth" "[I" (.ref pd) ∧ Fld Z h p0 "com/example/parametree/parametree/MeanTree" "slots" "I" (.int (ph + (2 : Int32)))
set_option maxRecDepth 65536 in
set_option maxHeartbeats 40000000 in
theorem rm_min (l : Launch) (Z : State) (a0 : Array Value) (hw : ∀ d ∈ tables_1, d.before a0 Z = true) (ws : List Jvm.Cond) (w_EM : Addr) (S_EM : Sta Z Z.heap "java/util/ImmutableCollections" "EMPTY_MAP" "Ljava/util/ImmutableCollections$MapN;" (.ref w_EM)) (X_EM : Exa Z Z.heap w_EM "java/util/ImmutableCollections$MapN") (p0 : Addr) (p1 : Addr) (p2 : Addr) (p3 : Addr) (pa : Addr) (ka : ClassId) (q0 : Int32) (q1 : Int32) (q2 : Int32) (q3 : Int32) (q4 : Int32) (pr : Addr) (kr : ClassId) (pd : Addr) (ph : Int32) (k2 : ClassId) (k3 : ClassId) (h0 : Heap) (n0 : Nat) (X00 : Old Z n0 h0) (hp0 : Exa Z h0 p0 "com/example/parametree/parametree/MeanTree") (hp1 : Fld Z h0 p0 "com/example/parametree/parametree/MeanTree" "size" "I" (.int (0 : Int32))) (hp2 : Fld Z h0 p0 "com/example/parametree/parametree/MeanTree" "node" "[I" .null) (hp3 : Fld Z h0 p0 "com/example/parametree/parametree/MeanTree" "depth" "[I" .null) (hp4 : Fld Z h0 p0 "com/example/parametree/parametree/MeanTree" "profit" "[D" .null) (hp5 : Fld Z h0 p0 "com/example/parametree/parametree/MeanTree" "cost" "[D" .null) (hp6 : Fld Z h0 p0 "com/example/parametree/parametree/MeanTree" "kept" "[Z" .null) (hp7 : Fld Z h0 p0 "com/example/parametree/parametree/MeanTree" "slots" "I" (.int (0 : Int32))) (hp8 : Fld Z h0 p0 "com/example/parametree/parametree/MeanTree" "profitSlots" "[D" .null) (hp9 : Fld Z h0 p0 "com/example/parametree/parametree/MeanTree" "costSlots" "[D" .null) (hp10 : n0 ≤ p0) (hp11 : Exa Z h0 p1 "com/example/parametree/parametree/Tree") (hp12 : Fld Z h0 p1 "com/example/parametree/parametree/Tree" "parents" "[I" (.ref pa)) (hp13 : Arv Z h0 pa ka .int (5 : Int32) [(.int q0), (.int q1), (.int q2), (.int q3), (.int q4)] (.int (0 : Int32))) (hp14 : Fld Z h0 p1 "com/example/parametree/parametree/Tree" "preorder" "[I" (.ref pr)) (hp15 : Arv Z h0 pr kr .int (5 : Int32) [(.int (0 : Int32)), (.int (1 : Int32)), (.int (2 : Int32)), (.int (3 : Int32)), (.int (4 : Int32))] (.int (0 : Int32))) (hp16 : Fld Z h0 p1 "com/example/parametree/parametree/Tree" "depths" "[I" (.ref pd)) (hp17 : Fld Z h0 p1 "com/example/parametree/parametree/Tree" "height" "I" (.int ph)) (hp18 : Arv Z h0 p2 k2 .double (5 : Int32) [(.double (0 : UInt64)), (.double (0 : UInt64)), (.double (0 : UInt64)), (.double (0 : UInt64)), (.double (0 : UInt64))] (.double (0 : UInt64))) (hp19 : Arv Z h0 p3 k3 .double (5 : Int32) [(.double (0 : UInt64)), (.double (0 : UInt64)), (.double (0 : UInt64)), (.double (0 : UInt64)), (.double (0 : UInt64))] (.double (0 : UInt64))) (hsn : ¬ (ph + (2 : Int32)) < 0) (hsc : (ph + (2 : Int32)).toNatClampNeg ≤ 6) :
    MetFree l (⟨"com/example/parametree/parametree/MeanTree", "<init>", "(Lcom/example/parametree/parametree/Tree;[D[D)V"⟩ : MethodName) (head1 (Jvm.Cond.code (⟨"com/example/parametree/parametree/MeanTree", "<init>", "(Lcom/example/parametree/parametree/Tree;[D[D)V"⟩ : MethodName) prog_43_method_1_code 7 none :: ws) ({ frames := 1, cells := 6, slots := 37, locals := 13 } : Room)) (fun a U => a = #[(.ref p0), (.ref p1), (.ref p2), (.ref p3)] ∧ Z.Warmed39 U.vm ∧ U.heap = h0) (fun _ _ _ _ _ => True) (fun _ U o U' => ∃ v L, o = .returned v ∧ Q_rm_min Z w_EM p0 p1 p2 p3 pa ka q0 q1 q2 q3 q4 pr kr pd ph k2 k3 h0 n0 v U'.heap L ∧ FrameEnd U o U' L ({ frames := 1, cells := 6, slots := 37, locals := 13 } : Room).cells ({ frames := 1, cells := 6, slots := 37, locals := 13 } : Room).slots) := by
  refine MetFree.of_bodySF (plainFor_of_name own_pn2) hisR ?_
  intro p e s m args below meth c s₁ Bd hml0 hP hK
  obtain ⟨rfl, hZ, hh⟩ := hP
  have hx := Bd.exec
  have hby := Bd.bytes
  have hml : c.maxLocals = 7 := hml0
  have hown : s.vm.findClass "com/example/parametree/parametree/MeanTree" = some m.cls := findClass_of_methodNamed Bd.named
  have hnm := (name_of_methodNamed Bd.named Bd.method).1
  have X0 : Stand p l e ({ frames := 1, cells := 6, slots := 37, locals := 13 } : Room) s m #[(.ref p0), (.ref p1), (.ref p2), (.ref p3)] below meth c s₁ [] 0 0 := Stand.of_body Bd
  have e0 : s₁.heap = h0 := by rw [← hh, Bd.state]; rfl
  have N0 := Fr.nil n0
  refine Go.start fun P hPend => ?_
  refine Go.st (fun _ k => castTop (own_ef_rm_min m p0 p1 p2 p3) k) ?_
  show Go p.tables e below P (s₁.setTop (mkF m 0 #[.val (.ref p0), .val (.ref p1), .val (.ref p2), .val (.ref p3), .unset, .unset, .unset] []))
  refine Go.st (fun _ => XS.aloadN X0.here hx rfl (hb hby own_d_prog_43_method_1_code_0) rfl rfl) ?_
  show Go p.tables e below P (s₁.setTop (mkF m 1 #[.val (.ref p0), .val (.ref p1), .val (.ref p2), .val (.ref p3), .unset, .unset, .unset] [(.ref p0)]))
  obtain ⟨T1, X1, e1, st1⟩ := initO X0 hx hZ hown (hw _ (List.mem_of_getElem? (i := 54) rfl)) (hw _ (List.mem_of_getElem? (i := 22) rfl)) (hw _ (List.mem_of_getElem? (i := 23) rfl)) e0 (g := (mkF m 1 #[.val (.ref p0), .val (.ref p1), .val (.ref p2), .val (.ref p3), .unset, .unset, .unset] [(.ref p0)])) rfl (by rw [hml]; rfl) rfl (hb hby own_d_prog_43_method_1_code_1) (by decide) (W := 0) (by show 2 * 0 + _ ≤ _; exact Nat.le_of_eq rfl) (by decide)
  refine Go.st st1 ?_
  show Go p.tables e below P (T1.setTop (mkF m 4 #[.val (.ref p0), .val (.ref p1), .val (.ref p2), .val (.ref p3), .unset, .unset, .unset] []))
  refine Go.st (fun _ => XS.aloadN X1.here hx rfl (hb hby own_d_prog_43_method_1_code_4) rfl rfl) ?_
  show Go p.tables e below P (T1.setTop (mkF m 5 #[.val (.ref p0), .val (.ref p1), .val (.ref p2), .val (.ref p3), .unset, .unset, .unset] [(.ref p0)]))
  refine Go.st (fun _ => XS.aloadN X1.here hx rfl (hb hby own_d_prog_43_method_1_code_5) rfl rfl) ?_
  show Go p.tables e below P (T1.setTop (mkF m 6 #[.val (.ref p0), .val (.ref p1), .val (.ref p2), .val (.ref p3), .unset, .unset, .unset] [(.ref p1), (.ref p0)]))
  obtain ⟨cq2, kq2, q2a, q2b, q2c⟩ := isOf hZ e1 hp11
  obtain ⟨_, _, ⟨T2, L2, k2, n2⟩, -, X2, ⟨Lc2, hQ2, l2, y2, z2⟩, st2⟩ := X1.virtualBack hx (y := (⟨"com/example/parametree/parametree/Tree", "size", "()I"⟩ : MethodName)) (z := (⟨"com/example/parametree/parametree/Tree", "size", "()I"⟩ : MethodName)) hown (mvT hZ (hw _ (List.mem_of_getElem? (i := 55) rfl))) (mvT hZ (hw _ (List.mem_of_getElem? (i := 56) rfl))) (notFace_of_selects (args := #[]) (mvT hZ (hw _ (List.mem_of_getElem? (i := 58) rfl)))) (mvT hZ (hw _ (List.mem_of_getElem? (i := 58) rfl))) (mvT hZ (hw _ (List.mem_of_getElem? (i := 57) rfl))) (by decide) (backOf (W := 1) (rm_tsz l Z a0 hw [] w_EM S_EM X_EM p1 pa ka q0 q1 q2 q3 q4 h0 n0 X00 hp12 hp13) hZ (hw _ (List.mem_of_getElem? (i := 59) rfl)) (hw _ (List.mem_of_getElem? (i := 11) rfl)) (by decide) (by decide)) q2a q2c (g := (mkF m 6 #[.val (.ref p0), .val (.ref p1), .val (.ref p2), .val (.ref p3), .unset, .unset, .unset] [(.ref p1), (.ref p0)])) rfl (by rw [hml]; rfl) (Steps.refl _) (argsL := []) (rest := [(.ref p0)]) (lenOf own_pd1 rfl) rfl (by show 2 * 0 + _ ≤ _; exact Nat.le_of_eq rfl) (hb hby own_d_prog_43_method_1_code_6) (fun _ _ => ⟨rfl, e1, (by decide : 0 + 0 ≤ _), (by decide : 0 + 0 ≤ _)⟩)
  dsimp only [Pt.U, Pt.locs, Pt.cells, Pt.slots] at X2 l2 y2 z2 st2 hQ2
  subst y2 z2
  refine Go.tr st2 ?_
  obtain ⟨rfl, N2q, e2⟩ := hQ2
  have N2 : Fr n0 L2 := by rw [l2]; exact Fr.app N0 N2q
  show Go p.tables e below P (T2.setTop (mkF m 9 #[.val (.ref p0), .val (.ref p1), .val (.ref p2), .val (.ref p3), .unset, .unset, .unset] [(.int (5 : Int32)), (.ref p0)]))
  obtain ⟨T3, h3, X3, e3, W3, st3⟩ := putF X2 hx hZ hown (host := "") (Or.inl (hw _ (List.mem_of_getElem? (i := 60) rfl))) Via.refl e2 hp1 hp0 (Or.inl (hw _ (List.mem_of_getElem? (i := 61) rfl))) (hw _ (List.mem_of_getElem? (i := 48) rfl)) (ty := .int) (by decide) rfl rfl (g := (mkF m 9 #[.val (.ref p0), .val (.ref p1), .val (.ref p2), .val (.ref p3), .unset, .unset, .unset] [(.int (5 : Int32)), (.ref p0)])) rfl rfl (hb hby own_d_prog_43_method_1_code_9)
  refine Go.st st3 ?_
  have K3 : Keep h0 h3 [p0] := (Keep.refl h0 [p0]).wr W3 (Or.inl (List.mem_of_getElem? (i := 0) rfl))
  have O3 := X00.wr W3 hp10
  have N3 := Fr.snoc X3 N2 hp10
  have F3 := hp1.same W3
  show Go p.tables e below P (T3.setTop (mkF m 12 #[.val (.ref p0), .val (.ref p1), .val (.ref p2), .val (.ref p3), .unset, .unset, .unset] []))
  refine Go.st (fun _ => XS.aloadN X3.here hx rfl (hb hby own_d_prog_43_method_1_code_12) rfl rfl) ?_
  show Go p.tables e below P (T3.setTop (mkF m 13 #[.val (.ref p0), .val (.ref p1), .val (.ref p2), .val (.ref p3), .unset, .unset, .unset] [(.ref p0)]))
  refine Go.st (fun _ => XS.aloadN X3.here hx rfl (hb hby own_d_prog_43_method_1_code_13) rfl rfl) ?_
  show Go p.tables e below P (T3.setTop (mkF m 14 #[.val (.ref p0), .val (.ref p1), .val (.ref p2), .val (.ref p3), .unset, .unset, .unset] [(.ref p1), (.ref p0)]))
  have c5 := (hp14.other W3 (Or.inl (Exa.ne hp11 hp0 (by decide))))
  have c6 := (hp11.wr W3)
  obtain ⟨cq4, kq4, q4a, q4b, q4c⟩ := isOf hZ e3 c6
  obtain ⟨_, _, ⟨T4, L4, k4, n4⟩, -, X4, ⟨Lc4, hQ4, l4, y4, z4⟩, st4⟩ := X3.virtualBack hx (y := (⟨"com/example/parametree/parametree/Tree", "sharedPreorder", "()[I"⟩ : MethodName)) (z := (⟨"com/example/parametree/parametree/Tree", "sharedPreorder", "()[I"⟩ : MethodName)) hown (mvT hZ (hw _ (List.mem_of_getElem? (i := 62) rfl))) (mvT hZ (hw _ (List.mem_of_getElem? (i := 63) rfl))) (notFace_of_selects (args := #[]) (mvT hZ (hw _ (List.mem_of_getElem? (i := 65) rfl)))) (mvT hZ (hw _ (List.mem_of_getElem? (i := 65) rfl))) (mvT hZ (hw _ (List.mem_of_getElem? (i := 64) rfl))) (by decide) (backOf (W := 1) (rm_tpo l Z a0 hw [] w_EM S_EM X_EM p1 pr h3 n0 O3 c5) hZ (hw _ (List.mem_of_getElem? (i := 66) rfl)) (hw _ (List.mem_of_getElem? (i := 11) rfl)) (by decide) (by decide)) q4a q4c (g := (mkF m 14 #[.val (.ref p0), .val (.ref p1), .val (.ref p2), .val (.ref p3), .unset, .unset, .unset] [(.ref p1), (.ref p0)])) rfl (by rw [hml]; rfl) (Steps.refl _) (argsL := []) (rest := [(.ref p0)]) (lenOf own_pd2 rfl) rfl (by show 2 * 0 + _ ≤ _; exact Nat.le_of_eq rfl) (hb hby own_d_prog_43_method_1_code_14) (fun _ _ => ⟨rfl, e3, (by decide : 0 + 0 ≤ _), (by decide : 0 + 0 ≤ _)⟩)
  dsimp only [Pt.U, Pt.locs, Pt.cells, Pt.slots] at X4 l4 y4 z4 st4 hQ4
  subst y4 z4
  refine Go.tr st4 ?_
  obtain ⟨rfl, N4q, e4⟩ := hQ4
  have N4 : Fr n0 L4 := by rw [l4]; exact Fr.app N3 N4q
  show Go p.tables e below P (T4.setTop (mkF m 17 #[.val (.ref p0), .val (.ref p1), .val (.ref p2), .val (.ref p3), .unset, .unset, .unset] [(.ref pr), (.ref p0)]))
  have c7 := (hp2.other W3 (Or.inr (slot_ne (Or.inr (hw _ (List.mem_of_getElem? (i := 68) rfl))) (Or.inl (hw _ (List.mem_of_getElem? (i := 61) rfl))) (by decide) (t := (.array .int)) (t' := .int) (by decide) (by decide))))
  have c8 := (hp0.wr W3)
  obtain ⟨T9, h9, X9, e9, W9, st9⟩ := putF X4 hx hZ hown (host := "") (Or.inl (hw _ (List.mem_of_getElem? (i := 67) rfl))) Via.refl e4 c7 c8 (Or.inr ⟨(hw _ (List.mem_of_getElem? (i := 68) rfl)), rfl, hnm⟩) (hw _ (List.mem_of_getElem? (i := 48) rfl)) (ty := (.array .int)) (by decide) rfl rfl (g := (mkF m 17 #[.val (.ref p0), .val (.ref p1), .val (.ref p2), .val (.ref p3), .unset, .unset, .unset] [(.ref pr), (.ref p0)])) rfl rfl (hb hby own_d_prog_43_method_1_code_17)
  refine Go.st st9 ?_
  have K9 : Keep h0 h9 [p0] := K3.wr W9 (Or.inl (List.mem_of_getElem? (i := 0) rfl))
  have O9 := O3.wr W9 hp10
  have N9 := Fr.snoc X9 N4 hp10
  have F9 := c7.same W9
  show Go p.tables e below P (T9.setTop (mkF m 20 #[.val (.ref p0), .val (.ref p1), .val (.ref p2), .val (.ref p3), .unset, .unset, .unset] []))
  refine Go.st (fun _ => XS.aloadN X9.here hx rfl (hb hby own_d_prog_43_method_1_code_20) rfl rfl) ?_
  show Go p.tables e below P (T9.setTop (mkF m 21 #[.val (.ref p0), .val (.ref p1), .val (.ref p2), .val (.ref p3), .unset, .unset, .unset] [(.ref p0)]))
  refine Go.st (fun _ => XS.aloadN X9.here hx rfl (hb hby own_d_prog_43_method_1_code_21) rfl rfl) ?_
  show Go p.tables e below P (T9.setTop (mkF m 22 #[.val (.ref p0), .val (.ref p1), .val (.ref p2), .val (.ref p3), .unset, .unset, .unset] [(.ref p1), (.ref p0)]))
  have c11 := ((hp16.other W3 (Or.inl (Exa.ne hp11 hp0 (by decide)))).other W9 (Or.inl (Exa.ne hp11 hp0 (by decide))))
  have c12 := (c6.wr W9)
  obtain ⟨cq10, kq10, q10a, q10b, q10c⟩ := isOf hZ e9 c12
  obtain ⟨_, _, ⟨T10, L10, k10, n10⟩, -, X10, ⟨Lc10, hQ10, l10, y10, z10⟩, st10⟩ := X9.virtualBack hx (y := (⟨"com/example/parametree/parametree/Tree", "depths", "()[I"⟩ : MethodName)) (z := (⟨"com/example/parametree/parametree/Tree", "depths", "()[I"⟩ : MethodName)) hown (mvT hZ (hw _ (List.mem_of_getElem? (i := 69) rfl))) (mvT hZ (hw _ (List.mem_of_getElem? (i := 70) rfl))) (notFace_of_selects (args := #[]) (mvT hZ (hw _ (List.mem_of_getElem? (i := 72) rfl)))) (mvT hZ (hw _ (List.mem_of_getElem? (i := 72) rfl))) (mvT hZ (hw _ (List.mem_of_getElem? (i := 71) rfl))) (by decide) (backOf (W := 1) (rm_tde l Z a0 hw [] w_EM S_EM X_EM p1 pd h9 n0 O9 c11) hZ (hw _ (List.mem_of_getElem? (i := 73) rfl)) (hw _ (List.mem_of_getElem? (i := 11) rfl)) (by decide) (by decide)) q10a q10c (g := (mkF m 22 #[.val (.ref p0), .val (.ref p1), .val (.ref p2), .val (.ref p3), .unset, .unset, .unset] [(.ref p1), (.ref p0)])) rfl (by rw [hml]; rfl) (Steps.refl _) (argsL := []) (rest := [(.ref p0)]) (lenOf own_pd2 rfl) rfl (by show 2 * 0 + _ ≤ _; exact Nat.le_of_eq rfl) (hb hby own_d_prog_43_method_1_code_22) (fun _ _ => ⟨rfl, e9, (by decide : 0 + 0 ≤ _), (by decide : 0 + 0 ≤ _)⟩)
  dsimp only [Pt.U, Pt.locs, Pt.cells, Pt.slots] at X10 l10 y10 z10 st10 hQ10
  subst y10 z10
  refine Go.tr st10 ?_
  obtain ⟨rfl, N10q, e10⟩ := hQ10
  have N10 : Fr n0 L10 := by rw [l10]; exact Fr.app N9 N10q
  show Go p.tables e below P (T10.setTop (mkF m 25 #[.val (.ref p0), .val (.ref p1), .val (.ref p2), .val (.ref p3), .unset, .unset, .unset] [(.ref pd), (.ref p0)]))
  have c13 := ((hp3.other W3 (Or.inr (slot_ne (Or.inr (hw _ (List.mem_of_getElem? (i := 75) rfl))) (Or.inl (hw _ (List.mem_of_getElem? (i := 61) rfl))) (by decide) (t := (.array .int)) (t' := .int) (by decide) (by decide)))).other W9 (Or.inr (slot_ne (Or.inr (hw _ (List.mem_of_getElem? (i := 75) rfl))) (Or.inr (hw _ (List.mem_of_getElem? (i := 68) rfl))) (by decide) (t := (.array .int)) (t' := (.array .int)) (by decide) (by decide))))
  have c14 := (c8.wr W9)
  obtain ⟨T15, h15, X15, e15, W15, st15⟩ := putF X10 hx hZ hown (host := "") (Or.inl (hw _ (List.mem_of_getElem? (i := 74) rfl))) Via.refl e10 c13 c14 (Or.inr ⟨(hw _ (List.mem_of_getElem? (i := 75) rfl)), rfl, hnm⟩) (hw _ (List.mem_of_getElem? (i := 48) rfl)) (ty := (.array .int)) (by decide) rfl rfl (g := (mkF m 25 #[.val (.ref p0), .val (.ref p1), .val (.ref p2), .val (.ref p3), .unset, .unset, .unset] [(.ref pd), (.ref p0)])) rfl rfl (hb hby own_d_prog_43_method_1_code_25)
  refine Go.st st15 ?_
  have K15 : Keep h0 h15 [p0] := K9.wr W15 (Or.inl (List.mem_of_getElem? (i := 0) rfl))
  have O15 := O9.wr W15 hp10
  have N15 := Fr.snoc X15 N10 hp10
  have F15 := c13.same W15
  show Go p.tables e below P (T15.setTop (mkF m 28 #[.val (.ref p0), .val (.ref p1), .val (.ref p2), .val (.ref p3), .unset, .unset, .unset] []))
  refine Go.st (fun _ => XS.aloadN X15.here hx rfl (hb hby own_d_prog_43_method_1_code_28) rfl rfl) ?_
  show Go p.tables e below P (T15.setTop (mkF m 29 #[.val (.ref p0), .val (.ref p1), .val (.ref p2), .val (.ref p3), .unset, .unset, .unset] [(.ref p0)]))
  refine Go.st (fun _ => XS.aloadN X15.here hx rfl (hb hby own_d_prog_43_method_1_code_29) rfl rfl) ?_
  show Go p.tables e below P (T15.setTop (mkF m 30 #[.val (.ref p0), .val (.ref p1), .val (.ref p2), .val (.ref p3), .unset, .unset, .unset] [(.ref p0), (.ref p0)]))
  have c16 := ((F3.other W9 (Or.inr (slot_ne (Or.inl (hw _ (List.mem_of_getElem? (i := 61) rfl))) (Or.inr (hw _ (List.mem_of_getElem? (i := 68) rfl))) (by decide) (t := .int) (t' := (.array .int)) (by decide) (by decide)))).other W15 (Or.inr (slot_ne (Or.inl (hw _ (List.mem_of_getElem? (i := 61) rfl))) (Or.inr (hw _ (List.mem_of_getElem? (i := 75) rfl))) (by decide) (t := .int) (t' := (.array .int)) (by decide) (by decide))))
  obtain ⟨T17, X17, e17, st17⟩ := getF X15 hx hZ hown (host := "") (Or.inl (hw _ (List.mem_of_getElem? (i := 60) rfl))) Via.refl e15 c16 (g := (mkF m 30 #[.val (.ref p0), .val (.ref p1), .val (.ref p2), .val (.ref p3), .unset, .unset, .unset] [(.ref p0), (.ref p0)])) rfl rfl (hb hby own_d_prog_43_method_1_code_30)
  refine Go.st st17 ?_
  show Go p.tables e below P (T17.setTop (mkF m 33 #[.val (.ref p0), .val (.ref p1), .val (.ref p2), .val (.ref p3), .unset, .unset, .unset] [(.int (5 : Int32)), (.ref p0)]))
  have c19 := (c14.wr W15)
  have c20 := (c12.wr W15)
  have c21 := (((hp13.other W3 (Ne.symm (Exa.neArv hp0 hp13 (hw _ (List.mem_of_getElem? (i := 48) rfl))))).other W9 (Ne.symm (Exa.neArv hp0 hp13 (hw _ (List.mem_of_getElem? (i := 48) rfl))))).other W15 (Ne.symm (Exa.neArv hp0 hp13 (hw _ (List.mem_of_getElem? (i := 48) rfl)))))
  have c22 := (((hp15.other W3 (Ne.symm (Exa.neArv hp0 hp15 (hw _ (List.mem_of_getElem? (i := 48) rfl))))).other W9 (Ne.symm (Exa.neArv hp0 hp15 (hw _ (List.mem_of_getElem? (i := 48) rfl))))).other W15 (Ne.symm (Exa.neArv hp0 hp15 (hw _ (List.mem_of_getElem? (i := 48) rfl)))))
  have c23 := (((hp18.other W3 (Ne.symm (Exa.neArv hp0 hp18 (hw _ (List.mem_of_getElem? (i := 48) rfl))))).other W9 (Ne.symm (Exa.neArv hp0 hp18 (hw _ (List.mem_of_getElem? (i := 48) rfl))))).other W15 (Ne.symm (Exa.neArv hp0 hp18 (hw _ (List.mem_of_getElem? (i := 48) rfl)))))
  have c24 := (((hp19.other W3 (Ne.symm (Exa.neArv hp0 hp19 (hw _ (List.mem_of_getElem? (i := 48) rfl))))).other W9 (Ne.symm (Exa.neArv hp0 hp19 (hw _ (List.mem_of_getElem? (i := 48) rfl))))).other W15 (Ne.symm (Exa.neArv hp0 hp19 (hw _ (List.mem_of_getElem? (i := 48) rfl)))))
  obtain ⟨T18, h18, k18, X18, e18, E18, A18, st18⟩ := newP X17 hx hZ (hw _ (List.mem_of_getElem? (i := 50) rfl)) e17 (g := (mkF m 33 #[.val (.ref p0), .val (.ref p1), .val (.ref p2), .val (.ref p3), .unset, .unset, .unset] [(.int (5 : Int32)), (.ref p0)])) rfl (hb hby own_d_prog_43_method_1_code_33) rfl (by decide) (cap := 5) (by decide) (by decide) (by decide) (by decide)
  obtain ⟨b18, g18⟩ : ∃ z, z = h15.size := ⟨_, rfl⟩
  rw [← g18] at A18 st18
  refine Go.st st18 ?_
  have g_b18 : n0 ≤ b18 := Nat.le_trans (own_oldsz O15) (Nat.le_of_eq g18.symm)
  have sz_b18 : h0.size ≤ b18 := Nat.le_trans K15.1 (Nat.le_of_eq g18.symm)
  have K18 : Keep h0 h18 [p0] := K15.ext E18
  have O18 := O15.ext E18
  have V18 : Arv Z h18 b18 k18 .double (5 : Int32) [(.double (0 : UInt64)), (.double (0 : UInt64)), (.double (0 : UInt64)), (.double (0 : UInt64)), (.double (0 : UInt64))] (.double (0 : UInt64)) := (Arv.new A18 (by decide)).pad (pad_rep [] (.double (0 : UInt64)) 5)
  show Go p.tables e below P (T18.setTop (mkF m 35 #[.val (.ref p0), .val (.ref p1), .val (.ref p2), .val (.ref p3), .unset, .unset, .unset] [(.ref b18), (.ref p0)]))
  have c25 := ((((hp4.other W3 (Or.inr (slot_ne (Or.inr (hw _ (List.mem_of_getElem? (i := 77) rfl))) (Or.inl (hw _ (List.mem_of_getElem? (i := 61) rfl))) (by decide) (t := (.array .double)) (t' := .int) (by decide) (by decide)))).other W9 (Or.inr (slot_ne (Or.inr (hw _ (List.mem_of_getElem? (i := 77) rfl))) (Or.inr (hw _ (List.mem_of_getElem? (i := 68) rfl))) (by decide) (t := (.array .double)) (t' := (.array .int)) (by decide) (by decide)))).other W15 (Or.inr (slot_ne (Or.inr (hw _ (List.mem_of_getElem? (i := 77) rfl))) (Or.inr (hw _ (List.mem_of_getElem? (i := 75) rfl))) (by decide) (t := (.array .double)) (t' := (.array .int)) (by decide) (by decide)))).ext E18)
  have c26 := (c19.ext E18)
  obtain ⟨T27, h27, X27, e27, W27, st27⟩ := putF X18 hx hZ hown (host := "") (Or.inl (hw _ (List.mem_of_getElem? (i := 76) rfl))) Via.refl e18 c25 c26 (Or.inr ⟨(hw _ (List.mem_of_getElem? (i := 77) rfl)), rfl, hnm⟩) (hw _ (List.mem_of_getElem? (i := 48) rfl)) (ty := (.array .double)) (by decide) rfl rfl (g := (mkF m 35 #[.val (.ref p0), .val (.ref p1), .val (.ref p2), .val (.ref p3), .unset, .unset, .unset] [(.ref b18), (.ref p0)])) rfl rfl (hb hby own_d_prog_43_method_1_code_35)
  refine Go.st st27 ?_
  have K27 : Keep h0 h27 [p0] := K18.wr W27 (Or.inl (List.mem_of_getElem? (i := 0) rfl))
  have O27 := O18.wr W27 hp10
  have N27 := Fr.snoc X27 N15 hp10
  have F27 := c25.same W27
  show Go p.tables e below P (T27.setTop (mkF m 38 #[.val (.ref p0), .val (.ref p1), .val (.ref p2), .val (.ref p3), .unset, .unset, .unset] []))
  refine Go.st (fun _ => XS.aloadN X27.here hx rfl (hb hby own_d_prog_43_method_1_code_38) rfl rfl) ?_
  show Go p.tables e below P (T27.setTop (mkF m 39 #[.val (.ref p0), .val (.ref p1), .val (.ref p2), .val (.ref p3), .unset, .unset, .unset] [(.ref p0)]))
  refine Go.st (fun _ => XS.aloadN X27.here hx rfl (hb hby own_d_prog_43_method_1_code_39) rfl rfl) ?_
  show Go p.tables e below P (T27.setTop (mkF m 40 #[.val (.ref p0), .val (.ref p1), .val (.ref p2), .val (.ref p3), .unset, .unset, .unset] [(.ref p0), (.ref p0)]))
  have c28 := ((c16.ext E18).other W27 (Or.inr (slot_ne (Or.inl (hw _ (List.mem_of_getElem? (i := 61) rfl))) (Or.inr (hw _ (List.mem_of_getElem? (i := 77) rfl))) (by decide) (t := .int) (t' := (.array .double)) (by decide) (by decide))))
  obtain ⟨T29, X29, e29, st29⟩ := getF X27 hx hZ hown (host := "") (Or.inl (hw _ (List.mem_of_getElem? (i := 60) rfl))) Via.refl e27 c28 (g := (mkF m 40 #[.val (.ref p0), .val (.ref p1), .val (.ref p2), .val (.ref p3), .unset, .unset, .unset] [(.ref p0), (.ref p0)])) rfl rfl (hb hby own_d_prog_43_method_1_code_40)
  refine Go.st st29 ?_
  show Go p.tables e below P (T29.setTop (mkF m 43 #[.val (.ref p0), .val (.ref p1), .val (.ref p2), .val (.ref p3), .unset, .unset, .unset] [(.int (5 : Int32)), (.ref p0)]))
  have c31 := (c26.wr W27)
  have c32 := ((c20.ext E18).wr W27)
  have c33 := ((c21.ext E18).other W27 (Ne.symm (Exa.neArv hp0 hp13 (hw _ (List.mem_of_getElem? (i := 48) rfl)))))
  have c34 := ((c22.ext E18).other W27 (Ne.symm (Exa.neArv hp0 hp15 (hw _ (List.mem_of_getElem? (i := 48) rfl)))))
  have c35 := ((c23.ext E18).other W27 (Ne.symm (Exa.neArv hp0 hp18 (hw _ (List.mem_of_getElem? (i := 48) rfl)))))
  have c36 := ((c24.ext E18).other W27 (Ne.symm (Exa.neArv hp0 hp19 (hw _ (List.mem_of_getElem? (i := 48) rfl)))))
  have c37 := (V18.other W27 (Ne.symm (Nat.ne_of_lt (Nat.lt_of_lt_of_le c19.lt (Nat.le_of_eq g18.symm)))))
  obtain ⟨T30, h30, k30, X30, e30, E30, A30, st30⟩ := newP X29 hx hZ (hw _ (List.mem_of_getElem? (i := 50) rfl)) e29 (g := (mkF m 43 #[.val (.ref p0), .val (.ref p1), .val (.ref p2), .val (.ref p3), .unset, .unset, .unset] [(.int (5 : Int32)), (.ref p0)])) rfl (hb hby own_d_prog_43_method_1_code_43) rfl (by decide) (cap := 5) (by decide) (by decide) (by decide) (by decide)
  obtain ⟨b30, g30⟩ : ∃ z, z = h27.size := ⟨_, rfl⟩
  rw [← g30] at A30 st30
  refine Go.st st30 ?_
  have g_b30 : n0 ≤ b30 := Nat.le_trans (own_oldsz O27) (Nat.le_of_eq g30.symm)
  have sz_b30 : h0.size ≤ b30 := Nat.le_trans K27.1 (Nat.le_of_eq g30.symm)
  have K30 : Keep h0 h30 [p0] := K27.ext E30
  have O30 := O27.ext E30
  have V30 : Arv Z h30 b30 k30 .double (5 : Int32) [(.double (0 : UInt64)), (.double (0 : UInt64)), (.double (0 : UInt64)), (.double (0 : UInt64)), (.double (0 : UInt64))] (.double (0 : UInt64)) := (Arv.new A30 (by decide)).pad (pad_rep [] (.double (0 : UInt64)) 5)
  show Go p.tables e below P (T30.setTop (mkF m 45 #[.val (.ref p0), .val (.ref p1), .val (.ref p2), .val (.ref p3), .unset, .unset, .unset] [(.ref b30), (.ref p0)]))
  have c38 := ((((((hp5.other W3 (Or.inr (slot_ne (Or.inr (hw _ (List.mem_of_getElem? (i := 79) rfl))) (Or.inl (hw _ (List.mem_of_getElem? (i := 61) rfl))) (by decide) (t := (.array .double)) (t' := .int) (by decide) (by decide)))).other W9 (Or.inr (slot_ne (Or.inr (hw _ (List.mem_of_getElem? (i := 79) rfl))) (Or.inr (hw _ (List.mem_of_getElem? (i := 68) rfl))) (by decide) (t := (.array .double)) (t' := (.array .int)) (by decide) (by decide)))).other W15 (Or.inr (slot_ne (Or.inr (hw _ (List.mem_of_getElem? (i := 79) rfl))) (Or.inr (hw _ (List.mem_of_getElem? (i := 75) rfl))) (by decide) (t := (.array .double)) (t' := (.array .int)) (by decide) (by decide)))).ext E18).other W27 (Or.inr (slot_ne (Or.inr (hw _ (List.mem_of_getElem? (i := 79) rfl))) (Or.inr (hw _ (List.mem_of_getElem? (i := 77) rfl))) (by decide) (t := (.array .double)) (t' := (.array .double)) (by decide) (by decide)))).ext E30)
  have c39 := (c31.ext E30)
  obtain ⟨T40, h40, X40, e40, W40, st40⟩ := putF X30 hx hZ hown (host := "") (Or.inl (hw _ (List.mem_of_getElem? (i := 78) rfl))) Via.refl e30 c38 c39 (Or.inr ⟨(hw _ (List.mem_of_getElem? (i := 79) rfl)), rfl, hnm⟩) (hw _ (List.mem_of_getElem? (i := 48) rfl)) (ty := (.array .double)) (by decide) rfl rfl (g := (mkF m 45 #[.val (.ref p0), .val (.ref p1), .val (.ref p2), .val (.ref p3), .unset, .unset, .unset] [(.ref b30), (.ref p0)])) rfl rfl (hb hby own_d_prog_43_method_1_code_45)
  refine Go.st st40 ?_
  have K40 : Keep h0 h40 [p0] := K30.wr W40 (Or.inl (List.mem_of_getElem? (i := 0) rfl))
  have O40 := O30.wr W40 hp10
  have N40 := Fr.snoc X40 N27 hp10
  have F40 := c38.same W40
  show Go p.tables e below P (T40.setTop (mkF m 48 #[.val (.ref p0), .val (.ref p1), .val (.ref p2), .val (.ref p3), .unset, .unset, .unset] []))
  refine Go.st (fun _ => XS.aloadN X40.here hx rfl (hb hby own_d_prog_43_method_1_code_48) rfl rfl) ?_
  show Go p.tables e below P (T40.setTop (mkF m 49 #[.val (.ref p0), .val (.ref p1), .val (.ref p2), .val (.ref p3), .unset, .unset, .unset] [(.ref p0)]))
  refine Go.st (fun _ => XS.aloadN X40.here hx rfl (hb hby own_d_prog_43_method_1_code_49) rfl rfl) ?_
  show Go p.tables e below P (T40.setTop (mkF m 50 #[.val (.ref p0), .val (.ref p1), .val (.ref p2), .val (.ref p3), .unset, .unset, .unset] [(.ref p0), (.ref p0)]))
  have c41 := ((c28.ext E30).other W40 (Or.inr (slot_ne (Or.inl (hw _ (List.mem_of_getElem? (i := 61) rfl))) (Or.inr (hw _ (List.mem_of_getElem? (i := 79) rfl))) (by decide) (t := .int) (t' := (.array .double)) (by decide) (by decide))))
  obtain ⟨T42, X42, e42, st42⟩ := getF X40 hx hZ hown (host := "") (Or.inl (hw _ (List.mem_of_getElem? (i := 60) rfl))) Via.refl e40 c41 (g := (mkF m 50 #[.val (.ref p0), .val (.ref p1), .val (.ref p2), .val (.ref p3), .unset, .unset, .unset] [(.ref p0), (.ref p0)])) rfl rfl (hb hby own_d_prog_43_method_1_code_50)
  refine Go.st st42 ?_
  show Go p.tables e below P (T42.setTop (mkF m 53 #[.val (.ref p0), .val (.ref p1), .val (.ref p2), .val (.ref p3), .unset, .unset, .unset] [(.int (5 : Int32)), (.ref p0)]))
  have c44 := (c39.wr W40)
  have c45 := ((c32.ext E30).wr W40)
  have c46 := ((c33.ext E30).other W40 (Ne.symm (Exa.neArv hp0 hp13 (hw _ (List.mem_of_getElem? (i := 48) rfl)))))
  have c47 := ((c34.ext E30).other W40 (Ne.symm (Exa.neArv hp0 hp15 (hw _ (List.mem_of_getElem? (i := 48) rfl)))))
  have c48 := ((c35.ext E30).other W40 (Ne.symm (Exa.neArv hp0 hp18 (hw _ (List.mem_of_getElem? (i := 48) rfl)))))
  have c49 := ((c36.ext E30).other W40 (Ne.symm (Exa.neArv hp0 hp19 (hw _ (List.mem_of_getElem? (i := 48) rfl)))))
  have c50 := ((c37.ext E30).other W40 (Ne.symm (Nat.ne_of_lt (Nat.lt_of_lt_of_le c19.lt (Nat.le_of_eq g18.symm)))))
  have c51 := (V30.other W40 (Ne.symm (Nat.ne_of_lt (Nat.lt_of_lt_of_le c31.lt (Nat.le_of_eq g30.symm)))))
  obtain ⟨T43, h43, k43, X43, e43, E43, A43, st43⟩ := newP X42 hx hZ (hw _ (List.mem_of_getElem? (i := 80) rfl)) e42 (g := (mkF m 53 #[.val (.ref p0), .val (.ref p1), .val (.ref p2), .val (.ref p3), .unset, .unset, .unset] [(.int (5 : Int32)), (.ref p0)])) rfl (hb hby own_d_prog_43_method_1_code_53) rfl (by decide) (cap := 5) (by decide) (by decide) (by decide) (by decide)
  obtain ⟨b43, g43⟩ : ∃ z, z = h40.size := ⟨_, rfl⟩
  rw [← g43] at A43 st43
  refine Go.st st43 ?_
  have g_b43 : n0 ≤ b43 := Nat.le_trans (own_oldsz O40) (Nat.le_of_eq g43.symm)
  have sz_b43 : h0.size ≤ b43 := Nat.le_trans K40.1 (Nat.le_of_eq g43.symm)
  have K43 : Keep h0 h43 [p0] := K40.ext E43
  have O43 := O40.ext E43
  have V43 : Arv Z h43 b43 k43 .boolean (5 : Int32) [(.int (0 : Int32)), (.int (0 : Int32)), (.int (0 : Int32)), (.int (0 : Int32)), (.int (0 : Int32))] (.int (0 : Int32)) := (Arv.new A43 (by decide)).pad (pad_rep [] (.int (0 : Int32)) 5)
  show Go p.tables e below P (T43.setTop (mkF m 55 #[.val (.ref p0), .val (.ref p1), .val (.ref p2), .val (.ref p3), .unset, .unset, .unset] [(.ref b43), (.ref p0)]))
  have c52 := ((((((((hp6.other W3 (Or.inr (slot_ne (Or.inr (hw _ (List.mem_of_getElem? (i := 82) rfl))) (Or.inl (hw _ (List.mem_of_getElem? (i := 61) rfl))) (by decide) (t := (.array .boolean)) (t' := .int) (by decide) (by decide)))).other W9 (Or.inr (slot_ne (Or.inr (hw _ (List.mem_of_getElem? (i := 82) rfl))) (Or.inr (hw _ (List.mem_of_getElem? (i := 68) rfl))) (by decide) (t := (.array .boolean)) (t' := (.array .int)) (by decide) (by decide)))).other W15 (Or.inr (slot_ne (Or.inr (hw _ (List.mem_of_getElem? (i := 82) rfl))) (Or.inr (hw _ (List.mem_of_getElem? (i := 75) rfl))) (by decide) (t := (.array .boolean)) (t' := (.array .int)) (by decide) (by decide)))).ext E18).other W27 (Or.inr (slot_ne (Or.inr (hw _ (List.mem_of_getElem? (i := 82) rfl))) (Or.inr (hw _ (List.mem_of_getElem? (i := 77) rfl))) (by decide) (t := (.array .boolean)) (t' := (.array .double)) (by decide) (by decide)))).ext E30).other W40 (Or.inr (slot_ne (Or.inr (hw _ (List.mem_of_getElem? (i := 82) rfl))) (Or.inr (hw _ (List.mem_of_getElem? (i := 79) rfl))) (by decide) (t := (.array .boolean)) (t' := (.array .double)) (by decide) (by decide)))).ext E43)
  have c53 := (c44.ext E43)
  obtain ⟨T54, h54, X54, e54, W54, st54⟩ := putF X43 hx hZ hown (host := "") (Or.inl (hw _ (List.mem_of_getElem? (i := 81) rfl))) Via.refl e43 c52 c53 (Or.inr ⟨(hw _ (List.mem_of_getElem? (i := 82) rfl)), rfl, hnm⟩) (hw _ (List.mem_of_getElem? (i := 48) rfl)) (ty := (.array .boolean)) (by decide) rfl rfl (g := (mkF m 55 #[.val (.ref p0), .val (.ref p1), .val (.ref p2), .val (.ref p3), .unset, .unset, .unset] [(.ref b43), (.ref p0)])) rfl rfl (hb hby own_d_prog_43_method_1_code_55)
  refine Go.st st54 ?_
  have K54 : Keep h0 h54 [p0] := K43.wr W54 (Or.inl (List.mem_of_getElem? (i := 0) rfl))
  have O54 := O43.wr W54 hp10
  have N54 := Fr.snoc X54 N40 hp10
  have F54 := c52.same W54
  show Go p.tables e below P (T54.setTop (mkF m 58 #[.val (.ref p0), .val (.ref p1), .val (.ref p2), .val (.ref p3), .unset, .unset, .unset] []))
  refine Go.st (fun _ => XS.aloadN X54.here hx rfl (hb hby own_d_prog_43_method_1_code_58) rfl rfl) ?_
  show Go p.tables e below P (T54.setTop (mkF m 59 #[.val (.ref p0), .val (.ref p1), .val (.ref p2), .val (.ref p3), .unset, .unset, .unset] [(.ref p0)]))
  refine Go.st (fun _ => XS.aloadN X54.here hx rfl (hb hby own_d_prog_43_method_1_code_59) rfl rfl) ?_
  show Go p.tables e below P (T54.setTop (mkF m 60 #[.val (.ref p0), .val (.ref p1), .val (.ref p2), .val (.ref p3), .unset, .unset, .unset] [(.ref p1), (.ref p0)]))
  have c56 := (((((((((hp17.other W3 (Or.inl (Exa.ne hp11 hp0 (by decide)))).other W9 (Or.inl (Exa.ne hp11 hp0 (by decide)))).other W15 (Or.inl (Exa.ne hp11 hp0 (by decide)))).ext E18).other W27 (Or.inl (Exa.ne hp11 hp0 (by decide)))).ext E30).other W40 (Or.inl (Exa.ne hp11 hp0 (by decide)))).ext E43).other W54 (Or.inl (Exa.ne hp11 hp0 (by decide))))
  have c57 := ((c45.ext E43).wr W54)
  obtain ⟨cq55, kq55, q55a, q55b, q55c⟩ := isOf hZ e54 c57
  obtain ⟨_, _, ⟨T55, L55, k55, n55⟩, -, X55, ⟨Lc55, hQ55, l55, y55, z55⟩, st55⟩ := X54.virtualBack hx (y := (⟨"com/example/parametree/parametree/Tree", "height", "()I"⟩ : MethodName)) (z := (⟨"com/example/parametree/parametree/Tree", "height", "()I"⟩ : MethodName)) hown (mvT hZ (hw _ (List.mem_of_getElem? (i := 83) rfl))) (mvT hZ (hw _ (List.mem_of_getElem? (i := 84) rfl))) (notFace_of_selects (args := #[]) (mvT hZ (hw _ (List.mem_of_getElem? (i := 86) rfl)))) (mvT hZ (hw _ (List.mem_of_getElem? (i := 86) rfl))) (mvT hZ (hw _ (List.mem_of_getElem? (i := 85) rfl))) (by decide) (backOf (W := 1) (rm_the l Z a0 hw [] w_EM S_EM X_EM p1 ph h54 n0 O54 c56) hZ (hw _ (List.mem_of_getElem? (i := 87) rfl)) (hw _ (List.mem_of_getElem? (i := 11) rfl)) (by decide) (by decide)) q55a q55c (g := (mkF m 60 #[.val (.ref p0), .val (.ref p1), .val (.ref p2), .val (.ref p3), .unset, .unset, .unset] [(.ref p1), (.ref p0)])) rfl (by rw [hml]; rfl) (Steps.refl _) (argsL := []) (rest := [(.ref p0)]) (lenOf own_pd1 rfl) rfl (by show 2 * 0 + _ ≤ _; exact Nat.le_of_eq rfl) (hb hby own_d_prog_43_method_1_code_60) (fun _ _ => ⟨rfl, e54, (by decide : 3 + 0 ≤ _), (by decide : 15 + 0 ≤ _)⟩)
  dsimp only [Pt.U, Pt.locs, Pt.cells, Pt.slots] at X55 l55 y55 z55 st55 hQ55
  subst y55 z55
  refine Go.tr st55 ?_
  obtain ⟨rfl, N55q, e55⟩ := hQ55
  have N55 : Fr n0 L55 := by rw [l55]; exact Fr.app N54 N55q
  show Go p.tables e below P (T55.setTop (mkF m 63 #[.val (.ref p0), .val (.ref p1), .val (.ref p2), .val (.ref p3), .unset, .unset, .unset] [(.int ph), (.ref p0)]))
  refine Go.st (fun _ => XS.iconst X55.here hx rfl (hb hby own_d_prog_43_method_1_code_63)) ?_
  show Go p.tables e below P (T55.setTop (mkF m 64 #[.val (.ref p0), .val (.ref p1), .val (.ref p2), .val (.ref p3), .unset, .unset, .unset] [(.int (2 : Int32)), (.int ph), (.ref p0)]))
  refine Go.st (fun _ => XS.iadd X55.here hx rfl (hb hby own_d_prog_43_method_1_code_64) rfl) ?_
  show Go p.tables e below P (T55.setTop (mkF m 65 #[.val (.ref p0), .val (.ref p1), .val (.ref p2), .val (.ref p3), .unset, .unset, .unset] [(.int (ph + (2 : Int32))), (.ref p0)]))
  have c58 := (((((((((hp7.other W3 (Or.inr (slot_ne (Or.inr (hw _ (List.mem_of_getElem? (i := 89) rfl))) (Or.inl (hw _ (List.mem_of_getElem? (i := 61) rfl))) (by decide) (t := .int) (t' := .int) (by decide) (by decide)))).other W9 (Or.inr (slot_ne (Or.inr (hw _ (List.mem_of_getElem? (i := 89) rfl))) (Or.inr (hw _ (List.mem_of_getElem? (i := 68) rfl))) (by decide) (t := .int) (t' := (.array .int)) (by decide) (by decide)))).other W15 (Or.inr (slot_ne (Or.inr (hw _ (List.mem_of_getElem? (i := 89) rfl))) (Or.inr (hw _ (List.mem_of_getElem? (i := 75) rfl))) (by decide) (t := .int) (t' := (.array .int)) (by decide) (by decide)))).ext E18).other W27 (Or.inr (slot_ne (Or.inr (hw _ (List.mem_of_getElem? (i := 89) rfl))) (Or.inr (hw _ (List.mem_of_getElem? (i := 77) rfl))) (by decide) (t := .int) (t' := (.array .double)) (by decide) (by decide)))).ext E30).other W40 (Or.inr (slot_ne (Or.inr (hw _ (List.mem_of_getElem? (i := 89) rfl))) (Or.inr (hw _ (List.mem_of_getElem? (i := 79) rfl))) (by decide) (t := .int) (t' := (.array .double)) (by decide) (by decide)))).ext E43).other W54 (Or.inr (slot_ne (Or.inr (hw _ (List.mem_of_getElem? (i := 89) rfl))) (Or.inr (hw _ (List.mem_of_getElem? (i := 82) rfl))) (by decide) (t := .int) (t' := (.array .boolean)) (by decide) (by decide))))
  have c59 := (c53.wr W54)
  obtain ⟨T60, h60, X60, e60, W60, st60⟩ := putF X55 hx hZ hown (host := "") (Or.inl (hw _ (List.mem_of_getElem? (i := 88) rfl))) Via.refl e55 c58 c59 (Or.inr ⟨(hw _ (List.mem_of_getElem? (i := 89) rfl)), rfl, hnm⟩) (hw _ (List.mem_of_getElem? (i := 48) rfl)) (ty := .int) (by decide) rfl rfl (g := (mkF m 65 #[.val (.ref p0), .val (.ref p1), .val (.ref p2), .val (.ref p3), .unset, .unset, .unset] [(.int (ph + (2 : Int32))), (.ref p0)])) rfl rfl (hb hby own_d_prog_43_method_1_code_65)
  refine Go.st st60 ?_
  have K60 : Keep h0 h60 [p0] := K54.wr W60 (Or.inl (List.mem_of_getElem? (i := 0) rfl))
  have O60 := O54.wr W60 hp10
  have N60 := Fr.snoc X60 N55 hp10
  have F60 := c58.same W60
  show Go p.tables e below P (T60.setTop (mkF m 68 #[.val (.ref p0), .val (.ref p1), .val (.ref p2), .val (.ref p3), .unset, .unset, .unset] []))
  refine Go.st (fun _ => XS.aloadN X60.here hx rfl (hb hby own_d_prog_43_method_1_code_68) rfl rfl) ?_
  show Go p.tables e below P (T60.setTop (mkF m 69 #[.val (.ref p0), .val (.ref p1), .val (.ref p2), .val (.ref p3), .unset, .unset, .unset] [(.ref p0)]))
  refine Go.st (fun _ => XS.aloadN X60.here hx rfl (hb hby own_d_prog_43_method_1_code_69) rfl rfl) ?_
  show Go p.tables e below P (T60.setTop (mkF m 70 #[.val (.ref p0), .val (.ref p1), .val (.ref p2), .val (.ref p3), .unset, .unset, .unset] [(.ref p0), (.ref p0)]))
  obtain ⟨T61, X61, e61, st61⟩ := getF X60 hx hZ hown (host := "") (Or.inl (hw _ (List.mem_of_getElem? (i := 88) rfl))) Via.refl e60 F60 (g := (mkF m 70 #[.val (.ref p0), .val (.ref p1), .val (.ref p2), .val (.ref p3), .unset, .unset, .unset] [(.ref p0), (.ref p0)])) rfl rfl (hb hby own_d_prog_43_method_1_code_70)
  refine Go.st st61 ?_
  show Go p.tables e below P (T61.setTop (mkF m 73 #[.val (.ref p0), .val (.ref p1), .val (.ref p2), .val (.ref p3), .unset, .unset, .unset] [(.int (ph + (2 : Int32))), (.ref p0)]))
  have c63 := (c59.wr W60)
  have c64 := (c57.wr W60)
  have c65 := (((c46.ext E43).other W54 (Ne.symm (Exa.neArv hp0 hp13 (hw _ (List.mem_of_getElem? (i := 48) rfl))))).other W60 (Ne.symm (Exa.neArv hp0 hp13 (hw _ (List.mem_of_getElem? (i := 48) rfl)))))
  have c66 := (((c47.ext E43).other W54 (Ne.symm (Exa.neArv hp0 hp15 (hw _ (List.mem_of_getElem? (i := 48) rfl))))).other W60 (Ne.symm (Exa.neArv hp0 hp15 (hw _ (List.mem_of_getElem? (i := 48) rfl)))))
  have c67 := (((c48.ext E43).other W54 (Ne.symm (Exa.neArv hp0 hp18 (hw _ (List.mem_of_getElem? (i := 48) rfl))))).other W60 (Ne.symm (Exa.neArv hp0 hp18 (hw _ (List.mem_of_getElem? (i := 48) rfl)))))
  have c68 := (((c49.ext E43).other W54 (Ne.symm (Exa.neArv hp0 hp19 (hw _ (List.mem_of_getElem? (i := 48) rfl))))).other W60 (Ne.symm (Exa.neArv hp0 hp19 (hw _ (List.mem_of_getElem? (i := 48) rfl)))))
  have c69 := (((c50.ext E43).other W54 (Ne.symm (Nat.ne_of_lt (Nat.lt_of_lt_of_le c19.lt (Nat.le_of_eq g18.symm))))).other W60 (Ne.symm (Nat.ne_of_lt (Nat.lt_of_lt_of_le c19.lt (Nat.le_of_eq g18.symm)))))
  have c70 := (((c51.ext E43).other W54 (Ne.symm (Nat.ne_of_lt (Nat.lt_of_lt_of_le c31.lt (Nat.le_of_eq g30.symm))))).other W60 (Ne.symm (Nat.ne_of_lt (Nat.lt_of_lt_of_le c31.lt (Nat.le_of_eq g30.symm)))))
  have c71 := ((V43.other W54 (Ne.symm (Nat.ne_of_lt (Nat.lt_of_lt_of_le c44.lt (Nat.le_of_eq g43.symm))))).other W60 (Ne.symm (Nat.ne_of_lt (Nat.lt_of_lt_of_le c44.lt (Nat.le_of_eq g43.symm)))))
  obtain ⟨T62, h62, k62, X62, e62, E62, A62, st62⟩ := newP X61 hx hZ (hw _ (List.mem_of_getElem? (i := 50) rfl)) e61 (g := (mkF m 73 #[.val (.ref p0), .val (.ref p1), .val (.ref p2), .val (.ref p3), .unset, .unset, .unset] [(.int (ph + (2 : Int32))), (.ref p0)])) rfl (hb hby own_d_prog_43_method_1_code_73) rfl hsn (cap := 6) hsc (by decide) (by decide) (by decide)
  obtain ⟨b62, g62⟩ : ∃ z, z = h60.size := ⟨_, rfl⟩
  rw [← g62] at A62 st62
  refine Go.st st62 ?_
  have g_b62 : n0 ≤ b62 := Nat.le_trans (own_oldsz O60) (Nat.le_of_eq g62.symm)
  have sz_b62 : h0.size ≤ b62 := Nat.le_trans K60.1 (Nat.le_of_eq g62.symm)
  have K62 : Keep h0 h62 [p0] := K60.ext E62
  have O62 := O60.ext E62
  have V62 : Arv Z h62 b62 k62 .double (ph + (2 : Int32)) [] (.double (0 : UInt64)) := Arv.new A62 hsn
  show Go p.tables e below P (T62.setTop (mkF m 75 #[.val (.ref p0), .val (.ref p1), .val (.ref p2), .val (.ref p3), .unset, .unset, .unset] [(.ref b62), (.ref p0)]))
  have c72 := (((((((((((hp8.other W3 (Or.inr (slot_ne (Or.inr (hw _ (List.mem_of_getElem? (i := 91) rfl))) (Or.inl (hw _ (List.mem_of_getElem? (i := 61) rfl))) (by decide) (t := (.array .double)) (t' := .int) (by decide) (by decide)))).other W9 (Or.inr (slot_ne (Or.inr (hw _ (List.mem_of_getElem? (i := 91) rfl))) (Or.inr (hw _ (List.mem_of_getElem? (i := 68) rfl))) (by decide) (t := (.array .double)) (t' := (.array .int)) (by decide) (by decide)))).other W15 (Or.inr (slot_ne (Or.inr (hw _ (List.mem_of_getElem? (i := 91) rfl))) (Or.inr (hw _ (List.mem_of_getElem? (i := 75) rfl))) (by decide) (t := (.array .double)) (t' := (.array .int)) (by decide) (by decide)))).ext E18).other W27 (Or.inr (slot_ne (Or.inr (hw _ (List.mem_of_getElem? (i := 91) rfl))) (Or.inr (hw _ (List.mem_of_getElem? (i := 77) rfl))) (by decide) (t := (.array .double)) (t' := (.array .double)) (by decide) (by decide)))).ext E30).other W40 (Or.inr (slot_ne (Or.inr (hw _ (List.mem_of_getElem? (i := 91) rfl))) (Or.inr (hw _ (List.mem_of_getElem? (i := 79) rfl))) (by decide) (t := (.array .double)) (t' := (.array .double)) (by decide) (by decide)))).ext E43).other W54 (Or.inr (slot_ne (Or.inr (hw _ (List.mem_of_getElem? (i := 91) rfl))) (Or.inr (hw _ (List.mem_of_getElem? (i := 82) rfl))) (by decide) (t := (.array .double)) (t' := (.array .boolean)) (by decide) (by decide)))).other W60 (Or.inr (slot_ne (Or.inr (hw _ (List.mem_of_getElem? (i := 91) rfl))) (Or.inr (hw _ (List.mem_of_getElem? (i := 89) rfl))) (by decide) (t := (.array .double)) (t' := .int) (by decide) (by decide)))).ext E62)
  have c73 := (c63.ext E62)
  obtain ⟨T74, h74, X74, e74, W74, st74⟩ := putF X62 hx hZ hown (host := "") (Or.inl (hw _ (List.mem_of_getElem? (i := 90) rfl))) Via.refl e62 c72 c73 (Or.inr ⟨(hw _ (List.mem_of_getElem? (i := 91) rfl)), rfl, hnm⟩) (hw _ (List.mem_of_getElem? (i := 48) rfl)) (ty := (.array .double)) (by decide) rfl rfl (g := (mkF m 75 #[.val (.ref p0), .val (.ref p1), .val (.ref p2), .val (.ref p3), .unset, .unset, .unset] [(.ref b62), (.ref p0)])) rfl rfl (hb hby own_d_prog_43_method_1_code_75)
  refine Go.st st74 ?_
  have K74 : Keep h0 h74 [p0] := K62.wr W74 (Or.inl (List.mem_of_getElem? (i := 0) rfl))
  have O74 := O62.wr W74 hp10
  have N74 := Fr.snoc X74 N60 hp10
  have F74 := c72.same W74
  show Go p.tables e below P (T74.setTop (mkF m 78 #[.val (.ref p0), .val (.ref p1), .val (.ref p2), .val (.ref p3), .unset, .unset, .unset] []))
  refine Go.st (fun _ => XS.aloadN X74.here hx rfl (hb hby own_d_prog_43_method_1_code_78) rfl rfl) ?_
  show Go p.tables e below P (T74.setTop (mkF m 79 #[.val (.ref p0), .val (.ref p1), .val (.ref p2), .val (.ref p3), .unset, .unset, .unset] [(.ref p0)]))
  refine Go.st (fun _ => XS.aloadN X74.here hx rfl (hb hby own_d_prog_43_method_1_code_79) rfl rfl) ?_
  show Go p.tables e below P (T74.setTop (mkF m 80 #[.val (.ref p0), .val (.ref p1), .val (.ref p2), .val (.ref p3), .unset, .unset, .unset] [(.ref p0), (.ref p0)]))
  have c75 := ((F60.ext E62).other W74 (Or.inr (slot_ne (Or.inr (hw _ (List.mem_of_getElem? (i := 89) rfl))) (Or.inr (hw _ (List.mem_of_getElem? (i := 91) rfl))) (by decide) (t := .int) (t' := (.array .double)) (by decide) (by decide))))
  obtain ⟨T76, X76, e76, st76⟩ := getF X74 hx hZ hown (host := "") (Or.inl (hw _ (List.mem_of_getElem? (i := 88) rfl))) Via.refl e74 c75 (g := (mkF m 80 #[.val (.ref p0), .val (.ref p1), .val (.ref p2), .val (.ref p3), .unset, .unset, .unset] [(.ref p0), (.ref p0)])) rfl rfl (hb hby own_d_prog_43_method_1_code_80)
  refine Go.st st76 ?_
  show Go p.tables e below P (T76.setTop (mkF m 83 #[.val (.ref p0), .val (.ref p1), .val (.ref p2), .val (.ref p3), .unset, .unset, .unset] [(.int (ph + (2 : Int32))), (.ref p0)]))
  have c78 := (c73.wr W74)
  have c79 := ((c64.ext E62).wr W74)
  have c80 := ((c65.ext E62).other W74 (Ne.symm (Exa.neArv hp0 hp13 (hw _ (List.mem_of_getElem? (i := 48) rfl)))))
  have c81 := ((c66.ext E62).other W74 (Ne.symm (Exa.neArv hp0 hp15 (hw _ (List.mem_of_getElem? (i := 48) rfl)))))
  have c82 := ((c67.ext E62).other W74 (Ne.symm (Exa.neArv hp0 hp18 (hw _ (List.mem_of_getElem? (i := 48) rfl)))))
  have c83 := ((c68.ext E62).other W74 (Ne.symm (Exa.neArv hp0 hp19 (hw _ (List.mem_of_getElem? (i := 48) rfl)))))
  have c84 := ((c69.ext E62).other W74 (Ne.symm (Nat.ne_of_lt (Nat.lt_of_lt_of_le c19.lt (Nat.le_of_eq g18.symm)))))
  have c85 := ((c70.ext E62).other W74 (Ne.symm (Nat.ne_of_lt (Nat.lt_of_lt_of_le c31.lt (Nat.le_of_eq g30.symm)))))
  have c86 := ((c71.ext E62).other W74 (Ne.symm (Nat.ne_of_lt (Nat.lt_of_lt_of_le c44.lt (Nat.le_of_eq g43.symm)))))
  have c87 := (V62.other W74 (Ne.symm (Nat.ne_of_lt (Nat.lt_of_lt_of_le c63.lt (Nat.le_of_eq g62.symm)))))
  obtain ⟨T77, h77, k77, X77, e77, E77, A77, st77⟩ := newP X76 hx hZ (hw _ (List.mem_of_getElem? (i := 50) rfl)) e76 (g := (mkF m 83 #[.val (.ref p0), .val (.ref p1), .val (.ref p2), .val (.ref p3), .unset, .unset, .unset] [(.int (ph + (2 : Int32))), (.ref p0)])) rfl (hb hby own_d_prog_43_method_1_code_83) rfl hsn (cap := 6) hsc (by decide) (by decide) (by decide)
  obtain ⟨b77, g77⟩ : ∃ z, z = h74.size := ⟨_, rfl⟩
  rw [← g77] at A77 st77
  refine Go.st st77 ?_
  have g_b77 : n0 ≤ b77 := Nat.le_trans (own_oldsz O74) (Nat.le_of_eq g77.symm)
  have sz_b77 : h0.size ≤ b77 := Nat.le_trans K74.1 (Nat.le_of_eq g77.symm)
  have K77 : Keep h0 h77 [p0] := K74.ext E77
  have O77 := O74.ext E77
  have V77 : Arv Z h77 b77 k77 .double (ph + (2 : Int32)) [] (.double (0 : UInt64)) := Arv.new A77 hsn
  show Go p.tables e below P (T77.setTop (mkF m 85 #[.val (.ref p0), .val (.ref p1), .val (.ref p2), .val (.ref p3), .unset, .unset, .unset] [(.ref b77), (.ref p0)]))
  have c88 := (((((((((((((hp9.other W3 (Or.inr (slot_ne (Or.inr (hw _ (List.mem_of_getElem? (i := 93) rfl))) (Or.inl (hw _ (List.mem_of_getElem? (i := 61) rfl))) (by decide) (t := (.array .double)) (t' := .int) (by decide) (by decide)))).other W9 (Or.inr (slot_ne (Or.inr (hw _ (List.mem_of_getElem? (i := 93) rfl))) (Or.inr (hw _ (List.mem_of_getElem? (i := 68) rfl))) (by decide) (t := (.array .double)) (t' := (.array .int)) (by decide) (by decide)))).other W15 (Or.inr (slot_ne (Or.inr (hw _ (List.mem_of_getElem? (i := 93) rfl))) (Or.inr (hw _ (List.mem_of_getElem? (i := 75) rfl))) (by decide) (t := (.array .double)) (t' := (.array .int)) (by decide) (by decide)))).ext E18).other W27 (Or.inr (slot_ne (Or.inr (hw _ (List.mem_of_getElem? (i := 93) rfl))) (Or.inr (hw _ (List.mem_of_getElem? (i := 77) rfl))) (by decide) (t := (.array .double)) (t' := (.array .double)) (by decide) (by decide)))).ext E30).other W40 (Or.inr (slot_ne (Or.inr (hw _ (List.mem_of_getElem? (i := 93) rfl))) (Or.inr (hw _ (List.mem_of_getElem? (i := 79) rfl))) (by decide) (t := (.array .double)) (t' := (.array .double)) (by decide) (by decide)))).ext E43).other W54 (Or.inr (slot_ne (Or.inr (hw _ (List.mem_of_getElem? (i := 93) rfl))) (Or.inr (hw _ (List.mem_of_getElem? (i := 82) rfl))) (by decide) (t := (.array .double)) (t' := (.array .boolean)) (by decide) (by decide)))).other W60 (Or.inr (slot_ne (Or.inr (hw _ (List.mem_of_getElem? (i := 93) rfl))) (Or.inr (hw _ (List.mem_of_getElem? (i := 89) rfl))) (by decide) (t := (.array .double)) (t' := .int) (by decide) (by decide)))).ext E62).other W74 (Or.inr (slot_ne (Or.inr (hw _ (List.mem_of_getElem? (i := 93) rfl))) (Or.inr (hw _ (List.mem_of_getElem? (i := 91) rfl))) (by decide) (t := (.array .double)) (t' := (.array .double)) (by decide) (by decide)))).ext E77)
  have c89 := (c78.ext E77)
  obtain ⟨T90, h90, X90, e90, W90, st90⟩ := putF X77 hx hZ hown (host := "") (Or.inl (hw _ (List.mem_of_getElem? (i := 92) rfl))) Via.refl e77 c88 c89 (Or.inr ⟨(hw _ (List.mem_of_getElem? (i := 93) rfl)), rfl, hnm⟩) (hw _ (List.mem_of_getElem? (i := 48) rfl)) (ty := (.array .double)) (by decide) rfl rfl (g := (mkF m 85 #[.val (.ref p0), .val (.ref p1), .val (.ref p2), .val (.ref p3), .unset, .unset, .unset] [(.ref b77), (.ref p0)])) rfl rfl (hb hby own_d_prog_43_method_1_code_85)
  refine Go.st st90 ?_
  have K90 : Keep h0 h90 [p0] := K77.wr W90 (Or.inl (List.mem_of_getElem? (i := 0) rfl))
  have O90 := O77.wr W90 hp10
  have N90 := Fr.snoc X90 N74 hp10
  have F90 := c88.same W90
  show Go p.tables e below P (T90.setTop (mkF m 88 #[.val (.ref p0), .val (.ref p1), .val (.ref p2), .val (.ref p3), .unset, .unset, .unset] []))
  refine Go.st (fun _ => XS.iconst X90.here hx rfl (hb hby own_d_prog_43_method_1_code_88)) ?_
  show Go p.tables e below P (T90.setTop (mkF m 89 #[.val (.ref p0), .val (.ref p1), .val (.ref p2), .val (.ref p3), .unset, .unset, .unset] [(.int (2 : Int32))]))
  refine Go.st (fun _ => XS.aloadN X90.here hx rfl (hb hby own_d_prog_43_method_1_code_89) rfl rfl) ?_
  show Go p.tables e below P (T90.setTop (mkF m 90 #[.val (.ref p0), .val (.ref p1), .val (.ref p2), .val (.ref p3), .unset, .unset, .unset] [(.ref p0), (.int (2 : Int32))]))
  have c91 := (((((((c41.ext E43).other W54 (Or.inr (slot_ne (Or.inl (hw _ (List.mem_of_getElem? (i := 61) rfl))) (Or.inr (hw _ (List.mem_of_getElem? (i := 82) rfl))) (by decide) (t := .int) (t' := (.array .boolean)) (by decide) (by decide)))).other W60 (Or.inr (slot_ne (Or.inl (hw _ (List.mem_of_getElem? (i := 61) rfl))) (Or.inr (hw _ (List.mem_of_getElem? (i := 89) rfl))) (by decide) (t := .int) (t' := .int) (by decide) (by decide)))).ext E62).other W74 (Or.inr (slot_ne (Or.inl (hw _ (List.mem_of_getElem? (i := 61) rfl))) (Or.inr (hw _ (List.mem_of_getElem? (i := 91) rfl))) (by decide) (t := .int) (t' := (.array .double)) (by decide) (by decide)))).ext E77).other W90 (Or.inr (slot_ne (Or.inl (hw _ (List.mem_of_getElem? (i := 61) rfl))) (Or.inr (hw _ (List.mem_of_getElem? (i := 93) rfl))) (by decide) (t := .int) (t' := (.array .double)) (by decide) (by decide))))
  obtain ⟨T92, X92, e92, st92⟩ := getF X90 hx hZ hown (host := "") (Or.inl (hw _ (List.mem_of_getElem? (i := 60) rfl))) Via.refl e90 c91 (g := (mkF m 90 #[.val (.ref p0), .val (.ref p1), .val (.ref p2), .val (.ref p3), .unset, .unset, .unset] [(.ref p0), (.int (2 : Int32))])) rfl rfl (hb hby own_d_prog_43_method_1_code_90)
  refine Go.st st92 ?_
  show Go p.tables e below P (T92.setTop (mkF m 93 #[.val (.ref p0), .val (.ref p1), .val (.ref p2), .val (.ref p3), .unset, .unset, .unset] [(.int (5 : Int32)), (.int (2 : Int32))]))
  refine Go.st (fun _ => XS.imul X92.here hx rfl (hb hby own_d_prog_43_method_1_code_93) rfl) ?_
  show Go p.tables e below P (T92.setTop (mkF m 94 #[.val (.ref p0), .val (.ref p1), .val (.ref p2), .val (.ref p3), .unset, .unset, .unset] [(.int (10 : Int32))]))
  have c94 := (c89.wr W90)
  have c95 := ((c79.ext E77).wr W90)
  have c96 := ((c80.ext E77).other W90 (Ne.symm (Exa.neArv hp0 hp13 (hw _ (List.mem_of_getElem? (i := 48) rfl)))))
  have c97 := ((c81.ext E77).other W90 (Ne.symm (Exa.neArv hp0 hp15 (hw _ (List.mem_of_getElem? (i := 48) rfl)))))
  have c98 := ((c82.ext E77).other W90 (Ne.symm (Exa.neArv hp0 hp18 (hw _ (List.mem_of_getElem? (i := 48) rfl)))))
  have c99 := ((c83.ext E77).other W90 (Ne.symm (Exa.neArv hp0 hp19 (hw _ (List.mem_of_getElem? (i := 48) rfl)))))
  have c100 := ((c84.ext E77).other W90 (Ne.symm (Nat.ne_of_lt (Nat.lt_of_lt_of_le c19.lt (Nat.le_of_eq g18.symm)))))
  have c101 := ((c85.ext E77).other W90 (Ne.symm (Nat.ne_of_lt (Nat.lt_of_lt_of_le c31.lt (Nat.le_of_eq g30.symm)))))
  have c102 := ((c86.ext E77).other W90 (Ne.symm (Nat.ne_of_lt (Nat.lt_of_lt_of_le c44.lt (Nat.le_of_eq g43.symm)))))
  have c103 := ((c87.ext E77).other W90 (Ne.symm (Nat.ne_of_lt (Nat.lt_of_lt_of_le c63.lt (Nat.le_of_eq g62.symm)))))
  have c104 := (V77.other W90 (Ne.symm (Nat.ne_of_lt (Nat.lt_of_lt_of_le c78.lt (Nat.le_of_eq g77.symm)))))
  obtain ⟨T93, h93, k93, X93, e93, E93, A93, st93⟩ := newP X92 hx hZ (hw _ (List.mem_of_getElem? (i := 50) rfl)) e92 (g := (mkF m 94 #[.val (.ref p0), .val (.ref p1), .val (.ref p2), .val (.ref p3), .unset, .unset, .unset] [(.int (10 : Int32))])) rfl (hb hby own_d_prog_43_method_1_code_94) rfl (by decide) (cap := 10) (by decide) (by decide) (by decide) (by decide)
  obtain ⟨b93, g93⟩ : ∃ z, z = h90.size := ⟨_, rfl⟩
  rw [← g93] at A93 st93
  refine Go.st st93 ?_
  have g_b93 : n0 ≤ b93 := Nat.le_trans (own_oldsz O90) (Nat.le_of_eq g93.symm)
  have sz_b93 : h0.size ≤ b93 := Nat.le_trans K90.1 (Nat.le_of_eq g93.symm)
  have K93 : Keep h0 h93 [p0] := K90.ext E93
  have O93 := O90.ext E93
  have V93 : Arv Z h93 b93 k93 .double (10 : Int32) [(.double (0 : UInt64)), (.double (0 : UInt64)), (.double (0 : UInt64)), (.double (0 : UInt64)), (.double (0 : UInt64)), (.double (0 : UInt64)), (.double (0 : UInt64)), (.double (0 : UInt64)), (.double (0 : UInt64)), (.double (0 : UInt64))] (.double (0 : UInt64)) := (Arv.new A93 (by decide)).pad (pad_rep [] (.double (0 : UInt64)) 10)
  show Go p.tables e below P (T93.setTop (mkF m 96 #[.val (.ref p0), .val (.ref p1), .val (.ref p2), .val (.ref p3), .unset, .unset, .unset] [(.ref b93)]))
  refine Go.st (fun _ => XS.astore X93.here hx rfl (hb hby own_d_prog_43_method_1_code_96) rfl rfl (l' := #[.val (.ref p0), .val (.ref p1), .val (.ref p2), .val (.ref p3), .val (.ref b93), .unset, .unset]) rfl) ?_
  show Go p.tables e below P (T93.setTop (mkF m 98 #[.val (.ref p0), .val (.ref p1), .val (.ref p2), .val (.ref p3), .val (.ref b93), .unset, .unset] []))
  refine Go.st (fun _ => XS.iconst X93.here hx rfl (hb hby own_d_prog_43_method_1_code_98)) ?_
  show Go p.tables e below P (T93.setTop (mkF m 99 #[.val (.ref p0), .val (.ref p1), .val (.ref p2), .val (.ref p3), .val (.ref b93), .unset, .unset] [(.int (0 : Int32))]))
  refine Go.st (fun _ => XS.istore X93.here hx rfl (hb hby own_d_prog_43_method_1_code_99) rfl (l' := #[.val (.ref p0), .val (.ref p1), .val (.ref p2), .val (.ref p3), .val (.ref b93), .val (.int (0 : Int32)), .unset]) rfl) ?_
  show Go p.tables e below P (T93.setTop (mkF m 101 #[.val (.ref p0), .val (.ref p1), .val (.ref p2), .val (.ref p3), .val (.ref b93), .val (.int (0 : Int32)), .unset] []))
  refine Go.st (fun _ => XS.iload X93.here hx rfl (hb hby own_d_prog_43_method_1_code_101) rfl) ?_
  show Go p.tables e below P (T93.setTop (mkF m 103 #[.val (.ref p0), .val (.ref p1), .val (.ref p2), .val (.ref p3), .val (.ref b93), .val (.int (0 : Int32)), .unset] [(.int (0 : Int32))]))
  refine Go.st (fun _ => XS.aloadN X93.here hx rfl (hb hby own_d_prog_43_method_1_code_103) rfl rfl) ?_
  show Go p.tables e below P (T93.setTop (mkF m 104 #[.val (.ref p0), .val (.ref p1), .val (.ref p2), .val (.ref p3), .val (.ref b93), .val (.int (0 : Int32)), .unset] [(.ref p0), (.int (0 : Int32))]))
  have c105 := (c91.ext E93)
  obtain ⟨T106, X106, e106, st106⟩ := getF X93 hx hZ hown (host := "") (Or.inl (hw _ (List.mem_of_getElem? (i := 60) rfl))) Via.refl e93 c105 (g := (mkF m 104 #[.val (.ref p0), .val (.ref p1), .val (.ref p2), .val (.ref p3), .val (.ref b93), .val (.int (0 : Int32)), .unset] [(.ref p0), (.int (0 : Int32))])) rfl rfl (hb hby own_d_prog_43_method_1_code_104)
  refine Go.st st106 ?_
  show Go p.tables e below P (T106.setTop (mkF m 107 #[.val (.ref p0), .val (.ref p1), .val (.ref p2), .val (.ref p3), .val (.ref b93), .val (.int (0 : Int32)), .unset] [(.int (5 : Int32)), (.int (0 : Int32))]))
  refine Go.st (fun _ => XS.icmpNo X106.here hx rfl (hb hby own_d_prog_43_method_1_code_107) rfl (tlt (by decide)).2.1) ?_
  show Go p.tables e below P (T106.setTop (mkF m 110 #[.val (.ref p0), .val (.ref p1), .val (.ref p2), .val (.ref p3), .val (.ref b93), .val (.int (0 : Int32)), .unset] []))
  refine Go.st (fun _ => XS.aload X106.here hx rfl (hb hby own_d_prog_43_method_1_code_110) rfl rfl) ?_
  show Go p.tables e below P (T106.setTop (mkF m 112 #[.val (.ref p0), .val (.ref p1), .val (.ref p2), .val (.ref p3), .val (.ref b93), .val (.int (0 : Int32)), .unset] [(.ref b93)]))
  refine Go.st (fun _ => XS.iconst X106.here hx rfl (hb hby own_d_prog_43_method_1_code_112)) ?_
  show Go p.tables e below P (T106.setTop (mkF m 113 #[.val (.ref p0), .val (.ref p1), .val (.ref p2), .val (.ref p3), .val (.ref b93), .val (.int (0 : Int32)), .unset] [(.int (2 : Int32)), (.ref b93)]))
  refine Go.st (fun _ => XS.iload X106.here hx rfl (hb hby own_d_prog_43_method_1_code_113) rfl) ?_
  show Go p.tables e below P (T106.setTop (mkF m 115 #[.val (.ref p0), .val (.ref p1), .val (.ref p2), .val (.ref p3), .val (.ref b93), .val (.int (0 : Int32)), .unset] [(.int (0 : Int32)), (.int (2 : Int32)), (.ref b93)]))
  refine Go.st (fun _ => XS.imul X106.here hx rfl (hb hby own_d_prog_43_method_1_code_115) rfl) ?_
  show Go p.tables e below P (T106.setTop (mkF m 116 #[.val (.ref p0), .val (.ref p1), .val (.ref p2), .val (.ref p3), .val (.ref b93), .val (.int (0 : Int32)), .unset] [(.int (0 : Int32)), (.ref b93)]))
  refine Go.st (fun _ => XS.aloadN X106.here hx rfl (hb hby own_d_prog_43_method_1_code_116) rfl rfl) ?_
  show Go p.tables e below P (T106.setTop (mkF m 117 #[.val (.ref p0), .val (.ref p1), .val (.ref p2), .val (.ref p3), .val (.ref b93), .val (.int (0 : Int32)), .unset] [(.ref p2), (.int (0 : Int32)), (.ref b93)]))
  refine Go.st (fun _ => XS.iload X106.here hx rfl (hb hby own_d_prog_43_method_1_code_117) rfl) ?_
  show Go p.tables e below P (T106.setTop (mkF m 119 #[.val (.ref p0), .val (.ref p1), .val (.ref p2), .val (.ref p3), .val (.ref b93), .val (.int (0 : Int32)), .unset] [(.int (0 : Int32)), (.ref p2), (.int (0 : Int32)), (.ref b93)]))
  have c108 := (c98.ext E93)
  refine Go.st (fun _ => own_ldD X106 hx hZ e106 c108 (j := (0 : Int32)) (i := 0) (v := (.double (0 : UInt64))) (by decide) (by decide) rfl (g := (mkF m 119 #[.val (.ref p0), .val (.ref p1), .val (.ref p2), .val (.ref p3), .val (.ref b93), .val (.int (0 : Int32)), .unset] [(.int (0 : Int32)), (.ref p2), (.int (0 : Int32)), (.ref b93)])) rfl rfl (hb hby own_d_prog_43_method_1_code_119) _) ?_
  show Go p.tables e below P (T106.setTop (mkF m 120 #[.val (.ref p0), .val (.ref p1), .val (.ref p2), .val (.ref p3), .val (.ref b93), .val (.int (0 : Int32)), .unset] [(.double (0 : UInt64)), (.int (0 : Int32)), (.ref b93)]))
  obtain ⟨T109, h109, X109, e109, W109, V109, st109⟩ := own_stD X106 hx hZ e106 V93 (j := (0 : Int32)) (i := 0) (by decide) (by decide) (Nat.le_of_ble_eq_true rfl) (g := (mkF m 120 #[.val (.ref p0), .val (.ref p1), .val (.ref p2), .val (.ref p3), .val (.ref b93), .val (.int (0 : Int32)), .unset] [(.double (0 : UInt64)), (.int (0 : Int32)), (.ref b93)])) rfl rfl (hb hby own_d_prog_43_method_1_code_120)
  refine Go.st st109 ?_
  have K109 : Keep h0 h109 [p0] := K93.wr W109 (Or.inr sz_b93)
  have O109 := O93.wr W109 g_b93
  have N109 := Fr.snoc X109 N90 g_b93
  have V109' : Arv Z h109 b93 k93 .double (10 : Int32) [(.double (0 : UInt64)), (.double (0 : UInt64)), (.double (0 : UInt64)), (.double (0 : UInt64)), (.double (0 : UInt64)), (.double (0 : UInt64)), (.double (0 : UInt64)), (.double (0 : UInt64)), (.double (0 : UInt64)), (.double (0 : UInt64))] (.double (0 : UInt64)) := V109
  show Go p.tables e below P (T109.setTop (mkF m 121 #[.val (.ref p0), .val (.ref p1), .val (.ref p2), .val (.ref p3), .val (.ref b93), .val (.int (0 : Int32)), .unset] []))
  refine Go.st (fun _ => XS.aload X109.here hx rfl (hb hby own_d_prog_43_method_1_code_121) rfl rfl) ?_
  show Go p.tables e below P (T109.setTop (mkF m 123 #[.val (.ref p0), .val (.ref p1), .val (.ref p2), .val (.ref p3), .val (.ref b93), .val (.int (0 : Int32)), .unset] [(.ref b93)]))
  refine Go.st (fun _ => XS.iconst X109.here hx rfl (hb hby own_d_prog_43_method_1_code_123)) ?_
  show Go p.tables e below P (T109.setTop (mkF m 124 #[.val (.ref p0), .val (.ref p1), .val (.ref p2), .val (.ref p3), .val (.ref b93), .val (.int (0 : Int32)), .unset] [(.int (2 : Int32)), (.ref b93)]))
  refine Go.st (fun _ => XS.iload X109.here hx rfl (hb hby own_d_prog_43_method_1_code_124) rfl) ?_
  show Go p.tables e below P (T109.setTop (mkF m 126 #[.val (.ref p0), .val (.ref p1), .val (.ref p2), .val (.ref p3), .val (.ref b93), .val (.int (0 : Int32)), .unset] [(.int (0 : Int32)), (.int (2 : Int32)), (.ref b93)]))
  refine Go.st (fun _ => XS.imul X109.here hx rfl (hb hby own_d_prog_43_method_1_code_126) rfl) ?_
  show Go p.tables e below P (T109.setTop (mkF m 127 #[.val (.ref p0), .val (.ref p1), .val (.ref p2), .val (.ref p3), .val (.ref b93), .val (.int (0 : Int32)), .unset] [(.int (0 : Int32)), (.ref b93)]))
  refine Go.st (fun _ => XS.iconst X109.here hx rfl (hb hby own_d_prog_43_method_1_code_127)) ?_
  show Go p.tables e below P (T109.setTop (mkF m 128 #[.val (.ref p0), .val (.ref p1), .val (.ref p2), .val (.ref p3), .val (.ref b93), .val (.int (0 : Int32)), .unset] [(.int (1 : Int32)), (.int (0 : Int32)), (.ref b93)]))
  refine Go.st (fun _ => XS.iadd X109.here hx rfl (hb hby own_d_prog_43_method_1_code_128) rfl) ?_
  show Go p.tables e below P (T109.setTop (mkF m 129 #[.val (.ref p0), .val (.ref p1), .val (.ref p2), .val (.ref p3), .val (.ref b93), .val (.int (0 : Int32)), .unset] [(.int (1 : Int32)), (.ref b93)]))
  refine Go.st (fun _ => XS.aloadN X109.here hx rfl (hb hby own_d_prog_43_method_1_code_129) rfl rfl) ?_
  show Go p.tables e below P (T109.setTop (mkF m 130 #[.val (.ref p0), .val (.ref p1), .val (.ref p2), .val (.ref p3), .val (.ref b93), .val (.int (0 : Int32)), .unset] [(.ref p3), (.int (1 : Int32)), (.ref b93)]))
  refine Go.st (fun _ => XS.iload X109.here hx rfl (hb hby own_d_prog_43_method_1_code_130) rfl) ?_
  show Go p.tables e below P (T109.setTop (mkF m 132 #[.val (.ref p0), .val (.ref p1), .val (.ref p2), .val (.ref p3), .val (.ref b93), .val (.int (0 : Int32)), .unset] [(.int (0 : Int32)), (.ref p3), (.int (1 : Int32)), (.ref b93)]))
  have c111 := ((c99.ext E93).other W109 (Nat.ne_of_lt (Nat.lt_of_lt_of_le c99.lt (Nat.le_of_eq g93.symm))))
  refine Go.st (fun _ => own_ldD X109 hx hZ e109 c111 (j := (0 : Int32)) (i := 0) (v := (.double (0 : UInt64))) (by decide) (by decide) rfl (g := (mkF m 132 #[.val (.ref p0), .val (.ref p1), .val (.ref p2), .val (.ref p3), .val (.ref b93), .val (.int (0 : Int32)), .unset] [(.int (0 : Int32)), (.ref p3), (.int (1 : Int32)), (.ref b93)])) rfl rfl (hb hby own_d_prog_43_method_1_code_132) _) ?_
  show Go p.tables e below P (T109.setTop (mkF m 133 #[.val (.ref p0), .val (.ref p1), .val (.ref p2), .val (.ref p3), .val (.ref b93), .val (.int (0 : Int32)), .unset] [(.double (0 : UInt64)), (.int (1 : Int32)), (.ref b93)]))
  obtain ⟨T112, h112, X112, e112, W112, V112, st112⟩ := own_stD X109 hx hZ e109 V109' (j := (1 : Int32)) (i := 1) (by decide) (by decide) (Nat.le_of_ble_eq_true rfl) (g := (mkF m 133 #[.val (.ref p0), .val (.ref p1), .val (.ref p2), .val (.ref p3), .val (.ref b93), .val (.int (0 : Int32)), .unset] [(.double (0 : UInt64)), (.int (1 : Int32)), (.ref b93)])) rfl rfl (hb hby own_d_prog_43_method_1_code_133)
  refine Go.st st112 ?_
  have K112 : Keep h0 h112 [p0] := K109.wr W112 (Or.inr sz_b93)
  have O112 := O109.wr W112 g_b93
  have N112 := Fr.snoc X112 N109 g_b93
  have V112' : Arv Z h112 b93 k93 .double (10 : Int32) [(.double (0 : UInt64)), (.double (0 : UInt64)), (.double (0 : UInt64)), (.double (0 : UInt64)), (.double (0 : UInt64)), (.double (0 : UInt64)), (.double (0 : UInt64)), (.double (0 : UInt64)), (.double (0 : UInt64)), (.double (0 : UInt64))] (.double (0 : UInt64)) := V112
  show Go p.tables e below P (T112.setTop (mkF m 134 #[.val (.ref p0), .val (.ref p1), .val (.ref p2), .val (.ref p3), .val (.ref b93), .val (.int (0 : Int32)), .unset] []))
  refine Go.st (fun _ => XS.iinc X112.here hx rfl (hb hby own_d_prog_43_method_1_code_134) rfl (l' := #[.val (.ref p0), .val (.ref p1), .val (.ref p2), .val (.ref p3), .val (.ref b93), .val (.int (1 : Int32)), .unset]) rfl) ?_
  show Go p.tables e below P (T112.setTop (mkF m 137 #[.val (.ref p0), .val (.ref p1), .val (.ref p2), .val (.ref p3), .val (.ref b93), .val (.int (1 : Int32)), .unset] []))
  refine Go.st (fun _ => XS.goto X112.here hx rfl (pc0 := 137) (pc' := 101) rfl (hb hby own_d_prog_43_method_1_code_137) (by decide) (by decide)) ?_
  show Go p.tables e below P (T112.setTop (mkF m 101 #[.val (.ref p0), .val (.ref p1), .val (.ref p2), .val (.ref p3), .val (.ref b93), .val (.int (1 : Int32)), .unset] []))
  refine Go.st (fun _ => XS.iload X112.here hx rfl (hb hby own_d_prog_43_method_1_code_101) rfl) ?_
  show Go p.tables e below P (T112.setTop (mkF m 103 #[.val (.ref p0), .val (.ref p1), .val (.ref p2), .val (.ref p3), .val (.ref b93), .val (.int (1 : Int32)), .unset] [(.int (1 : Int32))]))
  refine Go.st (fun _ => XS.aloadN X112.here hx rfl (hb hby own_d_prog_43_method_1_code_103) rfl rfl) ?_
  show Go p.tables e below P (T112.setTop (mkF m 104 #[.val (.ref p0), .val (.ref p1), .val (.ref p2), .val (.ref p3), .val (.ref b93), .val (.int (1 : Int32)), .unset] [(.ref p0), (.int (1 : Int32))]))
  have c113 := ((c105.other W109 (Or.inl (Nat.ne_of_lt (Nat.lt_of_lt_of_le c94.lt (Nat.le_of_eq g93.symm))))).other W112 (Or.inl (Nat.ne_of_lt (Nat.lt_of_lt_of_le c94.lt (Nat.le_of_eq g93.symm)))))
  obtain ⟨T114, X114, e114, st114⟩ := getF X112 hx hZ hown (host := "") (Or.inl (hw _ (List.mem_of_getElem? (i := 60) rfl))) Via.refl e112 c113 (g := (mkF m 104 #[.val (.ref p0), .val (.ref p1), .val (.ref p2), .val (.ref p3), .val (.ref b93), .val (.int (1 : Int32)), .unset] [(.ref p0), (.int (1 : Int32))])) rfl rfl (hb hby own_d_prog_43_method_1_code_104)
  refine Go.st st114 ?_
  show Go p.tables e below P (T114.setTop (mkF m 107 #[.val (.ref p0), .val (.ref p1), .val (.ref p2), .val (.ref p3), .val (.ref b93), .val (.int (1 : Int32)), .unset] [(.int (5 : Int32)), (.int (1 : Int32))]))
  refine Go.st (fun _ => XS.icmpNo X114.here hx rfl (hb hby own_d_prog_43_method_1_code_107) rfl (tlt (by decide)).2.1) ?_
  show Go p.tables e below P (T114.setTop (mkF m 110 #[.val (.ref p0), .val (.ref p1), .val (.ref p2), .val (.ref p3), .val (.ref b93), .val (.int (1 : Int32)), .unset] []))
  refine Go.st (fun _ => XS.aload X114.here hx rfl (hb hby own_d_prog_43_method_1_code_110) rfl rfl) ?_
  show Go p.tables e below P (T114.setTop (mkF m 112 #[.val (.ref p0), .val (.ref p1), .val (.ref p2), .val (.ref p3), .val (.ref b93), .val (.int (1 : Int32)), .unset] [(.ref b93)]))
  refine Go.st (fun _ => XS.iconst X114.here hx rfl (hb hby own_d_prog_43_method_1_code_112)) ?_
  show Go p.tables e below P (T114.setTop (mkF m 113 #[.val (.ref p0), .val (.ref p1), .val (.ref p2), .val (.ref p3), .val (.ref b93), .val (.int (1 : Int32)), .unset] [(.int (2 : Int32)), (.ref b93)]))
  refine Go.st (fun _ => XS.iload X114.here hx rfl (hb hby own_d_prog_43_method_1_code_113) rfl) ?_
  show Go p.tables e below P (T114.setTop (mkF m 115 #[.val (.ref p0), .val (.ref p1), .val (.ref p2), .val (.ref p3), .val (.ref b93), .val (.int (1 : Int32)), .unset] [(.int (1 : Int32)), (.int (2 : Int32)), (.ref b93)]))
  refine Go.st (fun _ => XS.imul X114.here hx rfl (hb hby own_d_prog_43_method_1_code_115) rfl) ?_
  show Go p.tables e below P (T114.setTop (mkF m 116 #[.val (.ref p0), .val (.ref p1), .val (.ref p2), .val (.ref p3), .val (.ref b93), .val (.int (1 : Int32)), .unset] [(.int (2 : Int32)), (.ref b93)]))
  refine Go.st (fun _ => XS.aloadN X114.here hx rfl (hb hby own_d_prog_43_method_1_code_116) rfl rfl) ?_
  show Go p.tables e below P (T114.setTop (mkF m 117 #[.val (.ref p0), .val (.ref p1), .val (.ref p2), .val (.ref p3), .val (.ref b93), .val (.int (1 : Int32)), .unset] [(.ref p2), (.int (2 : Int32)), (.ref b93)]))
  refine Go.st (fun _ => XS.iload X114.here hx rfl (hb hby own_d_prog_43_method_1_code_117) rfl) ?_
  show Go p.tables e below P (T114.setTop (mkF m 119 #[.val (.ref p0), .val (.ref p1), .val (.ref p2), .val (.ref p3), .val (.ref b93), .val (.int (1 : Int32)), .unset] [(.int (1 : Int32)), (.ref p2), (.int (2 : Int32)), (.ref b93)]))
  have c116 := ((c108.other W109 (Nat.ne_of_lt (Nat.lt_of_lt_of_le c98.lt (Nat.le_of_eq g93.symm)))).other W112 (Nat.ne_of_lt (Nat.lt_of_lt_of_le c98.lt (Nat.le_of_eq g93.symm))))
  refine Go.st (fun _ => own_ldD X114 hx hZ e114 c116 (j := (1 : Int32)) (i := 1) (v := (.double (0 : UInt64))) (by decide) (by decide) rfl (g := (mkF m 119 #[.val (.ref p0), .val (.ref p1), .val (.ref p2), .val (.ref p3), .val (.ref b93), .val (.int (1 : Int32)), .unset] [(.int (1 : Int32)), (.ref p2), (.int (2 : Int32)), (.ref b93)])) rfl rfl (hb hby own_d_prog_43_method_1_code_119) _) ?_
  show Go p.tables e below P (T114.setTop (mkF m 120 #[.val (.ref p0), .val (.ref p1), .val (.ref p2), .val (.ref p3), .val (.ref b93), .val (.int (1 : Int32)), .unset] [(.double (0 : UInt64)), (.int (2 : Int32)), (.ref b93)]))
  obtain ⟨T117, h117, X117, e117, W117, V117, st117⟩ := own_stD X114 hx hZ e114 V112' (j := (2 : Int32)) (i := 2) (by decide) (by decide) (Nat.le_of_ble_eq_true rfl) (g := (mkF m 120 #[.val (.ref p0), .val (.ref p1), .val (.ref p2), .val (.ref p3), .val (.ref b93), .val (.int (1 : Int32)), .unset] [(.double (0 : UInt64)), (.int (2 : Int32)), (.ref b93)])) rfl rfl (hb hby own_d_prog_43_method_1_code_120)
  refine Go.st st117 ?_
  have K117 : Keep h0 h117 [p0] := K112.wr W117 (Or.inr sz_b93)
  have O117 := O112.wr W117 g_b93
  have N117 := Fr.snoc X117 N112 g_b93
  have V117' : Arv Z h117 b93 k93 .double (10 : Int32) [(.double (0 : UInt64)), (.double (0 : UInt64)), (.double (0 : UInt64)), (.double (0 : UInt64)), (.double (0 : UInt64)), (.double (0 : UInt64)), (.double (0 : UInt64)), (.double (0 : UInt64)), (.double (0 : UInt64)), (.double (0 : UInt64))] (.double (0 : UInt64)) := V117
  show Go p.tables e below P (T117.setTop (mkF m 121 #[.val (.ref p0), .val (.ref p1), .val (.ref p2), .val (.ref p3), .val (.ref b93), .val (.int (1 : Int32)), .unset] []))
  refine Go.st (fun _ => XS.aload X117.here hx rfl (hb hby own_d_prog_43_method_1_code_121) rfl rfl) ?_
  show Go p.tables e below P (T117.setTop (mkF m 123 #[.val (.ref p0), .val (.ref p1), .val (.ref p2), .val (.ref p3), .val (.ref b93), .val (.int (1 : Int32)), .unset] [(.ref b93)]))
  refine Go.st (fun _ => XS.iconst X117.here hx rfl (hb hby own_d_prog_43_method_1_code_123)) ?_
  show Go p.tables e below P (T117.setTop (mkF m 124 #[.val (.ref p0), .val (.ref p1), .val (.ref p2), .val (.ref p3), .val (.ref b93), .val (.int (1 : Int32)), .unset] [(.int (2 : Int32)), (.ref b93)]))
  refine Go.st (fun _ => XS.iload X117.here hx rfl (hb hby own_d_prog_43_method_1_code_124) rfl) ?_
  show Go p.tables e below P (T117.setTop (mkF m 126 #[.val (.ref p0), .val (.ref p1), .val (.ref p2), .val (.ref p3), .val (.ref b93), .val (.int (1 : Int32)), .unset] [(.int (1 : Int32)), (.int (2 : Int32)), (.ref b93)]))
  refine Go.st (fun _ => XS.imul X117.here hx rfl (hb hby own_d_prog_43_method_1_code_126) rfl) ?_
  show Go p.tables e below P (T117.setTop (mkF m 127 #[.val (.ref p0), .val (.ref p1), .val (.ref p2), .val (.ref p3), .val (.ref b93), .val (.int (1 : Int32)), .unset] [(.int (2 : Int32)), (.ref b93)]))
  refine Go.st (fun _ => XS.iconst X117.here hx rfl (hb hby own_d_prog_43_method_1_code_127)) ?_
  show Go p.tables e below P (T117.setTop (mkF m 128 #[.val (.ref p0), .val (.ref p1), .val (.ref p2), .val (.ref p3), .val (.ref b93), .val (.int (1 : Int32)), .unset] [(.int (1 : Int32)), (.int (2 : Int32)), (.ref b93)]))
  refine Go.st (fun _ => XS.iadd X117.here hx rfl (hb hby own_d_prog_43_method_1_code_128) rfl) ?_
  show Go p.tables e below P (T117.setTop (mkF m 129 #[.val (.ref p0), .val (.ref p1), .val (.ref p2), .val (.ref p3), .val (.ref b93), .val (.int (1 : Int32)), .unset] [(.int (3 : Int32)), (.ref b93)]))
  refine Go.st (fun _ => XS.aloadN X117.here hx rfl (hb hby own_d_prog_43_method_1_code_129) rfl rfl) ?_
  show Go p.tables e below P (T117.setTop (mkF m 130 #[.val (.ref p0), .val (.ref p1), .val (.ref p2), .val (.ref p3), .val (.ref b93), .val (.int (1 : Int32)), .unset] [(.ref p3), (.int (3 : Int32)), (.ref b93)]))
  refine Go.st (fun _ => XS.iload X117.here hx rfl (hb hby own_d_prog_43_method_1_code_130) rfl) ?_
  show Go p.tables e below P (T117.setTop (mkF m 132 #[.val (.ref p0), .val (.ref p1), .val (.ref p2), .val (.ref p3), .val (.ref b93), .val (.int (1 : Int32)), .unset] [(.int (1 : Int32)), (.ref p3), (.int (3 : Int32)), (.ref b93)]))
  have c119 := ((c111.other W112 (Nat.ne_of_lt (Nat.lt_of_lt_of_le c99.lt (Nat.le_of_eq g93.symm)))).other W117 (Nat.ne_of_lt (Nat.lt_of_lt_of_le c99.lt (Nat.le_of_eq g93.symm))))
  refine Go.st (fun _ => own_ldD X117 hx hZ e117 c119 (j := (1 : Int32)) (i := 1) (v := (.double (0 : UInt64))) (by decide) (by decide) rfl (g := (mkF m 132 #[.val (.ref p0), .val (.ref p1), .val (.ref p2), .val (.ref p3), .val (.ref b93), .val (.int (1 : Int32)), .unset] [(.int (1 : Int32)), (.ref p3), (.int (3 : Int32)), (.ref b93)])) rfl rfl (hb hby own_d_prog_43_method_1_code_132) _) ?_
  show Go p.tables e below P (T117.setTop (mkF m 133 #[.val (.ref p0), .val (.ref p1), .val (.ref p2), .val (.ref p3), .val (.ref b93), .val (.int (1 : Int32)), .unset] [(.double (0 : UInt64)), (.int (3 : Int32)), (.ref b93)]))
  obtain ⟨T120, h120, X120, e120, W120, V120, st120⟩ := own_stD X117 hx hZ e117 V117' (j := (3 : Int32)) (i := 3) (by decide) (by decide) (Nat.le_of_ble_eq_true rfl) (g := (mkF m 133 #[.val (.ref p0), .val (.ref p1), .val (.ref p2), .val (.ref p3), .val (.ref b93), .val (.int (1 : Int32)), .unset] [(.double (0 : UInt64)), (.int (3 : Int32)), (.ref b93)])) rfl rfl (hb hby own_d_prog_43_method_1_code_133)
  refine Go.st st120 ?_
  have K120 : Keep h0 h120 [p0] := K117.wr W120 (Or.inr sz_b93)
  have O120 := O117.wr W120 g_b93
  have N120 := Fr.snoc X120 N117 g_b93
  have V120' : Arv Z h120 b93 k93 .double (10 : Int32) [(.double (0 : UInt64)), (.double (0 : UInt64)), (.double (0 : UInt64)), (.double (0 : UInt64)), (.double (0 : UInt64)), (.double (0 : UInt64)), (.double (0 : UInt64)), (.double (0 : UInt64)), (.double (0 : UInt64)), (.double (0 : UInt64))] (.double (0 : UInt64)) := V120
  show Go p.tables e below P (T120.setTop (mkF m 134 #[.val (.ref p0), .val (.ref p1), .val (.ref p2), .val (.ref p3), .val (.ref b93), .val (.int (1 : Int32)), .unset] []))
  refine Go.st (fun _ => XS.iinc X120.here hx rfl (hb hby own_d_prog_43_method_1_code_134) rfl (l' := #[.val (.ref p0), .val (.ref p1), .val (.ref p2), .val (.ref p3), .val (.ref b93), .val (.int (2 : Int32)), .unset]) rfl) ?_
  show Go p.tables e below P (T120.setTop (mkF m 137 #[.val (.ref p0), .val (.ref p1), .val (.ref p2), .val (.ref p3), .val (.ref b93), .val (.int (2 : Int32)), .unset] []))
  refine Go.st (fun _ => XS.goto X120.here hx rfl (pc0 := 137) (pc' := 101) rfl (hb hby own_d_prog_43_method_1_code_137) (by decide) (by decide)) ?_
  show Go p.tables e below P (T120.setTop (mkF m 101 #[.val (.ref p0), .val (.ref p1), .val (.ref p2), .val (.ref p3), .val (.ref b93), .val (.int (2 : Int32)), .unset] []))
  refine Go.st (fun _ => XS.iload X120.here hx rfl (hb hby own_d_prog_43_method_1_code_101) rfl) ?_
  show Go p.tables e below P (T120.setTop (mkF m 103 #[.val (.ref p0), .val (.ref p1), .val (.ref p2), .val (.ref p3), .val (.ref b93), .val (.int (2 : Int32)), .unset] [(.int (2 : Int32))]))
  refine Go.st (fun _ => XS.aloadN X120.here hx rfl (hb hby own_d_prog_43_method_1_code_103) rfl rfl) ?_
  show Go p.tables e below P (T120.setTop (mkF m 104 #[.val (.ref p0), .val (.ref p1), .val (.ref p2), .val (.ref p3), .val (.ref b93), .val (.int (2 : Int32)), .unset] [(.ref p0), (.int (2 : Int32))]))
  have c121 := ((c113.other W117 (Or.inl (Nat.ne_of_lt (Nat.lt_of_lt_of_le c94.lt (Nat.le_of_eq g93.symm))))).other W120 (Or.inl (Nat.ne_of_lt (Nat.lt_of_lt_of_le c94.lt (Nat.le_of_eq g93.symm)))))
  obtain ⟨T122, X122, e122, st122⟩ := getF X120 hx hZ hown (host := "") (Or.inl (hw _ (List.mem_of_getElem? (i := 60) rfl))) Via.refl e120 c121 (g := (mkF m 104 #[.val (.ref p0), .val (.ref p1), .val (.ref p2), .val (.ref p3), .val (.ref b93), .val (.int (2 : Int32)), .unset] [(.ref p0), (.int (2 : Int32))])) rfl rfl (hb hby own_d_prog_43_method_1_code_104)
  refine Go.st st122 ?_
  show Go p.tables e below P (T122.setTop (mkF m 107 #[.val (.ref p0), .val (.ref p1), .val (.ref p2), .val (.ref p3), .val (.ref b93), .val (.int (2 : Int32)), .unset] [(.int (5 : Int32)), (.int (2 : Int32))]))
  refine Go.st (fun _ => XS.icmpNo X122.here hx rfl (hb hby own_d_prog_43_method_1_code_107) rfl (tlt (by decide)).2.1) ?_
  show Go p.tables e below P (T122.setTop (mkF m 110 #[.val (.ref p0), .val (.ref p1), .val (.ref p2), .val (.ref p3), .val (.ref b93), .val (.int (2 : Int32)), .unset] []))
  refine Go.st (fun _ => XS.aload X122.here hx rfl (hb hby own_d_prog_43_method_1_code_110) rfl rfl) ?_
  show Go p.tables e below P (T122.setTop (mkF m 112 #[.val (.ref p0), .val (.ref p1), .val (.ref p2), .val (.ref p3), .val (.ref b93), .val (.int (2 : Int32)), .unset] [(.ref b93)]))
  refine Go.st (fun _ => XS.iconst X122.here hx rfl (hb hby own_d_prog_43_method_1_code_112)) ?_
  show Go p.tables e below P (T122.setTop (mkF m 113 #[.val (.ref p0), .val (.ref p1), .val (.ref p2), .val (.ref p3), .val (.ref b93), .val (.int (2 : Int32)), .unset] [(.int (2 : Int32)), (.ref b93)]))
  refine Go.st (fun _ => XS.iload X122.here hx rfl (hb hby own_d_prog_43_method_1_code_113) rfl) ?_
  show Go p.tables e below P (T122.setTop (mkF m 115 #[.val (.ref p0), .val (.ref p1), .val (.ref p2), .val (.ref p3), .val (.ref b93), .val (.int (2 : Int32)), .unset] [(.int (2 : Int32)), (.int (2 : Int32)), (.ref b93)]))
  refine Go.st (fun _ => XS.imul X122.here hx rfl (hb hby own_d_prog_43_method_1_code_115) rfl) ?_
  show Go p.tables e below P (T122.setTop (mkF m 116 #[.val (.ref p0), .val (.ref p1), .val (.ref p2), .val (.ref p3), .val (.ref b93), .val (.int (2 : Int32)), .unset] [(.int (4 : Int32)), (.ref b93)]))
  refine Go.st (fun _ => XS.aloadN X122.here hx rfl (hb hby own_d_prog_43_method_1_code_116) rfl rfl) ?_
  show Go p.tables e below P (T122.setTop (mkF m 117 #[.val (.ref p0), .val (.ref p1), .val (.ref p2), .val (.ref p3), .val (.ref b93), .val (.int (2 : Int32)), .unset] [(.ref p2), (.int (4 : Int32)), (.ref b93)]))
  refine Go.st (fun _ => XS.iload X122.here hx rfl (hb hby own_d_prog_43_method_1_code_117) rfl) ?_
  show Go p.tables e below P (T122.setTop (mkF m 119 #[.val (.ref p0), .val (.ref p1), .val (.ref p2), .val (.ref p3), .val (.ref b93), .val (.int (2 : Int32)), .unset] [(.int (2 : Int32)), (.ref p2), (.int (4 : Int32)), (.ref b93)]))
  have c124 := ((c116.other W117 (Nat.ne_of_lt (Nat.lt_of_lt_of_le c98.lt (Nat.le_of_eq g93.symm)))).other W120 (Nat.ne_of_lt (Nat.lt_of_lt_of_le c98.lt (Nat.le_of_eq g93.symm))))
  refine Go.st (fun _ => own_ldD X122 hx hZ e122 c124 (j := (2 : Int32)) (i := 2) (v := (.double (0 : UInt64))) (by decide) (by decide) rfl (g := (mkF m 119 #[.val (.ref p0), .val (.ref p1), .val (.ref p2), .val (.ref p3), .val (.ref b93), .val (.int (2 : Int32)), .unset] [(.int (2 : Int32)), (.ref p2), (.int (4 : Int32)), (.ref b93)])) rfl rfl (hb hby own_d_prog_43_method_1_code_119) _) ?_
  show Go p.tables e below P (T122.setTop (mkF m 120 #[.val (.ref p0), .val (.ref p1), .val (.ref p2), .val (.ref p3), .val (.ref b93), .val (.int (2 : Int32)), .unset] [(.double (0 : UInt64)), (.int (4 : Int32)), (.ref b93)]))
  obtain ⟨T125, h125, X125, e125, W125, V125, st125⟩ := own_stD X122 hx hZ e122 V120' (j := (4 : Int32)) (i := 4) (by decide) (by decide) (Nat.le_of_ble_eq_true rfl) (g := (mkF m 120 #[.val (.ref p0), .val (.ref p1), .val (.ref p2), .val (.ref p3), .val (.ref b93), .val (.int (2 : Int32)), .unset] [(.double (0 : UInt64)), (.int (4 : Int32)), (.ref b93)])) rfl rfl (hb hby own_d_prog_43_method_1_code_120)
  refine Go.st st125 ?_
  have K125 : Keep h0 h125 [p0] := K120.wr W125 (Or.inr sz_b93)
  have O125 := O120.wr W125 g_b93
  have N125 := Fr.snoc X125 N120 g_b93
  have V125' : Arv Z h125 b93 k93 .double (10 : Int32) [(.double (0 : UInt64)), (.double (0 : UInt64)), (.double (0 : UInt64)), (.double (0 : UInt64)), (.double (0 : UInt64)), (.double (0 : UInt64)), (.double (0 : UInt64)), (.double (0 : UInt64)), (.double (0 : UInt64)), (.double (0 : UInt64))] (.double (0 : UInt64)) := V125
  show Go p.tables e below P (T125.setTop (mkF m 121 #[.val (.ref p0), .val (.ref p1), .val (.ref p2), .val (.ref p3), .val (.ref b93), .val (.int (2 : Int32)), .unset] []))
  refine Go.st (fun _ => XS.aload X125.here hx rfl (hb hby own_d_prog_43_method_1_code_121) rfl rfl) ?_
  show Go p.tables e below P (T125.setTop (mkF m 123 #[.val (.ref p0), .val (.ref p1), .val (.ref p2), .val (.ref p3), .val (.ref b93), .val (.int (2 : Int32)), .unset] [(.ref b93)]))
  refine Go.st (fun _ => XS.iconst X125.here hx rfl (hb hby own_d_prog_43_method_1_code_123)) ?_
  show Go p.tables e below P (T125.setTop (mkF m 124 #[.val (.ref p0), .val (.ref p1), .val (.ref p2), .val (.ref p3), .val (.ref b93), .val (.int (2 : Int32)), .unset] [(.int (2 : Int32)), (.ref b93)]))
  refine Go.st (fun _ => XS.iload X125.here hx rfl (hb hby own_d_prog_43_method_1_code_124) rfl) ?_
  show Go p.tables e below P (T125.setTop (mkF m 126 #[.val (.ref p0), .val (.ref p1), .val (.ref p2), .val (.ref p3), .val (.ref b93), .val (.int (2 : Int32)), .unset] [(.int (2 : Int32)), (.int (2 : Int32)), (.ref b93)]))
  refine Go.st (fun _ => XS.imul X125.here hx rfl (hb hby own_d_prog_43_method_1_code_126) rfl) ?_
  show Go p.tables e below P (T125.setTop (mkF m 127 #[.val (.ref p0), .val (.ref p1), .val (.ref p2), .val (.ref p3), .val (.ref b93), .val (.int (2 : Int32)), .unset] [(.int (4 : Int32)), (.ref b93)]))
  refine Go.st (fun _ => XS.iconst X125.here hx rfl (hb hby own_d_prog_43_method_1_code_127)) ?_
  show Go p.tables e below P (T125.setTop (mkF m 128 #[.val (.ref p0), .val (.ref p1), .val (.ref p2), .val (.ref p3), .val (.ref b93), .val (.int (2 : Int32)), .unset] [(.int (1 : Int32)), (.int (4 : Int32)), (.ref b93)]))
  refine Go.st (fun _ => XS.iadd X125.here hx rfl (hb hby own_d_prog_43_method_1_code_128) rfl) ?_
  show Go p.tables e below P (T125.setTop (mkF m 129 #[.val (.ref p0), .val (.ref p1), .val (.ref p2), .val (.ref p3), .val (.ref b93), .val (.int (2 : Int32)), .unset] [(.int (5 : Int32)), (.ref b93)]))
  refine Go.st (fun _ => XS.aloadN X125.here hx rfl (hb hby own_d_prog_43_method_1_code_129) rfl rfl) ?_
  show Go p.tables e below P (T125.setTop (mkF m 130 #[.val (.ref p0), .val (.ref p1), .val (.ref p2), .val (.ref p3), .val (.ref b93), .val (.int (2 : Int32)), .unset] [(.ref p3), (.int (5 : Int32)), (.ref b93)]))
  refine Go.st (fun _ => XS.iload X125.here hx rfl (hb hby own_d_prog_43_method_1_code_130) rfl) ?_
  show Go p.tables e below P (T125.setTop (mkF m 132 #[.val (.ref p0), .val (.ref p1), .val (.ref p2), .val (.ref p3), .val (.ref b93), .val (.int (2 : Int32)), .unset] [(.int (2 : Int32)), (.ref p3), (.int (5 : Int32)), (.ref b93)]))
  have c127 := ((c119.other W120 (Nat.ne_of_lt (Nat.lt_of_lt_of_le c99.lt (Nat.le_of_eq g93.symm)))).other W125 (Nat.ne_of_lt (Nat.lt_of_lt_of_le c99.lt (Nat.le_of_eq g93.symm))))
  refine Go.st (fun _ => own_ldD X125 hx hZ e125 c127 (j := (2 : Int32)) (i := 2) (v := (.double (0 : UInt64))) (by decide) (by decide) rfl (g := (mkF m 132 #[.val (.ref p0), .val (.ref p1), .val (.ref p2), .val (.ref p3), .val (.ref b93), .val (.int (2 : Int32)), .unset] [(.int (2 : Int32)), (.ref p3), (.int (5 : Int32)), (.ref b93)])) rfl rfl (hb hby own_d_prog_43_method_1_code_132) _) ?_
  show Go p.tables e below P (T125.setTop (mkF m 133 #[.val (.ref p0), .val (.ref p1), .val (.ref p2), .val (.ref p3), .val (.ref b93), .val (.int (2 : Int32)), .unset] [(.double (0 : UInt64)), (.int (5 : Int32)), (.ref b93)]))
  obtain ⟨T128, h128, X128, e128, W128, V128, st128⟩ := own_stD X125 hx hZ e125 V125' (j := (5 : Int32)) (i := 5) (by decide) (by decide) (Nat.le_of_ble_eq_true rfl) (g := (mkF m 133 #[.val (.ref p0), .val (.ref p1), .val (.ref p2), .val (.ref p3), .val (.ref b93), .val (.int (2 : Int32)), .unset] [(.double (0 : UInt64)), (.int (5 : Int32)), (.ref b93)])) rfl rfl (hb hby own_d_prog_43_method_1_code_133)
  refine Go.st st128 ?_
  have K128 : Keep h0 h128 [p0] := K125.wr W128 (Or.inr sz_b93)
  have O128 := O125.wr W128 g_b93
  have N128 := Fr.snoc X128 N125 g_b93
  have V128' : Arv Z h128 b93 k93 .double (10 : Int32) [(.double (0 : UInt64)), (.double (0 : UInt64)), (.double (0 : UInt64)), (.double (0 : UInt64)), (.double (0 : UInt64)), (.double (0 : UInt64)), (.double (0 : UInt64)), (.double (0 : UInt64)), (.double (0 : UInt64)), (.double (0 : UInt64))] (.double (0 : UInt64)) := V128
  show Go p.tables e below P (T128.setTop (mkF m 134 #[.val (.ref p0), .val (.ref p1), .val (.ref p2), .val (.ref p3), .val (.ref b93), .val (.int (2 : Int32)), .unset] []))
  refine Go.st (fun _ => XS.iinc X128.here hx rfl (hb hby own_d_prog_43_method_1_code_134) rfl (l' := #[.val (.ref p0), .val (.ref p1), .val (.ref p2), .val (.ref p3), .val (.ref b93), .val (.int (3 : Int32)), .unset]) rfl) ?_
  show Go p.tables e below P (T128.setTop (mkF m 137 #[.val (.ref p0), .val (.ref p1), .val (.ref p2), .val (.ref p3), .val (.ref b93), .val (.int (3 : Int32)), .unset] []))
  refine Go.st (fun _ => XS.goto X128.here hx rfl (pc0 := 137) (pc' := 101) rfl (hb hby own_d_prog_43_method_1_code_137) (by decide) (by decide)) ?_
  show Go p.tables e below P (T128.setTop (mkF m 101 #[.val (.ref p0), .val (.ref p1), .val (.ref p2), .val (.ref p3), .val (.ref b93), .val (.int (3 : Int32)), .unset] []))
  refine Go.st (fun _ => XS.iload X128.here hx rfl (hb hby own_d_prog_43_method_1_code_101) rfl) ?_
  show Go p.tables e below P (T128.setTop (mkF m 103 #[.val (.ref p0), .val (.ref p1), .val (.ref p2), .val (.ref p3), .val (.ref b93), .val (.int (3 : Int32)), .unset] [(.int (3 : Int32))]))
  refine Go.st (fun _ => XS.aloadN X128.here hx rfl (hb hby own_d_prog_43_method_1_code_103) rfl rfl) ?_
  show Go p.tables e below P (T128.setTop (mkF m 104 #[.val (.ref p0), .val (.ref p1), .val (.ref p2), .val (.ref p3), .val (.ref b93), .val (.int (3 : Int32)), .unset] [(.ref p0), (.int (3 : Int32))]))
  have c129 := ((c121.other W125 (Or.inl (Nat.ne_of_lt (Nat.lt_of_lt_of_le c94.lt (Nat.le_of_eq g93.symm))))).other W128 (Or.inl (Nat.ne_of_lt (Nat.lt_of_lt_of_le c94.lt (Nat.le_of_eq g93.symm)))))
  obtain ⟨T130, X130, e130, st130⟩ := getF X128 hx hZ hown (host := "") (Or.inl (hw _ (List.mem_of_getElem? (i := 60) rfl))) Via.refl e128 c129 (g := (mkF m 104 #[.val (.ref p0), .val (.ref p1), .val (.ref p2), .val (.ref p3), .val (.ref b93), .val (.int (3 : Int32)), .unset] [(.ref p0), (.int (3 : Int32))])) rfl rfl (hb hby own_d_prog_43_method_1_code_104)
  refine Go.st st130 ?_
  show Go p.tables e below P (T130.setTop (mkF m 107 #[.val (.ref p0), .val (.ref p1), .val (.ref p2), .val (.ref p3), .val (.ref b93), .val (.int (3 : Int32)), .unset] [(.int (5 : Int32)), (.int (3 : Int32))]))
  refine Go.st (fun _ => XS.icmpNo X130.here hx rfl (hb hby own_d_prog_43_method_1_code_107) rfl (tlt (by decide)).2.1) ?_
  show Go p.tables e below P (T130.setTop (mkF m 110 #[.val (.ref p0), .val (.ref p1), .val (.ref p2), .val (.ref p3), .val (.ref b93), .val (.int (3 : Int32)), .unset] []))
  refine Go.st (fun _ => XS.aload X130.here hx rfl (hb hby own_d_prog_43_method_1_code_110) rfl rfl) ?_
  show Go p.tables e below P (T130.setTop (mkF m 112 #[.val (.ref p0), .val (.ref p1), .val (.ref p2), .val (.ref p3), .val (.ref b93), .val (.int (3 : Int32)), .unset] [(.ref b93)]))
  refine Go.st (fun _ => XS.iconst X130.here hx rfl (hb hby own_d_prog_43_method_1_code_112)) ?_
  show Go p.tables e below P (T130.setTop (mkF m 113 #[.val (.ref p0), .val (.ref p1), .val (.ref p2), .val (.ref p3), .val (.ref b93), .val (.int (3 : Int32)), .unset] [(.int (2 : Int32)), (.ref b93)]))
  refine Go.st (fun _ => XS.iload X130.here hx rfl (hb hby own_d_prog_43_method_1_code_113) rfl) ?_
  show Go p.tables e below P (T130.setTop (mkF m 115 #[.val (.ref p0), .val (.ref p1), .val (.ref p2), .val (.ref p3), .val (.ref b93), .val (.int (3 : Int32)), .unset] [(.int (3 : Int32)), (.int (2 : Int32)), (.ref b93)]))
  refine Go.st (fun _ => XS.imul X130.here hx rfl (hb hby own_d_prog_43_method_1_code_115) rfl) ?_
  show Go p.tables e below P (T130.setTop (mkF m 116 #[.val (.ref p0), .val (.ref p1), .val (.ref p2), .val (.ref p3), .val (.ref b93), .val (.int (3 : Int32)), .unset] [(.int (6 : Int32)), (.ref b93)]))
  refine Go.st (fun _ => XS.aloadN X130.here hx rfl (hb hby own_d_prog_43_method_1_code_116) rfl rfl) ?_
  show Go p.tables e below P (T130.setTop (mkF m 117 #[.val (.ref p0), .val (.ref p1), .val (.ref p2), .val (.ref p3), .val (.ref b93), .val (.int (3 : Int32)), .unset] [(.ref p2), (.int (6 : Int32)), (.ref b93)]))
  refine Go.st (fun _ => XS.iload X130.here hx rfl (hb hby own_d_prog_43_method_1_code_117) rfl) ?_
  show Go p.tables e below P (T130.setTop (mkF m 119 #[.val (.ref p0), .val (.ref p1), .val (.ref p2), .val (.ref p3), .val (.ref b93), .val (.int (3 : Int32)), .unset] [(.int (3 : Int32)), (.ref p2), (.int (6 : Int32)), (.ref b93)]))
  have c132 := ((c124.other W125 (Nat.ne_of_lt (Nat.lt_of_lt_of_le c98.lt (Nat.le_of_eq g93.symm)))).other W128 (Nat.ne_of_lt (Nat.lt_of_lt_of_le c98.lt (Nat.le_of_eq g93.symm))))
  refine Go.st (fun _ => own_ldD X130 hx hZ e130 c132 (j := (3 : Int32)) (i := 3) (v := (.double (0 : UInt64))) (by decide) (by decide) rfl (g := (mkF m 119 #[.val (.ref p0), .val (.ref p1), .val (.ref p2), .val (.ref p3), .val (.ref b93), .val (.int (3 : Int32)), .unset] [(.int (3 : Int32)), (.ref p2), (.int (6 : Int32)), (.ref b93)])) rfl rfl (hb hby own_d_prog_43_method_1_code_119) _) ?_
  show Go p.tables e below P (T130.setTop (mkF m 120 #[.val (.ref p0), .val (.ref p1), .val (.ref p2), .val (.ref p3), .val (.ref b93), .val (.int (3 : Int32)), .unset] [(.double (0 : UInt64)), (.int (6 : Int32)), (.ref b93)]))
  obtain ⟨T133, h133, X133, e133, W133, V133, st133⟩ := own_stD X130 hx hZ e130 V128' (j := (6 : Int32)) (i := 6) (by decide) (by decide) (Nat.le_of_ble_eq_true rfl) (g := (mkF m 120 #[.val (.ref p0), .val (.ref p1), .val (.ref p2), .val (.ref p3), .val (.ref b93), .val (.int (3 : Int32)), .unset] [(.double (0 : UInt64)), (.int (6 : Int32)), (.ref b93)])) rfl rfl (hb hby own_d_prog_43_method_1_code_120)
  refine Go.st st133 ?_
  have K133 : Keep h0 h133 [p0] := K128.wr W133 (Or.inr sz_b93)
  have O133 := O128.wr W133 g_b93
  have N133 := Fr.snoc X133 N128 g_b93
  have V133' : Arv Z h133 b93 k93 .double (10 : Int32) [(.double (0 : UInt64)), (.double (0 : UInt64)), (.double (0 : UInt64)), (.double (0 : UInt64)), (.double (0 : UInt64)), (.double (0 : UInt64)), (.double (0 : UInt64)), (.double (0 : UInt64)), (.double (0 : UInt64)), (.double (0 : UInt64))] (.double (0 : UInt64)) := V133
  show Go p.tables e below P (T133.setTop (mkF m 121 #[.val (.ref p0), .val (.ref p1), .val (.ref p2), .val (.ref p3), .val (.ref b93), .val (.int (3 : Int32)), .unset] []))
  refine Go.st (fun _ => XS.aload X133.here hx rfl (hb hby own_d_prog_43_method_1_code_121) rfl rfl) ?_
  show Go p.tables e below P (T133.setTop (mkF m 123 #[.val (.ref p0), .val (.ref p1), .val (.ref p2), .val (.ref p3), .val (.ref b93), .val (.int (3 : Int32)), .unset] [(.ref b93)]))
  refine Go.st (fun _ => XS.iconst X133.here hx rfl (hb hby own_d_prog_43_method_1_code_123)) ?_
  show Go p.tables e below P (T133.setTop (mkF m 124 #[.val (.ref p0), .val (.ref p1), .val (.ref p2), .val (.ref p3), .val (.ref b93), .val (.int (3 : Int32)), .unset] [(.int (2 : Int32)), (.ref b93)]))
  refine Go.st (fun _ => XS.iload X133.here hx rfl (hb hby own_d_prog_43_method_1_code_124) rfl) ?_
  show Go p.tables e below P (T133.setTop (mkF m 126 #[.val (.ref p0), .val (.ref p1), .val (.ref p2), .val (.ref p3), .val (.ref b93), .val (.int (3 : Int32)), .unset] [(.int (3 : Int32)), (.int (2 : Int32)), (.ref b93)]))
  refine Go.st (fun _ => XS.imul X133.here hx rfl (hb hby own_d_prog_43_method_1_code_126) rfl) ?_
  show Go p.tables e below P (T133.setTop (mkF m 127 #[.val (.ref p0), .val (.ref p1), .val (.ref p2), .val (.ref p3), .val (.ref b93), .val (.int (3 : Int32)), .unset] [(.int (6 : Int32)), (.ref b93)]))
  refine Go.st (fun _ => XS.iconst X133.here hx rfl (hb hby own_d_prog_43_method_1_code_127)) ?_
  show Go p.tables e below P (T133.setTop (mkF m 128 #[.val (.ref p0), .val (.ref p1), .val (.ref p2), .val (.ref p3), .val (.ref b93), .val (.int (3 : Int32)), .unset] [(.int (1 : Int32)), (.int (6 : Int32)), (.ref b93)]))
  refine Go.st (fun _ => XS.iadd X133.here hx rfl (hb hby own_d_prog_43_method_1_code_128) rfl) ?_
  show Go p.tables e below P (T133.setTop (mkF m 129 #[.val (.ref p0), .val (.ref p1), .val (.ref p2), .val (.ref p3), .val (.ref b93), .val (.int (3 : Int32)), .unset] [(.int (7 : Int32)), (.ref b93)]))
  refine Go.st (fun _ => XS.aloadN X133.here hx rfl (hb hby own_d_prog_43_method_1_code_129) rfl rfl) ?_
  show Go p.tables e below P (T133.setTop (mkF m 130 #[.val (.ref p0), .val (.ref p1), .val (.ref p2), .val (.ref p3), .val (.ref b93), .val (.int (3 : Int32)), .unset] [(.ref p3), (.int (7 : Int32)), (.ref b93)]))
  refine Go.st (fun _ => XS.iload X133.here hx rfl (hb hby own_d_prog_43_method_1_code_130) rfl) ?_
  show Go p.tables e below P (T133.setTop (mkF m 132 #[.val (.ref p0), .val (.ref p1), .val (.ref p2), .val (.ref p3), .val (.ref b93), .val (.int (3 : Int32)), .unset] [(.int (3 : Int32)), (.ref p3), (.int (7 : Int32)), (.ref b93)]))
  have c135 := ((c127.other W128 (Nat.ne_of_lt (Nat.lt_of_lt_of_le c99.lt (Nat.le_of_eq g93.symm)))).other W133 (Nat.ne_of_lt (Nat.lt_of_lt_of_le c99.lt (Nat.le_of_eq g93.symm))))
  refine Go.st (fun _ => own_ldD X133 hx hZ e133 c135 (j := (3 : Int32)) (i := 3) (v := (.double (0 : UInt64))) (by decide) (by decide) rfl (g := (mkF m 132 #[.val (.ref p0), .val (.ref p1), .val (.ref p2), .val (.ref p3), .val (.ref b93), .val (.int (3 : Int32)), .unset] [(.int (3 : Int32)), (.ref p3), (.int (7 : Int32)), (.ref b93)])) rfl rfl (hb hby own_d_prog_43_method_1_code_132) _) ?_
  show Go p.tables e below P (T133.setTop (mkF m 133 #[.val (.ref p0), .val (.ref p1), .val (.ref p2), .val (.ref p3), .val (.ref b93), .val (.int (3 : Int32)), .unset] [(.double (0 : UInt64)), (.int (7 : Int32)), (.ref b93)]))
  obtain ⟨T136, h136, X136, e136, W136, V136, st136⟩ := own_stD X133 hx hZ e133 V133' (j := (7 : Int32)) (i := 7) (by decide) (by decide) (Nat.le_of_ble_eq_true rfl) (g := (mkF m 133 #[.val (.ref p0), .val (.ref p1), .val (.ref p2), .val (.ref p3), .val (.ref b93), .val (.int (3 : Int32)), .unset] [(.double (0 : UInt64)), (.int (7 : Int32)), (.ref b93)])) rfl rfl (hb hby own_d_prog_43_method_1_code_133)
  refine Go.st st136 ?_
  have K136 : Keep h0 h136 [p0] := K133.wr W136 (Or.inr sz_b93)
  have O136 := O133.wr W136 g_b93
  have N136 := Fr.snoc X136 N133 g_b93
  have V136' : Arv Z h136 b93 k93 .double (10 : Int32) [(.double (0 : UInt64)), (.double (0 : UInt64)), (.double (0 : UInt64)), (.double (0 : UInt64)), (.double (0 : UInt64)), (.double (0 : UInt64)), (.double (0 : UInt64)), (.double (0 : UInt64)), (.double (0 : UInt64)), (.double (0 : UInt64))] (.double (0 : UInt64)) := V136
  show Go p.tables e below P (T136.setTop (mkF m 134 #[.val (.ref p0), .val (.ref p1), .val (.ref p2), .val (.ref p3), .val (.ref b93), .val (.int (3 : Int32)), .unset] []))
  refine Go.st (fun _ => XS.iinc X136.here hx rfl (hb hby own_d_prog_43_method_1_code_134) rfl (l' := #[.val (.ref p0), .val (.ref p1), .val (.ref p2), .val (.ref p3), .val (.ref b93), .val (.int (4 : Int32)), .unset]) rfl) ?_
  show Go p.tables e below P (T136.setTop (mkF m 137 #[.val (.ref p0), .val (.ref p1), .val (.ref p2), .val (.ref p3), .val (.ref b93), .val (.int (4 : Int32)), .unset] []))
  refine Go.st (fun _ => XS.goto X136.here hx rfl (pc0 := 137) (pc' := 101) rfl (hb hby own_d_prog_43_method_1_code_137) (by decide) (by decide)) ?_
  show Go p.tables e below P (T136.setTop (mkF m 101 #[.val (.ref p0), .val (.ref p1), .val (.ref p2), .val (.ref p3), .val (.ref b93), .val (.int (4 : Int32)), .unset] []))
  refine Go.st (fun _ => XS.iload X136.here hx rfl (hb hby own_d_prog_43_method_1_code_101) rfl) ?_
  show Go p.tables e below P (T136.setTop (mkF m 103 #[.val (.ref p0), .val (.ref p1), .val (.ref p2), .val (.ref p3), .val (.ref b93), .val (.int (4 : Int32)), .unset] [(.int (4 : Int32))]))
  refine Go.st (fun _ => XS.aloadN X136.here hx rfl (hb hby own_d_prog_43_method_1_code_103) rfl rfl) ?_
  show Go p.tables e below P (T136.setTop (mkF m 104 #[.val (.ref p0), .val (.ref p1), .val (.ref p2), .val (.ref p3), .val (.ref b93), .val (.int (4 : Int32)), .unset] [(.ref p0), (.int (4 : Int32))]))
  have c137 := ((c129.other W133 (Or.inl (Nat.ne_of_lt (Nat.lt_of_lt_of_le c94.lt (Nat.le_of_eq g93.symm))))).other W136 (Or.inl (Nat.ne_of_lt (Nat.lt_of_lt_of_le c94.lt (Nat.le_of_eq g93.symm)))))
  obtain ⟨T138, X138, e138, st138⟩ := getF X136 hx hZ hown (host := "") (Or.inl (hw _ (List.mem_of_getElem? (i := 60) rfl))) Via.refl e136 c137 (g := (mkF m 104 #[.val (.ref p0), .val (.ref p1), .val (.ref p2), .val (.ref p3), .val (.ref b93), .val (.int (4 : Int32)), .unset] [(.ref p0), (.int (4 : Int32))])) rfl rfl (hb hby own_d_prog_43_method_1_code_104)
  refine Go.st st138 ?_
  show Go p.tables e below P (T138.setTop (mkF m 107 #[.val (.ref p0), .val (.ref p1), .val (.ref p2), .val (.ref p3), .val (.ref b93), .val (.int (4 : Int32)), .unset] [(.int (5 : Int32)), (.int (4 : Int32))]))
  refine Go.st (fun _ => XS.icmpNo X138.here hx rfl (hb hby own_d_prog_43_method_1_code_107) rfl (tlt (by decide)).2.1) ?_
  show Go p.tables e below P (T138.setTop (mkF m 110 #[.val (.ref p0), .val (.ref p1), .val (.ref p2), .val (.ref p3), .val (.ref b93), .val (.int (4 : Int32)), .unset] []))
  refine Go.st (fun _ => XS.aload X138.here hx rfl (hb hby own_d_prog_43_method_1_code_110) rfl rfl) ?_
  show Go p.tables e below P (T138.setTop (mkF m 112 #[.val (.ref p0), .val (.ref p1), .val (.ref p2), .val (.ref p3), .val (.ref b93), .val (.int (4 : Int32)), .unset] [(.ref b93)]))
  refine Go.st (fun _ => XS.iconst X138.here hx rfl (hb hby own_d_prog_43_method_1_code_112)) ?_
  show Go p.tables e below P (T138.setTop (mkF m 113 #[.val (.ref p0), .val (.ref p1), .val (.ref p2), .val (.ref p3), .val (.ref b93), .val (.int (4 : Int32)), .unset] [(.int (2 : Int32)), (.ref b93)]))
  refine Go.st (fun _ => XS.iload X138.here hx rfl (hb hby own_d_prog_43_method_1_code_113) rfl) ?_
  show Go p.tables e below P (T138.setTop (mkF m 115 #[.val (.ref p0), .val (.ref p1), .val (.ref p2), .val (.ref p3), .val (.ref b93), .val (.int (4 : Int32)), .unset] [(.int (4 : Int32)), (.int (2 : Int32)), (.ref b93)]))
  refine Go.st (fun _ => XS.imul X138.here hx rfl (hb hby own_d_prog_43_method_1_code_115) rfl) ?_
  show Go p.tables e below P (T138.setTop (mkF m 116 #[.val (.ref p0), .val (.ref p1), .val (.ref p2), .val (.ref p3), .val (.ref b93), .val (.int (4 : Int32)), .unset] [(.int (8 : Int32)), (.ref b93)]))
  refine Go.st (fun _ => XS.aloadN X138.here hx rfl (hb hby own_d_prog_43_method_1_code_116) rfl rfl) ?_
  show Go p.tables e below P (T138.setTop (mkF m 117 #[.val (.ref p0), .val (.ref p1), .val (.ref p2), .val (.ref p3), .val (.ref b93), .val (.int (4 : Int32)), .unset] [(.ref p2), (.int (8 : Int32)), (.ref b93)]))
  refine Go.st (fun _ => XS.iload X138.here hx rfl (hb hby own_d_prog_43_method_1_code_117) rfl) ?_
  show Go p.tables e below P (T138.setTop (mkF m 119 #[.val (.ref p0), .val (.ref p1), .val (.ref p2), .val (.ref p3), .val (.ref b93), .val (.int (4 : Int32)), .unset] [(.int (4 : Int32)), (.ref p2), (.int (8 : Int32)), (.ref b93)]))
  have c140 := ((c132.other W133 (Nat.ne_of_lt (Nat.lt_of_lt_of_le c98.lt (Nat.le_of_eq g93.symm)))).other W136 (Nat.ne_of_lt (Nat.lt_of_lt_of_le c98.lt (Nat.le_of_eq g93.symm))))
  refine Go.st (fun _ => own_ldD X138 hx hZ e138 c140 (j := (4 : Int32)) (i := 4) (v := (.double (0 : UInt64))) (by decide) (by decide) rfl (g := (mkF m 119 #[.val (.ref p0), .val (.ref p1), .val (.ref p2), .val (.ref p3), .val (.ref b93), .val (.int (4 : Int32)), .unset] [(.int (4 : Int32)), (.ref p2), (.int (8 : Int32)), (.ref b93)])) rfl rfl (hb hby own_d_prog_43_method_1_code_119) _) ?_
  show Go p.tables e below P (T138.setTop (mkF m 120 #[.val (.ref p0), .val (.ref p1), .val (.ref p2), .val (.ref p3), .val (.ref b93), .val (.int (4 : Int32)), .unset] [(.double (0 : UInt64)), (.int (8 : Int32)), (.ref b93)]))
  obtain ⟨T141, h141, X141, e141, W141, V141, st141⟩ := own_stD X138 hx hZ e138 V136' (j := (8 : Int32)) (i := 8) (by decide) (by decide) (Nat.le_of_ble_eq_true rfl) (g := (mkF m 120 #[.val (.ref p0), .val (.ref p1), .val (.ref p2), .val (.ref p3), .val (.ref b93), .val (.int (4 : Int32)), .unset] [(.double (0 : UInt64)), (.int (8 : Int32)), (.ref b93)])) rfl rfl (hb hby own_d_prog_43_method_1_code_120)
  refine Go.st st141 ?_
  have K141 : Keep h0 h141 [p0] := K136.wr W141 (Or.inr sz_b93)
  have O141 := O136.wr W141 g_b93
  have N141 := Fr.snoc X141 N136 g_b93
  have V141' : Arv Z h141 b93 k93 .double (10 : Int32) [(.double (0 : UInt64)), (.double (0 : UInt64)), (.double (0 : UInt64)), (.double (0 : UInt64)), (.double (0 : UInt64)), (.double (0 : UInt64)), (.double (0 : UInt64)), (.double (0 : UInt64)), (.double (0 : UInt64)), (.double (0 : UInt64))] (.double (0 : UInt64)) := V141
  show Go p.tables e below P (T141.setTop (mkF m 121 #[.val (.ref p0), .val (.ref p1), .val (.ref p2), .val (.ref p3), .val (.ref b93), .val (.int (4 : Int32)), .unset] []))
  refine Go.st (fun _ => XS.aload X141.here hx rfl (hb hby own_d_prog_43_method_1_code_121) rfl rfl) ?_
  show Go p.tables e below P (T141.setTop (mkF m 123 #[.val (.ref p0), .val (.ref p1), .val (.ref p2), .val (.ref p3), .val (.ref b93), .val (.int (4 : Int32)), .unset] [(.ref b93)]))
  refine Go.st (fun _ => XS.iconst X141.here hx rfl (hb hby own_d_prog_43_method_1_code_123)) ?_
  show Go p.tables e below P (T141.setTop (mkF m 124 #[.val (.ref p0), .val (.ref p1), .val (.ref p2), .val (.ref p3), .val (.ref b93), .val (.int (4 : Int32)), .unset] [(.int (2 : Int32)), (.ref b93)]))
  refine Go.st (fun _ => XS.iload X141.here hx rfl (hb hby own_d_prog_43_method_1_code_124) rfl) ?_
  show Go p.tables e below P (T141.setTop (mkF m 126 #[.val (.ref p0), .val (.ref p1), .val (.ref p2), .val (.ref p3), .val (.ref b93), .val (.int (4 : Int32)), .unset] [(.int (4 : Int32)), (.int (2 : Int32)), (.ref b93)]))
  refine Go.st (fun _ => XS.imul X141.here hx rfl (hb hby own_d_prog_43_method_1_code_126) rfl) ?_
  show Go p.tables e below P (T141.setTop (mkF m 127 #[.val (.ref p0), .val (.ref p1), .val (.ref p2), .val (.ref p3), .val (.ref b93), .val (.int (4 : Int32)), .unset] [(.int (8 : Int32)), (.ref b93)]))
  refine Go.st (fun _ => XS.iconst X141.here hx rfl (hb hby own_d_prog_43_method_1_code_127)) ?_
  show Go p.tables e below P (T141.setTop (mkF m 128 #[.val (.ref p0), .val (.ref p1), .val (.ref p2), .val (.ref p3), .val (.ref b93), .val (.int (4 : Int32)), .unset] [(.int (1 : Int32)), (.int (8 : Int32)), (.ref b93)]))
  refine Go.st (fun _ => XS.iadd X141.here hx rfl (hb hby own_d_prog_43_method_1_code_128) rfl) ?_
  show Go p.tables e below P (T141.setTop (mkF m 129 #[.val (.ref p0), .val (.ref p1), .val (.ref p2), .val (.ref p3), .val (.ref b93), .val (.int (4 : Int32)), .unset] [(.int (9 : Int32)), (.ref b93)]))
  refine Go.st (fun _ => XS.aloadN X141.here hx rfl (hb hby own_d_prog_43_method_1_code_129) rfl rfl) ?_
  show Go p.tables e below P (T141.setTop (mkF m 130 #[.val (.ref p0), .val (.ref p1), .val (.ref p2), .val (.ref p3), .val (.ref b93), .val (.int (4 : Int32)), .unset] [(.ref p3), (.int (9 : Int32)), (.ref b93)]))
  refine Go.st (fun _ => XS.iload X141.here hx rfl (hb hby own_d_prog_43_method_1_code_130) rfl) ?_
  show Go p.tables e below P (T141.setTop (mkF m 132 #[.val (.ref p0), .val (.ref p1), .val (.ref p2), .val (.ref p3), .val (.ref b93), .val (.int (4 : Int32)), .unset] [(.int (4 : Int32)), (.ref p3), (.int (9 : Int32)), (.ref b93)]))
  have c143 := ((c135.other W136 (Nat.ne_of_lt (Nat.lt_of_lt_of_le c99.lt (Nat.le_of_eq g93.symm)))).other W141 (Nat.ne_of_lt (Nat.lt_of_lt_of_le c99.lt (Nat.le_of_eq g93.symm))))
  refine Go.st (fun _ => own_ldD X141 hx hZ e141 c143 (j := (4 : Int32)) (i := 4) (v := (.double (0 : UInt64))) (by decide) (by decide) rfl (g := (mkF m 132 #[.val (.ref p0), .val (.ref p1), .val (.ref p2), .val (.ref p3), .val (.ref b93), .val (.int (4 : Int32)), .unset] [(.int (4 : Int32)), (.ref p3), (.int (9 : Int32)), (.ref b93)])) rfl rfl (hb hby own_d_prog_43_method_1_code_132) _) ?_
  show Go p.tables e below P (T141.setTop (mkF m 133 #[.val (.ref p0), .val (.ref p1), .val (.ref p2), .val (.ref p3), .val (.ref b93), .val (.int (4 : Int32)), .unset] [(.double (0 : UInt64)), (.int (9 : Int32)), (.ref b93)]))
  obtain ⟨T144, h144, X144, e144, W144, V144, st144⟩ := own_stD X141 hx hZ e141 V141' (j := (9 : Int32)) (i := 9) (by decide) (by decide) (Nat.le_of_ble_eq_true rfl) (g := (mkF m 133 #[.val (.ref p0), .val (.ref p1), .val (.ref p2), .val (.ref p3), .val (.ref b93), .val (.int (4 : Int32)), .unset] [(.double (0 : UInt64)), (.int (9 : Int32)), (.ref b93)])) rfl rfl (hb hby own_d_prog_43_method_1_code_133)
  refine Go.st st144 ?_
  have K144 : Keep h0 h144 [p0] := K141.wr W144 (Or.inr sz_b93)
  have O144 := O141.wr W144 g_b93
  have N144 := Fr.snoc X144 N141 g_b93
  have V144' : Arv Z h144 b93 k93 .double (10 : Int32) [(.double (0 : UInt64)), (.double (0 : UInt64)), (.double (0 : UInt64)), (.double (0 : UInt64)), (.double (0 : UInt64)), (.double (0 : UInt64)), (.double (0 : UInt64)), (.double (0 : UInt64)), (.double (0 : UInt64)), (.double (0 : UInt64))] (.double (0 : UInt64)) := V144
  show Go p.tables e below P (T144.setTop (mkF m 134 #[.val (.ref p0), .val (.ref p1), .val (.ref p2), .val (.ref p3), .val (.ref b93), .val (.int (4 : Int32)), .unset] []))
  refine Go.st (fun _ => XS.iinc X144.here hx rfl (hb hby own_d_prog_43_method_1_code_134) rfl (l' := #[.val (.ref p0), .val (.ref p1), .val (.ref p2), .val (.ref p3), .val (.ref b93), .val (.int (5 : Int32)), .unset]) rfl) ?_
  show Go p.tables e below P (T144.setTop (mkF m 137 #[.val (.ref p0), .val (.ref p1), .val (.ref p2), .val (.ref p3), .val (.ref b93), .val (.int (5 : Int32)), .unset] []))
  refine Go.st (fun _ => XS.goto X144.here hx rfl (pc0 := 137) (pc' := 101) rfl (hb hby own_d_prog_43_method_1_code_137) (by decide) (by decide)) ?_
  show Go p.tables e below P (T144.setTop (mkF m 101 #[.val (.ref p0), .val (.ref p1), .val (.ref p2), .val (.ref p3), .val (.ref b93), .val (.int (5 : Int32)), .unset] []))
  refine Go.st (fun _ => XS.iload X144.here hx rfl (hb hby own_d_prog_43_method_1_code_101) rfl) ?_
  show Go p.tables e below P (T144.setTop (mkF m 103 #[.val (.ref p0), .val (.ref p1), .val (.ref p2), .val (.ref p3), .val (.ref b93), .val (.int (5 : Int32)), .unset] [(.int (5 : Int32))]))
  refine Go.st (fun _ => XS.aloadN X144.here hx rfl (hb hby own_d_prog_43_method_1_code_103) rfl rfl) ?_
  show Go p.tables e below P (T144.setTop (mkF m 104 #[.val (.ref p0), .val (.ref p1), .val (.ref p2), .val (.ref p3), .val (.ref b93), .val (.int (5 : Int32)), .unset] [(.ref p0), (.int (5 : Int32))]))
  have c145 := ((c137.other W141 (Or.inl (Nat.ne_of_lt (Nat.lt_of_lt_of_le c94.lt (Nat.le_of_eq g93.symm))))).other W144 (Or.inl (Nat.ne_of_lt (Nat.lt_of_lt_of_le c94.lt (Nat.le_of_eq g93.symm)))))
  obtain ⟨T146, X146, e146, st146⟩ := getF X144 hx hZ hown (host := "") (Or.inl (hw _ (List.mem_of_getElem? (i := 60) rfl))) Via.refl e144 c145 (g := (mkF m 104 #[.val (.ref p0), .val (.ref p1), .val (.ref p2), .val (.ref p3), .val (.ref b93), .val (.int (5 : Int32)), .unset] [(.ref p0), (.int (5 : Int32))])) rfl rfl (hb hby own_d_prog_43_method_1_code_104)
  refine Go.st st146 ?_
  show Go p.tables e below P (T146.setTop (mkF m 107 #[.val (.ref p0), .val (.ref p1), .val (.ref p2), .val (.ref p3), .val (.ref b93), .val (.int (5 : Int32)), .unset] [(.int (5 : Int32)), (.int (5 : Int32))]))
  refine Go.st (fun _ => XS.icmpYes X146.here hx rfl (pc0 := 107) (pc' := 140) rfl (hb hby own_d_prog_43_method_1_code_107) rfl (flt (by decide)).2.1 (by decide) (by decide)) ?_
  show Go p.tables e below P (T146.setTop (mkF m 140 #[.val (.ref p0), .val (.ref p1), .val (.ref p2), .val (.ref p3), .val (.ref b93), .val (.int (5 : Int32)), .unset] []))
  refine Go.st (fun _ => XS.iconst X146.here hx rfl (hb hby own_d_prog_43_method_1_code_140)) ?_
  show Go p.tables e below P (T146.setTop (mkF m 141 #[.val (.ref p0), .val (.ref p1), .val (.ref p2), .val (.ref p3), .val (.ref b93), .val (.int (5 : Int32)), .unset] [(.int (0 : Int32))]))
  refine Go.st (fun _ => XS.istore X146.here hx rfl (hb hby own_d_prog_43_method_1_code_141) rfl (l' := #[.val (.ref p0), .val (.ref p1), .val (.ref p2), .val (.ref p3), .val (.ref b93), .val (.int (0 : Int32)), .unset]) rfl) ?_
  show Go p.tables e below P (T146.setTop (mkF m 143 #[.val (.ref p0), .val (.ref p1), .val (.ref p2), .val (.ref p3), .val (.ref b93), .val (.int (0 : Int32)), .unset] []))
  refine Go.st (fun _ => XS.iload X146.here hx rfl (hb hby own_d_prog_43_method_1_code_143) rfl) ?_
  show Go p.tables e below P (T146.setTop (mkF m 145 #[.val (.ref p0), .val (.ref p1), .val (.ref p2), .val (.ref p3), .val (.ref b93), .val (.int (0 : Int32)), .unset] [(.int (0 : Int32))]))
  refine Go.st (fun _ => XS.aloadN X146.here hx rfl (hb hby own_d_prog_43_method_1_code_145) rfl rfl) ?_
  show Go p.tables e below P (T146.setTop (mkF m 146 #[.val (.ref p0), .val (.ref p1), .val (.ref p2), .val (.ref p3), .val (.ref b93), .val (.int (0 : Int32)), .unset] [(.ref p0), (.int (0 : Int32))]))
  obtain ⟨T147, X147, e147, st147⟩ := getF X146 hx hZ hown (host := "") (Or.inl (hw _ (List.mem_of_getElem? (i := 60) rfl))) Via.refl e146 c145 (g := (mkF m 146 #[.val (.ref p0), .val (.ref p1), .val (.ref p2), .val (.ref p3), .val (.ref b93), .val (.int (0 : Int32)), .unset] [(.ref p0), (.int (0 : Int32))])) rfl rfl (hb hby own_d_prog_43_method_1_code_146)
  refine Go.st st147 ?_
  show Go p.tables e below P (T147.setTop (mkF m 149 #[.val (.ref p0), .val (.ref p1), .val (.ref p2), .val (.ref p3), .val (.ref b93), .val (.int (0 : Int32)), .unset] [(.int (5 : Int32)), (.int (0 : Int32))]))
  refine Go.st (fun _ => XS.icmpNo X147.here hx rfl (hb hby own_d_prog_43_method_1_code_149) rfl (tlt (by decide)).2.1) ?_
  show Go p.tables e below P (T147.setTop (mkF m 152 #[.val (.ref p0), .val (.ref p1), .val (.ref p2), .val (.ref p3), .val (.ref b93), .val (.int (0 : Int32)), .unset] []))
  refine Go.st (fun _ => XS.iconst X147.here hx rfl (hb hby own_d_prog_43_method_1_code_152)) ?_
  show Go p.tables e below P (T147.setTop (mkF m 153 #[.val (.ref p0), .val (.ref p1), .val (.ref p2), .val (.ref p3), .val (.ref b93), .val (.int (0 : Int32)), .unset] [(.int (2 : Int32))]))
  refine Go.st (fun _ => XS.aloadN X147.here hx rfl (hb hby own_d_prog_43_method_1_code_153) rfl rfl) ?_
  show Go p.tables e below P (T147.setTop (mkF m 154 #[.val (.ref p0), .val (.ref p1), .val (.ref p2), .val (.ref p3), .val (.ref b93), .val (.int (0 : Int32)), .unset] [(.ref p0), (.int (2 : Int32))]))
  have c148 := (((((((((((((((((((((((F9.other W15 (Or.inr (slot_ne (Or.inr (hw _ (List.mem_of_getElem? (i := 68) rfl))) (Or.inr (hw _ (List.mem_of_getElem? (i := 75) rfl))) (by decide) (t := (.array .int)) (t' := (.array .int)) (by decide) (by decide)))).ext E18).other W27 (Or.inr (slot_ne (Or.inr (hw _ (List.mem_of_getElem? (i := 68) rfl))) (Or.inr (hw _ (List.mem_of_getElem? (i := 77) rfl))) (by decide) (t := (.array .int)) (t' := (.array .double)) (by decide) (by decide)))).ext E30).other W40 (Or.inr (slot_ne (Or.inr (hw _ (List.mem_of_getElem? (i := 68) rfl))) (Or.inr (hw _ (List.mem_of_getElem? (i := 79) rfl))) (by decide) (t := (.array .int)) (t' := (.array .double)) (by decide) (by decide)))).ext E43).other W54 (Or.inr (slot_ne (Or.inr (hw _ (List.mem_of_getElem? (i := 68) rfl))) (Or.inr (hw _ (List.mem_of_getElem? (i := 82) rfl))) (by decide) (t := (.array .int)) (t' := (.array .boolean)) (by decide) (by decide)))).other W60 (Or.inr (slot_ne (Or.inr (hw _ (List.mem_of_getElem? (i := 68) rfl))) (Or.inr (hw _ (List.mem_of_getElem? (i := 89) rfl))) (by decide) (t := (.array .int)) (t' := .int) (by decide) (by decide)))).ext E62).other W74 (Or.inr (slot_ne (Or.inr (hw _ (List.mem_of_getElem? (i := 68) rfl))) (Or.inr (hw _ (List.mem_of_getElem? (i := 91) rfl))) (by decide) (t := (.array .int)) (t' := (.array .double)) (by decide) (by decide)))).ext E77).other W90 (Or.inr (slot_ne (Or.inr (hw _ (List.mem_of_getElem? (i := 68) rfl))) (Or.inr (hw _ (List.mem_of_getElem? (i := 93) rfl))) (by decide) (t := (.array .int)) (t' := (.array .double)) (by decide) (by decide)))).ext E93).other W109 (Or.inl (Nat.ne_of_lt (Nat.lt_of_lt_of_le c94.lt (Nat.le_of_eq g93.symm))))).other W112 (Or.inl (Nat.ne_of_lt (Nat.lt_of_lt_of_le c94.lt (Nat.le_of_eq g93.symm))))).other W117 (Or.inl (Nat.ne_of_lt (Nat.lt_of_lt_of_le c94.lt (Nat.le_of_eq g93.symm))))).other W120 (Or.inl (Nat.ne_of_lt (Nat.lt_of_lt_of_le c94.lt (Nat.le_of_eq g93.symm))))).other W125 (Or.inl (Nat.ne_of_lt (Nat.lt_of_lt_of_le c94.lt (Nat.le_of_eq g93.symm))))).other W128 (Or.inl (Nat.ne_of_lt (Nat.lt_of_lt_of_le c94.lt (Nat.le_of_eq g93.symm))))).other W133 (Or.inl (Nat.ne_of_lt (Nat.lt_of_lt_of_le c94.lt (Nat.le_of_eq g93.symm))))).other W136 (Or.inl (Nat.ne_of_lt (Nat.lt_of_lt_of_le c94.lt (Nat.le_of_eq g93.symm))))).other W141 (Or.inl (Nat.ne_of_lt (Nat.lt_of_lt_of_le c94.lt (Nat.le_of_eq g93.symm))))).other W144 (Or.inl (Nat.ne_of_lt (Nat.lt_of_lt_of_le c94.lt (Nat.le_of_eq g93.symm)))))
  obtain ⟨T149, X149, e149, st149⟩ := getF X147 hx hZ hown (host := "") (Or.inl (hw _ (List.mem_of_getElem? (i := 67) rfl))) Via.refl e147 c148 (g := (mkF m 154 #[.val (.ref p0), .val (.ref p1), .val (.ref p2), .val (.ref p3), .val (.ref b93), .val (.int (0 : Int32)), .unset] [(.ref p0), (.int (2 : Int32))])) rfl rfl (hb hby own_d_prog_43_method_1_code_154)
  refine Go.st st149 ?_
  show Go p.tables e below P (T149.setTop (mkF m 157 #[.val (.ref p0), .val (.ref p1), .val (.ref p2), .val (.ref p3), .val (.ref b93), .val (.int (0 : Int32)), .unset] [(.ref pr), (.int (2 : Int32))]))
  refine Go.st (fun _ => XS.iload X149.here hx rfl (hb hby own_d_prog_43_method_1_code_157) rfl) ?_
  show Go p.tables e below P (T149.setTop (mkF m 159 #[.val (.ref p0), .val (.ref p1), .val (.ref p2), .val (.ref p3), .val (.ref b93), .val (.int (0 : Int32)), .unset] [(.int (0 : Int32)), (.ref pr), (.int (2 : Int32))]))
  have c151 := (((((((((((c97.ext E93).other W109 (Nat.ne_of_lt (Nat.lt_of_lt_of_le c97.lt (Nat.le_of_eq g93.symm)))).other W112 (Nat.ne_of_lt (Nat.lt_of_lt_of_le c97.lt (Nat.le_of_eq g93.symm)))).other W117 (Nat.ne_of_lt (Nat.lt_of_lt_of_le c97.lt (Nat.le_of_eq g93.symm)))).other W120 (Nat.ne_of_lt (Nat.lt_of_lt_of_le c97.lt (Nat.le_of_eq g93.symm)))).other W125 (Nat.ne_of_lt (Nat.lt_of_lt_of_le c97.lt (Nat.le_of_eq g93.symm)))).other W128 (Nat.ne_of_lt (Nat.lt_of_lt_of_le c97.lt (Nat.le_of_eq g93.symm)))).other W133 (Nat.ne_of_lt (Nat.lt_of_lt_of_le c97.lt (Nat.le_of_eq g93.symm)))).other W136 (Nat.ne_of_lt (Nat.lt_of_lt_of_le c97.lt (Nat.le_of_eq g93.symm)))).other W141 (Nat.ne_of_lt (Nat.lt_of_lt_of_le c97.lt (Nat.le_of_eq g93.symm)))).other W144 (Nat.ne_of_lt (Nat.lt_of_lt_of_le c97.lt (Nat.le_of_eq g93.symm))))
  refine Go.st (fun _ => own_ldI X149 hx hZ e149 c151 (j := (0 : Int32)) (i := 0) (v := (.int (0 : Int32))) (by decide) (by decide) rfl (g := (mkF m 159 #[.val (.ref p0), .val (.ref p1), .val (.ref p2), .val (.ref p3), .val (.ref b93), .val (.int (0 : Int32)), .unset] [(.int (0 : Int32)), (.ref pr), (.int (2 : Int32))])) rfl rfl (hb hby own_d_prog_43_method_1_code_159) _) ?_
  show Go p.tables e below P (T149.setTop (mkF m 160 #[.val (.ref p0), .val (.ref p1), .val (.ref p2), .val (.ref p3), .val (.ref b93), .val (.int (0 : Int32)), .unset] [(.int (0 : Int32)), (.int (2 : Int32))]))
  refine Go.st (fun _ => XS.imul X149.here hx rfl (hb hby own_d_prog_43_method_1_code_160) rfl) ?_
  show Go p.tables e below P (T149.setTop (mkF m 161 #[.val (.ref p0), .val (.ref p1), .val (.ref p2), .val (.ref p3), .val (.ref b93), .val (.int (0 : Int32)), .unset] [(.int (0 : Int32))]))
  refine Go.st (fun _ => XS.istore X149.here hx rfl (hb hby own_d_prog_43_method_1_code_161) rfl (l' := #[.val (.ref p0), .val (.ref p1), .val (.ref p2), .val (.ref p3), .val (.ref b93), .val (.int (0 : Int32)), .val (.int (0 : Int32))]) rfl) ?_
  show Go p.tables e below P (T149.setTop (mkF m 163 #[.val (.ref p0), .val (.ref p1), .val (.ref p2), .val (.ref p3), .val (.ref b93), .val (.int (0 : Int32)), .val (.int (0 : Int32))] []))
  refine Go.st (fun _ => XS.aloadN X149.here hx rfl (hb hby own_d_prog_43_method_1_code_163) rfl rfl) ?_
  show Go p.tables e below P (T149.setTop (mkF m 164 #[.val (.ref p0), .val (.ref p1), .val (.ref p2), .val (.ref p3), .val (.ref b93), .val (.int (0 : Int32)), .val (.int (0 : Int32))] [(.ref p0)]))
  have c152 := ((((((((((((((((((((F27.ext E30).other W40 (Or.inr (slot_ne (Or.inr (hw _ (List.mem_of_getElem? (i := 77) rfl))) (Or.inr (hw _ (List.mem_of_getElem? (i := 79) rfl))) (by decide) (t := (.array .double)) (t' := (.array .double)) (by decide) (by decide)))).ext E43).other W54 (Or.inr (slot_ne (Or.inr (hw _ (List.mem_of_getElem? (i := 77) rfl))) (Or.inr (hw _ (List.mem_of_getElem? (i := 82) rfl))) (by decide) (t := (.array .double)) (t' := (.array .boolean)) (by decide) (by decide)))).other W60 (Or.inr (slot_ne (Or.inr (hw _ (List.mem_of_getElem? (i := 77) rfl))) (Or.inr (hw _ (List.mem_of_getElem? (i := 89) rfl))) (by decide) (t := (.array .double)) (t' := .int) (by decide) (by decide)))).ext E62).other W74 (Or.inr (slot_ne (Or.inr (hw _ (List.mem_of_getElem? (i := 77) rfl))) (Or.inr (hw _ (List.mem_of_getElem? (i := 91) rfl))) (by decide) (t := (.array .double)) (t' := (.array .double)) (by decide) (by decide)))).ext E77).other W90 (Or.inr (slot_ne (Or.inr (hw _ (List.mem_of_getElem? (i := 77) rfl))) (Or.inr (hw _ (List.mem_of_getElem? (i := 93) rfl))) (by decide) (t := (.array .double)) (t' := (.array .double)) (by decide) (by decide)))).ext E93).other W109 (Or.inl (Nat.ne_of_lt (Nat.lt_of_lt_of_le c94.lt (Nat.le_of_eq g93.symm))))).other W112 (Or.inl (Nat.ne_of_lt (Nat.lt_of_lt_of_le c94.lt (Nat.le_of_eq g93.symm))))).other W117 (Or.inl (Nat.ne_of_lt (Nat.lt_of_lt_of_le c94.lt (Nat.le_of_eq g93.symm))))).other W120 (Or.inl (Nat.ne_of_lt (Nat.lt_of_lt_of_le c94.lt (Nat.le_of_eq g93.symm))))).other W125 (Or.inl (Nat.ne_of_lt (Nat.lt_of_lt_of_le c94.lt (Nat.le_of_eq g93.symm))))).other W128 (Or.inl (Nat.ne_of_lt (Nat.lt_of_lt_of_le c94.lt (Nat.le_of_eq g93.symm))))).other W133 (Or.inl (Nat.ne_of_lt (Nat.lt_of_lt_of_le c94.lt (Nat.le_of_eq g93.symm))))).other W136 (Or.inl (Nat.ne_of_lt (Nat.lt_of_lt_of_le c94.lt (Nat.le_of_eq g93.symm))))).other W141 (Or.inl (Nat.ne_of_lt (Nat.lt_of_lt_of_le c94.lt (Nat.le_of_eq g93.symm))))).other W144 (Or.inl (Nat.ne_of_lt (Nat.lt_of_lt_of_le c94.lt (Nat.le_of_eq g93.symm)))))
  obtain ⟨T153, X153, e153, st153⟩ := getF X149 hx hZ hown (host := "") (Or.inl (hw _ (List.mem_of_getElem? (i := 76) rfl))) Via.refl e149 c152 (g := (mkF m 164 #[.val (.ref p0), .val (.ref p1), .val (.ref p2), .val (.ref p3), .val (.ref b93), .val (.int (0 : Int32)), .val (.int (0 : Int32))] [(.ref p0)])) rfl rfl (hb hby own_d_prog_43_method_1_code_164)
  refine Go.st st153 ?_
  show Go p.tables e below P (T153.setTop (mkF m 167 #[.val (.ref p0), .val (.ref p1), .val (.ref p2), .val (.ref p3), .val (.ref b93), .val (.int (0 : Int32)), .val (.int (0 : Int32))] [(.ref b18)]))
  refine Go.st (fun _ => XS.iload X153.here hx rfl (hb hby own_d_prog_43_method_1_code_167) rfl) ?_
  show Go p.tables e below P (T153.setTop (mkF m 169 #[.val (.ref p0), .val (.ref p1), .val (.ref p2), .val (.ref p3), .val (.ref b93), .val (.int (0 : Int32)), .val (.int (0 : Int32))] [(.int (0 : Int32)), (.ref b18)]))
  refine Go.st (fun _ => XS.aload X153.here hx rfl (hb hby own_d_prog_43_method_1_code_169) rfl rfl) ?_
  show Go p.tables e below P (T153.setTop (mkF m 171 #[.val (.ref p0), .val (.ref p1), .val (.ref p2), .val (.ref p3), .val (.ref b93), .val (.int (0 : Int32)), .val (.int (0 : Int32))] [(.ref b93), (.int (0 : Int32)), (.ref b18)]))
  refine Go.st (fun _ => XS.iload X153.here hx rfl (hb hby own_d_prog_43_method_1_code_171) rfl) ?_
  show Go p.tables e below P (T153.setTop (mkF m 173 #[.val (.ref p0), .val (.ref p1), .val (.ref p2), .val (.ref p3), .val (.ref b93), .val (.int (0 : Int32)), .val (.int (0 : Int32))] [(.int (0 : Int32)), (.ref b93), (.int (0 : Int32)), (.ref b18)]))
  refine Go.st (fun _ => own_ldD X153 hx hZ e153 V144' (j := (0 : Int32)) (i := 0) (v := (.double (0 : UInt64))) (by decide) (by decide) rfl (g := (mkF m 173 #[.val (.ref p0), .val (.ref p1), .val (.ref p2), .val (.ref p3), .val (.ref b93), .val (.int (0 : Int32)), .val (.int (0 : Int32))] [(.int (0 : Int32)), (.ref b93), (.int (0 : Int32)), (.ref b18)])) rfl rfl (hb hby own_d_prog_43_method_1_code_173) _) ?_
  show Go p.tables e below P (T153.setTop (mkF m 174 #[.val (.ref p0), .val (.ref p1), .val (.ref p2), .val (.ref p3), .val (.ref b93), .val (.int (0 : Int32)), .val (.int (0 : Int32))] [(.double (0 : UInt64)), (.int (0 : Int32)), (.ref b18)]))
  have c156 := (((((((((((c100.ext E93).other W109 (Nat.ne_of_lt (Nat.lt_of_lt_of_le c100.lt (Nat.le_of_eq g93.symm)))).other W112 (Nat.ne_of_lt (Nat.lt_of_lt_of_le c100.lt (Nat.le_of_eq g93.symm)))).other W117 (Nat.ne_of_lt (Nat.lt_of_lt_of_le c100.lt (Nat.le_of_eq g93.symm)))).other W120 (Nat.ne_of_lt (Nat.lt_of_lt_of_le c100.lt (Nat.le_of_eq g93.symm)))).other W125 (Nat.ne_of_lt (Nat.lt_of_lt_of_le c100.lt (Nat.le_of_eq g93.symm)))).other W128 (Nat.ne_of_lt (Nat.lt_of_lt_of_le c100.lt (Nat.le_of_eq g93.symm)))).other W133 (Nat.ne_of_lt (Nat.lt_of_lt_of_le c100.lt (Nat.le_of_eq g93.symm)))).other W136 (Nat.ne_of_lt (Nat.lt_of_lt_of_le c100.lt (Nat.le_of_eq g93.symm)))).other W141 (Nat.ne_of_lt (Nat.lt_of_lt_of_le c100.lt (Nat.le_of_eq g93.symm)))).other W144 (Nat.ne_of_lt (Nat.lt_of_lt_of_le c100.lt (Nat.le_of_eq g93.symm))))
  obtain ⟨T155, h155, X155, e155, W155, V155, st155⟩ := own_stD X153 hx hZ e153 c156 (j := (0 : Int32)) (i := 0) (by decide) (by decide) (Nat.le_of_ble_eq_true rfl) (g := (mkF m 174 #[.val (.ref p0), .val (.ref p1), .val (.ref p2), .val (.ref p3), .val (.ref b93), .val (.int (0 : Int32)), .val (.int (0 : Int32))] [(.double (0 : UInt64)), (.int (0 : Int32)), (.ref b18)])) rfl rfl (hb hby own_d_prog_43_method_1_code_174)
  refine Go.st st155 ?_
  have K155 : Keep h0 h155 [p0] := K144.wr W155 (Or.inr sz_b18)
  have O155 := O144.wr W155 g_b18
  have N155 := Fr.snoc X155 N144 g_b18
  have V155' : Arv Z h155 b18 k18 .double (5 : Int32) [(.double (0 : UInt64)), (.double (0 : UInt64)), (.double (0 : UInt64)), (.double (0 : UInt64)), (.double (0 : UInt64))] (.double (0 : UInt64)) := V155
  show Go p.tables e below P (T155.setTop (mkF m 175 #[.val (.ref p0), .val (.ref p1), .val (.ref p2), .val (.ref p3), .val (.ref b93), .val (.int (0 : Int32)), .val (.int (0 : Int32))] []))
  refine Go.st (fun _ => XS.aloadN X155.here hx rfl (hb hby own_d_prog_43_method_1_code_175) rfl rfl) ?_
  show Go p.tables e below P (T155.setTop (mkF m 176 #[.val (.ref p0), .val (.ref p1), .val (.ref p2), .val (.ref p3), .val (.ref b93), .val (.int (0 : Int32)), .val (.int (0 : Int32))] [(.ref p0)]))
  have c157 := (((((((((((((((((((F40.ext E43).other W54 (Or.inr (slot_ne (Or.inr (hw _ (List.mem_of_getElem? (i := 79) rfl))) (Or.inr (hw _ (List.mem_of_getElem? (i := 82) rfl))) (by decide) (t := (.array .double)) (t' := (.array .boolean)) (by decide) (by decide)))).other W60 (Or.inr (slot_ne (Or.inr (hw _ (List.mem_of_getElem? (i := 79) rfl))) (Or.inr (hw _ (List.mem_of_getElem? (i := 89) rfl))) (by decide) (t := (.array .double)) (t' := .int) (by decide) (by decide)))).ext E62).other W74 (Or.inr (slot_ne (Or.inr (hw _ (List.mem_of_getElem? (i := 79) rfl))) (Or.inr (hw _ (List.mem_of_getElem? (i := 91) rfl))) (by decide) (t := (.array .double)) (t' := (.array .double)) (by decide) (by decide)))).ext E77).other W90 (Or.inr (slot_ne (Or.inr (hw _ (List.mem_of_getElem? (i := 79) rfl))) (Or.inr (hw _ (List.mem_of_getElem? (i := 93) rfl))) (by decide) (t := (.array .double)) (t' := (.array .double)) (by decide) (by decide)))).ext E93).other W109 (Or.inl (Nat.ne_of_lt (Nat.lt_of_lt_of_le c94.lt (Nat.le_of_eq g93.symm))))).other W112 (Or.inl (Nat.ne_of_lt (Nat.lt_of_lt_of_le c94.lt (Nat.le_of_eq g93.symm))))).other W117 (Or.inl (Nat.ne_of_lt (Nat.lt_of_lt_of_le c94.lt (Nat.le_of_eq g93.symm))))).other W120 (Or.inl (Nat.ne_of_lt (Nat.lt_of_lt_of_le c94.lt (Nat.le_of_eq g93.symm))))).other W125 (Or.inl (Nat.ne_of_lt (Nat.lt_of_lt_of_le c94.lt (Nat.le_of_eq g93.symm))))).other W128 (Or.inl (Nat.ne_of_lt (Nat.lt_of_lt_of_le c94.lt (Nat.le_of_eq g93.symm))))).other W133 (Or.inl (Nat.ne_of_lt (Nat.lt_of_lt_of_le c94.lt (Nat.le_of_eq g93.symm))))).other W136 (Or.inl (Nat.ne_of_lt (Nat.lt_of_lt_of_le c94.lt (Nat.le_of_eq g93.symm))))).other W141 (Or.inl (Nat.ne_of_lt (Nat.lt_of_lt_of_le c94.lt (Nat.le_of_eq g93.symm))))).other W144 (Or.inl (Nat.ne_of_lt (Nat.lt_of_lt_of_le c94.lt (Nat.le_of_eq g93.symm))))).other W155 (Or.inl (Nat.ne_of_lt (Nat.lt_of_lt_of_le c19.lt (Nat.le_of_eq g18.symm)))))
  obtain ⟨T158, X158, e158, st158⟩ := getF X155 hx hZ hown (host := "") (Or.inl (hw _ (List.mem_of_getElem? (i := 78) rfl))) Via.refl e155 c157 (g := (mkF m 176 #[.val (.ref p0), .val (.ref p1), .val (.ref p2), .val (.ref p3), .val (.ref b93), .val (.int (0 : Int32)), .val (.int (0 : Int32))] [(.ref p0)])) rfl rfl (hb hby own_d_prog_43_method_1_code_176)
  refine Go.st st158 ?_
  show Go p.tables e below P (T158.setTop (mkF m 179 #[.val (.ref p0), .val (.ref p1), .val (.ref p2), .val (.ref p3), .val (.ref b93), .val (.int (0 : Int32)), .val (.int (0 : Int32))] [(.ref b30)]))
  refine Go.st (fun _ => XS.iload X158.here hx rfl (hb hby own_d_prog_43_method_1_code_179) rfl) ?_
  show Go p.tables e below P (T158.setTop (mkF m 181 #[.val (.ref p0), .val (.ref p1), .val (.ref p2), .val (.ref p3), .val (.ref b93), .val (.int (0 : Int32)), .val (.int (0 : Int32))] [(.int (0 : Int32)), (.ref b30)]))
  refine Go.st (fun _ => XS.aload X158.here hx rfl (hb hby own_d_prog_43_method_1_code_181) rfl rfl) ?_
  show Go p.tables e below P (T158.setTop (mkF m 183 #[.val (.ref p0), .val (.ref p1), .val (.ref p2), .val (.ref p3), .val (.ref b93), .val (.int (0 : Int32)), .val (.int (0 : Int32))] [(.ref b93), (.int (0 : Int32)), (.ref b30)]))
  refine Go.st (fun _ => XS.iload X158.here hx rfl (hb hby own_d_prog_43_method_1_code_183) rfl) ?_
  show Go p.tables e below P (T158.setTop (mkF m 185 #[.val (.ref p0), .val (.ref p1), .val (.ref p2), .val (.ref p3), .val (.ref b93), .val (.int (0 : Int32)), .val (.int (0 : Int32))] [(.int (0 : Int32)), (.ref b93), (.int (0 : Int32)), (.ref b30)]))
  refine Go.st (fun _ => XS.iconst X158.here hx rfl (hb hby own_d_prog_43_method_1_code_185)) ?_
  show Go p.tables e below P (T158.setTop (mkF m 186 #[.val (.ref p0), .val (.ref p1), .val (.ref p2), .val (.ref p3), .val (.ref b93), .val (.int (0 : Int32)), .val (.int (0 : Int32))] [(.int (1 : Int32)), (.int (0 : Int32)), (.ref b93), (.int (0 : Int32)), (.ref b30)]))
  refine Go.st (fun _ => XS.iadd X158.here hx rfl (hb hby own_d_prog_43_method_1_code_186) rfl) ?_
  show Go p.tables e below P (T158.setTop (mkF m 187 #[.val (.ref p0), .val (.ref p1), .val (.ref p2), .val (.ref p3), .val (.ref b93), .val (.int (0 : Int32)), .val (.int (0 : Int32))] [(.int (1 : Int32)), (.ref b93), (.int (0 : Int32)), (.ref b30)]))
  have c160 := (V144'.other W155 (Ne.symm (Nat.ne_of_lt (Nat.lt_of_lt_of_le c100.lt (Nat.le_of_eq g93.symm)))))
  refine Go.st (fun _ => own_ldD X158 hx hZ e158 c160 (j := (1 : Int32)) (i := 1) (v := (.double (0 : UInt64))) (by decide) (by decide) rfl (g := (mkF m 187 #[.val (.ref p0), .val (.ref p1), .val (.ref p2), .val (.ref p3), .val (.ref b93), .val (.int (0 : Int32)), .val (.int (0 : Int32))] [(.int (1 : Int32)), (.ref b93), (.int (0 : Int32)), (.ref b30)])) rfl rfl (hb hby own_d_prog_43_method_1_code_187) _) ?_
  show Go p.tables e below P (T158.setTop (mkF m 188 #[.val (.ref p0), .val (.ref p1), .val (.ref p2), .val (.ref p3), .val (.ref b93), .val (.int (0 : Int32)), .val (.int (0 : Int32))] [(.double (0 : UInt64)), (.int (0 : Int32)), (.ref b30)]))
  have c162 := ((((((((((((c101.ext E93).other W109 (Nat.ne_of_lt (Nat.lt_of_lt_of_le c101.lt (Nat.le_of_eq g93.symm)))).other W112 (Nat.ne_of_lt (Nat.lt_of_lt_of_le c101.lt (Nat.le_of_eq g93.symm)))).other W117 (Nat.ne_of_lt (Nat.lt_of_lt_of_le c101.lt (Nat.le_of_eq g93.symm)))).other W120 (Nat.ne_of_lt (Nat.lt_of_lt_of_le c101.lt (Nat.le_of_eq g93.symm)))).other W125 (Nat.ne_of_lt (Nat.lt_of_lt_of_le c101.lt (Nat.le_of_eq g93.symm)))).other W128 (Nat.ne_of_lt (Nat.lt_of_lt_of_le c101.lt (Nat.le_of_eq g93.symm)))).other W133 (Nat.ne_of_lt (Nat.lt_of_lt_of_le c101.lt (Nat.le_of_eq g93.symm)))).other W136 (Nat.ne_of_lt (Nat.lt_of_lt_of_le c101.lt (Nat.le_of_eq g93.symm)))).other W141 (Nat.ne_of_lt (Nat.lt_of_lt_of_le c101.lt (Nat.le_of_eq g93.symm)))).other W144 (Nat.ne_of_lt (Nat.lt_of_lt_of_le c101.lt (Nat.le_of_eq g93.symm)))).other W155 (Ne.symm (Nat.ne_of_lt (Nat.lt_of_lt_of_le c37.lt (Nat.le_of_eq g30.symm)))))
  obtain ⟨T161, h161, X161, e161, W161, V161, st161⟩ := own_stD X158 hx hZ e158 c162 (j := (0 : Int32)) (i := 0) (by decide) (by decide) (Nat.le_of_ble_eq_true rfl) (g := (mkF m 188 #[.val (.ref p0), .val (.ref p1), .val (.ref p2), .val (.ref p3), .val (.ref b93), .val (.int (0 : Int32)), .val (.int (0 : Int32))] [(.double (0 : UInt64)), (.int (0 : Int32)), (.ref b30)])) rfl rfl (hb hby own_d_prog_43_method_1_code_188)
  refine Go.st st161 ?_
  have K161 : Keep h0 h161 [p0] := K155.wr W161 (Or.inr sz_b30)
  have O161 := O155.wr W161 g_b30
  have N161 := Fr.snoc X161 N155 g_b30
  have V161' : Arv Z h161 b30 k30 .double (5 : Int32) [(.double (0 : UInt64)), (.double (0 : UInt64)), (.double (0 : UInt64)), (.double (0 : UInt64)), (.double (0 : UInt64))] (.double (0 : UInt64)) := V161
  show Go p.tables e below P (T161.setTop (mkF m 189 #[.val (.ref p0), .val (.ref p1), .val (.ref p2), .val (.ref p3), .val (.ref b93), .val (.int (0 : Int32)), .val (.int (0 : Int32))] []))
  refine Go.st (fun _ => XS.iinc X161.here hx rfl (hb hby own_d_prog_43_method_1_code_189) rfl (l' := #[.val (.ref p0), .val (.ref p1), .val (.ref p2), .val (.ref p3), .val (.ref b93), .val (.int (1 : Int32)), .val (.int (0 : Int32))]) rfl) ?_
  show Go p.tables e below P (T161.setTop (mkF m 192 #[.val (.ref p0), .val (.ref p1), .val (.ref p2), .val (.ref p3), .val (.ref b93), .val (.int (1 : Int32)), .val (.int (0 : Int32))] []))
  refine Go.st (fun _ => XS.goto X161.here hx rfl (pc0 := 192) (pc' := 143) rfl (hb hby own_d_prog_43_method_1_code_192) (by decide) (by decide)) ?_
  show Go p.tables e below P (T161.setTop (mkF m 143 #[.val (.ref p0), .val (.ref p1), .val (.ref p2), .val (.ref p3), .val (.ref b93), .val (.int (1 : Int32)), .val (.int (0 : Int32))] []))
  refine Go.st (fun _ => XS.iload X161.here hx rfl (hb hby own_d_prog_43_method_1_code_143) rfl) ?_
  show Go p.tables e below P (T161.setTop (mkF m 145 #[.val (.ref p0), .val (.ref p1), .val (.ref p2), .val (.ref p3), .val (.ref b93), .val (.int (1 : Int32)), .val (.int (0 : Int32))] [(.int (1 : Int32))]))
  refine Go.st (fun _ => XS.aloadN X161.here hx rfl (hb hby own_d_prog_43_method_1_code_145) rfl rfl) ?_
  show Go p.tables e below P (T161.setTop (mkF m 146 #[.val (.ref p0), .val (.ref p1), .val (.ref p2), .val (.ref p3), .val (.ref b93), .val (.int (1 : Int32)), .val (.int (0 : Int32))] [(.ref p0), (.int (1 : Int32))]))
  have c163 := ((c145.other W155 (Or.inl (Nat.ne_of_lt (Nat.lt_of_lt_of_le c19.lt (Nat.le_of_eq g18.symm))))).other W161 (Or.inl (Nat.ne_of_lt (Nat.lt_of_lt_of_le c31.lt (Nat.le_of_eq g30.symm)))))
  obtain ⟨T164, X164, e164, st164⟩ := getF X161 hx hZ hown (host := "") (Or.inl (hw _ (List.mem_of_getElem? (i := 60) rfl))) Via.refl e161 c163 (g := (mkF m 146 #[.val (.ref p0), .val (.ref p1), .val (.ref p2), .val (.ref p3), .val (.ref b93), .val (.int (1 : Int32)), .val (.int (0 : Int32))] [(.ref p0), (.int (1 : Int32))])) rfl rfl (hb hby own_d_prog_43_method_1_code_146)
  refine Go.st st164 ?_
  show Go p.tables e below P (T164.setTop (mkF m 149 #[.val (.ref p0), .val (.ref p1), .val (.ref p2), .val (.ref p3), .val (.ref b93), .val (.int (1 : Int32)), .val (.int (0 : Int32))] [(.int (5 : Int32)), (.int (1 : Int32))]))
  refine Go.st (fun _ => XS.icmpNo X164.here hx rfl (hb hby own_d_prog_43_method_1_code_149) rfl (tlt (by decide)).2.1) ?_
  show Go p.tables e below P (T164.setTop (mkF m 152 #[.val (.ref p0), .val (.ref p1), .val (.ref p2), .val (.ref p3), .val (.ref b93), .val (.int (1 : Int32)), .val (.int (0 : Int32))] []))
  refine Go.st (fun _ => XS.iconst X164.here hx rfl (hb hby own_d_prog_43_method_1_code_152)) ?_
  show Go p.tables e below P (T164.setTop (mkF m 153 #[.val (.ref p0), .val (.ref p1), .val (.ref p2), .val (.ref p3), .val (.ref b93), .val (.int (1 : Int32)), .val (.int (0 : Int32))] [(.int (2 : Int32))]))
  refine Go.st (fun _ => XS.aloadN X164.here hx rfl (hb hby own_d_prog_43_method_1_code_153) rfl rfl) ?_
  show Go p.tables e below P (T164.setTop (mkF m 154 #[.val (.ref p0), .val (.ref p1), .val (.ref p2), .val (.ref p3), .val (.ref b93), .val (.int (1 : Int32)), .val (.int (0 : Int32))] [(.ref p0), (.int (2 : Int32))]))
  have c165 := ((c148.other W155 (Or.inl (Nat.ne_of_lt (Nat.lt_of_lt_of_le c19.lt (Nat.le_of_eq g18.symm))))).other W161 (Or.inl (Nat.ne_of_lt (Nat.lt_of_lt_of_le c31.lt (Nat.le_of_eq g30.symm)))))
  obtain ⟨T166, X166, e166, st166⟩ := getF X164 hx hZ hown (host := "") (Or.inl (hw _ (List.mem_of_getElem? (i := 67) rfl))) Via.refl e164 c165 (g := (mkF m 154 #[.val (.ref p0), .val (.ref p1), .val (.ref p2), .val (.ref p3), .val (.ref b93), .val (.int (1 : Int32)), .val (.int (0 : Int32))] [(.ref p0), (.int (2 : Int32))])) rfl rfl (hb hby own_d_prog_43_method_1_code_154)
  refine Go.st st166 ?_
  show Go p.tables e below P (T166.setTop (mkF m 157 #[.val (.ref p0), .val (.ref p1), .val (.ref p2), .val (.ref p3), .val (.ref b93), .val (.int (1 : Int32)), .val (.int (0 : Int32))] [(.ref pr), (.int (2 : Int32))]))
  refine Go.st (fun _ => XS.iload X166.here hx rfl (hb hby own_d_prog_43_method_1_code_157) rfl) ?_
  show Go p.tables e below P (T166.setTop (mkF m 159 #[.val (.ref p0), .val (.ref p1), .val (.ref p2), .val (.ref p3), .val (.ref b93), .val (.int (1 : Int32)), .val (.int (0 : Int32))] [(.int (1 : Int32)), (.ref pr), (.int (2 : Int32))]))
  have c168 := ((c151.other W155 (Nat.ne_of_lt (Nat.lt_of_lt_of_le c22.lt (Nat.le_of_eq g18.symm)))).other W161 (Nat.ne_of_lt (Nat.lt_of_lt_of_le c34.lt (Nat.le_of_eq g30.symm))))
  refine Go.st (fun _ => own_ldI X166 hx hZ e166 c168 (j := (1 : Int32)) (i := 1) (v := (.int (1 : Int32))) (by decide) (by decide) rfl (g := (mkF m 159 #[.val (.ref p0), .val (.ref p1), .val (.ref p2), .val (.ref p3), .val (.ref b93), .val (.int (1 : Int32)), .val (.int (0 : Int32))] [(.int (1 : Int32)), (.ref pr), (.int (2 : Int32))])) rfl rfl (hb hby own_d_prog_43_method_1_code_159) _) ?_
  show Go p.tables e below P (T166.setTop (mkF m 160 #[.val (.ref p0), .val (.ref p1), .val (.ref p2), .val (.ref p3), .val (.ref b93), .val (.int (1 : Int32)), .val (.int (0 : Int32))] [(.int (1 : Int32)), (.int (2 : Int32))]))
  refine Go.st (fun _ => XS.imul X166.here hx rfl (hb hby own_d_prog_43_method_1_code_160) rfl) ?_
  show Go p.tables e below P (T166.setTop (mkF m 161 #[.val (.ref p0), .val (.ref p1), .val (.ref p2), .val (.ref p3), .val (.ref b93), .val (.int (1 : Int32)), .val (.int (0 : Int32))] [(.int (2 : Int32))]))
  refine Go.st (fun _ => XS.istore X166.here hx rfl (hb hby own_d_prog_43_method_1_code_161) rfl (l' := #[.val (.ref p0), .val (.ref p1), .val (.ref p2), .val (.ref p3), .val (.ref b93), .val (.int (1 : Int32)), .val (.int (2 : Int32))]) rfl) ?_
  show Go p.tables e below P (T166.setTop (mkF m 163 #[.val (.ref p0), .val (.ref p1), .val (.ref p2), .val (.ref p3), .val (.ref b93), .val (.int (1 : Int32)), .val (.int (2 : Int32))] []))
  refine Go.st (fun _ => XS.aloadN X166.here hx rfl (hb hby own_d_prog_43_method_1_code_163) rfl rfl) ?_
  show Go p.tables e below P (T166.setTop (mkF m 164 #[.val (.ref p0), .val (.ref p1), .val (.ref p2), .val (.ref p3), .val (.ref b93), .val (.int (1 : Int32)), .val (.int (2 : Int32))] [(.ref p0)]))
  have c169 := ((c152.other W155 (Or.inl (Nat.ne_of_lt (Nat.lt_of_lt_of_le c19.lt (Nat.le_of_eq g18.symm))))).other W161 (Or.inl (Nat.ne_of_lt (Nat.lt_of_lt_of_le c31.lt (Nat.le_of_eq g30.symm)))))
  obtain ⟨T170, X170, e170, st170⟩ := getF X166 hx hZ hown (host := "") (Or.inl (hw _ (List.mem_of_getElem? (i := 76) rfl))) Via.refl e166 c169 (g := (mkF m 164 #[.val (.ref p0), .val (.ref p1), .val (.ref p2), .val (.ref p3), .val (.ref b93), .val (.int (1 : Int32)), .val (.int (2 : Int32))] [(.ref p0)])) rfl rfl (hb hby own_d_prog_43_method_1_code_164)
  refine Go.st st170 ?_
  show Go p.tables e below P (T170.setTop (mkF m 167 #[.val (.ref p0), .val (.ref p1), .val (.ref p2), .val (.ref p3), .val (.ref b93), .val (.int (1 : Int32)), .val (.int (2 : Int32))] [(.ref b18)]))
  refine Go.st (fun _ => XS.iload X170.here hx rfl (hb hby own_d_prog_43_method_1_code_167) rfl) ?_
  show Go p.tables e below P (T170.setTop (mkF m 169 #[.val (.ref p0), .val (.ref p1), .val (.ref p2), .val (.ref p3), .val (.ref b93), .val (.int (1 : Int32)), .val (.int (2 : Int32))] [(.int (1 : Int32)), (.ref b18)]))
  refine Go.st (fun _ => XS.aload X170.here hx rfl (hb hby own_d_prog_43_method_1_code_169) rfl rfl) ?_
  show Go p.tables e below P (T170.setTop (mkF m 171 #[.val (.ref p0), .val (.ref p1), .val (.ref p2), .val (.ref p3), .val (.ref b93), .val (.int (1 : Int32)), .val (.int (2 : Int32))] [(.ref b93), (.int (1 : Int32)), (.ref b18)]))
  refine Go.st (fun _ => XS.iload X170.here hx rfl (hb hby own_d_prog_43_method_1_code_171) rfl) ?_
  show Go p.tables e below P (T170.setTop (mkF m 173 #[.val (.ref p0), .val (.ref p1), .val (.ref p2), .val (.ref p3), .val (.ref b93), .val (.int (1 : Int32)), .val (.int (2 : Int32))] [(.int (2 : Int32)), (.ref b93), (.int (1 : Int32)), (.ref b18)]))
  have c172 := (c160.other W161 (Ne.symm (Nat.ne_of_lt (Nat.lt_of_lt_of_le c101.lt (Nat.le_of_eq g93.symm)))))
  refine Go.st (fun _ => own_ldD X170 hx hZ e170 c172 (j := (2 : Int32)) (i := 2) (v := (.double (0 : UInt64))) (by decide) (by decide) rfl (g := (mkF m 173 #[.val (.ref p0), .val (.ref p1), .val (.ref p2), .val (.ref p3), .val (.ref b93), .val (.int (1 : Int32)), .val (.int (2 : Int32))] [(.int (2 : Int32)), (.ref b93), (.int (1 : Int32)), (.ref b18)])) rfl rfl (hb hby own_d_prog_43_method_1_code_173) _) ?_
  show Go p.tables e below P (T170.setTop (mkF m 174 #[.val (.ref p0), .val (.ref p1), .val (.ref p2), .val (.ref p3), .val (.ref b93), .val (.int (1 : Int32)), .val (.int (2 : Int32))] [(.double (0 : UInt64)), (.int (1 : Int32)), (.ref b18)]))
  have c174 := (V155'.other W161 (Nat.ne_of_lt (Nat.lt_of_lt_of_le c37.lt (Nat.le_of_eq g30.symm))))
  obtain ⟨T173, h173, X173, e173, W173, V173, st173⟩ := own_stD X170 hx hZ e170 c174 (j := (1 : Int32)) (i := 1) (by decide) (by decide) (Nat.le_of_ble_eq_true rfl) (g := (mkF m 174 #[.val (.ref p0), .val (.ref p1), .val (.ref p2), .val (.ref p3), .val (.ref b93), .val (.int (1 : Int32)), .val (.int (2 : Int32))] [(.double (0 : UInt64)), (.int (1 : Int32)), (.ref b18)])) rfl rfl (hb hby own_d_prog_43_method_1_code_174)
  refine Go.st st173 ?_
  have K173 : Keep h0 h173 [p0] := K161.wr W173 (Or.inr sz_b18)
  have O173 := O161.wr W173 g_b18
  have N173 := Fr.snoc X173 N161 g_b18
  have V173' : Arv Z h173 b18 k18 .double (5 : Int32) [(.double (0 : UInt64)), (.double (0 : UInt64)), (.double (0 : UInt64)), (.double (0 : UInt64)), (.double (0 : UInt64))] (.double (0 : UInt64)) := V173
  show Go p.tables e below P (T173.setTop (mkF m 175 #[.val (.ref p0), .val (.ref p1), .val (.ref p2), .val (.ref p3), .val (.ref b93), .val (.int (1 : Int32)), .val (.int (2 : Int32))] []))
  refine Go.st (fun _ => XS.aloadN X173.here hx rfl (hb hby own_d_prog_43_method_1_code_175) rfl rfl) ?_
  show Go p.tables e below P (T173.setTop (mkF m 176 #[.val (.ref p0), .val (.ref p1), .val (.ref p2), .val (.ref p3), .val (.ref b93), .val (.int (1 : Int32)), .val (.int (2 : Int32))] [(.ref p0)]))
  have c175 := ((c157.other W161 (Or.inl (Nat.ne_of_lt (Nat.lt_of_lt_of_le c31.lt (Nat.le_of_eq g30.symm))))).other W173 (Or.inl (Nat.ne_of_lt (Nat.lt_of_lt_of_le c19.lt (Nat.le_of_eq g18.symm)))))
  obtain ⟨T176, X176, e176, st176⟩ := getF X173 hx hZ hown (host := "") (Or.inl (hw _ (List.mem_of_getElem? (i := 78) rfl))) Via.refl e173 c175 (g := (mkF m 176 #[.val (.ref p0), .val (.ref p1), .val (.ref p2), .val (.ref p3), .val (.ref b93), .val (.int (1 : Int32)), .val (.int (2 : Int32))] [(.ref p0)])) rfl rfl (hb hby own_d_prog_43_method_1_code_176)
  refine Go.st st176 ?_
  show Go p.tables e below P (T176.setTop (mkF m 179 #[.val (.ref p0), .val (.ref p1), .val (.ref p2), .val (.ref p3), .val (.ref b93), .val (.int (1 : Int32)), .val (.int (2 : Int32))] [(.ref b30)]))
  refine Go.st (fun _ => XS.iload X176.here hx rfl (hb hby own_d_prog_43_method_1_code_179) rfl) ?_
  show Go p.tables e below P (T176.setTop (mkF m 181 #[.val (.ref p0), .val (.ref p1), .val (.ref p2), .val (.ref p3), .val (.ref b93), .val (.int (1 : Int32)), .val (.int (2 : Int32))] [(.int (1 : Int32)), (.ref b30)]))
  refine Go.st (fun _ => XS.aload X176.here hx rfl (hb hby own_d_prog_43_method_1_code_181) rfl rfl) ?_
  show Go p.tables e below P (T176.setTop (mkF m 183 #[.val (.ref p0), .val (.ref p1), .val (.ref p2), .val (.ref p3), .val (.ref b93), .val (.int (1 : Int32)), .val (.int (2 : Int32))] [(.ref b93), (.int (1 : Int32)), (.ref b30)]))
  refine Go.st (fun _ => XS.iload X176.here hx rfl (hb hby own_d_prog_43_method_1_code_183) rfl) ?_
  show Go p.tables e below P (T176.setTop (mkF m 185 #[.val (.ref p0), .val (.ref p1), .val (.ref p2), .val (.ref p3), .val (.ref b93), .val (.int (1 : Int32)), .val (.int (2 : Int32))] [(.int (2 : Int32)), (.ref b93), (.int (1 : Int32)), (.ref b30)]))
  refine Go.st (fun _ => XS.iconst X176.here hx rfl (hb hby own_d_prog_43_method_1_code_185)) ?_
  show Go p.tables e below P (T176.setTop (mkF m 186 #[.val (.ref p0), .val (.ref p1), .val (.ref p2), .val (.ref p3), .val (.ref b93), .val (.int (1 : Int32)), .val (.int (2 : Int32))] [(.int (1 : Int32)), (.int (2 : Int32)), (.ref b93), (.int (1 : Int32)), (.ref b30)]))
  refine Go.st (fun _ => XS.iadd X176.here hx rfl (hb hby own_d_prog_43_method_1_code_186) rfl) ?_
  show Go p.tables e below P (T176.setTop (mkF m 187 #[.val (.ref p0), .val (.ref p1), .val (.ref p2), .val (.ref p3), .val (.ref b93), .val (.int (1 : Int32)), .val (.int (2 : Int32))] [(.int (3 : Int32)), (.ref b93), (.int (1 : Int32)), (.ref b30)]))
  have c178 := (c172.other W173 (Ne.symm (Nat.ne_of_lt (Nat.lt_of_lt_of_le c100.lt (Nat.le_of_eq g93.symm)))))
  refine Go.st (fun _ => own_ldD X176 hx hZ e176 c178 (j := (3 : Int32)) (i := 3) (v := (.double (0 : UInt64))) (by decide) (by decide) rfl (g := (mkF m 187 #[.val (.ref p0), .val (.ref p1), .val (.ref p2), .val (.ref p3), .val (.ref b93), .val (.int (1 : Int32)), .val (.int (2 : Int32))] [(.int (3 : Int32)), (.ref b93), (.int (1 : Int32)), (.ref b30)])) rfl rfl (hb hby own_d_prog_43_method_1_code_187) _) ?_
  show Go p.tables e below P (T176.setTop (mkF m 188 #[.val (.ref p0), .val (.ref p1), .val (.ref p2), .val (.ref p3), .val (.ref b93), .val (.int (1 : Int32)), .val (.int (2 : Int32))] [(.double (0 : UInt64)), (.int (1 : Int32)), (.ref b30)]))
  have c180 := (V161'.other W173 (Ne.symm (Nat.ne_of_lt (Nat.lt_of_lt_of_le c37.lt (Nat.le_of_eq g30.symm)))))
  obtain ⟨T179, h179, X179, e179, W179, V179, st179⟩ := own_stD X176 hx hZ e176 c180 (j := (1 : Int32)) (i := 1) (by decide) (by decide) (Nat.le_of_ble_eq_true rfl) (g := (mkF m 188 #[.val (.ref p0), .val (.ref p1), .val (.ref p2), .val (.ref p3), .val (.ref b93), .val (.int (1 : Int32)), .val (.int (2 : Int32))] [(.double (0 : UInt64)), (.int (1 : Int32)), (.ref b30)])) rfl rfl (hb hby own_d_prog_43_method_1_code_188)
  refine Go.st st179 ?_
  have K179 : Keep h0 h179 [p0] := K173.wr W179 (Or.inr sz_b30)
  have O179 := O173.wr W179 g_b30
  have N179 := Fr.snoc X179 N173 g_b30
  have V179' : Arv Z h179 b30 k30 .double (5 : Int32) [(.double (0 : UInt64)), (.double (0 : UInt64)), (.double (0 : UInt64)), (.double (0 : UInt64)), (.double (0 : UInt64))] (.double (0 : UInt64)) := V179
  show Go p.tables e below P (T179.setTop (mkF m 189 #[.val (.ref p0), .val (.ref p1), .val (.ref p2), .val (.ref p3), .val (.ref b93), .val (.int (1 : Int32)), .val (.int (2 : Int32))] []))
  refine Go.st (fun _ => XS.iinc X179.here hx rfl (hb hby own_d_prog_43_method_1_code_189) rfl (l' := #[.val (.ref p0), .val (.ref p1), .val (.ref p2), .val (.ref p3), .val (.ref b93), .val (.int (2 : Int32)), .val (.int (2 : Int32))]) rfl) ?_
  show Go p.tables e below P (T179.setTop (mkF m 192 #[.val (.ref p0), .val (.ref p1), .val (.ref p2), .val (.ref p3), .val (.ref b93), .val (.int (2 : Int32)), .val (.int (2 : Int32))] []))
  refine Go.st (fun _ => XS.goto X179.here hx rfl (pc0 := 192) (pc' := 143) rfl (hb hby own_d_prog_43_method_1_code_192) (by decide) (by decide)) ?_
  show Go p.tables e below P (T179.setTop (mkF m 143 #[.val (.ref p0), .val (.ref p1), .val (.ref p2), .val (.ref p3), .val (.ref b93), .val (.int (2 : Int32)), .val (.int (2 : Int32))] []))
  refine Go.st (fun _ => XS.iload X179.here hx rfl (hb hby own_d_prog_43_method_1_code_143) rfl) ?_
  show Go p.tables e below P (T179.setTop (mkF m 145 #[.val (.ref p0), .val (.ref p1), .val (.ref p2), .val (.ref p3), .val (.ref b93), .val (.int (2 : Int32)), .val (.int (2 : Int32))] [(.int (2 : Int32))]))
  refine Go.st (fun _ => XS.aloadN X179.here hx rfl (hb hby own_d_prog_43_method_1_code_145) rfl rfl) ?_
  show Go p.tables e below P (T179.setTop (mkF m 146 #[.val (.ref p0), .val (.ref p1), .val (.ref p2), .val (.ref p3), .val (.ref b93), .val (.int (2 : Int32)), .val (.int (2 : Int32))] [(.ref p0), (.int (2 : Int32))]))
  have c181 := ((c163.other W173 (Or.inl (Nat.ne_of_lt (Nat.lt_of_lt_of_le c19.lt (Nat.le_of_eq g18.symm))))).other W179 (Or.inl (Nat.ne_of_lt (Nat.lt_of_lt_of_le c31.lt (Nat.le_of_eq g30.symm)))))
  obtain ⟨T182, X182, e182, st182⟩ := getF X179 hx hZ hown (host := "") (Or.inl (hw _ (List.mem_of_getElem? (i := 60) rfl))) Via.refl e179 c181 (g := (mkF m 146 #[.val (.ref p0), .val (.ref p1), .val (.ref p2), .val (.ref p3), .val (.ref b93), .val (.int (2 : Int32)), .val (.int (2 : Int32))] [(.ref p0), (.int (2 : Int32))])) rfl rfl (hb hby own_d_prog_43_method_1_code_146)
  refine Go.st st182 ?_
  show Go p.tables e below P (T182.setTop (mkF m 149 #[.val (.ref p0), .val (.ref p1), .val (.ref p2), .val (.ref p3), .val (.ref b93), .val (.int (2 : Int32)), .val (.int (2 : Int32))] [(.int (5 : Int32)), (.int (2 : Int32))]))
  refine Go.st (fun _ => XS.icmpNo X182.here hx rfl (hb hby own_d_prog_43_method_1_code_149) rfl (tlt (by decide)).2.1) ?_
  show Go p.tables e below P (T182.setTop (mkF m 152 #[.val (.ref p0), .val (.ref p1), .val (.ref p2), .val (.ref p3), .val (.ref b93), .val (.int (2 : Int32)), .val (.int (2 : Int32))] []))
  refine Go.st (fun _ => XS.iconst X182.here hx rfl (hb hby own_d_prog_43_method_1_code_152)) ?_
  show Go p.tables e below P (T182.setTop (mkF m 153 #[.val (.ref p0), .val (.ref p1), .val (.ref p2), .val (.ref p3), .val (.ref b93), .val (.int (2 : Int32)), .val (.int (2 : Int32))] [(.int (2 : Int32))]))
  refine Go.st (fun _ => XS.aloadN X182.here hx rfl (hb hby own_d_prog_43_method_1_code_153) rfl rfl) ?_
  show Go p.tables e below P (T182.setTop (mkF m 154 #[.val (.ref p0), .val (.ref p1), .val (.ref p2), .val (.ref p3), .val (.ref b93), .val (.int (2 : Int32)), .val (.int (2 : Int32))] [(.ref p0), (.int (2 : Int32))]))
  have c183 := ((c165.other W173 (Or.inl (Nat.ne_of_lt (Nat.lt_of_lt_of_le c19.lt (Nat.le_of_eq g18.symm))))).other W179 (Or.inl (Nat.ne_of_lt (Nat.lt_of_lt_of_le c31.lt (Nat.le_of_eq g30.symm)))))
  obtain ⟨T184, X184, e184, st184⟩ := getF X182 hx hZ hown (host := "") (Or.inl (hw _ (List.mem_of_getElem? (i := 67) rfl))) Via.refl e182 c183 (g := (mkF m 154 #[.val (.ref p0), .val (.ref p1), .val (.ref p2), .val (.ref p3), .val (.ref b93), .val (.int (2 : Int32)), .val (.int (2 : Int32))] [(.ref p0), (.int (2 : Int32))])) rfl rfl (hb hby own_d_prog_43_method_1_code_154)
  refine Go.st st184 ?_
  show Go p.tables e below P (T184.setTop (mkF m 157 #[.val (.ref p0), .val (.ref p1), .val (.ref p2), .val (.ref p3), .val (.ref b93), .val (.int (2 : Int32)), .val (.int (2 : Int32))] [(.ref pr), (.int (2 : Int32))]))
  refine Go.st (fun _ => XS.iload X184.here hx rfl (hb hby own_d_prog_43_method_1_code_157) rfl) ?_
  show Go p.tables e below P (T184.setTop (mkF m 159 #[.val (.ref p0), .val (.ref p1), .val (.ref p2), .val (.ref p3), .val (.ref b93), .val (.int (2 : Int32)), .val (.int (2 : Int32))] [(.int (2 : Int32)), (.ref pr), (.int (2 : Int32))]))
  have c186 := ((c168.other W173 (Nat.ne_of_lt (Nat.lt_of_lt_of_le c22.lt (Nat.le_of_eq g18.symm)))).other W179 (Nat.ne_of_lt (Nat.lt_of_lt_of_le c34.lt (Nat.le_of_eq g30.symm))))
  refine Go.st (fun _ => own_ldI X184 hx hZ e184 c186 (j := (2 : Int32)) (i := 2) (v := (.int (2 : Int32))) (by decide) (by decide) rfl (g := (mkF m 159 #[.val (.ref p0), .val (.ref p1), .val (.ref p2), .val (.ref p3), .val (.ref b93), .val (.int (2 : Int32)), .val (.int (2 : Int32))] [(.int (2 : Int32)), (.ref pr), (.int (2 : Int32))])) rfl rfl (hb hby own_d_prog_43_method_1_code_159) _) ?_
  show Go p.tables e below P (T184.setTop (mkF m 160 #[.val (.ref p0), .val (.ref p1), .val (.ref p2), .val (.ref p3), .val (.ref b93), .val (.int (2 : Int32)), .val (.int (2 : Int32))] [(.int (2 : Int32)), (.int (2 : Int32))]))
  refine Go.st (fun _ => XS.imul X184.here hx rfl (hb hby own_d_prog_43_method_1_code_160) rfl) ?_
  show Go p.tables e below P (T184.setTop (mkF m 161 #[.val (.ref p0), .val (.ref p1), .val (.ref p2), .val (.ref p3), .val (.ref b93), .val (.int (2 : Int32)), .val (.int (2 : Int32))] [(.int (4 : Int32))]))
  refine Go.st (fun _ => XS.istore X184.here hx rfl (hb hby own_d_prog_43_method_1_code_161) rfl (l' := #[.val (.ref p0), .val (.ref p1), .val (.ref p2), .val (.ref p3), .val (.ref b93), .val (.int (2 : Int32)), .val (.int (4 : Int32))]) rfl) ?_
  show Go p.tables e below P (T184.setTop (mkF m 163 #[.val (.ref p0), .val (.ref p1), .val (.ref p2), .val (.ref p3), .val (.ref b93), .val (.int (2 : Int32)), .val (.int (4 : Int32))] []))
  refine Go.st (fun _ => XS.aloadN X184.here hx rfl (hb hby own_d_prog_43_method_1_code_163) rfl rfl) ?_
  show Go p.tables e below P (T184.setTop (mkF m 164 #[.val (.ref p0), .val (.ref p1), .val (.ref p2), .val (.ref p3), .val (.ref b93), .val (.int (2 : Int32)), .val (.int (4 : Int32))] [(.ref p0)]))
  have c187 := ((c169.other W173 (Or.inl (Nat.ne_of_lt (Nat.lt_of_lt_of_le c19.lt (Nat.le_of_eq g18.symm))))).other W179 (Or.inl (Nat.ne_of_lt (Nat.lt_of_lt_of_le c31.lt (Nat.le_of_eq g30.symm)))))
  obtain ⟨T188, X188, e188, st188⟩ := getF X184 hx hZ hown (host := "") (Or.inl (hw _ (List.mem_of_getElem? (i := 76) rfl))) Via.refl e184 c187 (g := (mkF m 164 #[.val (.ref p0), .val (.ref p1), .val (.ref p2), .val (.ref p3), .val (.ref b93), .val (.int (2 : Int32)), .val (.int (4 : Int32))] [(.ref p0)])) rfl rfl (hb hby own_d_prog_43_method_1_code_164)
  refine Go.st st188 ?_
  show Go p.tables e below P (T188.setTop (mkF m 167 #[.val (.ref p0), .val (.ref p1), .val (.ref p2), .val (.ref p3), .val (.ref b93), .val (.int (2 : Int32)), .val (.int (4 : Int32))] [(.ref b18)]))
  refine Go.st (fun _ => XS.iload X188.here hx rfl (hb hby own_d_prog_43_method_1_code_167) rfl) ?_
  show Go p.tables e below P (T188.setTop (mkF m 169 #[.val (.ref p0), .val (.ref p1), .val (.ref p2), .val (.ref p3), .val (.ref b93), .val (.int (2 : Int32)), .val (.int (4 : Int32))] [(.int (2 : Int32)), (.ref b18)]))
  refine Go.st (fun _ => XS.aload X188.here hx rfl (hb hby own_d_prog_43_method_1_code_169) rfl rfl) ?_
  show Go p.tables e below P (T188.setTop (mkF m 171 #[.val (.ref p0), .val (.ref p1), .val (.ref p2), .val (.ref p3), .val (.ref b93), .val (.int (2 : Int32)), .val (.int (4 : Int32))] [(.ref b93), (.int (2 : Int32)), (.ref b18)]))
  refine Go.st (fun _ => XS.iload X188.here hx rfl (hb hby own_d_prog_43_method_1_code_171) rfl) ?_
  show Go p.tables e below P (T188.setTop (mkF m 173 #[.val (.ref p0), .val (.ref p1), .val (.ref p2), .val (.ref p3), .val (.ref b93), .val (.int (2 : Int32)), .val (.int (4 : Int32))] [(.int (4 : Int32)), (.ref b93), (.int (2 : Int32)), (.ref b18)]))
  have c190 := (c178.other W179 (Ne.symm (Nat.ne_of_lt (Nat.lt_of_lt_of_le c101.lt (Nat.le_of_eq g93.symm)))))
  refine Go.st (fun _ => own_ldD X188 hx hZ e188 c190 (j := (4 : Int32)) (i := 4) (v := (.double (0 : UInt64))) (by decide) (by decide) rfl (g := (mkF m 173 #[.val (.ref p0), .val (.ref p1), .val (.ref p2), .val (.ref p3), .val (.ref b93), .val (.int (2 : Int32)), .val (.int (4 : Int32))] [(.int (4 : Int32)), (.ref b93), (.int (2 : Int32)), (.ref b18)])) rfl rfl (hb hby own_d_prog_43_method_1_code_173) _) ?_
  show Go p.tables e below P (T188.setTop (mkF m 174 #[.val (.ref p0), .val (.ref p1), .val (.ref p2), .val (.ref p3), .val (.ref b93), .val (.int (2 : Int32)), .val (.int (4 : Int32))] [(.double (0 : UInt64)), (.int (2 : Int32)), (.ref b18)]))
  have c192 := (V173'.other W179 (Nat.ne_of_lt (Nat.lt_of_lt_of_le c37.lt (Nat.le_of_eq g30.symm))))
  obtain ⟨T191, h191, X191, e191, W191, V191, st191⟩ := own_stD X188 hx hZ e188 c192 (j := (2 : Int32)) (i := 2) (by decide) (by decide) (Nat.le_of_ble_eq_true rfl) (g := (mkF m 174 #[.val (.ref p0), .val (.ref p1), .val (.ref p2), .val (.ref p3), .val (.ref b93), .val (.int (2 : Int32)), .val (.int (4 : Int32))] [(.double (0 : UInt64)), (.int (2 : Int32)), (.ref b18)])) rfl rfl (hb hby own_d_prog_43_method_1_code_174)
  refine Go.st st191 ?_
  have K191 : Keep h0 h191 [p0] := K179.wr W191 (Or.inr sz_b18)
  have O191 := O179.wr W191 g_b18
  have N191 := Fr.snoc X191 N179 g_b18
  have V191' : Arv Z h191 b18 k18 .double (5 : Int32) [(.double (0 : UInt64)), (.double (0 : UInt64)), (.double (0 : UInt64)), (.double (0 : UInt64)), (.double (0 : UInt64))] (.double (0 : UInt64)) := V191
  show Go p.tables e below P (T191.setTop (mkF m 175 #[.val (.ref p0), .val (.ref p1), .val (.ref p2), .val (.ref p3), .val (.ref b93), .val (.int (2 : Int32)), .val (.int (4 : Int32))] []))
  refine Go.st (fun _ => XS.aloadN X191.here hx rfl (hb hby own_d_prog_43_method_1_code_175) rfl rfl) ?_
  show Go p.tables e below P (T191.setTop (mkF m 176 #[.val (.ref p0), .val (.ref p1), .val (.ref p2), .val (.ref p3), .val (.ref b93), .val (.int (2 : Int32)), .val (.int (4 : Int32))] [(.ref p0)]))
  have c193 := ((c175.other W179 (Or.inl (Nat.ne_of_lt (Nat.lt_of_lt_of_le c31.lt (Nat.le_of_eq g30.symm))))).other W191 (Or.inl (Nat.ne_of_lt (Nat.lt_of_lt_of_le c19.lt (Nat.le_of_eq g18.symm)))))
  obtain ⟨T194, X194, e194, st194⟩ := getF X191 hx hZ hown (host := "") (Or.inl (hw _ (List.mem_of_getElem? (i := 78) rfl))) Via.refl e191 c193 (g := (mkF m 176 #[.val (.ref p0), .val (.ref p1), .val (.ref p2), .val (.ref p3), .val (.ref b93), .val (.int (2 : Int32)), .val (.int (4 : Int32))] [(.ref p0)])) rfl rfl (hb hby own_d_prog_43_method_1_code_176)
  refine Go.st st194 ?_
  show Go p.tables e below P (T194.setTop (mkF m 179 #[.val (.ref p0), .val (.ref p1), .val (.ref p2), .val (.ref p3), .val (.ref b93), .val (.int (2 : Int32)), .val (.int (4 : Int32))] [(.ref b30)]))
  refine Go.st (fun _ => XS.iload X194.here hx rfl (hb hby own_d_prog_43_method_1_code_179) rfl) ?_
  show Go p.tables e below P (T194.setTop (mkF m 181 #[.val (.ref p0), .val (.ref p1), .val (.ref p2), .val (.ref p3), .val (.ref b93), .val (.int (2 : Int32)), .val (.int (4 : Int32))] [(.int (2 : Int32)), (.ref b30)]))
  refine Go.st (fun _ => XS.aload X194.here hx rfl (hb hby own_d_prog_43_method_1_code_181) rfl rfl) ?_
  show Go p.tables e below P (T194.setTop (mkF m 183 #[.val (.ref p0), .val (.ref p1), .val (.ref p2), .val (.ref p3), .val (.ref b93), .val (.int (2 : Int32)), .val (.int (4 : Int32))] [(.ref b93), (.int (2 : Int32)), (.ref b30)]))
  refine Go.st (fun _ => XS.iload X194.here hx rfl (hb hby own_d_prog_43_method_1_code_183) rfl) ?_
  show Go p.tables e below P (T194.setTop (mkF m 185 #[.val (.ref p0), .val (.ref p1), .val (.ref p2), .val (.ref p3), .val (.ref b93), .val (.int (2 : Int32)), .val (.int (4 : Int32))] [(.int (4 : Int32)), (.ref b93), (.int (2 : Int32)), (.ref b30)]))
  refine Go.st (fun _ => XS.iconst X194.here hx rfl (hb hby own_d_prog_43_method_1_code_185)) ?_
  show Go p.tables e below P (T194.setTop (mkF m 186 #[.val (.ref p0), .val (.ref p1), .val (.ref p2), .val (.ref p3), .val (.ref b93), .val (.int (2 : Int32)), .val (.int (4 : Int32))] [(.int (1 : Int32)), (.int (4 : Int32)), (.ref b93), (.int (2 : Int32)), (.ref b30)]))
  refine Go.st (fun _ => XS.iadd X194.here hx rfl (hb hby own_d_prog_43_method_1_code_186) rfl) ?_
  show Go p.tables e below P (T194.setTop (mkF m 187 #[.val (.ref p0), .val (.ref p1), .val (.ref p2), .val (.ref p3), .val (.ref b93), .val (.int (2 : Int32)), .val (.int (4 : Int32))] [(.int (5 : Int32)), (.ref b93), (.int (2 : Int32)), (.ref b30)]))
  have c196 := (c190.other W191 (Ne.symm (Nat.ne_of_lt (Nat.lt_of_lt_of_le c100.lt (Nat.le_of_eq g93.symm)))))
  refine Go.st (fun _ => own_ldD X194 hx hZ e194 c196 (j := (5 : Int32)) (i := 5) (v := (.double (0 : UInt64))) (by decide) (by decide) rfl (g := (mkF m 187 #[.val (.ref p0), .val (.ref p1), .val (.ref p2), .val (.ref p3), .val (.ref b93), .val (.int (2 : Int32)), .val (.int (4 : Int32))] [(.int (5 : Int32)), (.ref b93), (.int (2 : Int32)), (.ref b30)])) rfl rfl (hb hby own_d_prog_43_method_1_code_187) _) ?_
  show Go p.tables e below P (T194.setTop (mkF m 188 #[.val (.ref p0), .val (.ref p1), .val (.ref p2), .val (.ref p3), .val (.ref b93), .val (.int (2 : Int32)), .val (.int (4 : Int32))] [(.double (0 : UInt64)), (.int (2 : Int32)), (.ref b30)]))
  have c198 := (V179'.other W191 (Ne.symm (Nat.ne_of_lt (Nat.lt_of_lt_of_le c37.lt (Nat.le_of_eq g30.symm)))))
  obtain ⟨T197, h197, X197, e197, W197, V197, st197⟩ := own_stD X194 hx hZ e194 c198 (j := (2 : Int32)) (i := 2) (by decide) (by decide) (Nat.le_of_ble_eq_true rfl) (g := (mkF m 188 #[.val (.ref p0), .val (.ref p1), .val (.ref p2), .val (.ref p3), .val (.ref b93), .val (.int (2 : Int32)), .val (.int (4 : Int32))] [(.double (0 : UInt64)), (.int (2 : Int32)), (.ref b30)])) rfl rfl (hb hby own_d_prog_43_method_1_code_188)
  refine Go.st st197 ?_
  have K197 : Keep h0 h197 [p0] := K191.wr W197 (Or.inr sz_b30)
  have O197 := O191.wr W197 g_b30
  have N197 := Fr.snoc X197 N191 g_b30
  have V197' : Arv Z h197 b30 k30 .double (5 : Int32) [(.double (0 : UInt64)), (.double (0 : UInt64)), (.double (0 : UInt64)), (.double (0 : UInt64)), (.double (0 : UInt64))] (.double (0 : UInt64)) := V197
  show Go p.tables e below P (T197.setTop (mkF m 189 #[.val (.ref p0), .val (.ref p1), .val (.ref p2), .val (.ref p3), .val (.ref b93), .val (.int (2 : Int32)), .val (.int (4 : Int32))] []))
  refine Go.st (fun _ => XS.iinc X197.here hx rfl (hb hby own_d_prog_43_method_1_code_189) rfl (l' := #[.val (.ref p0), .val (.ref p1), .val (.ref p2), .val (.ref p3), .val (.ref b93), .val (.int (3 : Int32)), .val (.int (4 : Int32))]) rfl) ?_
  show Go p.tables e below P (T197.setTop (mkF m 192 #[.val (.ref p0), .val (.ref p1), .val (.ref p2), .val (.ref p3), .val (.ref b93), .val (.int (3 : Int32)), .val (.int (4 : Int32))] []))
  refine Go.st (fun _ => XS.goto X197.here hx rfl (pc0 := 192) (pc' := 143) rfl (hb hby own_d_prog_43_method_1_code_192) (by decide) (by decide)) ?_
  show Go p.tables e below P (T197.setTop (mkF m 143 #[.val (.ref p0), .val (.ref p1), .val (.ref p2), .val (.ref p3), .val (.ref b93), .val (.int (3 : Int32)), .val (.int (4 : Int32))] []))
  refine Go.st (fun _ => XS.iload X197.here hx rfl (hb hby own_d_prog_43_method_1_code_143) rfl) ?_
  show Go p.tables e below P (T197.setTop (mkF m 145 #[.val (.ref p0), .val (.ref p1), .val (.ref p2), .val (.ref p3), .val (.ref b93), .val (.int (3 : Int32)), .val (.int (4 : Int32))] [(.int (3 : Int32))]))
  refine Go.st (fun _ => XS.aloadN X197.here hx rfl (hb hby own_d_prog_43_method_1_code_145) rfl rfl) ?_
  show Go p.tables e below P (T197.setTop (mkF m 146 #[.val (.ref p0), .val (.ref p1), .val (.ref p2), .val (.ref p3), .val (.ref b93), .val (.int (3 : Int32)), .val (.int (4 : Int32))] [(.ref p0), (.int (3 : Int32))]))
  have c199 := ((c181.other W191 (Or.inl (Nat.ne_of_lt (Nat.lt_of_lt_of_le c19.lt (Nat.le_of_eq g18.symm))))).other W197 (Or.inl (Nat.ne_of_lt (Nat.lt_of_lt_of_le c31.lt (Nat.le_of_eq g30.symm)))))
  obtain ⟨T200, X200, e200, st200⟩ := getF X197 hx hZ hown (host := "") (Or.inl (hw _ (List.mem_of_getElem? (i := 60) rfl))) Via.refl e197 c199 (g := (mkF m 146 #[.val (.ref p0), .val (.ref p1), .val (.ref p2), .val (.ref p3), .val (.ref b93), .val (.int (3 : Int32)), .val (.int (4 : Int32))] [(.ref p0), (.int (3 : Int32))])) rfl rfl (hb hby own_d_prog_43_method_1_code_146)
  refine Go.st st200 ?_
  show Go p.tables e below P (T200.setTop (mkF m 149 #[.val (.ref p0), .val (.ref p1), .val (.ref p2), .val (.ref p3), .val (.ref b93), .val (.int (3 : Int32)), .val (.int (4 : Int32))] [(.int (5 : Int32)), (.int (3 : Int32))]))
  refine Go.st (fun _ => XS.icmpNo X200.here hx rfl (hb hby own_d_prog_43_method_1_code_149) rfl (tlt (by decide)).2.1) ?_
  show Go p.tables e below P (T200.setTop (mkF m 152 #[.val (.ref p0), .val (.ref p1), .val (.ref p2), .val (.ref p3), .val (.ref b93), .val (.int (3 : Int32)), .val (.int (4 : Int32))] []))
  refine Go.st (fun _ => XS.iconst X200.here hx rfl (hb hby own_d_prog_43_method_1_code_152)) ?_
  show Go p.tables e below P (T200.setTop (mkF m 153 #[.val (.ref p0), .val (.ref p1), .val (.ref p2), .val (.ref p3), .val (.ref b93), .val (.int (3 : Int32)), .val (.int (4 : Int32))] [(.int (2 : Int32))]))
  refine Go.st (fun _ => XS.aloadN X200.here hx rfl (hb hby own_d_prog_43_method_1_code_153) rfl rfl) ?_
  show Go p.tables e below P (T200.setTop (mkF m 154 #[.val (.ref p0), .val (.ref p1), .val (.ref p2), .val (.ref p3), .val (.ref b93), .val (.int (3 : Int32)), .val (.int (4 : Int32))] [(.ref p0), (.int (2 : Int32))]))
  have c201 := ((c183.other W191 (Or.inl (Nat.ne_of_lt (Nat.lt_of_lt_of_le c19.lt (Nat.le_of_eq g18.symm))))).other W197 (Or.inl (Nat.ne_of_lt (Nat.lt_of_lt_of_le c31.lt (Nat.le_of_eq g30.symm)))))
  obtain ⟨T202, X202, e202, st202⟩ := getF X200 hx hZ hown (host := "") (Or.inl (hw _ (List.mem_of_getElem? (i := 67) rfl))) Via.refl e200 c201 (g := (mkF m 154 #[.val (.ref p0), .val (.ref p1), .val (.ref p2), .val (.ref p3), .val (.ref b93), .val (.int (3 : Int32)), .val (.int (4 : Int32))] [(.ref p0), (.int (2 : Int32))])) rfl rfl (hb hby own_d_prog_43_method_1_code_154)
  refine Go.st st202 ?_
  show Go p.tables e below P (T202.setTop (mkF m 157 #[.val (.ref p0), .val (.ref p1), .val (.ref p2), .val (.ref p3), .val (.ref b93), .val (.int (3 : Int32)), .val (.int (4 : Int32))] [(.ref pr), (.int (2 : Int32))]))
  refine Go.st (fun _ => XS.iload X202.here hx rfl (hb hby own_d_prog_43_method_1_code_157) rfl) ?_
  show Go p.tables e below P (T202.setTop (mkF m 159 #[.val (.ref p0), .val (.ref p1), .val (.ref p2), .val (.ref p3), .val (.ref b93), .val (.int (3 : Int32)), .val (.int (4 : Int32))] [(.int (3 : Int32)), (.ref pr), (.int (2 : Int32))]))
  have c204 := ((c186.other W191 (Nat.ne_of_lt (Nat.lt_of_lt_of_le c22.lt (Nat.le_of_eq g18.symm)))).other W197 (Nat.ne_of_lt (Nat.lt_of_lt_of_le c34.lt (Nat.le_of_eq g30.symm))))
  refine Go.st (fun _ => own_ldI X202 hx hZ e202 c204 (j := (3 : Int32)) (i := 3) (v := (.int (3 : Int32))) (by decide) (by decide) rfl (g := (mkF m 159 #[.val (.ref p0), .val (.ref p1), .val (.ref p2), .val (.ref p3), .val (.ref b93), .val (.int (3 : Int32)), .val (.int (4 : Int32))] [(.int (3 : Int32)), (.ref pr), (.int (2 : Int32))])) rfl rfl (hb hby own_d_prog_43_method_1_code_159) _) ?_
  show Go p.tables e below P (T202.setTop (mkF m 160 #[.val (.ref p0), .val (.ref p1), .val (.ref p2), .val (.ref p3), .val (.ref b93), .val (.int (3 : Int32)), .val (.int (4 : Int32))] [(.int (3 : Int32)), (.int (2 : Int32))]))
  refine Go.st (fun _ => XS.imul X202.here hx rfl (hb hby own_d_prog_43_method_1_code_160) rfl) ?_
  show Go p.tables e below P (T202.setTop (mkF m 161 #[.val (.ref p0), .val (.ref p1), .val (.ref p2), .val (.ref p3), .val (.ref b93), .val (.int (3 : Int32)), .val (.int (4 : Int32))] [(.int (6 : Int32))]))
  refine Go.st (fun _ => XS.istore X202.here hx rfl (hb hby own_d_prog_43_method_1_code_161) rfl (l' := #[.val (.ref p0), .val (.ref p1), .val (.ref p2), .val (.ref p3), .val (.ref b93), .val (.int (3 : Int32)), .val (.int (6 : Int32))]) rfl) ?_
  show Go p.tables e below P (T202.setTop (mkF m 163 #[.val (.ref p0), .val (.ref p1), .val (.ref p2), .val (.ref p3), .val (.ref b93), .val (.int (3 : Int32)), .val (.int (6 : Int32))] []))
  refine Go.st (fun _ => XS.aloadN X202.here hx rfl (hb hby own_d_prog_43_method_1_code_163) rfl rfl) ?_
  show Go p.tables e below P (T202.setTop (mkF m 164 #[.val (.ref p0), .val (.ref p1), .val (.ref p2), .val (.ref p3), .val (.ref b93), .val (.int (3 : Int32)), .val (.int (6 : Int32))] [(.ref p0)]))
  have c205 := ((c187.other W191 (Or.inl (Nat.ne_of_lt (Nat.lt_of_lt_of_le c19.lt (Nat.le_of_eq g18.symm))))).other W197 (Or.inl (Nat.ne_of_lt (Nat.lt_of_lt_of_le c31.lt (Nat.le_of_eq g30.symm)))))
  obtain ⟨T206, X206, e206, st206⟩ := getF X202 hx hZ hown (host := "") (Or.inl (hw _ (List.mem_of_getElem? (i := 76) rfl))) Via.refl e202 c205 (g := (mkF m 164 #[.val (.ref p0), .val (.ref p1), .val (.ref p2), .val (.ref p3), .val (.ref b93), .val (.int (3 : Int32)), .val (.int (6 : Int32))] [(.ref p0)])) rfl rfl (hb hby own_d_prog_43_method_1_code_164)
  refine Go.st st206 ?_
  show Go p.tables e below P (T206.setTop (mkF m 167 #[.val (.ref p0), .val (.ref p1), .val (.ref p2), .val (.ref p3), .val (.ref b93), .val (.int (3 : Int32)), .val (.int (6 : Int32))] [(.ref b18)]))
  refine Go.st (fun _ => XS.iload X206.here hx rfl (hb hby own_d_prog_43_method_1_code_167) rfl) ?_
  show Go p.tables e below P (T206.setTop (mkF m 169 #[.val (.ref p0), .val (.ref p1), .val (.ref p2), .val (.ref p3), .val (.ref b93), .val (.int (3 : Int32)), .val (.int (6 : Int32))] [(.int (3 : Int32)), (.ref b18)]))
  refine Go.st (fun _ => XS.aload X206.here hx rfl (hb hby own_d_prog_43_method_1_code_169) rfl rfl) ?_
  show Go p.tables e below P (T206.setTop (mkF m 171 #[.val (.ref p0), .val (.ref p1), .val (.ref p2), .val (.ref p3), .val (.ref b93), .val (.int (3 : Int32)), .val (.int (6 : Int32))] [(.ref b93), (.int (3 : Int32)), (.ref b18)]))
  refine Go.st (fun _ => XS.iload X206.here hx rfl (hb hby own_d_prog_43_method_1_code_171) rfl) ?_
  show Go p.tables e below P (T206.setTop (mkF m 173 #[.val (.ref p0), .val (.ref p1), .val (.ref p2), .val (.ref p3), .val (.ref b93), .val (.int (3 : Int32)), .val (.int (6 : Int32))] [(.int (6 : Int32)), (.ref b93), (.int (3 : Int32)), (.ref b18)]))
  have c208 := (c196.other W197 (Ne.symm (Nat.ne_of_lt (Nat.lt_of_lt_of_le c101.lt (Nat.le_of_eq g93.symm)))))
  refine Go.st (fun _ => own_ldD X206 hx hZ e206 c208 (j := (6 : Int32)) (i := 6) (v := (.double (0 : UInt64))) (by decide) (by decide) rfl (g := (mkF m 173 #[.val (.ref p0), .val (.ref p1), .val (.ref p2), .val (.ref p3), .val (.ref b93), .val (.int (3 : Int32)), .val (.int (6 : Int32))] [(.int (6 : Int32)), (.ref b93), (.int (3 : Int32)), (.ref b18)])) rfl rfl (hb hby own_d_prog_43_method_1_code_173) _) ?_
  show Go p.tables e below P (T206.setTop (mkF m 174 #[.val (.ref p0), .val (.ref p1), .val (.ref p2), .val (.ref p3), .val (.ref b93), .val (.int (3 : Int32)), .val (.int (6 : Int32))] [(.double (0 : UInt64)), (.int (3 : Int32)), (.ref b18)]))
  have c210 := (V191'.other W197 (Nat.ne_of_lt (Nat.lt_of_lt_of_le c37.lt (Nat.le_of_eq g30.symm))))
  obtain ⟨T209, h209, X209, e209, W209, V209, st209⟩ := own_stD X206 hx hZ e206 c210 (j := (3 : Int32)) (i := 3) (by decide) (by decide) (Nat.le_of_ble_eq_true rfl) (g := (mkF m 174 #[.val (.ref p0), .val (.ref p1), .val (.ref p2), .val (.ref p3), .val (.ref b93), .val (.int (3 : Int32)), .val (.int (6 : Int32))] [(.double (0 : UInt64)), (.int (3 : Int32)), (.ref b18)])) rfl rfl (hb hby own_d_prog_43_method_1_code_174)
  refine Go.st st209 ?_
  have K209 : Keep h0 h209 [p0] := K197.wr W209 (Or.inr sz_b18)
  have O209 := O197.wr W209 g_b18
  have N209 := Fr.snoc X209 N197 g_b18
  have V209' : Arv Z h209 b18 k18 .double (5 : Int32) [(.double (0 : UInt64)), (.double (0 : UInt64)), (.double (0 : UInt64)), (.double (0 : UInt64)), (.double (0 : UInt64))] (.double (0 : UInt64)) := V209
  show Go p.tables e below P (T209.setTop (mkF m 175 #[.val (.ref p0), .val (.ref p1), .val (.ref p2), .val (.ref p3), .val (.ref b93), .val (.int (3 : Int32)), .val (.int (6 : Int32))] []))
  refine Go.st (fun _ => XS.aloadN X209.here hx rfl (hb hby own_d_prog_43_method_1_code_175) rfl rfl) ?_
  show Go p.tables e below P (T209.setTop (mkF m 176 #[.val (.ref p0), .val (.ref p1), .val (.ref p2), .val (.ref p3), .val (.ref b93), .val (.int (3 : Int32)), .val (.int (6 : Int32))] [(.ref p0)]))
  have c211 := ((c193.other W197 (Or.inl (Nat.ne_of_lt (Nat.lt_of_lt_of_le c31.lt (Nat.le_of_eq g30.symm))))).other W209 (Or.inl (Nat.ne_of_lt (Nat.lt_of_lt_of_le c19.lt (Nat.le_of_eq g18.symm)))))
  obtain ⟨T212, X212, e212, st212⟩ := getF X209 hx hZ hown (host := "") (Or.inl (hw _ (List.mem_of_getElem? (i := 78) rfl))) Via.refl e209 c211 (g := (mkF m 176 #[.val (.ref p0), .val (.ref p1), .val (.ref p2), .val (.ref p3), .val (.ref b93), .val (.int (3 : Int32)), .val (.int (6 : Int32))] [(.ref p0)])) rfl rfl (hb hby own_d_prog_43_method_1_code_176)
  refine Go.st st212 ?_
  show Go p.tables e below P (T212.setTop (mkF m 179 #[.val (.ref p0), .val (.ref p1), .val (.ref p2), .val (.ref p3), .val (.ref b93), .val (.int (3 : Int32)), .val (.int (6 : Int32))] [(.ref b30)]))
  refine Go.st (fun _ => XS.iload X212.here hx rfl (hb hby own_d_prog_43_method_1_code_179) rfl) ?_
  show Go p.tables e below P (T212.setTop (mkF m 181 #[.val (.ref p0), .val (.ref p1), .val (.ref p2), .val (.ref p3), .val (.ref b93), .val (.int (3 : Int32)), .val (.int (6 : Int32))] [(.int (3 : Int32)), (.ref b30)]))
  refine Go.st (fun _ => XS.aload X212.here hx rfl (hb hby own_d_prog_43_method_1_code_181) rfl rfl) ?_
  show Go p.tables e below P (T212.setTop (mkF m 183 #[.val (.ref p0), .val (.ref p1), .val (.ref p2), .val (.ref p3), .val (.ref b93), .val (.int (3 : Int32)), .val (.int (6 : Int32))] [(.ref b93), (.int (3 : Int32)), (.ref b30)]))
  refine Go.st (fun _ => XS.iload X212.here hx rfl (hb hby own_d_prog_43_method_1_code_183) rfl) ?_
  show Go p.tables e below P (T212.setTop (mkF m 185 #[.val (.ref p0), .val (.ref p1), .val (.ref p2), .val (.ref p3), .val (.ref b93), .val (.int (3 : Int32)), .val (.int (6 : Int32))] [(.int (6 : Int32)), (.ref b93), (.int (3 : Int32)), (.ref b30)]))
  refine Go.st (fun _ => XS.iconst X212.here hx rfl (hb hby own_d_prog_43_method_1_code_185)) ?_
  show Go p.tables e below P (T212.setTop (mkF m 186 #[.val (.ref p0), .val (.ref p1), .val (.ref p2), .val (.ref p3), .val (.ref b93), .val (.int (3 : Int32)), .val (.int (6 : Int32))] [(.int (1 : Int32)), (.int (6 : Int32)), (.ref b93), (.int (3 : Int32)), (.ref b30)]))
  refine Go.st (fun _ => XS.iadd X212.here hx rfl (hb hby own_d_prog_43_method_1_code_186) rfl) ?_
  show Go p.tables e below P (T212.setTop (mkF m 187 #[.val (.ref p0), .val (.ref p1), .val (.ref p2), .val (.ref p3), .val (.ref b93), .val (.int (3 : Int32)), .val (.int (6 : Int32))] [(.int (7 : Int32)), (.ref b93), (.int (3 : Int32)), (.ref b30)]))
  have c214 := (c208.other W209 (Ne.symm (Nat.ne_of_lt (Nat.lt_of_lt_of_le c100.lt (Nat.le_of_eq g93.symm)))))
  refine Go.st (fun _ => own_ldD X212 hx hZ e212 c214 (j := (7 : Int32)) (i := 7) (v := (.double (0 : UInt64))) (by decide) (by decide) rfl (g := (mkF m 187 #[.val (.ref p0), .val (.ref p1), .val (.ref p2), .val (.ref p3), .val (.ref b93), .val (.int (3 : Int32)), .val (.int (6 : Int32))] [(.int (7 : Int32)), (.ref b93), (.int (3 : Int32)), (.ref b30)])) rfl rfl (hb hby own_d_prog_43_method_1_code_187) _) ?_
  show Go p.tables e below P (T212.setTop (mkF m 188 #[.val (.ref p0), .val (.ref p1), .val (.ref p2), .val (.ref p3), .val (.ref b93), .val (.int (3 : Int32)), .val (.int (6 : Int32))] [(.double (0 : UInt64)), (.int (3 : Int32)), (.ref b30)]))
  have c216 := (V197'.other W209 (Ne.symm (Nat.ne_of_lt (Nat.lt_of_lt_of_le c37.lt (Nat.le_of_eq g30.symm)))))
  obtain ⟨T215, h215, X215, e215, W215, V215, st215⟩ := own_stD X212 hx hZ e212 c216 (j := (3 : Int32)) (i := 3) (by decide) (by decide) (Nat.le_of_ble_eq_true rfl) (g := (mkF m 188 #[.val (.ref p0), .val (.ref p1), .val (.ref p2), .val (.ref p3), .val (.ref b93), .val (.int (3 : Int32)), .val (.int (6 : Int32))] [(.double (0 : UInt64)), (.int (3 : Int32)), (.ref b30)])) rfl rfl (hb hby own_d_prog_43_method_1_code_188)
  refine Go.st st215 ?_
  have K215 : Keep h0 h215 [p0] := K209.wr W215 (Or.inr sz_b30)
  have O215 := O209.wr W215 g_b30
  have N215 := Fr.snoc X215 N209 g_b30
  have V215' : Arv Z h215 b30 k30 .double (5 : Int32) [(.double (0 : UInt64)), (.double (0 : UInt64)), (.double (0 : UInt64)), (.double (0 : UInt64)), (.double (0 : UInt64))] (.double (0 : UInt64)) := V215
  show Go p.tables e below P (T215.setTop (mkF m 189 #[.val (.ref p0), .val (.ref p1), .val (.ref p2), .val (.ref p3), .val (.ref b93), .val (.int (3 : Int32)), .val (.int (6 : Int32))] []))
  refine Go.st (fun _ => XS.iinc X215.here hx rfl (hb hby own_d_prog_43_method_1_code_189) rfl (l' := #[.val (.ref p0), .val (.ref p1), .val (.ref p2), .val (.ref p3), .val (.ref b93), .val (.int (4 : Int32)), .val (.int (6 : Int32))]) rfl) ?_
  show Go p.tables e below P (T215.setTop (mkF m 192 #[.val (.ref p0), .val (.ref p1), .val (.ref p2), .val (.ref p3), .val (.ref b93), .val (.int (4 : Int32)), .val (.int (6 : Int32))] []))
  refine Go.st (fun _ => XS.goto X215.here hx rfl (pc0 := 192) (pc' := 143) rfl (hb hby own_d_prog_43_method_1_code_192) (by decide) (by decide)) ?_
  show Go p.tables e below P (T215.setTop (mkF m 143 #[.val (.ref p0), .val (.ref p1), .val (.ref p2), .val (.ref p3), .val (.ref b93), .val (.int (4 : Int32)), .val (.int (6 : Int32))] []))
  refine Go.st (fun _ => XS.iload X215.here hx rfl (hb hby own_d_prog_43_method_1_code_143) rfl) ?_
  show Go p.tables e below P (T215.setTop (mkF m 145 #[.val (.ref p0), .val (.ref p1), .val (.ref p2), .val (.ref p3), .val (.ref b93), .val (.int (4 : Int32)), .val (.int (6 : Int32))] [(.int (4 : Int32))]))
  refine Go.st (fun _ => XS.aloadN X215.here hx rfl (hb hby own_d_prog_43_method_1_code_145) rfl rfl) ?_
  show Go p.tables e below P (T215.setTop (mkF m 146 #[.val (.ref p0), .val (.ref p1), .val (.ref p2), .val (.ref p3), .val (.ref b93), .val (.int (4 : Int32)), .val (.int (6 : Int32))] [(.ref p0), (.int (4 : Int32))]))
  have c217 := ((c199.other W209 (Or.inl (Nat.ne_of_lt (Nat.lt_of_lt_of_le c19.lt (Nat.le_of_eq g18.symm))))).other W215 (Or.inl (Nat.ne_of_lt (Nat.lt_of_lt_of_le c31.lt (Nat.le_of_eq g30.symm)))))
  obtain ⟨T218, X218, e218, st218⟩ := getF X215 hx hZ hown (host := "") (Or.inl (hw _ (List.mem_of_getElem? (i := 60) rfl))) Via.refl e215 c217 (g := (mkF m 146 #[.val (.ref p0), .val (.ref p1), .val (.ref p2), .val (.ref p3), .val (.ref b93), .val (.int (4 : Int32)), .val (.int (6 : Int32))] [(.ref p0), (.int (4 : Int32))])) rfl rfl (hb hby own_d_prog_43_method_1_code_146)
  refine Go.st st218 ?_
  show Go p.tables e below P (T218.setTop (mkF m 149 #[.val (.ref p0), .val (.ref p1), .val (.ref p2), .val (.ref p3), .val (.ref b93), .val (.int (4 : Int32)), .val (.int (6 : Int32))] [(.int (5 : Int32)), (.int (4 : Int32))]))
  refine Go.st (fun _ => XS.icmpNo X218.here hx rfl (hb hby own_d_prog_43_method_1_code_149) rfl (tlt (by decide)).2.1) ?_
  show Go p.tables e below P (T218.setTop (mkF m 152 #[.val (.ref p0), .val (.ref p1), .val (.ref p2), .val (.ref p3), .val (.ref b93), .val (.int (4 : Int32)), .val (.int (6 : Int32))] []))
  refine Go.st (fun _ => XS.iconst X218.here hx rfl (hb hby own_d_prog_43_method_1_code_152)) ?_
  show Go p.tables e below P (T218.setTop (mkF m 153 #[.val (.ref p0), .val (.ref p1), .val (.ref p2), .val (.ref p3), .val (.ref b93), .val (.int (4 : Int32)), .val (.int (6 : Int32))] [(.int (2 : Int32))]))
  refine Go.st (fun _ => XS.aloadN X218.here hx rfl (hb hby own_d_prog_43_method_1_code_153) rfl rfl) ?_
  show Go p.tables e below P (T218.setTop (mkF m 154 #[.val (.ref p0), .val (.ref p1), .val (.ref p2), .val (.ref p3), .val (.ref b93), .val (.int (4 : Int32)), .val (.int (6 : Int32))] [(.ref p0), (.int (2 : Int32))]))
  have c219 := ((c201.other W209 (Or.inl (Nat.ne_of_lt (Nat.lt_of_lt_of_le c19.lt (Nat.le_of_eq g18.symm))))).other W215 (Or.inl (Nat.ne_of_lt (Nat.lt_of_lt_of_le c31.lt (Nat.le_of_eq g30.symm)))))
  obtain ⟨T220, X220, e220, st220⟩ := getF X218 hx hZ hown (host := "") (Or.inl (hw _ (List.mem_of_getElem? (i := 67) rfl))) Via.refl e218 c219 (g := (mkF m 154 #[.val (.ref p0), .val (.ref p1), .val (.ref p2), .val (.ref p3), .val (.ref b93), .val (.int (4 : Int32)), .val (.int (6 : Int32))] [(.ref p0), (.int (2 : Int32))])) rfl rfl (hb hby own_d_prog_43_method_1_code_154)
  refine Go.st st220 ?_
  show Go p.tables e below P (T220.setTop (mkF m 157 #[.val (.ref p0), .val (.ref p1), .val (.ref p2), .val (.ref p3), .val (.ref b93), .val (.int (4 : Int32)), .val (.int (6 : Int32))] [(.ref pr), (.int (2 : Int32))]))
  refine Go.st (fun _ => XS.iload X220.here hx rfl (hb hby own_d_prog_43_method_1_code_157) rfl) ?_
  show Go p.tables e below P (T220.setTop (mkF m 159 #[.val (.ref p0), .val (.ref p1), .val (.ref p2), .val (.ref p3), .val (.ref b93), .val (.int (4 : Int32)), .val (.int (6 : Int32))] [(.int (4 : Int32)), (.ref pr), (.int (2 : Int32))]))
  have c222 := ((c204.other W209 (Nat.ne_of_lt (Nat.lt_of_lt_of_le c22.lt (Nat.le_of_eq g18.symm)))).other W215 (Nat.ne_of_lt (Nat.lt_of_lt_of_le c34.lt (Nat.le_of_eq g30.symm))))
  refine Go.st (fun _ => own_ldI X220 hx hZ e220 c222 (j := (4 : Int32)) (i := 4) (v := (.int (4 : Int32))) (by decide) (by decide) rfl (g := (mkF m 159 #[.val (.ref p0), .val (.ref p1), .val (.ref p2), .val (.ref p3), .val (.ref b93), .val (.int (4 : Int32)), .val (.int (6 : Int32))] [(.int (4 : Int32)), (.ref pr), (.int (2 : Int32))])) rfl rfl (hb hby own_d_prog_43_method_1_code_159) _) ?_
  show Go p.tables e below P (T220.setTop (mkF m 160 #[.val (.ref p0), .val (.ref p1), .val (.ref p2), .val (.ref p3), .val (.ref b93), .val (.int (4 : Int32)), .val (.int (6 : Int32))] [(.int (4 : Int32)), (.int (2 : Int32))]))
  refine Go.st (fun _ => XS.imul X220.here hx rfl (hb hby own_d_prog_43_method_1_code_160) rfl) ?_
  show Go p.tables e below P (T220.setTop (mkF m 161 #[.val (.ref p0), .val (.ref p1), .val (.ref p2), .val (.ref p3), .val (.ref b93), .val (.int (4 : Int32)), .val (.int (6 : Int32))] [(.int (8 : Int32))]))
  refine Go.st (fun _ => XS.istore X220.here hx rfl (hb hby own_d_prog_43_method_1_code_161) rfl (l' := #[.val (.ref p0), .val (.ref p1), .val (.ref p2), .val (.ref p3), .val (.ref b93), .val (.int (4 : Int32)), .val (.int (8 : Int32))]) rfl) ?_
  show Go p.tables e below P (T220.setTop (mkF m 163 #[.val (.ref p0), .val (.ref p1), .val (.ref p2), .val (.ref p3), .val (.ref b93), .val (.int (4 : Int32)), .val (.int (8 : Int32))] []))
  refine Go.st (fun _ => XS.aloadN X220.here hx rfl (hb hby own_d_prog_43_method_1_code_163) rfl rfl) ?_
  show Go p.tables e below P (T220.setTop (mkF m 164 #[.val (.ref p0), .val (.ref p1), .val (.ref p2), .val (.ref p3), .val (.ref b93), .val (.int (4 : Int32)), .val (.int (8 : Int32))] [(.ref p0)]))
  have c223 := ((c205.other W209 (Or.inl (Nat.ne_of_lt (Nat.lt_of_lt_of_le c19.lt (Nat.le_of_eq g18.symm))))).other W215 (Or.inl (Nat.ne_of_lt (Nat.lt_of_lt_of_le c31.lt (Nat.le_of_eq g30.symm)))))
  obtain ⟨T224, X224, e224, st224⟩ := getF X220 hx hZ hown (host := "") (Or.inl (hw _ (List.mem_of_getElem? (i := 76) rfl))) Via.refl e220 c223 (g := (mkF m 164 #[.val (.ref p0), .val (.ref p1), .val (.ref p2), .val (.ref p3), .val (.ref b93), .val (.int (4 : Int32)), .val (.int (8 : Int32))] [(.ref p0)])) rfl rfl (hb hby own_d_prog_43_method_1_code_164)
  refine Go.st st224 ?_
  show Go p.tables e below P (T224.setTop (mkF m 167 #[.val (.ref p0), .val (.ref p1), .val (.ref p2), .val (.ref p3), .val (.ref b93), .val (.int (4 : Int32)), .val (.int (8 : Int32))] [(.ref b18)]))
  refine Go.st (fun _ => XS.iload X224.here hx rfl (hb hby own_d_prog_43_method_1_code_167) rfl) ?_
  show Go p.tables e below P (T224.setTop (mkF m 169 #[.val (.ref p0), .val (.ref p1), .val (.ref p2), .val (.ref p3), .val (.ref b93), .val (.int (4 : Int32)), .val (.int (8 : Int32))] [(.int (4 : Int32)), (.ref b18)]))
  refine Go.st (fun _ => XS.aload X224.here hx rfl (hb hby own_d_prog_43_method_1_code_169) rfl rfl) ?_
  show Go p.tables e below P (T224.setTop (mkF m 171 #[.val (.ref p0), .val (.ref p1), .val (.ref p2), .val (.ref p3), .val (.ref b93), .val (.int (4 : Int32)), .val (.int (8 : Int32))] [(.ref b93), (.int (4 : Int32)), (.ref b18)]))
  refine Go.st (fun _ => XS.iload X224.here hx rfl (hb hby own_d_prog_43_method_1_code_171) rfl) ?_
  show Go p.tables e below P (T224.setTop (mkF m 173 #[.val (.ref p0), .val (.ref p1), .val (.ref p2), .val (.ref p3), .val (.ref b93), .val (.int (4 : Int32)), .val (.int (8 : Int32))] [(.int (8 : Int32)), (.ref b93), (.int (4 : Int32)), (.ref b18)]))
  have c226 := (c214.other W215 (Ne.symm (Nat.ne_of_lt (Nat.lt_of_lt_of_le c101.lt (Nat.le_of_eq g93.symm)))))
  refine Go.st (fun _ => own_ldD X224 hx hZ e224 c226 (j := (8 : Int32)) (i := 8) (v := (.double (0 : UInt64))) (by decide) (by decide) rfl (g := (mkF m 173 #[.val (.ref p0), .val (.ref p1), .val (.ref p2), .val (.ref p3), .val (.ref b93), .val (.int (4 : Int32)), .val (.int (8 : Int32))] [(.int (8 : Int32)), (.ref b93), (.int (4 : Int32)), (.ref b18)])) rfl rfl (hb hby own_d_prog_43_method_1_code_173) _) ?_
  show Go p.tables e below P (T224.setTop (mkF m 174 #[.val (.ref p0), .val (.ref p1), .val (.ref p2), .val (.ref p3), .val (.ref b93), .val (.int (4 : Int32)), .val (.int (8 : Int32))] [(.double (0 : UInt64)), (.int (4 : Int32)), (.ref b18)]))
  have c228 := (V209'.other W215 (Nat.ne_of_lt (Nat.lt_of_lt_of_le c37.lt (Nat.le_of_eq g30.symm))))
  obtain ⟨T227, h227, X227, e227, W227, V227, st227⟩ := own_stD X224 hx hZ e224 c228 (j := (4 : Int32)) (i := 4) (by decide) (by decide) (Nat.le_of_ble_eq_true rfl) (g := (mkF m 174 #[.val (.ref p0), .val (.ref p1), .val (.ref p2), .val (.ref p3), .val (.ref b93), .val (.int (4 : Int32)), .val (.int (8 : Int32))] [(.double (0 : UInt64)), (.int (4 : Int32)), (.ref b18)])) rfl rfl (hb hby own_d_prog_43_method_1_code_174)
  refine Go.st st227 ?_
  have K227 : Keep h0 h227 [p0] := K215.wr W227 (Or.inr sz_b18)
  have O227 := O215.wr W227 g_b18
  have N227 := Fr.snoc X227 N215 g_b18
  have V227' : Arv Z h227 b18 k18 .double (5 : Int32) [(.double (0 : UInt64)), (.double (0 : UInt64)), (.double (0 : UInt64)), (.double (0 : UInt64)), (.double (0 : UInt64))] (.double (0 : UInt64)) := V227
  show Go p.tables e below P (T227.setTop (mkF m 175 #[.val (.ref p0), .val (.ref p1), .val (.ref p2), .val (.ref p3), .val (.ref b93), .val (.int (4 : Int32)), .val (.int (8 : Int32))] []))
  refine Go.st (fun _ => XS.aloadN X227.here hx rfl (hb hby own_d_prog_43_method_1_code_175) rfl rfl) ?_
  show Go p.tables e below P (T227.setTop (mkF m 176 #[.val (.ref p0), .val (.ref p1), .val (.ref p2), .val (.ref p3), .val (.ref b93), .val (.int (4 : Int32)), .val (.int (8 : Int32))] [(.ref p0)]))
  have c229 := ((c211.other W215 (Or.inl (Nat.ne_of_lt (Nat.lt_of_lt_of_le c31.lt (Nat.le_of_eq g30.symm))))).other W227 (Or.inl (Nat.ne_of_lt (Nat.lt_of_lt_of_le c19.lt (Nat.le_of_eq g18.symm)))))
  obtain ⟨T230, X230, e230, st230⟩ := getF X227 hx hZ hown (host := "") (Or.inl (hw _ (List.mem_of_getElem? (i := 78) rfl))) Via.refl e227 c229 (g := (mkF m 176 #[.val (.ref p0), .val (.ref p1), .val (.ref p2), .val (.ref p3), .val (.ref b93), .val (.int (4 : Int32)), .val (.int (8 : Int32))] [(.ref p0)])) rfl rfl (hb hby own_d_prog_43_method_1_code_176)
  refine Go.st st230 ?_
  show Go p.tables e below P (T230.setTop (mkF m 179 #[.val (.ref p0), .val (.ref p1), .val (.ref p2), .val (.ref p3), .val (.ref b93), .val (.int (4 : Int32)), .val (.int (8 : Int32))] [(.ref b30)]))
  refine Go.st (fun _ => XS.iload X230.here hx rfl (hb hby own_d_prog_43_method_1_code_179) rfl) ?_
  show Go p.tables e below P (T230.setTop (mkF m 181 #[.val (.ref p0), .val (.ref p1), .val (.ref p2), .val (.ref p3), .val (.ref b93), .val (.int (4 : Int32)), .val (.int (8 : Int32))] [(.int (4 : Int32)), (.ref b30)]))
  refine Go.st (fun _ => XS.aload X230.here hx rfl (hb hby own_d_prog_43_method_1_code_181) rfl rfl) ?_
  show Go p.tables e below P (T230.setTop (mkF m 183 #[.val (.ref p0), .val (.ref p1), .val (.ref p2), .val (.ref p3), .val (.ref b93), .val (.int (4 : Int32)), .val (.int (8 : Int32))] [(.ref b93), (.int (4 : Int32)), (.ref b30)]))
  refine Go.st (fun _ => XS.iload X230.here hx rfl (hb hby own_d_prog_43_method_1_code_183) rfl) ?_
  show Go p.tables e below P (T230.setTop (mkF m 185 #[.val (.ref p0), .val (.ref p1), .val (.ref p2), .val (.ref p3), .val (.ref b93), .val (.int (4 : Int32)), .val (.int (8 : Int32))] [(.int (8 : Int32)), (.ref b93), (.int (4 : Int32)), (.ref b30)]))
  refine Go.st (fun _ => XS.iconst X230.here hx rfl (hb hby own_d_prog_43_method_1_code_185)) ?_
  show Go p.tables e below P (T230.setTop (mkF m 186 #[.val (.ref p0), .val (.ref p1), .val (.ref p2), .val (.ref p3), .val (.ref b93), .val (.int (4 : Int32)), .val (.int (8 : Int32))] [(.int (1 : Int32)), (.int (8 : Int32)), (.ref b93), (.int (4 : Int32)), (.ref b30)]))
  refine Go.st (fun _ => XS.iadd X230.here hx rfl (hb hby own_d_prog_43_method_1_code_186) rfl) ?_
  show Go p.tables e below P (T230.setTop (mkF m 187 #[.val (.ref p0), .val (.ref p1), .val (.ref p2), .val (.ref p3), .val (.ref b93), .val (.int (4 : Int32)), .val (.int (8 : Int32))] [(.int (9 : Int32)), (.ref b93), (.int (4 : Int32)), (.ref b30)]))
  have c232 := (c226.other W227 (Ne.symm (Nat.ne_of_lt (Nat.lt_of_lt_of_le c100.lt (Nat.le_of_eq g93.symm)))))
  refine Go.st (fun _ => own_ldD X230 hx hZ e230 c232 (j := (9 : Int32)) (i := 9) (v := (.double (0 : UInt64))) (by decide) (by decide) rfl (g := (mkF m 187 #[.val (.ref p0), .val (.ref p1), .val (.ref p2), .val (.ref p3), .val (.ref b93), .val (.int (4 : Int32)), .val (.int (8 : Int32))] [(.int (9 : Int32)), (.ref b93), (.int (4 : Int32)), (.ref b30)])) rfl rfl (hb hby own_d_prog_43_method_1_code_187) _) ?_
  show Go p.tables e below P (T230.setTop (mkF m 188 #[.val (.ref p0), .val (.ref p1), .val (.ref p2), .val (.ref p3), .val (.ref b93), .val (.int (4 : Int32)), .val (.int (8 : Int32))] [(.double (0 : UInt64)), (.int (4 : Int32)), (.ref b30)]))
  have c234 := (V215'.other W227 (Ne.symm (Nat.ne_of_lt (Nat.lt_of_lt_of_le c37.lt (Nat.le_of_eq g30.symm)))))
  obtain ⟨T233, h233, X233, e233, W233, V233, st233⟩ := own_stD X230 hx hZ e230 c234 (j := (4 : Int32)) (i := 4) (by decide) (by decide) (Nat.le_of_ble_eq_true rfl) (g := (mkF m 188 #[.val (.ref p0), .val (.ref p1), .val (.ref p2), .val (.ref p3), .val (.ref b93), .val (.int (4 : Int32)), .val (.int (8 : Int32))] [(.double (0 : UInt64)), (.int (4 : Int32)), (.ref b30)])) rfl rfl (hb hby own_d_prog_43_method_1_code_188)
  refine Go.st st233 ?_
  have K233 : Keep h0 h233 [p0] := K227.wr W233 (Or.inr sz_b30)
  have O233 := O227.wr W233 g_b30
  have N233 := Fr.snoc X233 N227 g_b30
  have V233' : Arv Z h233 b30 k30 .double (5 : Int32) [(.double (0 : UInt64)), (.double (0 : UInt64)), (.double (0 : UInt64)), (.double (0 : UInt64)), (.double (0 : UInt64))] (.double (0 : UInt64)) := V233
  show Go p.tables e below P (T233.setTop (mkF m 189 #[.val (.ref p0), .val (.ref p1), .val (.ref p2), .val (.ref p3), .val (.ref b93), .val (.int (4 : Int32)), .val (.int (8 : Int32))] []))
  refine Go.st (fun _ => XS.iinc X233.here hx rfl (hb hby own_d_prog_43_method_1_code_189) rfl (l' := #[.val (.ref p0), .val (.ref p1), .val (.ref p2), .val (.ref p3), .val (.ref b93), .val (.int (5 : Int32)), .val (.int (8 : Int32))]) rfl) ?_
  show Go p.tables e below P (T233.setTop (mkF m 192 #[.val (.ref p0), .val (.ref p1), .val (.ref p2), .val (.ref p3), .val (.ref b93), .val (.int (5 : Int32)), .val (.int (8 : Int32))] []))
  refine Go.st (fun _ => XS.goto X233.here hx rfl (pc0 := 192) (pc' := 143) rfl (hb hby own_d_prog_43_method_1_code_192) (by decide) (by decide)) ?_
  show Go p.tables e below P (T233.setTop (mkF m 143 #[.val (.ref p0), .val (.ref p1), .val (.ref p2), .val (.ref p3), .val (.ref b93), .val (.int (5 : Int32)), .val (.int (8 : Int32))] []))
  refine Go.st (fun _ => XS.iload X233.here hx rfl (hb hby own_d_prog_43_method_1_code_143) rfl) ?_
  show Go p.tables e below P (T233.setTop (mkF m 145 #[.val (.ref p0), .val (.ref p1), .val (.ref p2), .val (.ref p3), .val (.ref b93), .val (.int (5 : Int32)), .val (.int (8 : Int32))] [(.int (5 : Int32))]))
  refine Go.st (fun _ => XS.aloadN X233.here hx rfl (hb hby own_d_prog_43_method_1_code_145) rfl rfl) ?_
  show Go p.tables e below P (T233.setTop (mkF m 146 #[.val (.ref p0), .val (.ref p1), .val (.ref p2), .val (.ref p3), .val (.ref b93), .val (.int (5 : Int32)), .val (.int (8 : Int32))] [(.ref p0), (.int (5 : Int32))]))
  have c235 := ((c217.other W227 (Or.inl (Nat.ne_of_lt (Nat.lt_of_lt_of_le c19.lt (Nat.le_of_eq g18.symm))))).other W233 (Or.inl (Nat.ne_of_lt (Nat.lt_of_lt_of_le c31.lt (Nat.le_of_eq g30.symm)))))
  obtain ⟨T236, X236, e236, st236⟩ := getF X233 hx hZ hown (host := "") (Or.inl (hw _ (List.mem_of_getElem? (i := 60) rfl))) Via.refl e233 c235 (g := (mkF m 146 #[.val (.ref p0), .val (.ref p1), .val (.ref p2), .val (.ref p3), .val (.ref b93), .val (.int (5 : Int32)), .val (.int (8 : Int32))] [(.ref p0), (.int (5 : Int32))])) rfl rfl (hb hby own_d_prog_43_method_1_code_146)
  refine Go.st st236 ?_
  show Go p.tables e below P (T236.setTop (mkF m 149 #[.val (.ref p0), .val (.ref p1), .val (.ref p2), .val (.ref p3), .val (.ref b93), .val (.int (5 : Int32)), .val (.int (8 : Int32))] [(.int (5 : Int32)), (.int (5 : Int32))]))
  refine Go.st (fun _ => XS.icmpYes X236.here hx rfl (pc0 := 149) (pc' := 195) rfl (hb hby own_d_prog_43_method_1_code_149) rfl (flt (by decide)).2.1 (by decide) (by decide)) ?_
  show Go p.tables e below P (T236.setTop (mkF m 195 #[.val (.ref p0), .val (.ref p1), .val (.ref p2), .val (.ref p3), .val (.ref b93), .val (.int (5 : Int32)), .val (.int (8 : Int32))] []))
  obtain ⟨fs, hr, hrun, hended, hW, hsame⟩ := X236.leave (v := none) (fun _ => rfl)
  refine ⟨_, ?_, hPend _ _ hrun hended ⟨_, _, rfl, ?_, ⟨_, rfl⟩, hW, hsame.mono (by decide) (by decide)⟩⟩
  · exact X236.returnOut hx Bd.returns (hb hby own_d_prog_43_method_1_code_195) hr
  · show Q_rm_min Z _ _ _ _ _ _ _ _ _ _ _ _ _ _ _ _ _ _ h0 n0 _ T236.heap _
    rw [e236]
    have c237 := (((((((((((((((((((((c94.ext E93).wr W109).wr W112).wr W117).wr W120).wr W125).wr W128).wr W133).wr W136).wr W141).wr W144).wr W155).wr W161).wr W173).wr W179).wr W191).wr W197).wr W209).wr W215).wr W227).wr W233)
    have c238 := ((((((((((((((((((((((((((((((((F15.ext E18).other W27 (Or.inr (slot_ne (Or.inr (hw _ (List.mem_of_getElem? (i := 75) rfl))) (Or.inr (hw _ (List.mem_of_getElem? (i := 77) rfl))) (by decide) (t := (.array .int)) (t' := (.array .double)) (by decide) (by decide)))).ext E30).other W40 (Or.inr (slot_ne (Or.inr (hw _ (List.mem_of_getElem? (i := 75) rfl))) (Or.inr (hw _ (List.mem_of_getElem? (i := 79) rfl))) (by decide) (t := (.array .int)) (t' := (.array .double)) (by decide) (by decide)))).ext E43).other W54 (Or.inr (slot_ne (Or.inr (hw _ (List.mem_of_getElem? (i := 75) rfl))) (Or.inr (hw _ (List.mem_of_getElem? (i := 82) rfl))) (by decide) (t := (.array .int)) (t' := (.array .boolean)) (by decide) (by decide)))).other W60 (Or.inr (slot_ne (Or.inr (hw _ (List.mem_of_getElem? (i := 75) rfl))) (Or.inr (hw _ (List.mem_of_getElem? (i := 89) rfl))) (by decide) (t := (.array .int)) (t' := .int) (by decide) (by decide)))).ext E62).other W74 (Or.inr (slot_ne (Or.inr (hw _ (List.mem_of_getElem? (i := 75) rfl))) (Or.inr (hw _ (List.mem_of_getElem? (i := 91) rfl))) (by decide) (t := (.array .int)) (t' := (.array .double)) (by decide) (by decide)))).ext E77).other W90 (Or.inr (slot_ne (Or.inr (hw _ (List.mem_of_getElem? (i := 75) rfl))) (Or.inr (hw _ (List.mem_of_getElem? (i := 93) rfl))) (by decide) (t := (.array .int)) (t' := (.array .double)) (by decide) (by decide)))).ext E93).other W109 (Or.inl (Nat.ne_of_lt (Nat.lt_of_lt_of_le c94.lt (Nat.le_of_eq g93.symm))))).other W112 (Or.inl (Nat.ne_of_lt (Nat.lt_of_lt_of_le c94.lt (Nat.le_of_eq g93.symm))))).other W117 (Or.inl (Nat.ne_of_lt (Nat.lt_of_lt_of_le c94.lt (Nat.le_of_eq g93.symm))))).other W120 (Or.inl (Nat.ne_of_lt (Nat.lt_of_lt_of_le c94.lt (Nat.le_of_eq g93.symm))))).other W125 (Or.inl (Nat.ne_of_lt (Nat.lt_of_lt_of_le c94.lt (Nat.le_of_eq g93.symm))))).other W128 (Or.inl (Nat.ne_of_lt (Nat.lt_of_lt_of_le c94.lt (Nat.le_of_eq g93.symm))))).other W133 (Or.inl (Nat.ne_of_lt (Nat.lt_of_lt_of_le c94.lt (Nat.le_of_eq g93.symm))))).other W136 (Or.inl (Nat.ne_of_lt (Nat.lt_of_lt_of_le c94.lt (Nat.le_of_eq g93.symm))))).other W141 (Or.inl (Nat.ne_of_lt (Nat.lt_of_lt_of_le c94.lt (Nat.le_of_eq g93.symm))))).other W144 (Or.inl (Nat.ne_of_lt (Nat.lt_of_lt_of_le c94.lt (Nat.le_of_eq g93.symm))))).other W155 (Or.inl (Nat.ne_of_lt (Nat.lt_of_lt_of_le c19.lt (Nat.le_of_eq g18.symm))))).other W161 (Or.inl (Nat.ne_of_lt (Nat.lt_of_lt_of_le c31.lt (Nat.le_of_eq g30.symm))))).other W173 (Or.inl (Nat.ne_of_lt (Nat.lt_of_lt_of_le c19.lt (Nat.le_of_eq g18.symm))))).other W179 (Or.inl (Nat.ne_of_lt (Nat.lt_of_lt_of_le c31.lt (Nat.le_of_eq g30.symm))))).other W191 (Or.inl (Nat.ne_of_lt (Nat.lt_of_lt_of_le c19.lt (Nat.le_of_eq g18.symm))))).other W197 (Or.inl (Nat.ne_of_lt (Nat.lt_of_lt_of_le c31.lt (Nat.le_of_eq g30.symm))))).other W209 (Or.inl (Nat.ne_of_lt (Nat.lt_of_lt_of_le c19.lt (Nat.le_of_eq g18.symm))))).other W215 (Or.inl (Nat.ne_of_lt (Nat.lt_of_lt_of_le c31.lt (Nat.le_of_eq g30.symm))))).other W227 (Or.inl (Nat.ne_of_lt (Nat.lt_of_lt_of_le c19.lt (Nat.le_of_eq g18.symm))))).other W233 (Or.inl (Nat.ne_of_lt (Nat.lt_of_lt_of_le c31.lt (Nat.le_of_eq g30.symm)))))
    have c239 := (((((((((((((((((((((((c75.ext E77).other W90 (Or.inr (slot_ne (Or.inr (hw _ (List.mem_of_getElem? (i := 89) rfl))) (Or.inr (hw _ (List.mem_of_getElem? (i := 93) rfl))) (by decide) (t := .int) (t' := (.array .double)) (by decide) (by decide)))).ext E93).other W109 (Or.inl (Nat.ne_of_lt (Nat.lt_of_lt_of_le c94.lt (Nat.le_of_eq g93.symm))))).other W112 (Or.inl (Nat.ne_of_lt (Nat.lt_of_lt_of_le c94.lt (Nat.le_of_eq g93.symm))))).other W117 (Or.inl (Nat.ne_of_lt (Nat.lt_of_lt_of_le c94.lt (Nat.le_of_eq g93.symm))))).other W120 (Or.inl (Nat.ne_of_lt (Nat.lt_of_lt_of_le c94.lt (Nat.le_of_eq g93.symm))))).other W125 (Or.inl (Nat.ne_of_lt (Nat.lt_of_lt_of_le c94.lt (Nat.le_of_eq g93.symm))))).other W128 (Or.inl (Nat.ne_of_lt (Nat.lt_of_lt_of_le c94.lt (Nat.le_of_eq g93.symm))))).other W133 (Or.inl (Nat.ne_of_lt (Nat.lt_of_lt_of_le c94.lt (Nat.le_of_eq g93.symm))))).other W136 (Or.inl (Nat.ne_of_lt (Nat.lt_of_lt_of_le c94.lt (Nat.le_of_eq g93.symm))))).other W141 (Or.inl (Nat.ne_of_lt (Nat.lt_of_lt_of_le c94.lt (Nat.le_of_eq g93.symm))))).other W144 (Or.inl (Nat.ne_of_lt (Nat.lt_of_lt_of_le c94.lt (Nat.le_of_eq g93.symm))))).other W155 (Or.inl (Nat.ne_of_lt (Nat.lt_of_lt_of_le c19.lt (Nat.le_of_eq g18.symm))))).other W161 (Or.inl (Nat.ne_of_lt (Nat.lt_of_lt_of_le c31.lt (Nat.le_of_eq g30.symm))))).other W173 (Or.inl (Nat.ne_of_lt (Nat.lt_of_lt_of_le c19.lt (Nat.le_of_eq g18.symm))))).other W179 (Or.inl (Nat.ne_of_lt (Nat.lt_of_lt_of_le c31.lt (Nat.le_of_eq g30.symm))))).other W191 (Or.inl (Nat.ne_of_lt (Nat.lt_of_lt_of_le c19.lt (Nat.le_of_eq g18.symm))))).other W197 (Or.inl (Nat.ne_of_lt (Nat.lt_of_lt_of_le c31.lt (Nat.le_of_eq g30.symm))))).other W209 (Or.inl (Nat.ne_of_lt (Nat.lt_of_lt_of_le c19.lt (Nat.le_of_eq g18.symm))))).other W215 (Or.inl (Nat.ne_of_lt (Nat.lt_of_lt_of_le c31.lt (Nat.le_of_eq g30.symm))))).other W227 (Or.inl (Nat.ne_of_lt (Nat.lt_of_lt_of_le c19.lt (Nat.le_of_eq g18.symm))))).other W233 (Or.inl (Nat.ne_of_lt (Nat.lt_of_lt_of_le c31.lt (Nat.le_of_eq g30.symm)))))
    exact ⟨rfl, N233, K233, c237, c235, c238, c239⟩
def own_max (a b : Int32) : Int32 := if a < b then b else a
def own_and (b c : Int32) : Int32 := if b = 0 then 0 else if c = 0 then 0 else 1
theorem own_an0 {b c : Int32} (h : b = 0) : 0 = own_and b c := by simp [own_and, h]
theorem own_an1 {b c : Int32} (h : ¬ b = 0) (g : c = 0) : 0 = own_and b c := by simp [own_and, h, g]
theorem own_an2 {b c : Int32} (h : ¬ b = 0) (g : ¬ c = 0) : 1 = own_and b c := by simp [own_and, h, g]
theorem own_and01 (b c : Int32) : own_and b c = 0 ∨ own_and b c = 1 := by unfold own_and; split <;> (try split) <;> simp
def own_p2 (q1 q2 : Int32) : Int32 := if q1 = q2 - 1 then 1 else 0
def own_p3 (q1 q2 q3 : Int32) : Int32 := if q2 = q3 - 1 then 2 else if q1 = q3 - 1 then 1 else 0
def own_p4 (q1 q2 q3 q4 : Int32) : Int32 := if q3 = q4 - 1 then 3 else if q2 = q4 - 1 then 2 else if q1 = q4 - 1 then 1 else 0
theorem own_ef_rm_max (m : MethodId) (x0 : Int32) (x1 : Int32) : entryFrame m #[(.int x0), (.int x1)] 2 = mkF m 0 #[.val (.int x0), .val (.int x1)] [] := by first | (simp [entryFrame, mkF, argsToLocals, Value.category]; done) | rfl
theorem own_d_jdk_29_method_65_code_0 : decode jdk_29_method_65_code 0 = .ok (.iload_n 0, 1) := by decide +kernel
theorem own_d_jdk_29_method_65_code_1 : decode jdk_29_method_65_code 1 = .ok (.iload_n 1, 1) := by decide +kernel
theorem own_d_jdk_29_method_65_code_2 : decode jdk_29_method_65_code 2 = .ok (.if_icmp .lt 7, 3) := by decide +kernel
theorem own_d_jdk_29_method_65_code_9 : decode jdk_29_method_65_code 9 = .ok (.iload_n 1, 1) := by decide +kernel
theorem own_d_jdk_29_method_65_code_10 : decode jdk_29_method_65_code 10 = .ok (.ireturn, 1) := by decide +kernel
theorem own_d_jdk_29_method_65_code_5 : decode jdk_29_method_65_code 5 = .ok (.iload_n 0, 1) := by decide +kernel
theorem own_d_jdk_29_method_65_code_6 : decode jdk_29_method_65_code 6 = .ok (.goto 4, 3) := by decide +kernel
def Q_rm_max (Z : State) (w_EM : Addr) (p0 : Int32) (p1 : Int32) (h0 : Heap) (n0 : Nat) (v : Option Value) (h : Heap) (L : List Loc) : Prop := v = some (.int (own_max p0 p1)) ∧ Fr n0 L ∧ h = h0
set_option maxRecDepth 65536 in
set_option maxHeartbeats 40000000 in
theorem rm_max (l : Launch) (Z : State) (a0 : Array Value) (hw : ∀ d ∈ tables_1, d.before a0 Z = true) (ws : List Jvm.Cond) (w_EM : Addr) (S_EM : Sta Z Z.heap "java/util/ImmutableCollections" "EMPTY_MAP" "Ljava/util/ImmutableCollections$MapN;" (.ref w_EM)) (X_EM : Exa Z Z.heap w_EM "java/util/ImmutableCollections$MapN") (p0 : Int32) (p1 : Int32) (h0 : Heap) (n0 : Nat) (X00 : Old Z n0 h0)  :
    MetFree l (⟨"java/lang/Math", "max", "(II)I"⟩ : MethodName) (head1 (Jvm.Cond.code (⟨"java/lang/Math", "max", "(II)I"⟩ : MethodName) jdk_29_method_65_code 2 (some .int) :: ws) ({ frames := 0, cells := 0, slots := 0, locals := 0 } : Room)) (fun a U => a = #[(.int p0), (.int p1)] ∧ Z.Warmed39 U.vm ∧ U.heap = h0) (fun _ _ _ _ _ => True) (fun _ U o U' => ∃ v L, o = .returned v ∧ Q_rm_max Z w_EM p0 p1 h0 n0 v U'.heap L ∧ FrameEnd U o U' L ({ frames := 0, cells := 0, slots := 0, locals := 0 } : Room).cells ({ frames := 0, cells := 0, slots := 0, locals := 0 } : Room).slots) := by
  refine MetFree.of_bodySF (Jvm.Free.JP.mathPlain rfl (by decide +kernel)) hisR ?_
  intro p e s m args below meth c s₁ Bd hml0 hP hK
  obtain ⟨rfl, hZ, hh⟩ := hP
  have hx := Bd.exec
  have hby := Bd.bytes
  have hml : c.maxLocals = 2 := hml0
  have hown : s.vm.findClass "java/lang/Math" = some m.cls := findClass_of_methodNamed Bd.named
  have hnm := (name_of_methodNamed Bd.named Bd.method).1
  have X0 : Stand p l e ({ frames := 0, cells := 0, slots := 0, locals := 0 } : Room) s m #[(.int p0), (.int p1)] below meth c s₁ [] 0 0 := Stand.of_body Bd
  have e0 : s₁.heap = h0 := by rw [← hh, Bd.state]; rfl
  have N0 := Fr.nil n0
  refine Go.start fun P hPend => ?_
  refine Go.st (fun _ k => castTop (own_ef_rm_max m p0 p1) k) ?_
  show Go p.tables e below P (s₁.setTop (mkF m 0 #[.val (.int p0), .val (.int p1)] []))
  refine Go.st (fun _ => XS.iloadN X0.here hx rfl (hb hby own_d_jdk_29_method_65_code_0) rfl) ?_
  show Go p.tables e below P (s₁.setTop (mkF m 1 #[.val (.int p0), .val (.int p1)] [(.int p0)]))
  refine Go.st (fun _ => XS.iloadN X0.here hx rfl (hb hby own_d_jdk_29_method_65_code_1) rfl) ?_
  show Go p.tables e below P (s₁.setTop (mkF m 2 #[.val (.int p0), .val (.int p1)] [(.int p1), (.int p0)]))
  by_cases hc1 : p0 < p1
  · skip
    refine Go.st (fun _ => XS.icmpYes X0.here hx rfl (pc0 := 2) (pc' := 9) rfl (hb hby own_d_jdk_29_method_65_code_2) rfl (tlt hc1).1 (by decide) (by decide)) ?_
    show Go p.tables e below P (s₁.setTop (mkF m 9 #[.val (.int p0), .val (.int p1)] []))
    refine Go.st (fun _ => XS.iloadN X0.here hx rfl (hb hby own_d_jdk_29_method_65_code_9) rfl) ?_
    show Go p.tables e below P (s₁.setTop (mkF m 10 #[.val (.int p0), .val (.int p1)] [(.int p1)]))
    obtain ⟨fs, hr, hrun, hended, hW, hsame⟩ := X0.leave (v := some (.int p1)) (fun h => by rw [Bd.returns] at h; cases h)
    refine ⟨_, ?_, hPend _ _ hrun hended ⟨_, _, rfl, ?_, ⟨_, rfl⟩, hW, hsame.mono (by decide) (by decide)⟩⟩
    · exact retOut X0 hx (t := .int) Bd.returns rfl (Or.inl ⟨rfl, Or.inl rfl, _, rfl⟩) (hb hby own_d_jdk_29_method_65_code_10) hr
    · show Q_rm_max Z _ _ _ h0 n0 _ s₁.heap _
      rw [e0]
      exact ⟨(by simp [own_max, *]), N0, rfl⟩
  · skip
    refine Go.st (fun _ => XS.icmpNo X0.here hx rfl (hb hby own_d_jdk_29_method_65_code_2) rfl (flt hc1).1) ?_
    show Go p.tables e below P (s₁.setTop (mkF m 5 #[.val (.int p0), .val (.int p1)] []))
    refine Go.st (fun _ => XS.iloadN X0.here hx rfl (hb hby own_d_jdk_29_method_65_code_5) rfl) ?_
    show Go p.tables e below P (s₁.setTop (mkF m 6 #[.val (.int p0), .val (.int p1)] [(.int p0)]))
    refine Go.st (fun _ => XS.goto X0.here hx rfl (pc0 := 6) (pc' := 10) rfl (hb hby own_d_jdk_29_method_65_code_6) (by decide) (by decide)) ?_
    show Go p.tables e below P (s₁.setTop (mkF m 10 #[.val (.int p0), .val (.int p1)] [(.int p0)]))
    obtain ⟨fs, hr, hrun, hended, hW, hsame⟩ := X0.leave (v := some (.int p0)) (fun h => by rw [Bd.returns] at h; cases h)
    refine ⟨_, ?_, hPend _ _ hrun hended ⟨_, _, rfl, ?_, ⟨_, rfl⟩, hW, hsame.mono (by decide) (by decide)⟩⟩
    · exact retOut X0 hx (t := .int) Bd.returns rfl (Or.inl ⟨rfl, Or.inl rfl, _, rfl⟩) (hb hby own_d_jdk_29_method_65_code_10) hr
    · show Q_rm_max Z _ _ _ h0 n0 _ s₁.heap _
      rw [e0]
      exact ⟨(by simp [own_max, *]), N0, rfl⟩
theorem own_ef_rm_par1 (m : MethodId) (x0 : Addr) (x1 : Int32) : entryFrame m #[(.ref x0), (.int x1)] 3 = mkF m 0 #[.val (.ref x0), .val (.int x1), .unset] [] := by first | (simp [entryFrame, mkF, argsToLocals, Value.category]; done) | rfl
theorem own_pn3 : plainName "com/example/parametree/parametree/MeanTreeAttachPinLaw" = true := by first | (simp [plainName, overriddenIn]; done) | decide +kernel
theorem own_d_method_2_code_0 : decode method_2_code 0 = .ok (.aload_n 0, 1) := by decide +kernel
theorem own_d_method_2_code_1 : decode method_2_code 1 = .ok (.iload_n 1, 1) := by decide +kernel
theorem own_d_method_2_code_2 : decode method_2_code 2 = .ok (.iaload, 1) := by decide +kernel
theorem own_d_method_2_code_3 : decode method_2_code 3 = .ok (.iconst 1, 1) := by decide +kernel
theorem own_d_method_2_code_4 : decode method_2_code 4 = .ok (.isub, 1) := by decide +kernel
theorem own_d_method_2_code_5 : decode method_2_code 5 = .ok (.istore_n 2, 1) := by decide +kernel
theorem own_d_method_2_code_6 : decode method_2_code 6 = .ok (.iload_n 1, 1) := by decide +kernel
theorem own_d_method_2_code_7 : decode method_2_code 7 = .ok (.iconst 3, 1) := by decide +kernel
theorem own_d_method_2_code_8 : decode method_2_code 8 = .ok (.if_icmp .le 12, 3) := by decide +kernel
theorem own_d_method_2_code_20 : decode method_2_code 20 = .ok (.iload_n 1, 1) := by decide +kernel
theorem own_d_method_2_code_21 : decode method_2_code 21 = .ok (.iconst 2, 1) := by decide +kernel
theorem own_d_method_2_code_22 : decode method_2_code 22 = .ok (.if_icmp .le 12, 3) := by decide +kernel
theorem own_d_method_2_code_34 : decode method_2_code 34 = .ok (.iload_n 1, 1) := by decide +kernel
theorem own_d_method_2_code_35 : decode method_2_code 35 = .ok (.iconst 1, 1) := by decide +kernel
theorem own_d_method_2_code_36 : decode method_2_code 36 = .ok (.if_icmp .le 12, 3) := by decide +kernel
theorem own_d_method_2_code_48 : decode method_2_code 48 = .ok (.iconst 0, 1) := by decide +kernel
theorem own_d_method_2_code_49 : decode method_2_code 49 = .ok (.ireturn, 1) := by decide +kernel
def Q_rm_par1 (Z : State) (w_EM : Addr) (p0 : Addr) (ka : ClassId) (q0 : Int32) (q1 : Int32) (q2 : Int32) (q3 : Int32) (q4 : Int32) (h0 : Heap) (n0 : Nat) (v : Option Value) (h : Heap) (L : List Loc) : Prop := v = some (.int (0 : Int32)) ∧ Fr n0 L ∧ h = h0
set_option maxRecDepth 65536 in
set_option maxHeartbeats 40000000 in
theorem rm_par1 (l : Launch) (Z : State) (a0 : Array Value) (hw : ∀ d ∈ tables_1, d.before a0 Z = true) (ws : List Jvm.Cond) (w_EM : Addr) (S_EM : Sta Z Z.heap "java/util/ImmutableCollections" "EMPTY_MAP" "Ljava/util/ImmutableCollections$MapN;" (.ref w_EM)) (X_EM : Exa Z Z.heap w_EM "java/util/ImmutableCollections$MapN") (p0 : Addr) (ka : ClassId) (q0 : Int32) (q1 : Int32) (q2 : Int32) (q3 : Int32) (q4 : Int32) (h0 : Heap) (n0 : Nat) (X00 : Old Z n0 h0) (hp0 : Arv Z h0 p0 ka .int (5 : Int32) [(.int q0), (.int q1), (.int q2), (.int q3), (.int q4)] (.int (0 : Int32))) :
    MetFree l (⟨"com/example/parametree/parametree/MeanTreeAttachPinLaw", "parentOf", "([II)I"⟩ : MethodName) (head1 (Jvm.Cond.code (⟨"com/example/parametree/parametree/MeanTreeAttachPinLaw", "parentOf", "([II)I"⟩ : MethodName) method_2_code 3 (some .int) :: ws) ({ frames := 0, cells := 0, slots := 0, locals := 0 } : Room)) (fun a U => a = #[(.ref p0), (.int (1 : Int32))] ∧ Z.Warmed39 U.vm ∧ U.heap = h0) (fun _ _ _ _ _ => True) (fun _ U o U' => ∃ v L, o = .returned v ∧ Q_rm_par1 Z w_EM p0 ka q0 q1 q2 q3 q4 h0 n0 v U'.heap L ∧ FrameEnd U o U' L ({ frames := 0, cells := 0, slots := 0, locals := 0 } : Room).cells ({ frames := 0, cells := 0, slots := 0, locals := 0 } : Room).slots) := by
  refine MetFree.of_bodySF (plainFor_of_name own_pn3) hisR ?_
  intro p e s m args below meth c s₁ Bd hml0 hP hK
  obtain ⟨rfl, hZ, hh⟩ := hP
  have hx := Bd.exec
  have hby := Bd.bytes
  have hml : c.maxLocals = 3 := hml0
  have hown : s.vm.findClass "com/example/parametree/parametree/MeanTreeAttachPinLaw" = some m.cls := findClass_of_methodNamed Bd.named
  have hnm := (name_of_methodNamed Bd.named Bd.method).1
  have X0 : Stand p l e ({ frames := 0, cells := 0, slots := 0, locals := 0 } : Room) s m #[(.ref p0), (.int (1 : Int32))] below meth c s₁ [] 0 0 := Stand.of_body Bd
  have e0 : s₁.heap = h0 := by rw [← hh, Bd.state]; rfl
  have N0 := Fr.nil n0
  refine Go.start fun P hPend => ?_
  refine Go.st (fun _ k => castTop (own_ef_rm_par1 m p0 ((1 : Int32))) k) ?_
  show Go p.tables e below P (s₁.setTop (mkF m 0 #[.val (.ref p0), .val (.int (1 : Int32)), .unset] []))
  refine Go.st (fun _ => XS.aloadN X0.here hx rfl (hb hby own_d_method_2_code_0) rfl rfl) ?_
  show Go p.tables e below P (s₁.setTop (mkF m 1 #[.val (.ref p0), .val (.int (1 : Int32)), .unset] [(.ref p0)]))
  refine Go.st (fun _ => XS.iloadN X0.here hx rfl (hb hby own_d_method_2_code_1) rfl) ?_
  show Go p.tables e below P (s₁.setTop (mkF m 2 #[.val (.ref p0), .val (.int (1 : Int32)), .unset] [(.int (1 : Int32)), (.ref p0)]))
  refine Go.st (fun _ => own_ldI X0 hx hZ e0 hp0 (j := (1 : Int32)) (i := 1) (v := (.int q1)) (by decide) (by decide) rfl (g := (mkF m 2 #[.val (.ref p0), .val (.int (1 : Int32)), .unset] [(.int (1 : Int32)), (.ref p0)])) rfl rfl (hb hby own_d_method_2_code_2) _) ?_
  show Go p.tables e below P (s₁.setTop (mkF m 3 #[.val (.ref p0), .val (.int (1 : Int32)), .unset] [(.int q1)]))
  refine Go.st (fun _ => XS.iconst X0.here hx rfl (hb hby own_d_method_2_code_3)) ?_
  show Go p.tables e below P (s₁.setTop (mkF m 4 #[.val (.ref p0), .val (.int (1 : Int32)), .unset] [(.int (1 : Int32)), (.int q1)]))
  refine Go.st (fun _ => XS.isub X0.here hx rfl (hb hby own_d_method_2_code_4) rfl) ?_
  show Go p.tables e below P (s₁.setTop (mkF m 5 #[.val (.ref p0), .val (.int (1 : Int32)), .unset] [(.int (q1 - (1 : Int32)))]))
  refine Go.st (fun _ => XS.istoreN X0.here hx rfl (hb hby own_d_method_2_code_5) rfl (l' := #[.val (.ref p0), .val (.int (1 : Int32)), .val (.int (q1 - (1 : Int32)))]) rfl) ?_
  show Go p.tables e below P (s₁.setTop (mkF m 6 #[.val (.ref p0), .val (.int (1 : Int32)), .val (.int (q1 - (1 : Int32)))] []))
  refine Go.st (fun _ => XS.iloadN X0.here hx rfl (hb hby own_d_method_2_code_6) rfl) ?_
  show Go p.tables e below P (s₁.setTop (mkF m 7 #[.val (.ref p0), .val (.int (1 : Int32)), .val (.int (q1 - (1 : Int32)))] [(.int (1 : Int32))]))
  refine Go.st (fun _ => XS.iconst X0.here hx rfl (hb hby own_d_method_2_code_7)) ?_
  show Go p.tables e below P (s₁.setTop (mkF m 8 #[.val (.ref p0), .val (.int (1 : Int32)), .val (.int (q1 - (1 : Int32)))] [(.int (3 : Int32)), (.int (1 : Int32))]))
  refine Go.st (fun _ => XS.icmpYes X0.here hx rfl (pc0 := 8) (pc' := 20) rfl (hb hby own_d_method_2_code_8) rfl (flt (by decide)).2.2.2 (by decide) (by decide)) ?_
  show Go p.tables e below P (s₁.setTop (mkF m 20 #[.val (.ref p0), .val (.int (1 : Int32)), .val (.int (q1 - (1 : Int32)))] []))
  refine Go.st (fun _ => XS.iloadN X0.here hx rfl (hb hby own_d_method_2_code_20) rfl) ?_
  show Go p.tables e below P (s₁.setTop (mkF m 21 #[.val (.ref p0), .val (.int (1 : Int32)), .val (.int (q1 - (1 : Int32)))] [(.int (1 : Int32))]))
  refine Go.st (fun _ => XS.iconst X0.here hx rfl (hb hby own_d_method_2_code_21)) ?_
  show Go p.tables e below P (s₁.setTop (mkF m 22 #[.val (.ref p0), .val (.int (1 : Int32)), .val (.int (q1 - (1 : Int32)))] [(.int (2 : Int32)), (.int (1 : Int32))]))
  refine Go.st (fun _ => XS.icmpYes X0.here hx rfl (pc0 := 22) (pc' := 34) rfl (hb hby own_d_method_2_code_22) rfl (flt (by decide)).2.2.2 (by decide) (by decide)) ?_
  show Go p.tables e below P (s₁.setTop (mkF m 34 #[.val (.ref p0), .val (.int (1 : Int32)), .val (.int (q1 - (1 : Int32)))] []))
  refine Go.st (fun _ => XS.iloadN X0.here hx rfl (hb hby own_d_method_2_code_34) rfl) ?_
  show Go p.tables e below P (s₁.setTop (mkF m 35 #[.val (.ref p0), .val (.int (1 : Int32)), .val (.int (q1 - (1 : Int32)))] [(.int (1 : Int32))]))
  refine Go.st (fun _ => XS.iconst X0.here hx rfl (hb hby own_d_method_2_code_35)) ?_
  show Go p.tables e below P (s₁.setTop (mkF m 36 #[.val (.ref p0), .val (.int (1 : Int32)), .val (.int (q1 - (1 : Int32)))] [(.int (1 : Int32)), (.int (1 : Int32))]))
  refine Go.st (fun _ => XS.icmpYes X0.here hx rfl (pc0 := 36) (pc' := 48) rfl (hb hby own_d_method_2_code_36) rfl (flt (by decide)).2.2.2 (by decide) (by decide)) ?_
  show Go p.tables e below P (s₁.setTop (mkF m 48 #[.val (.ref p0), .val (.int (1 : Int32)), .val (.int (q1 - (1 : Int32)))] []))
  refine Go.st (fun _ => XS.iconst X0.here hx rfl (hb hby own_d_method_2_code_48)) ?_
  show Go p.tables e below P (s₁.setTop (mkF m 49 #[.val (.ref p0), .val (.int (1 : Int32)), .val (.int (q1 - (1 : Int32)))] [(.int (0 : Int32))]))
  obtain ⟨fs, hr, hrun, hended, hW, hsame⟩ := X0.leave (v := some (.int (0 : Int32))) (fun h => by rw [Bd.returns] at h; cases h)
  refine ⟨_, ?_, hPend _ _ hrun hended ⟨_, _, rfl, ?_, ⟨_, rfl⟩, hW, hsame.mono (by decide) (by decide)⟩⟩
  · exact retOut X0 hx (t := .int) Bd.returns rfl (Or.inl ⟨rfl, Or.inl rfl, _, rfl⟩) (hb hby own_d_method_2_code_49) hr
  · show Q_rm_par1 Z _ _ _ _ _ _ _ _ h0 n0 _ s₁.heap _
    rw [e0]
    exact ⟨(by simp [own_p2, own_p3, own_p4, *]), N0, rfl⟩
theorem own_ef_rm_par2 (m : MethodId) (x0 : Addr) (x1 : Int32) : entryFrame m #[(.ref x0), (.int x1)] 3 = mkF m 0 #[.val (.ref x0), .val (.int x1), .unset] [] := by first | (simp [entryFrame, mkF, argsToLocals, Value.category]; done) | rfl
theorem own_d_method_2_code_39 : decode method_2_code 39 = .ok (.aload_n 0, 1) := by decide +kernel
theorem own_d_method_2_code_40 : decode method_2_code 40 = .ok (.iconst 1, 1) := by decide +kernel
theorem own_d_method_2_code_41 : decode method_2_code 41 = .ok (.iaload, 1) := by decide +kernel
theorem own_d_method_2_code_42 : decode method_2_code 42 = .ok (.iload_n 2, 1) := by decide +kernel
theorem own_d_method_2_code_43 : decode method_2_code 43 = .ok (.if_icmp .ne 5, 3) := by decide +kernel
theorem own_d_method_2_code_46 : decode method_2_code 46 = .ok (.iconst 1, 1) := by decide +kernel
theorem own_d_method_2_code_47 : decode method_2_code 47 = .ok (.ireturn, 1) := by decide +kernel
def Q_rm_par2 (Z : State) (w_EM : Addr) (p0 : Addr) (ka : ClassId) (q0 : Int32) (q1 : Int32) (q2 : Int32) (q3 : Int32) (q4 : Int32) (h0 : Heap) (n0 : Nat) (v : Option Value) (h : Heap) (L : List Loc) : Prop := v = some (.int (own_p2 q1 q2)) ∧ Fr n0 L ∧ h = h0
set_option maxRecDepth 65536 in
set_option maxHeartbeats 40000000 in
theorem rm_par2 (l : Launch) (Z : State) (a0 : Array Value) (hw : ∀ d ∈ tables_1, d.before a0 Z = true) (ws : List Jvm.Cond) (w_EM : Addr) (S_EM : Sta Z Z.heap "java/util/ImmutableCollections" "EMPTY_MAP" "Ljava/util/ImmutableCollections$MapN;" (.ref w_EM)) (X_EM : Exa Z Z.heap w_EM "java/util/ImmutableCollections$MapN") (p0 : Addr) (ka : ClassId) (q0 : Int32) (q1 : Int32) (q2 : Int32) (q3 : Int32) (q4 : Int32) (h0 : Heap) (n0 : Nat) (X00 : Old Z n0 h0) (hp0 : Arv Z h0 p0 ka .int (5 : Int32) [(.int q0), (.int q1), (.int q2), (.int q3), (.int q4)] (.int (0 : Int32))) :
    MetFree l (⟨"com/example/parametree/parametree/MeanTreeAttachPinLaw", "parentOf", "([II)I"⟩ : MethodName) (head1 (Jvm.Cond.code (⟨"com/example/parametree/parametree/MeanTreeAttachPinLaw", "parentOf", "([II)I"⟩ : MethodName) method_2_code 3 (some .int) :: ws) ({ frames := 0, cells := 0, slots := 0, locals := 0 } : Room)) (fun a U => a = #[(.ref p0), (.int (2 : Int32))] ∧ Z.Warmed39 U.vm ∧ U.heap = h0) (fun _ _ _ _ _ => True) (fun _ U o U' => ∃ v L, o = .returned v ∧ Q_rm_par2 Z w_EM p0 ka q0 q1 q2 q3 q4 h0 n0 v U'.heap L ∧ FrameEnd U o U' L ({ frames := 0, cells := 0, slots := 0, locals := 0 } : Room).cells ({ frames := 0, cells := 0, slots := 0, locals := 0 } : Room).slots) := by
  refine MetFree.of_bodySF (plainFor_of_name own_pn3) hisR ?_
  intro p e s m args below meth c s₁ Bd hml0 hP hK
  obtain ⟨rfl, hZ, hh⟩ := hP
  have hx := Bd.exec
  have hby := Bd.bytes
  have hml : c.maxLocals = 3 := hml0
  have hown : s.vm.findClass "com/example/parametree/parametree/MeanTreeAttachPinLaw" = some m.cls := findClass_of_methodNamed Bd.named
  have hnm := (name_of_methodNamed Bd.named Bd.method).1
  have X0 : Stand p l e ({ frames := 0, cells := 0, slots := 0, locals := 0 } : Room) s m #[(.ref p0), (.int (2 : Int32))] below meth c s₁ [] 0 0 := Stand.of_body Bd
  have e0 : s₁.heap = h0 := by rw [← hh, Bd.state]; rfl
  have N0 := Fr.nil n0
  refine Go.start fun P hPend => ?_
  refine Go.st (fun _ k => castTop (own_ef_rm_par2 m p0 ((2 : Int32))) k) ?_
  show Go p.tables e below P (s₁.setTop (mkF m 0 #[.val (.ref p0), .val (.int (2 : Int32)), .unset] []))
  refine Go.st (fun _ => XS.aloadN X0.here hx rfl (hb hby own_d_method_2_code_0) rfl rfl) ?_
  show Go p.tables e below P (s₁.setTop (mkF m 1 #[.val (.ref p0), .val (.int (2 : Int32)), .unset] [(.ref p0)]))
  refine Go.st (fun _ => XS.iloadN X0.here hx rfl (hb hby own_d_method_2_code_1) rfl) ?_
  show Go p.tables e below P (s₁.setTop (mkF m 2 #[.val (.ref p0), .val (.int (2 : Int32)), .unset] [(.int (2 : Int32)), (.ref p0)]))
  refine Go.st (fun _ => own_ldI X0 hx hZ e0 hp0 (j := (2 : Int32)) (i := 2) (v := (.int q2)) (by decide) (by decide) rfl (g := (mkF m 2 #[.val (.ref p0), .val (.int (2 : Int32)), .unset] [(.int (2 : Int32)), (.ref p0)])) rfl rfl (hb hby own_d_method_2_code_2) _) ?_
  show Go p.tables e below P (s₁.setTop (mkF m 3 #[.val (.ref p0), .val (.int (2 : Int32)), .unset] [(.int q2)]))
  refine Go.st (fun _ => XS.iconst X0.here hx rfl (hb hby own_d_method_2_code_3)) ?_
  show Go p.tables e below P (s₁.setTop (mkF m 4 #[.val (.ref p0), .val (.int (2 : Int32)), .unset] [(.int (1 : Int32)), (.int q2)]))
  refine Go.st (fun _ => XS.isub X0.here hx rfl (hb hby own_d_method_2_code_4) rfl) ?_
  show Go p.tables e below P (s₁.setTop (mkF m 5 #[.val (.ref p0), .val (.int (2 : Int32)), .unset] [(.int (q2 - (1 : Int32)))]))
  refine Go.st (fun _ => XS.istoreN X0.here hx rfl (hb hby own_d_method_2_code_5) rfl (l' := #[.val (.ref p0), .val (.int (2 : Int32)), .val (.int (q2 - (1 : Int32)))]) rfl) ?_
  show Go p.tables e below P (s₁.setTop (mkF m 6 #[.val (.ref p0), .val (.int (2 : Int32)), .val (.int (q2 - (1 : Int32)))] []))
  refine Go.st (fun _ => XS.iloadN X0.here hx rfl (hb hby own_d_method_2_code_6) rfl) ?_
  show Go p.tables e below P (s₁.setTop (mkF m 7 #[.val (.ref p0), .val (.int (2 : Int32)), .val (.int (q2 - (1 : Int32)))] [(.int (2 : Int32))]))
  refine Go.st (fun _ => XS.iconst X0.here hx rfl (hb hby own_d_method_2_code_7)) ?_
  show Go p.tables e below P (s₁.setTop (mkF m 8 #[.val (.ref p0), .val (.int (2 : Int32)), .val (.int (q2 - (1 : Int32)))] [(.int (3 : Int32)), (.int (2 : Int32))]))
  refine Go.st (fun _ => XS.icmpYes X0.here hx rfl (pc0 := 8) (pc' := 20) rfl (hb hby own_d_method_2_code_8) rfl (flt (by decide)).2.2.2 (by decide) (by decide)) ?_
  show Go p.tables e below P (s₁.setTop (mkF m 20 #[.val (.ref p0), .val (.int (2 : Int32)), .val (.int (q2 - (1 : Int32)))] []))
  refine Go.st (fun _ => XS.iloadN X0.here hx rfl (hb hby own_d_method_2_code_20) rfl) ?_
  show Go p.tables e below P (s₁.setTop (mkF m 21 #[.val (.ref p0), .val (.int (2 : Int32)), .val (.int (q2 - (1 : Int32)))] [(.int (2 : Int32))]))
  refine Go.st (fun _ => XS.iconst X0.here hx rfl (hb hby own_d_method_2_code_21)) ?_
  show Go p.tables e below P (s₁.setTop (mkF m 22 #[.val (.ref p0), .val (.int (2 : Int32)), .val (.int (q2 - (1 : Int32)))] [(.int (2 : Int32)), (.int (2 : Int32))]))
  refine Go.st (fun _ => XS.icmpYes X0.here hx rfl (pc0 := 22) (pc' := 34) rfl (hb hby own_d_method_2_code_22) rfl (flt (by decide)).2.2.2 (by decide) (by decide)) ?_
  show Go p.tables e below P (s₁.setTop (mkF m 34 #[.val (.ref p0), .val (.int (2 : Int32)), .val (.int (q2 - (1 : Int32)))] []))
  refine Go.st (fun _ => XS.iloadN X0.here hx rfl (hb hby own_d_method_2_code_34) rfl) ?_
  show Go p.tables e below P (s₁.setTop (mkF m 35 #[.val (.ref p0), .val (.int (2 : Int32)), .val (.int (q2 - (1 : Int32)))] [(.int (2 : Int32))]))
  refine Go.st (fun _ => XS.iconst X0.here hx rfl (hb hby own_d_method_2_code_35)) ?_
  show Go p.tables e below P (s₁.setTop (mkF m 36 #[.val (.ref p0), .val (.int (2 : Int32)), .val (.int (q2 - (1 : Int32)))] [(.int (1 : Int32)), (.int (2 : Int32))]))
  refine Go.st (fun _ => XS.icmpNo X0.here hx rfl (hb hby own_d_method_2_code_36) rfl (tlt (by decide)).2.2.2) ?_
  show Go p.tables e below P (s₁.setTop (mkF m 39 #[.val (.ref p0), .val (.int (2 : Int32)), .val (.int (q2 - (1 : Int32)))] []))
  refine Go.st (fun _ => XS.aloadN X0.here hx rfl (hb hby own_d_method_2_code_39) rfl rfl) ?_
  show Go p.tables e below P (s₁.setTop (mkF m 40 #[.val (.ref p0), .val (.int (2 : Int32)), .val (.int (q2 - (1 : Int32)))] [(.ref p0)]))
  refine Go.st (fun _ => XS.iconst X0.here hx rfl (hb hby own_d_method_2_code_40)) ?_
  show Go p.tables e below P (s₁.setTop (mkF m 41 #[.val (.ref p0), .val (.int (2 : Int32)), .val (.int (q2 - (1 : Int32)))] [(.int (1 : Int32)), (.ref p0)]))
  refine Go.st (fun _ => own_ldI X0 hx hZ e0 hp0 (j := (1 : Int32)) (i := 1) (v := (.int q1)) (by decide) (by decide) rfl (g := (mkF m 41 #[.val (.ref p0), .val (.int (2 : Int32)), .val (.int (q2 - (1 : Int32)))] [(.int (1 : Int32)), (.ref p0)])) rfl rfl (hb hby own_d_method_2_code_41) _) ?_
  show Go p.tables e below P (s₁.setTop (mkF m 42 #[.val (.ref p0), .val (.int (2 : Int32)), .val (.int (q2 - (1 : Int32)))] [(.int q1)]))
  refine Go.st (fun _ => XS.iloadN X0.here hx rfl (hb hby own_d_method_2_code_42) rfl) ?_
  show Go p.tables e below P (s₁.setTop (mkF m 43 #[.val (.ref p0), .val (.int (2 : Int32)), .val (.int (q2 - (1 : Int32)))] [(.int (q2 - (1 : Int32))), (.int q1)]))
  by_cases hc3 : q1 = (q2 - (1 : Int32))
  · skip
    refine Go.st (fun _ => XS.icmpNo X0.here hx rfl (hb hby own_d_method_2_code_43) rfl (teq hc3).2) ?_
    show Go p.tables e below P (s₁.setTop (mkF m 46 #[.val (.ref p0), .val (.int (2 : Int32)), .val (.int (q2 - (1 : Int32)))] []))
    refine Go.st (fun _ => XS.iconst X0.here hx rfl (hb hby own_d_method_2_code_46)) ?_
    show Go p.tables e below P (s₁.setTop (mkF m 47 #[.val (.ref p0), .val (.int (2 : Int32)), .val (.int (q2 - (1 : Int32)))] [(.int (1 : Int32))]))
    obtain ⟨fs, hr, hrun, hended, hW, hsame⟩ := X0.leave (v := some (.int (1 : Int32))) (fun h => by rw [Bd.returns] at h; cases h)
    refine ⟨_, ?_, hPend _ _ hrun hended ⟨_, _, rfl, ?_, ⟨_, rfl⟩, hW, hsame.mono (by decide) (by decide)⟩⟩
    · exact retOut X0 hx (t := .int) Bd.returns rfl (Or.inl ⟨rfl, Or.inl rfl, _, rfl⟩) (hb hby own_d_method_2_code_47) hr
    · show Q_rm_par2 Z _ _ _ _ _ _ _ _ h0 n0 _ s₁.heap _
      rw [e0]
      exact ⟨(by simp [own_p2, own_p3, own_p4, *]), N0, rfl⟩
  · skip
    refine Go.st (fun _ => XS.icmpYes X0.here hx rfl (pc0 := 43) (pc' := 48) rfl (hb hby own_d_method_2_code_43) rfl (feq hc3).2 (by decide) (by decide)) ?_
    show Go p.tables e below P (s₁.setTop (mkF m 48 #[.val (.ref p0), .val (.int (2 : Int32)), .val (.int (q2 - (1 : Int32)))] []))
    refine Go.st (fun _ => XS.iconst X0.here hx rfl (hb hby own_d_method_2_code_48)) ?_
    show Go p.tables e below P (s₁.setTop (mkF m 49 #[.val (.ref p0), .val (.int (2 : Int32)), .val (.int (q2 - (1 : Int32)))] [(.int (0 : Int32))]))
    obtain ⟨fs, hr, hrun, hended, hW, hsame⟩ := X0.leave (v := some (.int (0 : Int32))) (fun h => by rw [Bd.returns] at h; cases h)
    refine ⟨_, ?_, hPend _ _ hrun hended ⟨_, _, rfl, ?_, ⟨_, rfl⟩, hW, hsame.mono (by decide) (by decide)⟩⟩
    · exact retOut X0 hx (t := .int) Bd.returns rfl (Or.inl ⟨rfl, Or.inl rfl, _, rfl⟩) (hb hby own_d_method_2_code_49) hr
    · show Q_rm_par2 Z _ _ _ _ _ _ _ _ h0 n0 _ s₁.heap _
      rw [e0]
      exact ⟨(by simp [own_p2, own_p3, own_p4, *]), N0, rfl⟩
theorem own_ef_rm_par3 (m : MethodId) (x0 : Addr) (x1 : Int32) : entryFrame m #[(.ref x0), (.int x1)] 3 = mkF m 0 #[.val (.ref x0), .val (.int x1), .unset] [] := by first | (simp [entryFrame, mkF, argsToLocals, Value.category]; done) | rfl
theorem own_d_method_2_code_25 : decode method_2_code 25 = .ok (.aload_n 0, 1) := by decide +kernel
theorem own_d_method_2_code_26 : decode method_2_code 26 = .ok (.iconst 2, 1) := by decide +kernel
theorem own_d_method_2_code_27 : decode method_2_code 27 = .ok (.iaload, 1) := by decide +kernel
theorem own_d_method_2_code_28 : decode method_2_code 28 = .ok (.iload_n 2, 1) := by decide +kernel
theorem own_d_method_2_code_29 : decode method_2_code 29 = .ok (.if_icmp .ne 5, 3) := by decide +kernel
theorem own_d_method_2_code_32 : decode method_2_code 32 = .ok (.iconst 2, 1) := by decide +kernel
theorem own_d_method_2_code_33 : decode method_2_code 33 = .ok (.ireturn, 1) := by decide +kernel
def Q_rm_par3 (Z : State) (w_EM : Addr) (p0 : Addr) (ka : ClassId) (q0 : Int32) (q1 : Int32) (q2 : Int32) (q3 : Int32) (q4 : Int32) (h0 : Heap) (n0 : Nat) (v : Option Value) (h : Heap) (L : List Loc) : Prop := v = some (.int (own_p3 q1 q2 q3)) ∧ Fr n0 L ∧ h = h0
set_option maxRecDepth 65536 in
set_option maxHeartbeats 40000000 in
theorem rm_par3 (l : Launch) (Z : State) (a0 : Array Value) (hw : ∀ d ∈ tables_1, d.before a0 Z = true) (ws : List Jvm.Cond) (w_EM : Addr) (S_EM : Sta Z Z.heap "java/util/ImmutableCollections" "EMPTY_MAP" "Ljava/util/ImmutableCollections$MapN;" (.ref w_EM)) (X_EM : Exa Z Z.heap w_EM "java/util/ImmutableCollections$MapN") (p0 : Addr) (ka : ClassId) (q0 : Int32) (q1 : Int32) (q2 : Int32) (q3 : Int32) (q4 : Int32) (h0 : Heap) (n0 : Nat) (X00 : Old Z n0 h0) (hp0 : Arv Z h0 p0 ka .int (5 : Int32) [(.int q0), (.int q1), (.int q2), (.int q3), (.int q4)] (.int (0 : Int32))) :
    MetFree l (⟨"com/example/parametree/parametree/MeanTreeAttachPinLaw", "parentOf", "([II)I"⟩ : MethodName) (head1 (Jvm.Cond.code (⟨"com/example/parametree/parametree/MeanTreeAttachPinLaw", "parentOf", "([II)I"⟩ : MethodName) method_2_code 3 (some .int) :: ws) ({ frames := 0, cells := 0, slots := 0, locals := 0 } : Room)) (fun a U => a = #[(.ref p0), (.int (3 : Int32))] ∧ Z.Warmed39 U.vm ∧ U.heap = h0) (fun _ _ _ _ _ => True) (fun _ U o U' => ∃ v L, o = .returned v ∧ Q_rm_par3 Z w_EM p0 ka q0 q1 q2 q3 q4 h0 n0 v U'.heap L ∧ FrameEnd U o U' L ({ frames := 0, cells := 0, slots := 0, locals := 0 } : Room).cells ({ frames := 0, cells := 0, slots := 0, locals := 0 } : Room).slots) := by
  refine MetFree.of_bodySF (plainFor_of_name own_pn3) hisR ?_
  intro p e s m args below meth c s₁ Bd hml0 hP hK
  obtain ⟨rfl, hZ, hh⟩ := hP
  have hx := Bd.exec
  have hby := Bd.bytes
  have hml : c.maxLocals = 3 := hml0
  have hown : s.vm.findClass "com/example/parametree/parametree/MeanTreeAttachPinLaw" = some m.cls := findClass_of_methodNamed Bd.named
  have hnm := (name_of_methodNamed Bd.named Bd.method).1
  have X0 : Stand p l e ({ frames := 0, cells := 0, slots := 0, locals := 0 } : Room) s m #[(.ref p0), (.int (3 : Int32))] below meth c s₁ [] 0 0 := Stand.of_body Bd
  have e0 : s₁.heap = h0 := by rw [← hh, Bd.state]; rfl
  have N0 := Fr.nil n0
  refine Go.start fun P hPend => ?_
  refine Go.st (fun _ k => castTop (own_ef_rm_par3 m p0 ((3 : Int32))) k) ?_
  show Go p.tables e below P (s₁.setTop (mkF m 0 #[.val (.ref p0), .val (.int (3 : Int32)), .unset] []))
  refine Go.st (fun _ => XS.aloadN X0.here hx rfl (hb hby own_d_method_2_code_0) rfl rfl) ?_
  show Go p.tables e below P (s₁.setTop (mkF m 1 #[.val (.ref p0), .val (.int (3 : Int32)), .unset] [(.ref p0)]))
  refine Go.st (fun _ => XS.iloadN X0.here hx rfl (hb hby own_d_method_2_code_1) rfl) ?_
  show Go p.tables e below P (s₁.setTop (mkF m 2 #[.val (.ref p0), .val (.int (3 : Int32)), .unset] [(.int (3 : Int32)), (.ref p0)]))
  refine Go.st (fun _ => own_ldI X0 hx hZ e0 hp0 (j := (3 : Int32)) (i := 3) (v := (.int q3)) (by decide) (by decide) rfl (g := (mkF m 2 #[.val (.ref p0), .val (.int (3 : Int32)), .unset] [(.int (3 : Int32)), (.ref p0)])) rfl rfl (hb hby own_d_method_2_code_2) _) ?_
  show Go p.tables e below P (s₁.setTop (mkF m 3 #[.val (.ref p0), .val (.int (3 : Int32)), .unset] [(.int q3)]))
  refine Go.st (fun _ => XS.iconst X0.here hx rfl (hb hby own_d_method_2_code_3)) ?_
  show Go p.tables e below P (s₁.setTop (mkF m 4 #[.val (.ref p0), .val (.int (3 : Int32)), .unset] [(.int (1 : Int32)), (.int q3)]))
  refine Go.st (fun _ => XS.isub X0.here hx rfl (hb hby own_d_method_2_code_4) rfl) ?_
  show Go p.tables e below P (s₁.setTop (mkF m 5 #[.val (.ref p0), .val (.int (3 : Int32)), .unset] [(.int (q3 - (1 : Int32)))]))
  refine Go.st (fun _ => XS.istoreN X0.here hx rfl (hb hby own_d_method_2_code_5) rfl (l' := #[.val (.ref p0), .val (.int (3 : Int32)), .val (.int (q3 - (1 : Int32)))]) rfl) ?_
  show Go p.tables e below P (s₁.setTop (mkF m 6 #[.val (.ref p0), .val (.int (3 : Int32)), .val (.int (q3 - (1 : Int32)))] []))
  refine Go.st (fun _ => XS.iloadN X0.here hx rfl (hb hby own_d_method_2_code_6) rfl) ?_
  show Go p.tables e below P (s₁.setTop (mkF m 7 #[.val (.ref p0), .val (.int (3 : Int32)), .val (.int (q3 - (1 : Int32)))] [(.int (3 : Int32))]))
  refine Go.st (fun _ => XS.iconst X0.here hx rfl (hb hby own_d_method_2_code_7)) ?_
  show Go p.tables e below P (s₁.setTop (mkF m 8 #[.val (.ref p0), .val (.int (3 : Int32)), .val (.int (q3 - (1 : Int32)))] [(.int (3 : Int32)), (.int (3 : Int32))]))
  refine Go.st (fun _ => XS.icmpYes X0.here hx rfl (pc0 := 8) (pc' := 20) rfl (hb hby own_d_method_2_code_8) rfl (flt (by decide)).2.2.2 (by decide) (by decide)) ?_
  show Go p.tables e below P (s₁.setTop (mkF m 20 #[.val (.ref p0), .val (.int (3 : Int32)), .val (.int (q3 - (1 : Int32)))] []))
  refine Go.st (fun _ => XS.iloadN X0.here hx rfl (hb hby own_d_method_2_code_20) rfl) ?_
  show Go p.tables e below P (s₁.setTop (mkF m 21 #[.val (.ref p0), .val (.int (3 : Int32)), .val (.int (q3 - (1 : Int32)))] [(.int (3 : Int32))]))
  refine Go.st (fun _ => XS.iconst X0.here hx rfl (hb hby own_d_method_2_code_21)) ?_
  show Go p.tables e below P (s₁.setTop (mkF m 22 #[.val (.ref p0), .val (.int (3 : Int32)), .val (.int (q3 - (1 : Int32)))] [(.int (2 : Int32)), (.int (3 : Int32))]))
  refine Go.st (fun _ => XS.icmpNo X0.here hx rfl (hb hby own_d_method_2_code_22) rfl (tlt (by decide)).2.2.2) ?_
  show Go p.tables e below P (s₁.setTop (mkF m 25 #[.val (.ref p0), .val (.int (3 : Int32)), .val (.int (q3 - (1 : Int32)))] []))
  refine Go.st (fun _ => XS.aloadN X0.here hx rfl (hb hby own_d_method_2_code_25) rfl rfl) ?_
  show Go p.tables e below P (s₁.setTop (mkF m 26 #[.val (.ref p0), .val (.int (3 : Int32)), .val (.int (q3 - (1 : Int32)))] [(.ref p0)]))
  refine Go.st (fun _ => XS.iconst X0.here hx rfl (hb hby own_d_method_2_code_26)) ?_
  show Go p.tables e below P (s₁.setTop (mkF m 27 #[.val (.ref p0), .val (.int (3 : Int32)), .val (.int (q3 - (1 : Int32)))] [(.int (2 : Int32)), (.ref p0)]))
  refine Go.st (fun _ => own_ldI X0 hx hZ e0 hp0 (j := (2 : Int32)) (i := 2) (v := (.int q2)) (by decide) (by decide) rfl (g := (mkF m 27 #[.val (.ref p0), .val (.int (3 : Int32)), .val (.int (q3 - (1 : Int32)))] [(.int (2 : Int32)), (.ref p0)])) rfl rfl (hb hby own_d_method_2_code_27) _) ?_
  show Go p.tables e below P (s₁.setTop (mkF m 28 #[.val (.ref p0), .val (.int (3 : Int32)), .val (.int (q3 - (1 : Int32)))] [(.int q2)]))
  refine Go.st (fun _ => XS.iloadN X0.here hx rfl (hb hby own_d_method_2_code_28) rfl) ?_
  show Go p.tables e below P (s₁.setTop (mkF m 29 #[.val (.ref p0), .val (.int (3 : Int32)), .val (.int (q3 - (1 : Int32)))] [(.int (q3 - (1 : Int32))), (.int q2)]))
  by_cases hc3 : q2 = (q3 - (1 : Int32))
  · skip
    refine Go.st (fun _ => XS.icmpNo X0.here hx rfl (hb hby own_d_method_2_code_29) rfl (teq hc3).2) ?_
    show Go p.tables e below P (s₁.setTop (mkF m 32 #[.val (.ref p0), .val (.int (3 : Int32)), .val (.int (q3 - (1 : Int32)))] []))
    refine Go.st (fun _ => XS.iconst X0.here hx rfl (hb hby own_d_method_2_code_32)) ?_
    show Go p.tables e below P (s₁.setTop (mkF m 33 #[.val (.ref p0), .val (.int (3 : Int32)), .val (.int (q3 - (1 : Int32)))] [(.int (2 : Int32))]))
    obtain ⟨fs, hr, hrun, hended, hW, hsame⟩ := X0.leave (v := some (.int (2 : Int32))) (fun h => by rw [Bd.returns] at h; cases h)
    refine ⟨_, ?_, hPend _ _ hrun hended ⟨_, _, rfl, ?_, ⟨_, rfl⟩, hW, hsame.mono (by decide) (by decide)⟩⟩
    · exact retOut X0 hx (t := .int) Bd.returns rfl (Or.inl ⟨rfl, Or.inl rfl, _, rfl⟩) (hb hby own_d_method_2_code_33) hr
    · show Q_rm_par3 Z _ _ _ _ _ _ _ _ h0 n0 _ s₁.heap _
      rw [e0]
      exact ⟨(by simp [own_p2, own_p3, own_p4, *]), N0, rfl⟩
  · skip
    refine Go.st (fun _ => XS.icmpYes X0.here hx rfl (pc0 := 29) (pc' := 34) rfl (hb hby own_d_method_2_code_29) rfl (feq hc3).2 (by decide) (by decide)) ?_
    show Go p.tables e below P (s₁.setTop (mkF m 34 #[.val (.ref p0), .val (.int (3 : Int32)), .val (.int (q3 - (1 : Int32)))] []))
    refine Go.st (fun _ => XS.iloadN X0.here hx rfl (hb hby own_d_method_2_code_34) rfl) ?_
    show Go p.tables e below P (s₁.setTop (mkF m 35 #[.val (.ref p0), .val (.int (3 : Int32)), .val (.int (q3 - (1 : Int32)))] [(.int (3 : Int32))]))
    refine Go.st (fun _ => XS.iconst X0.here hx rfl (hb hby own_d_method_2_code_35)) ?_
    show Go p.tables e below P (s₁.setTop (mkF m 36 #[.val (.ref p0), .val (.int (3 : Int32)), .val (.int (q3 - (1 : Int32)))] [(.int (1 : Int32)), (.int (3 : Int32))]))
    refine Go.st (fun _ => XS.icmpNo X0.here hx rfl (hb hby own_d_method_2_code_36) rfl (tlt (by decide)).2.2.2) ?_
    show Go p.tables e below P (s₁.setTop (mkF m 39 #[.val (.ref p0), .val (.int (3 : Int32)), .val (.int (q3 - (1 : Int32)))] []))
    refine Go.st (fun _ => XS.aloadN X0.here hx rfl (hb hby own_d_method_2_code_39) rfl rfl) ?_
    show Go p.tables e below P (s₁.setTop (mkF m 40 #[.val (.ref p0), .val (.int (3 : Int32)), .val (.int (q3 - (1 : Int32)))] [(.ref p0)]))
    refine Go.st (fun _ => XS.iconst X0.here hx rfl (hb hby own_d_method_2_code_40)) ?_
    show Go p.tables e below P (s₁.setTop (mkF m 41 #[.val (.ref p0), .val (.int (3 : Int32)), .val (.int (q3 - (1 : Int32)))] [(.int (1 : Int32)), (.ref p0)]))
    refine Go.st (fun _ => own_ldI X0 hx hZ e0 hp0 (j := (1 : Int32)) (i := 1) (v := (.int q1)) (by decide) (by decide) rfl (g := (mkF m 41 #[.val (.ref p0), .val (.int (3 : Int32)), .val (.int (q3 - (1 : Int32)))] [(.int (1 : Int32)), (.ref p0)])) rfl rfl (hb hby own_d_method_2_code_41) _) ?_
    show Go p.tables e below P (s₁.setTop (mkF m 42 #[.val (.ref p0), .val (.int (3 : Int32)), .val (.int (q3 - (1 : Int32)))] [(.int q1)]))
    refine Go.st (fun _ => XS.iloadN X0.here hx rfl (hb hby own_d_method_2_code_42) rfl) ?_
    show Go p.tables e below P (s₁.setTop (mkF m 43 #[.val (.ref p0), .val (.int (3 : Int32)), .val (.int (q3 - (1 : Int32)))] [(.int (q3 - (1 : Int32))), (.int q1)]))
    by_cases hc5 : q1 = (q3 - (1 : Int32))
    · skip
      refine Go.st (fun _ => XS.icmpNo X0.here hx rfl (hb hby own_d_method_2_code_43) rfl (teq hc5).2) ?_
      show Go p.tables e below P (s₁.setTop (mkF m 46 #[.val (.ref p0), .val (.int (3 : Int32)), .val (.int (q3 - (1 : Int32)))] []))
      refine Go.st (fun _ => XS.iconst X0.here hx rfl (hb hby own_d_method_2_code_46)) ?_
      show Go p.tables e below P (s₁.setTop (mkF m 47 #[.val (.ref p0), .val (.int (3 : Int32)), .val (.int (q3 - (1 : Int32)))] [(.int (1 : Int32))]))
      obtain ⟨fs, hr, hrun, hended, hW, hsame⟩ := X0.leave (v := some (.int (1 : Int32))) (fun h => by rw [Bd.returns] at h; cases h)
      refine ⟨_, ?_, hPend _ _ hrun hended ⟨_, _, rfl, ?_, ⟨_, rfl⟩, hW, hsame.mono (by decide) (by decide)⟩⟩
      · exact retOut X0 hx (t := .int) Bd.returns rfl (Or.inl ⟨rfl, Or.inl rfl, _, rfl⟩) (hb hby own_d_method_2_code_47) hr
      · show Q_rm_par3 Z _ _ _ _ _ _ _ _ h0 n0 _ s₁.heap _
        rw [e0]
        exact ⟨(by simp [own_p2, own_p3, own_p4, *]), N0, rfl⟩
    · skip
      refine Go.st (fun _ => XS.icmpYes X0.here hx rfl (pc0 := 43) (pc' := 48) rfl (hb hby own_d_method_2_code_43) rfl (feq hc5).2 (by decide) (by decide)) ?_
      show Go p.tables e below P (s₁.setTop (mkF m 48 #[.val (.ref p0), .val (.int (3 : Int32)), .val (.int (q3 - (1 : Int32)))] []))
      refine Go.st (fun _ => XS.iconst X0.here hx rfl (hb hby own_d_method_2_code_48)) ?_
      show Go p.tables e below P (s₁.setTop (mkF m 49 #[.val (.ref p0), .val (.int (3 : Int32)), .val (.int (q3 - (1 : Int32)))] [(.int (0 : Int32))]))
      obtain ⟨fs, hr, hrun, hended, hW, hsame⟩ := X0.leave (v := some (.int (0 : Int32))) (fun h => by rw [Bd.returns] at h; cases h)
      refine ⟨_, ?_, hPend _ _ hrun hended ⟨_, _, rfl, ?_, ⟨_, rfl⟩, hW, hsame.mono (by decide) (by decide)⟩⟩
      · exact retOut X0 hx (t := .int) Bd.returns rfl (Or.inl ⟨rfl, Or.inl rfl, _, rfl⟩) (hb hby own_d_method_2_code_49) hr
      · show Q_rm_par3 Z _ _ _ _ _ _ _ _ h0 n0 _ s₁.heap _
        rw [e0]
        exact ⟨(by simp [own_p2, own_p3, own_p4, *]), N0, rfl⟩
theorem own_ef_rm_par4 (m : MethodId) (x0 : Addr) (x1 : Int32) : entryFrame m #[(.ref x0), (.int x1)] 3 = mkF m 0 #[.val (.ref x0), .val (.int x1), .unset] [] := by first | (simp [entryFrame, mkF, argsToLocals, Value.category]; done) | rfl
theorem own_d_method_2_code_11 : decode method_2_code 11 = .ok (.aload_n 0, 1) := by decide +kernel
theorem own_d_method_2_code_12 : decode method_2_code 12 = .ok (.iconst 3, 1) := by decide +kernel
theorem own_d_method_2_code_13 : decode method_2_code 13 = .ok (.iaload, 1) := by decide +kernel
theorem own_d_method_2_code_14 : decode method_2_code 14 = .ok (.iload_n 2, 1) := by decide +kernel
theorem own_d_method_2_code_15 : decode method_2_code 15 = .ok (.if_icmp .ne 5, 3) := by decide +kernel
theorem own_d_method_2_code_18 : decode method_2_code 18 = .ok (.iconst 3, 1) := by decide +kernel
theorem own_d_method_2_code_19 : decode method_2_code 19 = .ok (.ireturn, 1) := by decide +kernel
def Q_rm_par4 (Z : State) (w_EM : Addr) (p0 : Addr) (ka : ClassId) (q0 : Int32) (q1 : Int32) (q2 : Int32) (q3 : Int32) (q4 : Int32) (h0 : Heap) (n0 : Nat) (v : Option Value) (h : Heap) (L : List Loc) : Prop := v = some (.int (own_p4 q1 q2 q3 q4)) ∧ Fr n0 L ∧ h = h0
set_option maxRecDepth 65536 in
set_option maxHeartbeats 40000000 in
theorem rm_par4 (l : Launch) (Z : State) (a0 : Array Value) (hw : ∀ d ∈ tables_1, d.before a0 Z = true) (ws : List Jvm.Cond) (w_EM : Addr) (S_EM : Sta Z Z.heap "java/util/ImmutableCollections" "EMPTY_MAP" "Ljava/util/ImmutableCollections$MapN;" (.ref w_EM)) (X_EM : Exa Z Z.heap w_EM "java/util/ImmutableCollections$MapN") (p0 : Addr) (ka : ClassId) (q0 : Int32) (q1 : Int32) (q2 : Int32) (q3 : Int32) (q4 : Int32) (h0 : Heap) (n0 : Nat) (X00 : Old Z n0 h0) (hp0 : Arv Z h0 p0 ka .int (5 : Int32) [(.int q0), (.int q1), (.int q2), (.int q3), (.int q4)] (.int (0 : Int32))) :
    MetFree l (⟨"com/example/parametree/parametree/MeanTreeAttachPinLaw", "parentOf", "([II)I"⟩ : MethodName) (head1 (Jvm.Cond.code (⟨"com/example/parametree/parametree/MeanTreeAttachPinLaw", "parentOf", "([II)I"⟩ : MethodName) method_2_code 3 (some .int) :: ws) ({ frames := 0, cells := 0, slots := 0, locals := 0 } : Room)) (fun a U => a = #[(.ref p0), (.int (4 : Int32))] ∧ Z.Warmed39 U.vm ∧ U.heap = h0) (fun _ _ _ _ _ => True) (fun _ U o U' => ∃ v L, o = .returned v ∧ Q_rm_par4 Z w_EM p0 ka q0 q1 q2 q3 q4 h0 n0 v U'.heap L ∧ FrameEnd U o U' L ({ frames := 0, cells := 0, slots := 0, locals := 0 } : Room).cells ({ frames := 0, cells := 0, slots := 0, locals := 0 } : Room).slots) := by
  refine MetFree.of_bodySF (plainFor_of_name own_pn3) hisR ?_
  intro p e s m args below meth c s₁ Bd hml0 hP hK
  obtain ⟨rfl, hZ, hh⟩ := hP
  have hx := Bd.exec
  have hby := Bd.bytes
  have hml : c.maxLocals = 3 := hml0
  have hown : s.vm.findClass "com/example/parametree/parametree/MeanTreeAttachPinLaw" = some m.cls := findClass_of_methodNamed Bd.named
  have hnm := (name_of_methodNamed Bd.named Bd.method).1
  have X0 : Stand p l e ({ frames := 0, cells := 0, slots := 0, locals := 0 } : Room) s m #[(.ref p0), (.int (4 : Int32))] below meth c s₁ [] 0 0 := Stand.of_body Bd
  have e0 : s₁.heap = h0 := by rw [← hh, Bd.state]; rfl
  have N0 := Fr.nil n0
  refine Go.start fun P hPend => ?_
  refine Go.st (fun _ k => castTop (own_ef_rm_par4 m p0 ((4 : Int32))) k) ?_
  show Go p.tables e below P (s₁.setTop (mkF m 0 #[.val (.ref p0), .val (.int (4 : Int32)), .unset] []))
  refine Go.st (fun _ => XS.aloadN X0.here hx rfl (hb hby own_d_method_2_code_0) rfl rfl) ?_
  show Go p.tables e below P (s₁.setTop (mkF m 1 #[.val (.ref p0), .val (.int (4 : Int32)), .unset] [(.ref p0)]))
  refine Go.st (fun _ => XS.iloadN X0.here hx rfl (hb hby own_d_method_2_code_1) rfl) ?_
  show Go p.tables e below P (s₁.setTop (mkF m 2 #[.val (.ref p0), .val (.int (4 : Int32)), .unset] [(.int (4 : Int32)), (.ref p0)]))
  refine Go.st (fun _ => own_ldI X0 hx hZ e0 hp0 (j := (4 : Int32)) (i := 4) (v := (.int q4)) (by decide) (by decide) rfl (g := (mkF m 2 #[.val (.ref p0), .val (.int (4 : Int32)), .unset] [(.int (4 : Int32)), (.ref p0)])) rfl rfl (hb hby own_d_method_2_code_2) _) ?_
  show Go p.tables e below P (s₁.setTop (mkF m 3 #[.val (.ref p0), .val (.int (4 : Int32)), .unset] [(.int q4)]))
  refine Go.st (fun _ => XS.iconst X0.here hx rfl (hb hby own_d_method_2_code_3)) ?_
  show Go p.tables e below P (s₁.setTop (mkF m 4 #[.val (.ref p0), .val (.int (4 : Int32)), .unset] [(.int (1 : Int32)), (.int q4)]))
  refine Go.st (fun _ => XS.isub X0.here hx rfl (hb hby own_d_method_2_code_4) rfl) ?_
  show Go p.tables e below P (s₁.setTop (mkF m 5 #[.val (.ref p0), .val (.int (4 : Int32)), .unset] [(.int (q4 - (1 : Int32)))]))
  refine Go.st (fun _ => XS.istoreN X0.here hx rfl (hb hby own_d_method_2_code_5) rfl (l' := #[.val (.ref p0), .val (.int (4 : Int32)), .val (.int (q4 - (1 : Int32)))]) rfl) ?_
  show Go p.tables e below P (s₁.setTop (mkF m 6 #[.val (.ref p0), .val (.int (4 : Int32)), .val (.int (q4 - (1 : Int32)))] []))
  refine Go.st (fun _ => XS.iloadN X0.here hx rfl (hb hby own_d_method_2_code_6) rfl) ?_
  show Go p.tables e below P (s₁.setTop (mkF m 7 #[.val (.ref p0), .val (.int (4 : Int32)), .val (.int (q4 - (1 : Int32)))] [(.int (4 : Int32))]))
  refine Go.st (fun _ => XS.iconst X0.here hx rfl (hb hby own_d_method_2_code_7)) ?_
  show Go p.tables e below P (s₁.setTop (mkF m 8 #[.val (.ref p0), .val (.int (4 : Int32)), .val (.int (q4 - (1 : Int32)))] [(.int (3 : Int32)), (.int (4 : Int32))]))
  refine Go.st (fun _ => XS.icmpNo X0.here hx rfl (hb hby own_d_method_2_code_8) rfl (tlt (by decide)).2.2.2) ?_
  show Go p.tables e below P (s₁.setTop (mkF m 11 #[.val (.ref p0), .val (.int (4 : Int32)), .val (.int (q4 - (1 : Int32)))] []))
  refine Go.st (fun _ => XS.aloadN X0.here hx rfl (hb hby own_d_method_2_code_11) rfl rfl) ?_
  show Go p.tables e below P (s₁.setTop (mkF m 12 #[.val (.ref p0), .val (.int (4 : Int32)), .val (.int (q4 - (1 : Int32)))] [(.ref p0)]))
  refine Go.st (fun _ => XS.iconst X0.here hx rfl (hb hby own_d_method_2_code_12)) ?_
  show Go p.tables e below P (s₁.setTop (mkF m 13 #[.val (.ref p0), .val (.int (4 : Int32)), .val (.int (q4 - (1 : Int32)))] [(.int (3 : Int32)), (.ref p0)]))
  refine Go.st (fun _ => own_ldI X0 hx hZ e0 hp0 (j := (3 : Int32)) (i := 3) (v := (.int q3)) (by decide) (by decide) rfl (g := (mkF m 13 #[.val (.ref p0), .val (.int (4 : Int32)), .val (.int (q4 - (1 : Int32)))] [(.int (3 : Int32)), (.ref p0)])) rfl rfl (hb hby own_d_method_2_code_13) _) ?_
  show Go p.tables e below P (s₁.setTop (mkF m 14 #[.val (.ref p0), .val (.int (4 : Int32)), .val (.int (q4 - (1 : Int32)))] [(.int q3)]))
  refine Go.st (fun _ => XS.iloadN X0.here hx rfl (hb hby own_d_method_2_code_14) rfl) ?_
  show Go p.tables e below P (s₁.setTop (mkF m 15 #[.val (.ref p0), .val (.int (4 : Int32)), .val (.int (q4 - (1 : Int32)))] [(.int (q4 - (1 : Int32))), (.int q3)]))
  by_cases hc3 : q3 = (q4 - (1 : Int32))
  · skip
    refine Go.st (fun _ => XS.icmpNo X0.here hx rfl (hb hby own_d_method_2_code_15) rfl (teq hc3).2) ?_
    show Go p.tables e below P (s₁.setTop (mkF m 18 #[.val (.ref p0), .val (.int (4 : Int32)), .val (.int (q4 - (1 : Int32)))] []))
    refine Go.st (fun _ => XS.iconst X0.here hx rfl (hb hby own_d_method_2_code_18)) ?_
    show Go p.tables e below P (s₁.setTop (mkF m 19 #[.val (.ref p0), .val (.int (4 : Int32)), .val (.int (q4 - (1 : Int32)))] [(.int (3 : Int32))]))
    obtain ⟨fs, hr, hrun, hended, hW, hsame⟩ := X0.leave (v := some (.int (3 : Int32))) (fun h => by rw [Bd.returns] at h; cases h)
    refine ⟨_, ?_, hPend _ _ hrun hended ⟨_, _, rfl, ?_, ⟨_, rfl⟩, hW, hsame.mono (by decide) (by decide)⟩⟩
    · exact retOut X0 hx (t := .int) Bd.returns rfl (Or.inl ⟨rfl, Or.inl rfl, _, rfl⟩) (hb hby own_d_method_2_code_19) hr
    · show Q_rm_par4 Z _ _ _ _ _ _ _ _ h0 n0 _ s₁.heap _
      rw [e0]
      exact ⟨(by simp [own_p2, own_p3, own_p4, *]), N0, rfl⟩
  · skip
    refine Go.st (fun _ => XS.icmpYes X0.here hx rfl (pc0 := 15) (pc' := 20) rfl (hb hby own_d_method_2_code_15) rfl (feq hc3).2 (by decide) (by decide)) ?_
    show Go p.tables e below P (s₁.setTop (mkF m 20 #[.val (.ref p0), .val (.int (4 : Int32)), .val (.int (q4 - (1 : Int32)))] []))
    refine Go.st (fun _ => XS.iloadN X0.here hx rfl (hb hby own_d_method_2_code_20) rfl) ?_
    show Go p.tables e below P (s₁.setTop (mkF m 21 #[.val (.ref p0), .val (.int (4 : Int32)), .val (.int (q4 - (1 : Int32)))] [(.int (4 : Int32))]))
    refine Go.st (fun _ => XS.iconst X0.here hx rfl (hb hby own_d_method_2_code_21)) ?_
    show Go p.tables e below P (s₁.setTop (mkF m 22 #[.val (.ref p0), .val (.int (4 : Int32)), .val (.int (q4 - (1 : Int32)))] [(.int (2 : Int32)), (.int (4 : Int32))]))
    refine Go.st (fun _ => XS.icmpNo X0.here hx rfl (hb hby own_d_method_2_code_22) rfl (tlt (by decide)).2.2.2) ?_
    show Go p.tables e below P (s₁.setTop (mkF m 25 #[.val (.ref p0), .val (.int (4 : Int32)), .val (.int (q4 - (1 : Int32)))] []))
    refine Go.st (fun _ => XS.aloadN X0.here hx rfl (hb hby own_d_method_2_code_25) rfl rfl) ?_
    show Go p.tables e below P (s₁.setTop (mkF m 26 #[.val (.ref p0), .val (.int (4 : Int32)), .val (.int (q4 - (1 : Int32)))] [(.ref p0)]))
    refine Go.st (fun _ => XS.iconst X0.here hx rfl (hb hby own_d_method_2_code_26)) ?_
    show Go p.tables e below P (s₁.setTop (mkF m 27 #[.val (.ref p0), .val (.int (4 : Int32)), .val (.int (q4 - (1 : Int32)))] [(.int (2 : Int32)), (.ref p0)]))
    refine Go.st (fun _ => own_ldI X0 hx hZ e0 hp0 (j := (2 : Int32)) (i := 2) (v := (.int q2)) (by decide) (by decide) rfl (g := (mkF m 27 #[.val (.ref p0), .val (.int (4 : Int32)), .val (.int (q4 - (1 : Int32)))] [(.int (2 : Int32)), (.ref p0)])) rfl rfl (hb hby own_d_method_2_code_27) _) ?_
    show Go p.tables e below P (s₁.setTop (mkF m 28 #[.val (.ref p0), .val (.int (4 : Int32)), .val (.int (q4 - (1 : Int32)))] [(.int q2)]))
    refine Go.st (fun _ => XS.iloadN X0.here hx rfl (hb hby own_d_method_2_code_28) rfl) ?_
    show Go p.tables e below P (s₁.setTop (mkF m 29 #[.val (.ref p0), .val (.int (4 : Int32)), .val (.int (q4 - (1 : Int32)))] [(.int (q4 - (1 : Int32))), (.int q2)]))
    by_cases hc5 : q2 = (q4 - (1 : Int32))
    · skip
      refine Go.st (fun _ => XS.icmpNo X0.here hx rfl (hb hby own_d_method_2_code_29) rfl (teq hc5).2) ?_
      show Go p.tables e below P (s₁.setTop (mkF m 32 #[.val (.ref p0), .val (.int (4 : Int32)), .val (.int (q4 - (1 : Int32)))] []))
      refine Go.st (fun _ => XS.iconst X0.here hx rfl (hb hby own_d_method_2_code_32)) ?_
      show Go p.tables e below P (s₁.setTop (mkF m 33 #[.val (.ref p0), .val (.int (4 : Int32)), .val (.int (q4 - (1 : Int32)))] [(.int (2 : Int32))]))
      obtain ⟨fs, hr, hrun, hended, hW, hsame⟩ := X0.leave (v := some (.int (2 : Int32))) (fun h => by rw [Bd.returns] at h; cases h)
      refine ⟨_, ?_, hPend _ _ hrun hended ⟨_, _, rfl, ?_, ⟨_, rfl⟩, hW, hsame.mono (by decide) (by decide)⟩⟩
      · exact retOut X0 hx (t := .int) Bd.returns rfl (Or.inl ⟨rfl, Or.inl rfl, _, rfl⟩) (hb hby own_d_method_2_code_33) hr
      · show Q_rm_par4 Z _ _ _ _ _ _ _ _ h0 n0 _ s₁.heap _
        rw [e0]
        exact ⟨(by simp [own_p2, own_p3, own_p4, *]), N0, rfl⟩
    · skip
      refine Go.st (fun _ => XS.icmpYes X0.here hx rfl (pc0 := 29) (pc' := 34) rfl (hb hby own_d_method_2_code_29) rfl (feq hc5).2 (by decide) (by decide)) ?_
      show Go p.tables e below P (s₁.setTop (mkF m 34 #[.val (.ref p0), .val (.int (4 : Int32)), .val (.int (q4 - (1 : Int32)))] []))
      refine Go.st (fun _ => XS.iloadN X0.here hx rfl (hb hby own_d_method_2_code_34) rfl) ?_
      show Go p.tables e below P (s₁.setTop (mkF m 35 #[.val (.ref p0), .val (.int (4 : Int32)), .val (.int (q4 - (1 : Int32)))] [(.int (4 : Int32))]))
      refine Go.st (fun _ => XS.iconst X0.here hx rfl (hb hby own_d_method_2_code_35)) ?_
      show Go p.tables e below P (s₁.setTop (mkF m 36 #[.val (.ref p0), .val (.int (4 : Int32)), .val (.int (q4 - (1 : Int32)))] [(.int (1 : Int32)), (.int (4 : Int32))]))
      refine Go.st (fun _ => XS.icmpNo X0.here hx rfl (hb hby own_d_method_2_code_36) rfl (tlt (by decide)).2.2.2) ?_
      show Go p.tables e below P (s₁.setTop (mkF m 39 #[.val (.ref p0), .val (.int (4 : Int32)), .val (.int (q4 - (1 : Int32)))] []))
      refine Go.st (fun _ => XS.aloadN X0.here hx rfl (hb hby own_d_method_2_code_39) rfl rfl) ?_
      show Go p.tables e below P (s₁.setTop (mkF m 40 #[.val (.ref p0), .val (.int (4 : Int32)), .val (.int (q4 - (1 : Int32)))] [(.ref p0)]))
      refine Go.st (fun _ => XS.iconst X0.here hx rfl (hb hby own_d_method_2_code_40)) ?_
      show Go p.tables e below P (s₁.setTop (mkF m 41 #[.val (.ref p0), .val (.int (4 : Int32)), .val (.int (q4 - (1 : Int32)))] [(.int (1 : Int32)), (.ref p0)]))
      refine Go.st (fun _ => own_ldI X0 hx hZ e0 hp0 (j := (1 : Int32)) (i := 1) (v := (.int q1)) (by decide) (by decide) rfl (g := (mkF m 41 #[.val (.ref p0), .val (.int (4 : Int32)), .val (.int (q4 - (1 : Int32)))] [(.int (1 : Int32)), (.ref p0)])) rfl rfl (hb hby own_d_method_2_code_41) _) ?_
      show Go p.tables e below P (s₁.setTop (mkF m 42 #[.val (.ref p0), .val (.int (4 : Int32)), .val (.int (q4 - (1 : Int32)))] [(.int q1)]))
      refine Go.st (fun _ => XS.iloadN X0.here hx rfl (hb hby own_d_method_2_code_42) rfl) ?_
      show Go p.tables e below P (s₁.setTop (mkF m 43 #[.val (.ref p0), .val (.int (4 : Int32)), .val (.int (q4 - (1 : Int32)))] [(.int (q4 - (1 : Int32))), (.int q1)]))
      by_cases hc7 : q1 = (q4 - (1 : Int32))
      · skip
        refine Go.st (fun _ => XS.icmpNo X0.here hx rfl (hb hby own_d_method_2_code_43) rfl (teq hc7).2) ?_
        show Go p.tables e below P (s₁.setTop (mkF m 46 #[.val (.ref p0), .val (.int (4 : Int32)), .val (.int (q4 - (1 : Int32)))] []))
        refine Go.st (fun _ => XS.iconst X0.here hx rfl (hb hby own_d_method_2_code_46)) ?_
        show Go p.tables e below P (s₁.setTop (mkF m 47 #[.val (.ref p0), .val (.int (4 : Int32)), .val (.int (q4 - (1 : Int32)))] [(.int (1 : Int32))]))
        obtain ⟨fs, hr, hrun, hended, hW, hsame⟩ := X0.leave (v := some (.int (1 : Int32))) (fun h => by rw [Bd.returns] at h; cases h)
        refine ⟨_, ?_, hPend _ _ hrun hended ⟨_, _, rfl, ?_, ⟨_, rfl⟩, hW, hsame.mono (by decide) (by decide)⟩⟩
        · exact retOut X0 hx (t := .int) Bd.returns rfl (Or.inl ⟨rfl, Or.inl rfl, _, rfl⟩) (hb hby own_d_method_2_code_47) hr
        · show Q_rm_par4 Z _ _ _ _ _ _ _ _ h0 n0 _ s₁.heap _
          rw [e0]
          exact ⟨(by simp [own_p2, own_p3, own_p4, *]), N0, rfl⟩
      · skip
        refine Go.st (fun _ => XS.icmpYes X0.here hx rfl (pc0 := 43) (pc' := 48) rfl (hb hby own_d_method_2_code_43) rfl (feq hc7).2 (by decide) (by decide)) ?_
        show Go p.tables e below P (s₁.setTop (mkF m 48 #[.val (.ref p0), .val (.int (4 : Int32)), .val (.int (q4 - (1 : Int32)))] []))
        refine Go.st (fun _ => XS.iconst X0.here hx rfl (hb hby own_d_method_2_code_48)) ?_
        show Go p.tables e below P (s₁.setTop (mkF m 49 #[.val (.ref p0), .val (.int (4 : Int32)), .val (.int (q4 - (1 : Int32)))] [(.int (0 : Int32))]))
        obtain ⟨fs, hr, hrun, hended, hW, hsame⟩ := X0.leave (v := some (.int (0 : Int32))) (fun h => by rw [Bd.returns] at h; cases h)
        refine ⟨_, ?_, hPend _ _ hrun hended ⟨_, _, rfl, ?_, ⟨_, rfl⟩, hW, hsame.mono (by decide) (by decide)⟩⟩
        · exact retOut X0 hx (t := .int) Bd.returns rfl (Or.inl ⟨rfl, Or.inl rfl, _, rfl⟩) (hb hby own_d_method_2_code_49) hr
        · show Q_rm_par4 Z _ _ _ _ _ _ _ _ h0 n0 _ s₁.heap _
          rw [e0]
          exact ⟨(by simp [own_p2, own_p3, own_p4, *]), N0, rfl⟩
theorem own_ix {d ps : Int32} (h : 1 ≤ d.toInt ∧ d.toInt < ps.toInt) (hp : 0 < ps.toInt ∧ ps.toInt ≤ 6) : (¬ d < 0 ∧ d < ps) ∧ d.toNatClampNeg < 6 := by
  have e0 : (0 : Int32).toInt = 0 := rfl
  refine ⟨⟨?_, ?_⟩, ?_⟩
  · rw [Int32.lt_iff_toInt_lt]; omega
  · rw [Int32.lt_iff_toInt_lt]; omega
  · show d.toInt.toNat < 6; omega
theorem own_ix1 {d ps : Int32} (h : 1 ≤ d.toInt ∧ d.toInt < ps.toInt) (hp : 0 < ps.toInt ∧ ps.toInt ≤ 6) : ¬ (d - 1) < 0 ∧ (d - 1) < ps := by
  have e0 : (0 : Int32).toInt = 0 := rfl
  have e1 : (1 : Int32).toInt = 1 := rfl
  have a := c_isub d 1
  have r := rng32 (d - 1)
  rw [e1] at a
  constructor
  · rw [Int32.lt_iff_toInt_lt]; omega
  · rw [Int32.lt_iff_toInt_lt]; omega
theorem own_psn {ps : Int32} (hp : 0 < ps.toInt ∧ ps.toInt ≤ 6) : ¬ ps < 0 ∧ ps.toNatClampNeg ≤ 6 ∧ ((0 : Int32) < ps) := by
  have e0 : (0 : Int32).toInt = 0 := rfl
  refine ⟨?_, ?_, ?_⟩
  · rw [Int32.lt_iff_toInt_lt]; omega
  · show ps.toInt.toNat ≤ 6; omega
  · rw [Int32.lt_iff_toInt_lt]; omega
theorem own_ef_rm_att (m : MethodId) (x0 : Addr) (x1 : Addr) : entryFrame m #[(.ref x0), (.ref x1)] 5 = mkF m 0 #[.val (.ref x0), .val (.ref x1), .unset, .unset, .unset] [] := by first | (simp [entryFrame, mkF, argsToLocals, Value.category]; done) | rfl
theorem own_d_prog_43_method_6_code_0 : decode prog_43_method_6_code 0 = .ok (.aload_n 1, 1) := by decide +kernel
theorem own_d_prog_43_method_6_code_1 : decode prog_43_method_6_code 1 = .ok (.iconst 0, 1) := by decide +kernel
theorem own_d_prog_43_method_6_code_2 : decode prog_43_method_6_code 2 = .ok (.iconst 1, 1) := by decide +kernel
theorem own_d_prog_43_method_6_code_3 : decode prog_43_method_6_code 3 = .ok (.bastore, 1) := by decide +kernel
theorem own_d_prog_43_method_6_code_4 : decode prog_43_method_6_code 4 = .ok (.aload_n 0, 1) := by decide +kernel
theorem own_d_prog_43_method_6_code_5 : decode prog_43_method_6_code 5 = .ok (.getfield 46, 3) := by decide +kernel
theorem own_d_prog_43_method_6_code_8 : decode prog_43_method_6_code 8 = .ok (.newarray .boolean, 2) := by decide +kernel
theorem own_d_prog_43_method_6_code_10 : decode prog_43_method_6_code 10 = .ok (.astore_n 2, 1) := by decide +kernel
theorem own_d_prog_43_method_6_code_11 : decode prog_43_method_6_code 11 = .ok (.aload_n 2, 1) := by decide +kernel
theorem own_d_prog_43_method_6_code_12 : decode prog_43_method_6_code 12 = .ok (.iconst 0, 1) := by decide +kernel
theorem own_d_prog_43_method_6_code_13 : decode prog_43_method_6_code 13 = .ok (.iconst 1, 1) := by decide +kernel
theorem own_d_prog_43_method_6_code_14 : decode prog_43_method_6_code 14 = .ok (.bastore, 1) := by decide +kernel
theorem own_d_prog_43_method_6_code_15 : decode prog_43_method_6_code 15 = .ok (.iconst 1, 1) := by decide +kernel
theorem own_d_prog_43_method_6_code_16 : decode prog_43_method_6_code 16 = .ok (.istore_n 3, 1) := by decide +kernel
theorem own_d_prog_43_method_6_code_17 : decode prog_43_method_6_code 17 = .ok (.iload_n 3, 1) := by decide +kernel
theorem own_d_prog_43_method_6_code_18 : decode prog_43_method_6_code 18 = .ok (.aload_n 0, 1) := by decide +kernel
theorem own_d_prog_43_method_6_code_19 : decode prog_43_method_6_code 19 = .ok (.getfield 13, 3) := by decide +kernel
theorem own_d_prog_43_method_6_code_22 : decode prog_43_method_6_code 22 = .ok (.if_icmp .ge 47, 3) := by decide +kernel
theorem own_d_prog_43_method_6_code_25 : decode prog_43_method_6_code 25 = .ok (.aload_n 0, 1) := by decide +kernel
theorem own_d_prog_43_method_6_code_26 : decode prog_43_method_6_code 26 = .ok (.getfield 29, 3) := by decide +kernel
theorem own_d_prog_43_method_6_code_29 : decode prog_43_method_6_code 29 = .ok (.iload_n 3, 1) := by decide +kernel
theorem own_d_prog_43_method_6_code_30 : decode prog_43_method_6_code 30 = .ok (.iaload, 1) := by decide +kernel
theorem own_d_prog_43_method_6_code_31 : decode prog_43_method_6_code 31 = .ok (.istore 4, 2) := by decide +kernel
theorem own_d_prog_43_method_6_code_33 : decode prog_43_method_6_code 33 = .ok (.aload_n 1, 1) := by decide +kernel
theorem own_d_prog_43_method_6_code_34 : decode prog_43_method_6_code 34 = .ok (.iload_n 3, 1) := by decide +kernel
theorem own_d_prog_43_method_6_code_35 : decode prog_43_method_6_code 35 = .ok (.aload_n 1, 1) := by decide +kernel
theorem own_d_prog_43_method_6_code_36 : decode prog_43_method_6_code 36 = .ok (.iload_n 3, 1) := by decide +kernel
theorem own_d_prog_43_method_6_code_37 : decode prog_43_method_6_code 37 = .ok (.baload, 1) := by decide +kernel
theorem own_d_prog_43_method_6_code_55 : decode prog_43_method_6_code 55 = .ok (.bastore, 1) := by decide +kernel
theorem own_d_prog_43_method_6_code_56 : decode prog_43_method_6_code 56 = .ok (.aload_n 2, 1) := by decide +kernel
theorem own_d_prog_43_method_6_code_57 : decode prog_43_method_6_code 57 = .ok (.iload 4, 2) := by decide +kernel
theorem own_d_prog_43_method_6_code_59 : decode prog_43_method_6_code 59 = .ok (.aload_n 1, 1) := by decide +kernel
theorem own_d_prog_43_method_6_code_60 : decode prog_43_method_6_code 60 = .ok (.iload_n 3, 1) := by decide +kernel
theorem own_d_prog_43_method_6_code_61 : decode prog_43_method_6_code 61 = .ok (.baload, 1) := by decide +kernel
theorem own_d_prog_43_method_6_code_62 : decode prog_43_method_6_code 62 = .ok (.bastore, 1) := by decide +kernel
theorem own_d_prog_43_method_6_code_63 : decode prog_43_method_6_code 63 = .ok (.iinc 3 1, 3) := by decide +kernel
theorem own_d_prog_43_method_6_code_66 : decode prog_43_method_6_code 66 = .ok (.goto (-49), 3) := by decide +kernel
theorem own_d_prog_43_method_6_code_69 : decode prog_43_method_6_code 69 = .ok (.aload_n 1, 1) := by decide +kernel
theorem own_d_prog_43_method_6_code_70 : decode prog_43_method_6_code 70 = .ok (.areturn, 1) := by decide +kernel
theorem own_d_prog_43_method_6_code_38 : decode prog_43_method_6_code 38 = .ok (.ifCond .eq 16, 3) := by decide +kernel
theorem own_d_prog_43_method_6_code_54 : decode prog_43_method_6_code 54 = .ok (.iconst 0, 1) := by decide +kernel
theorem own_d_prog_43_method_6_code_41 : decode prog_43_method_6_code 41 = .ok (.aload_n 2, 1) := by decide +kernel
theorem own_d_prog_43_method_6_code_42 : decode prog_43_method_6_code 42 = .ok (.iload 4, 2) := by decide +kernel
theorem own_d_prog_43_method_6_code_44 : decode prog_43_method_6_code 44 = .ok (.iconst 1, 1) := by decide +kernel
theorem own_d_prog_43_method_6_code_45 : decode prog_43_method_6_code 45 = .ok (.isub, 1) := by decide +kernel
theorem own_d_prog_43_method_6_code_46 : decode prog_43_method_6_code 46 = .ok (.baload, 1) := by decide +kernel
theorem own_d_prog_43_method_6_code_47 : decode prog_43_method_6_code 47 = .ok (.ifCond .eq 7, 3) := by decide +kernel
theorem own_d_prog_43_method_6_code_50 : decode prog_43_method_6_code 50 = .ok (.iconst 1, 1) := by decide +kernel
theorem own_d_prog_43_method_6_code_51 : decode prog_43_method_6_code 51 = .ok (.goto 4, 3) := by decide +kernel
def Q_rm_att (Z : State) (w_EM : Addr) (p0 : Addr) (p1 : Addr) (pd : Addr) (kd : ClassId) (d0 : Int32) (d1 : Int32) (d2 : Int32) (d3 : Int32) (d4 : Int32) (ps : Int32) (kb : ClassId) (xb0 : Int32) (xb1 : Int32) (xb2 : Int32) (xb3 : Int32) (xb4 : Int32) (h0 : Heap) (n0 : Nat) (v : Option Value) (h : Heap) (L : List Loc) : Prop := ∃ (o1 : Int32) (o2 : Int32) (o3 : Int32) (o4 : Int32), v = some (.ref p1) ∧ Fr n0 L ∧ Keep h0 h [p1] ∧ Arv Z h p1 kb .boolean (5 : Int32) [(.int (1 : Int32)), (.int o1), (.int o2), (.int o3), (.int o4)] (.int (0 : Int32)) ∧ o1 = own_and xb1 (([1, 0, 0, 0, 0, 0] : List Int32).getD (d1 - (1 : Int32)).toNatClampNeg 0) ∧ o2 = own_and xb2 ((([1, 0, 0, 0, 0, 0] : List Int32).set d1.toNatClampNeg o1).getD (d2 - (1 : Int32)).toNatClampNeg 0) ∧ o3 = own_and xb3 (((([1, 0, 0, 0, 0, 0] : List Int32).set d1.toNatClampNeg o1).set d2.toNatClampNeg o2).getD (d3 - (1 : Int32)).toNatClampNeg 0) ∧ o4 = own_and xb4 ((((([1, 0, 0, 0, 0, 0] : List Int32).set d1.toNatClampNeg o1).set d2.toNatClampNeg o2).set d3.toNatClampNeg o3).getD (d4 - (1 : Int32)).toNatClampNeg 0)
set_option maxRecDepth 65536 in
set_option maxHeartbeats 40000000 in
theorem rm_att (l : Launch) (Z : State) (a0 : Array Value) (hw : ∀ d ∈ tables_1, d.before a0 Z = true) (ws : List Jvm.Cond) (w_EM : Addr) (S_EM : Sta Z Z.heap "java/util/ImmutableCollections" "EMPTY_MAP" "Ljava/util/ImmutableCollections$MapN;" (.ref w_EM)) (X_EM : Exa Z Z.heap w_EM "java/util/ImmutableCollections$MapN") (p0 : Addr) (p1 : Addr) (pd : Addr) (kd : ClassId) (d0 : Int32) (d1 : Int32) (d2 : Int32) (d3 : Int32) (d4 : Int32) (ps : Int32) (kb : ClassId) (xb0 : Int32) (xb1 : Int32) (xb2 : Int32) (xb3 : Int32) (xb4 : Int32) (h0 : Heap) (n0 : Nat) (X00 : Old Z n0 h0) (hp0 : Exa Z h0 p0 "com/example/parametree/parametree/MeanTree") (hp1 : Fld Z h0 p0 "com/example/parametree/parametree/MeanTree" "size" "I" (.int (5 : Int32))) (hp2 : Fld Z h0 p0 "com/example/parametree/parametree/MeanTree" "depth" "[I" (.ref pd)) (hp3 : Fld Z h0 p0 "com/example/parametree/parametree/MeanTree" "slots" "I" (.int ps)) (hp4 : Arv Z h0 pd kd .int (5 : Int32) [(.int d0), (.int d1), (.int d2), (.int d3), (.int d4)] (.int (0 : Int32))) (hp5 : Arv Z h0 p1 kb .boolean (5 : Int32) [(.int xb0), (.int xb1), (.int xb2), (.int xb3), (.int xb4)] (.int (0 : Int32))) (hp6 : n0 ≤ p1) (hp7 : pd ≠ p1) (hps : 0 < ps.toInt ∧ ps.toInt ≤ 6) (hdd1 : 1 ≤ d1.toInt ∧ d1.toInt < ps.toInt) (hdd2 : 1 ≤ d2.toInt ∧ d2.toInt < ps.toInt) (hdd3 : 1 ≤ d3.toInt ∧ d3.toInt < ps.toInt) (hdd4 : 1 ≤ d4.toInt ∧ d4.toInt < ps.toInt) :
    MetFree l (⟨"com/example/parametree/parametree/MeanTree", "attach", "([Z)[Z"⟩ : MethodName) (head1 (Jvm.Cond.code (⟨"com/example/parametree/parametree/MeanTree", "attach", "([Z)[Z"⟩ : MethodName) prog_43_method_6_code 5 (some (.array .boolean)) :: ws) ({ frames := 0, cells := 1, slots := 6, locals := 0 } : Room)) (fun a U => a = #[(.ref p0), (.ref p1)] ∧ Z.Warmed39 U.vm ∧ U.heap = h0) (fun _ _ _ _ _ => True) (fun _ U o U' => ∃ v L, o = .returned v ∧ Q_rm_att Z w_EM p0 p1 pd kd d0 d1 d2 d3 d4 ps kb xb0 xb1 xb2 xb3 xb4 h0 n0 v U'.heap L ∧ FrameEnd U o U' L ({ frames := 0, cells := 1, slots := 6, locals := 0 } : Room).cells ({ frames := 0, cells := 1, slots := 6, locals := 0 } : Room).slots) := by
  refine MetFree.of_bodySF (plainFor_of_name own_pn2) hisR ?_
  intro p e s m args below meth c s₁ Bd hml0 hP hK
  obtain ⟨rfl, hZ, hh⟩ := hP
  have hx := Bd.exec
  have hby := Bd.bytes
  have hml : c.maxLocals = 5 := hml0
  have hown : s.vm.findClass "com/example/parametree/parametree/MeanTree" = some m.cls := findClass_of_methodNamed Bd.named
  have hnm := (name_of_methodNamed Bd.named Bd.method).1
  have X0 : Stand p l e ({ frames := 0, cells := 1, slots := 6, locals := 0 } : Room) s m #[(.ref p0), (.ref p1)] below meth c s₁ [] 0 0 := Stand.of_body Bd
  have e0 : s₁.heap = h0 := by rw [← hh, Bd.state]; rfl
  have N0 := Fr.nil n0
  refine Go.start fun P hPend => ?_
  refine Go.st (fun _ k => castTop (own_ef_rm_att m p0 p1) k) ?_
  show Go p.tables e below P (s₁.setTop (mkF m 0 #[.val (.ref p0), .val (.ref p1), .unset, .unset, .unset] []))
  refine Go.st (fun _ => XS.aloadN X0.here hx rfl (hb hby own_d_prog_43_method_6_code_0) rfl rfl) ?_
  show Go p.tables e below P (s₁.setTop (mkF m 1 #[.val (.ref p0), .val (.ref p1), .unset, .unset, .unset] [(.ref p1)]))
  refine Go.st (fun _ => XS.iconst X0.here hx rfl (hb hby own_d_prog_43_method_6_code_1)) ?_
  show Go p.tables e below P (s₁.setTop (mkF m 2 #[.val (.ref p0), .val (.ref p1), .unset, .unset, .unset] [(.int (0 : Int32)), (.ref p1)]))
  refine Go.st (fun _ => XS.iconst X0.here hx rfl (hb hby own_d_prog_43_method_6_code_2)) ?_
  show Go p.tables e below P (s₁.setTop (mkF m 3 #[.val (.ref p0), .val (.ref p1), .unset, .unset, .unset] [(.int (1 : Int32)), (.int (0 : Int32)), (.ref p1)]))
  obtain ⟨T1, h1, X1, e1, W1, V1, st1⟩ := own_stZ X0 hx hZ e0 hp5 (j := (0 : Int32)) (i := 0) (by decide) (by decide) (Nat.le_of_ble_eq_true rfl) (g := (mkF m 3 #[.val (.ref p0), .val (.ref p1), .unset, .unset, .unset] [(.int (1 : Int32)), (.int (0 : Int32)), (.ref p1)])) rfl rfl (hb hby own_d_prog_43_method_6_code_3)
  refine Go.st st1 ?_
  have K1 : Keep h0 h1 [p1] := (Keep.refl h0 [p1]).wr W1 (Or.inl (List.mem_of_getElem? (i := 0) rfl))
  have O1 := X00.wr W1 hp6
  have N1 := Fr.snoc X1 N0 hp6
  have V1' : Arv Z h1 p1 kb .boolean (5 : Int32) [(.int (1 : Int32)), (.int xb1), (.int xb2), (.int xb3), (.int xb4)] (.int (0 : Int32)) := V1
  show Go p.tables e below P (T1.setTop (mkF m 4 #[.val (.ref p0), .val (.ref p1), .unset, .unset, .unset] []))
  refine Go.st (fun _ => XS.aloadN X1.here hx rfl (hb hby own_d_prog_43_method_6_code_4) rfl rfl) ?_
  show Go p.tables e below P (T1.setTop (mkF m 5 #[.val (.ref p0), .val (.ref p1), .unset, .unset, .unset] [(.ref p0)]))
  have c2 := (hp3.other W1 (Or.inl (Exa.neArv hp0 hp5 (hw _ (List.mem_of_getElem? (i := 48) rfl)))))
  obtain ⟨T3, X3, e3, st3⟩ := getF X1 hx hZ hown (host := "") (Or.inl (hw _ (List.mem_of_getElem? (i := 88) rfl))) Via.refl e1 c2 (g := (mkF m 5 #[.val (.ref p0), .val (.ref p1), .unset, .unset, .unset] [(.ref p0)])) rfl rfl (hb hby own_d_prog_43_method_6_code_5)
  refine Go.st st3 ?_
  show Go p.tables e below P (T3.setTop (mkF m 8 #[.val (.ref p0), .val (.ref p1), .unset, .unset, .unset] [(.int ps)]))
  have c5 := (hp0.wr W1)
  have c6 := (hp4.other W1 hp7)
  obtain ⟨T4, h4, k4, X4, e4, E4, A4, st4⟩ := newP X3 hx hZ (hw _ (List.mem_of_getElem? (i := 80) rfl)) e3 (g := (mkF m 8 #[.val (.ref p0), .val (.ref p1), .unset, .unset, .unset] [(.int ps)])) rfl (hb hby own_d_prog_43_method_6_code_8) rfl (own_psn hps).1 (cap := 6) (own_psn hps).2.1 (by decide) (by decide) (by decide)
  obtain ⟨b4, g4⟩ : ∃ z, z = h1.size := ⟨_, rfl⟩
  rw [← g4] at A4 st4
  refine Go.st st4 ?_
  have g_b4 : n0 ≤ b4 := Nat.le_trans (own_oldsz O1) (Nat.le_of_eq g4.symm)
  have sz_b4 : h0.size ≤ b4 := Nat.le_trans K1.1 (Nat.le_of_eq g4.symm)
  have K4 : Keep h0 h4 [p1] := K1.ext E4
  have O4 := O1.ext E4
  have V4 : Arv Z h4 b4 k4 .boolean ps [] (.int (0 : Int32)) := Arv.new A4 (own_psn hps).1
  show Go p.tables e below P (T4.setTop (mkF m 10 #[.val (.ref p0), .val (.ref p1), .unset, .unset, .unset] [(.ref b4)]))
  have Vp7 : Arv Z h4 b4 k4 .boolean ps (([0, 0, 0, 0, 0, 0] : List Int32).map Value.int) (.int (0 : Int32)) := V4.pad (pad_rep [] (.int (0 : Int32)) 6)
  refine Go.st (fun _ => XS.astoreN X4.here hx rfl (hb hby own_d_prog_43_method_6_code_10) rfl rfl (l' := #[.val (.ref p0), .val (.ref p1), .val (.ref b4), .unset, .unset]) rfl) ?_
  show Go p.tables e below P (T4.setTop (mkF m 11 #[.val (.ref p0), .val (.ref p1), .val (.ref b4), .unset, .unset] []))
  refine Go.st (fun _ => XS.aloadN X4.here hx rfl (hb hby own_d_prog_43_method_6_code_11) rfl rfl) ?_
  show Go p.tables e below P (T4.setTop (mkF m 12 #[.val (.ref p0), .val (.ref p1), .val (.ref b4), .unset, .unset] [(.ref b4)]))
  refine Go.st (fun _ => XS.iconst X4.here hx rfl (hb hby own_d_prog_43_method_6_code_12)) ?_
  show Go p.tables e below P (T4.setTop (mkF m 13 #[.val (.ref p0), .val (.ref p1), .val (.ref b4), .unset, .unset] [(.int (0 : Int32)), (.ref b4)]))
  refine Go.st (fun _ => XS.iconst X4.here hx rfl (hb hby own_d_prog_43_method_6_code_13)) ?_
  show Go p.tables e below P (T4.setTop (mkF m 14 #[.val (.ref p0), .val (.ref p1), .val (.ref b4), .unset, .unset] [(.int (1 : Int32)), (.int (0 : Int32)), (.ref b4)]))
  obtain ⟨T8, h8, X8, e8, W8, V8, st8⟩ := own_stZ X4 hx hZ e4 Vp7 (j := (0 : Int32)) (i := 0) ⟨by decide, (own_psn hps).2.2⟩ (by decide) (Nat.le_of_ble_eq_true rfl) (g := (mkF m 14 #[.val (.ref p0), .val (.ref p1), .val (.ref b4), .unset, .unset] [(.int (1 : Int32)), (.int (0 : Int32)), (.ref b4)])) rfl rfl (hb hby own_d_prog_43_method_6_code_14)
  refine Go.st st8 ?_
  have K8 : Keep h0 h8 [p1] := K4.wr W8 (Or.inr sz_b4)
  have O8 := O4.wr W8 g_b4
  have N8 := Fr.snoc X8 N1 g_b4
  have V8' : Arv Z h8 b4 k4 .boolean ps (([1, 0, 0, 0, 0, 0] : List Int32).map Value.int) (.int (0 : Int32)) := V8
  show Go p.tables e below P (T8.setTop (mkF m 15 #[.val (.ref p0), .val (.ref p1), .val (.ref b4), .unset, .unset] []))
  refine Go.st (fun _ => XS.iconst X8.here hx rfl (hb hby own_d_prog_43_method_6_code_15)) ?_
  show Go p.tables e below P (T8.setTop (mkF m 16 #[.val (.ref p0), .val (.ref p1), .val (.ref b4), .unset, .unset] [(.int (1 : Int32))]))
  refine Go.st (fun _ => XS.istoreN X8.here hx rfl (hb hby own_d_prog_43_method_6_code_16) rfl (l' := #[.val (.ref p0), .val (.ref p1), .val (.ref b4), .val (.int (1 : Int32)), .unset]) rfl) ?_
  show Go p.tables e below P (T8.setTop (mkF m 17 #[.val (.ref p0), .val (.ref p1), .val (.ref b4), .val (.int (1 : Int32)), .unset] []))
  refine Go.st (fun _ => XS.iloadN X8.here hx rfl (hb hby own_d_prog_43_method_6_code_17) rfl) ?_
  show Go p.tables e below P (T8.setTop (mkF m 18 #[.val (.ref p0), .val (.ref p1), .val (.ref b4), .val (.int (1 : Int32)), .unset] [(.int (1 : Int32))]))
  refine Go.st (fun _ => XS.aloadN X8.here hx rfl (hb hby own_d_prog_43_method_6_code_18) rfl rfl) ?_
  show Go p.tables e below P (T8.setTop (mkF m 19 #[.val (.ref p0), .val (.ref p1), .val (.ref b4), .val (.int (1 : Int32)), .unset] [(.ref p0), (.int (1 : Int32))]))
  have c9 := (((hp1.other W1 (Or.inl (Exa.neArv hp0 hp5 (hw _ (List.mem_of_getElem? (i := 48) rfl))))).ext E4).other W8 (Or.inl (Nat.ne_of_lt (Nat.lt_of_lt_of_le c5.lt (Nat.le_of_eq g4.symm)))))
  obtain ⟨T10, X10, e10, st10⟩ := getF X8 hx hZ hown (host := "") (Or.inl (hw _ (List.mem_of_getElem? (i := 60) rfl))) Via.refl e8 c9 (g := (mkF m 19 #[.val (.ref p0), .val (.ref p1), .val (.ref b4), .val (.int (1 : Int32)), .unset] [(.ref p0), (.int (1 : Int32))])) rfl rfl (hb hby own_d_prog_43_method_6_code_19)
  refine Go.st st10 ?_
  show Go p.tables e below P (T10.setTop (mkF m 22 #[.val (.ref p0), .val (.ref p1), .val (.ref b4), .val (.int (1 : Int32)), .unset] [(.int (5 : Int32)), (.int (1 : Int32))]))
  refine Go.st (fun _ => XS.icmpNo X10.here hx rfl (hb hby own_d_prog_43_method_6_code_22) rfl (tlt (by decide)).2.1) ?_
  show Go p.tables e below P (T10.setTop (mkF m 25 #[.val (.ref p0), .val (.ref p1), .val (.ref b4), .val (.int (1 : Int32)), .unset] []))
  refine Go.st (fun _ => XS.aloadN X10.here hx rfl (hb hby own_d_prog_43_method_6_code_25) rfl rfl) ?_
  show Go p.tables e below P (T10.setTop (mkF m 26 #[.val (.ref p0), .val (.ref p1), .val (.ref b4), .val (.int (1 : Int32)), .unset] [(.ref p0)]))
  have c11 := (((hp2.other W1 (Or.inl (Exa.neArv hp0 hp5 (hw _ (List.mem_of_getElem? (i := 48) rfl))))).ext E4).other W8 (Or.inl (Nat.ne_of_lt (Nat.lt_of_lt_of_le c5.lt (Nat.le_of_eq g4.symm)))))
  obtain ⟨T12, X12, e12, st12⟩ := getF X10 hx hZ hown (host := "") (Or.inl (hw _ (List.mem_of_getElem? (i := 74) rfl))) Via.refl e10 c11 (g := (mkF m 26 #[.val (.ref p0), .val (.ref p1), .val (.ref b4), .val (.int (1 : Int32)), .unset] [(.ref p0)])) rfl rfl (hb hby own_d_prog_43_method_6_code_26)
  refine Go.st st12 ?_
  show Go p.tables e below P (T12.setTop (mkF m 29 #[.val (.ref p0), .val (.ref p1), .val (.ref b4), .val (.int (1 : Int32)), .unset] [(.ref pd)]))
  refine Go.st (fun _ => XS.iloadN X12.here hx rfl (hb hby own_d_prog_43_method_6_code_29) rfl) ?_
  show Go p.tables e below P (T12.setTop (mkF m 30 #[.val (.ref p0), .val (.ref p1), .val (.ref b4), .val (.int (1 : Int32)), .unset] [(.int (1 : Int32)), (.ref pd)]))
  have c14 := ((c6.ext E4).other W8 (Nat.ne_of_lt (Nat.lt_of_lt_of_le c6.lt (Nat.le_of_eq g4.symm))))
  refine Go.st (fun _ => own_ldI X12 hx hZ e12 c14 (j := (1 : Int32)) (i := 1) (v := (.int d1)) (by decide) (by decide) rfl (g := (mkF m 30 #[.val (.ref p0), .val (.ref p1), .val (.ref b4), .val (.int (1 : Int32)), .unset] [(.int (1 : Int32)), (.ref pd)])) rfl rfl (hb hby own_d_prog_43_method_6_code_30) _) ?_
  show Go p.tables e below P (T12.setTop (mkF m 31 #[.val (.ref p0), .val (.ref p1), .val (.ref b4), .val (.int (1 : Int32)), .unset] [(.int d1)]))
  refine Go.st (fun _ => XS.istore X12.here hx rfl (hb hby own_d_prog_43_method_6_code_31) rfl (l' := #[.val (.ref p0), .val (.ref p1), .val (.ref b4), .val (.int (1 : Int32)), .val (.int d1)]) rfl) ?_
  show Go p.tables e below P (T12.setTop (mkF m 33 #[.val (.ref p0), .val (.ref p1), .val (.ref b4), .val (.int (1 : Int32)), .val (.int d1)] []))
  refine Go.st (fun _ => XS.aloadN X12.here hx rfl (hb hby own_d_prog_43_method_6_code_33) rfl rfl) ?_
  show Go p.tables e below P (T12.setTop (mkF m 34 #[.val (.ref p0), .val (.ref p1), .val (.ref b4), .val (.int (1 : Int32)), .val (.int d1)] [(.ref p1)]))
  refine Go.st (fun _ => XS.iloadN X12.here hx rfl (hb hby own_d_prog_43_method_6_code_34) rfl) ?_
  show Go p.tables e below P (T12.setTop (mkF m 35 #[.val (.ref p0), .val (.ref p1), .val (.ref b4), .val (.int (1 : Int32)), .val (.int d1)] [(.int (1 : Int32)), (.ref p1)]))
  refine Go.st (fun _ => XS.aloadN X12.here hx rfl (hb hby own_d_prog_43_method_6_code_35) rfl rfl) ?_
  show Go p.tables e below P (T12.setTop (mkF m 36 #[.val (.ref p0), .val (.ref p1), .val (.ref b4), .val (.int (1 : Int32)), .val (.int d1)] [(.ref p1), (.int (1 : Int32)), (.ref p1)]))
  refine Go.st (fun _ => XS.iloadN X12.here hx rfl (hb hby own_d_prog_43_method_6_code_36) rfl) ?_
  show Go p.tables e below P (T12.setTop (mkF m 37 #[.val (.ref p0), .val (.ref p1), .val (.ref b4), .val (.int (1 : Int32)), .val (.int d1)] [(.int (1 : Int32)), (.ref p1), (.int (1 : Int32)), (.ref p1)]))
  have c16 := ((V1'.ext E4).other W8 (Nat.ne_of_lt (Nat.lt_of_lt_of_le V1'.lt (Nat.le_of_eq g4.symm))))
  refine Go.st (fun _ => own_ldZ X12 hx hZ e12 c16 (j := (1 : Int32)) (i := 1) (v := (.int xb1)) (by decide) (by decide) rfl (g := (mkF m 37 #[.val (.ref p0), .val (.ref p1), .val (.ref b4), .val (.int (1 : Int32)), .val (.int d1)] [(.int (1 : Int32)), (.ref p1), (.int (1 : Int32)), (.ref p1)])) rfl rfl (hb hby own_d_prog_43_method_6_code_37) _) ?_
  show Go p.tables e below P (T12.setTop (mkF m 38 #[.val (.ref p0), .val (.ref p1), .val (.ref b4), .val (.int (1 : Int32)), .val (.int d1)] [(.int xb1), (.int (1 : Int32)), (.ref p1)]))
  have J17 : ∀ (Tj17 : State) (Lj17 : List Loc) (Xj17 : Stand p l e ({ frames := 0, cells := 1, slots := 6, locals := 0 } : Room) s m #[(.ref p0), (.ref p1)] below meth c Tj17 Lj17 1 6) (ej17 : Tj17.heap = h8) (Nj17 : Fr n0 Lj17) (o1 : Int32) (ho1 : o1 = own_and xb1 (([1, 0, 0, 0, 0, 0] : List Int32).getD (d1 - (1 : Int32)).toNatClampNeg 0)), Go p.tables e below P (Tj17.setTop (mkF m 55 #[.val (.ref p0), .val (.ref p1), .val (.ref b4), .val (.int (1 : Int32)), .val (.int d1)] [(.int o1), (.int (1 : Int32)), (.ref p1)])) := by
    intro Tj17 Lj17 Xj17 ej17 Nj17 o1 ho1
    show Go p.tables e below P (Tj17.setTop (mkF m 55 #[.val (.ref p0), .val (.ref p1), .val (.ref b4), .val (.int (1 : Int32)), .val (.int d1)] [(.int o1), (.int (1 : Int32)), (.ref p1)]))
    obtain ⟨T18, h18, X18, e18, W18, V18, st18⟩ := own_stZ Xj17 hx hZ ej17 c16 (j := (1 : Int32)) (i := 1) (by decide) (by decide) (Nat.le_of_ble_eq_true rfl) (g := (mkF m 55 #[.val (.ref p0), .val (.ref p1), .val (.ref b4), .val (.int (1 : Int32)), .val (.int d1)] [(.int o1), (.int (1 : Int32)), (.ref p1)])) rfl rfl (hb hby own_d_prog_43_method_6_code_55)
    refine Go.st st18 ?_
    rw [own_narZ (by rw [ho1]; exact own_and01 _ _)] at V18
    have K18 : Keep h0 h18 [p1] := K8.wr W18 (Or.inl (List.mem_of_getElem? (i := 0) rfl))
    have O18 := O8.wr W18 hp6
    have N18 := Fr.snoc X18 Nj17 hp6
    have V18' : Arv Z h18 p1 kb .boolean (5 : Int32) [(.int (1 : Int32)), (.int o1), (.int xb2), (.int xb3), (.int xb4)] (.int (0 : Int32)) := V18
    show Go p.tables e below P (T18.setTop (mkF m 56 #[.val (.ref p0), .val (.ref p1), .val (.ref b4), .val (.int (1 : Int32)), .val (.int d1)] []))
    refine Go.st (fun _ => XS.aloadN X18.here hx rfl (hb hby own_d_prog_43_method_6_code_56) rfl rfl) ?_
    show Go p.tables e below P (T18.setTop (mkF m 57 #[.val (.ref p0), .val (.ref p1), .val (.ref b4), .val (.int (1 : Int32)), .val (.int d1)] [(.ref b4)]))
    refine Go.st (fun _ => XS.iload X18.here hx rfl (hb hby own_d_prog_43_method_6_code_57) rfl) ?_
    show Go p.tables e below P (T18.setTop (mkF m 59 #[.val (.ref p0), .val (.ref p1), .val (.ref b4), .val (.int (1 : Int32)), .val (.int d1)] [(.int d1), (.ref b4)]))
    refine Go.st (fun _ => XS.aloadN X18.here hx rfl (hb hby own_d_prog_43_method_6_code_59) rfl rfl) ?_
    show Go p.tables e below P (T18.setTop (mkF m 60 #[.val (.ref p0), .val (.ref p1), .val (.ref b4), .val (.int (1 : Int32)), .val (.int d1)] [(.ref p1), (.int d1), (.ref b4)]))
    refine Go.st (fun _ => XS.iloadN X18.here hx rfl (hb hby own_d_prog_43_method_6_code_60) rfl) ?_
    show Go p.tables e below P (T18.setTop (mkF m 61 #[.val (.ref p0), .val (.ref p1), .val (.ref b4), .val (.int (1 : Int32)), .val (.int d1)] [(.int (1 : Int32)), (.ref p1), (.int d1), (.ref b4)]))
    refine Go.st (fun _ => own_ldZ X18 hx hZ e18 V18' (j := (1 : Int32)) (i := 1) (v := (.int o1)) (by decide) (by decide) rfl (g := (mkF m 61 #[.val (.ref p0), .val (.ref p1), .val (.ref b4), .val (.int (1 : Int32)), .val (.int d1)] [(.int (1 : Int32)), (.ref p1), (.int d1), (.ref b4)])) rfl rfl (hb hby own_d_prog_43_method_6_code_61) _) ?_
    show Go p.tables e below P (T18.setTop (mkF m 62 #[.val (.ref p0), .val (.ref p1), .val (.ref b4), .val (.int (1 : Int32)), .val (.int d1)] [(.int o1), (.int d1), (.ref b4)]))
    have c21 := (V8'.other W18 (Ne.symm (Nat.ne_of_lt (Nat.lt_of_lt_of_le V1'.lt (Nat.le_of_eq g4.symm)))))
    obtain ⟨T20, h20, X20, e20, W20, V20, st20⟩ := own_stZ X18 hx hZ e18 c21 (j := d1) (i := (d1).toNatClampNeg) (own_ix hdd1 hps).1 rfl (by first | exact (own_ix hdd1 hps).2 | (simp only [List.length_map, List.length_set]; exact (own_ix hdd1 hps).2)) (g := (mkF m 62 #[.val (.ref p0), .val (.ref p1), .val (.ref b4), .val (.int (1 : Int32)), .val (.int d1)] [(.int o1), (.int d1), (.ref b4)])) rfl rfl (hb hby own_d_prog_43_method_6_code_62)
    refine Go.st st20 ?_
    rw [own_narZ (by rw [ho1]; exact own_and01 _ _)] at V20
    have K20 : Keep h0 h20 [p1] := K18.wr W20 (Or.inr sz_b4)
    have O20 := O18.wr W20 g_b4
    have N20 := Fr.snoc X20 N18 g_b4
    have V20' : Arv Z h20 b4 k4 .boolean ps ((([1, 0, 0, 0, 0, 0] : List Int32).set d1.toNatClampNeg o1).map Value.int) (.int (0 : Int32)) := own_arv_set V20
    show Go p.tables e below P (T20.setTop (mkF m 63 #[.val (.ref p0), .val (.ref p1), .val (.ref b4), .val (.int (1 : Int32)), .val (.int d1)] []))
    refine Go.st (fun _ => XS.iinc X20.here hx rfl (hb hby own_d_prog_43_method_6_code_63) rfl (l' := #[.val (.ref p0), .val (.ref p1), .val (.ref b4), .val (.int (2 : Int32)), .val (.int d1)]) rfl) ?_
    show Go p.tables e below P (T20.setTop (mkF m 66 #[.val (.ref p0), .val (.ref p1), .val (.ref b4), .val (.int (2 : Int32)), .val (.int d1)] []))
    refine Go.st (fun _ => XS.goto X20.here hx rfl (pc0 := 66) (pc' := 17) rfl (hb hby own_d_prog_43_method_6_code_66) (by decide) (by decide)) ?_
    show Go p.tables e below P (T20.setTop (mkF m 17 #[.val (.ref p0), .val (.ref p1), .val (.ref b4), .val (.int (2 : Int32)), .val (.int d1)] []))
    refine Go.st (fun _ => XS.iloadN X20.here hx rfl (hb hby own_d_prog_43_method_6_code_17) rfl) ?_
    show Go p.tables e below P (T20.setTop (mkF m 18 #[.val (.ref p0), .val (.ref p1), .val (.ref b4), .val (.int (2 : Int32)), .val (.int d1)] [(.int (2 : Int32))]))
    refine Go.st (fun _ => XS.aloadN X20.here hx rfl (hb hby own_d_prog_43_method_6_code_18) rfl rfl) ?_
    show Go p.tables e below P (T20.setTop (mkF m 19 #[.val (.ref p0), .val (.ref p1), .val (.ref b4), .val (.int (2 : Int32)), .val (.int d1)] [(.ref p0), (.int (2 : Int32))]))
    have c22 := ((c9.other W18 (Or.inl (Exa.neArv hp0 hp5 (hw _ (List.mem_of_getElem? (i := 48) rfl))))).other W20 (Or.inl (Nat.ne_of_lt (Nat.lt_of_lt_of_le c5.lt (Nat.le_of_eq g4.symm)))))
    obtain ⟨T23, X23, e23, st23⟩ := getF X20 hx hZ hown (host := "") (Or.inl (hw _ (List.mem_of_getElem? (i := 60) rfl))) Via.refl e20 c22 (g := (mkF m 19 #[.val (.ref p0), .val (.ref p1), .val (.ref b4), .val (.int (2 : Int32)), .val (.int d1)] [(.ref p0), (.int (2 : Int32))])) rfl rfl (hb hby own_d_prog_43_method_6_code_19)
    refine Go.st st23 ?_
    show Go p.tables e below P (T23.setTop (mkF m 22 #[.val (.ref p0), .val (.ref p1), .val (.ref b4), .val (.int (2 : Int32)), .val (.int d1)] [(.int (5 : Int32)), (.int (2 : Int32))]))
    refine Go.st (fun _ => XS.icmpNo X23.here hx rfl (hb hby own_d_prog_43_method_6_code_22) rfl (tlt (by decide)).2.1) ?_
    show Go p.tables e below P (T23.setTop (mkF m 25 #[.val (.ref p0), .val (.ref p1), .val (.ref b4), .val (.int (2 : Int32)), .val (.int d1)] []))
    refine Go.st (fun _ => XS.aloadN X23.here hx rfl (hb hby own_d_prog_43_method_6_code_25) rfl rfl) ?_
    show Go p.tables e below P (T23.setTop (mkF m 26 #[.val (.ref p0), .val (.ref p1), .val (.ref b4), .val (.int (2 : Int32)), .val (.int d1)] [(.ref p0)]))
    have c24 := ((c11.other W18 (Or.inl (Exa.neArv hp0 hp5 (hw _ (List.mem_of_getElem? (i := 48) rfl))))).other W20 (Or.inl (Nat.ne_of_lt (Nat.lt_of_lt_of_le c5.lt (Nat.le_of_eq g4.symm)))))
    obtain ⟨T25, X25, e25, st25⟩ := getF X23 hx hZ hown (host := "") (Or.inl (hw _ (List.mem_of_getElem? (i := 74) rfl))) Via.refl e23 c24 (g := (mkF m 26 #[.val (.ref p0), .val (.ref p1), .val (.ref b4), .val (.int (2 : Int32)), .val (.int d1)] [(.ref p0)])) rfl rfl (hb hby own_d_prog_43_method_6_code_26)
    refine Go.st st25 ?_
    show Go p.tables e below P (T25.setTop (mkF m 29 #[.val (.ref p0), .val (.ref p1), .val (.ref b4), .val (.int (2 : Int32)), .val (.int d1)] [(.ref pd)]))
    refine Go.st (fun _ => XS.iloadN X25.here hx rfl (hb hby own_d_prog_43_method_6_code_29) rfl) ?_
    show Go p.tables e below P (T25.setTop (mkF m 30 #[.val (.ref p0), .val (.ref p1), .val (.ref b4), .val (.int (2 : Int32)), .val (.int d1)] [(.int (2 : Int32)), (.ref pd)]))
    have c27 := ((c14.other W18 hp7).other W20 (Nat.ne_of_lt (Nat.lt_of_lt_of_le c6.lt (Nat.le_of_eq g4.symm))))
    refine Go.st (fun _ => own_ldI X25 hx hZ e25 c27 (j := (2 : Int32)) (i := 2) (v := (.int d2)) (by decide) (by decide) rfl (g := (mkF m 30 #[.val (.ref p0), .val (.ref p1), .val (.ref b4), .val (.int (2 : Int32)), .val (.int d1)] [(.int (2 : Int32)), (.ref pd)])) rfl rfl (hb hby own_d_prog_43_method_6_code_30) _) ?_
    show Go p.tables e below P (T25.setTop (mkF m 31 #[.val (.ref p0), .val (.ref p1), .val (.ref b4), .val (.int (2 : Int32)), .val (.int d1)] [(.int d2)]))
    refine Go.st (fun _ => XS.istore X25.here hx rfl (hb hby own_d_prog_43_method_6_code_31) rfl (l' := #[.val (.ref p0), .val (.ref p1), .val (.ref b4), .val (.int (2 : Int32)), .val (.int d2)]) rfl) ?_
    show Go p.tables e below P (T25.setTop (mkF m 33 #[.val (.ref p0), .val (.ref p1), .val (.ref b4), .val (.int (2 : Int32)), .val (.int d2)] []))
    refine Go.st (fun _ => XS.aloadN X25.here hx rfl (hb hby own_d_prog_43_method_6_code_33) rfl rfl) ?_
    show Go p.tables e below P (T25.setTop (mkF m 34 #[.val (.ref p0), .val (.ref p1), .val (.ref b4), .val (.int (2 : Int32)), .val (.int d2)] [(.ref p1)]))
    refine Go.st (fun _ => XS.iloadN X25.here hx rfl (hb hby own_d_prog_43_method_6_code_34) rfl) ?_
    show Go p.tables e below P (T25.setTop (mkF m 35 #[.val (.ref p0), .val (.ref p1), .val (.ref b4), .val (.int (2 : Int32)), .val (.int d2)] [(.int (2 : Int32)), (.ref p1)]))
    refine Go.st (fun _ => XS.aloadN X25.here hx rfl (hb hby own_d_prog_43_method_6_code_35) rfl rfl) ?_
    show Go p.tables e below P (T25.setTop (mkF m 36 #[.val (.ref p0), .val (.ref p1), .val (.ref b4), .val (.int (2 : Int32)), .val (.int d2)] [(.ref p1), (.int (2 : Int32)), (.ref p1)]))
    refine Go.st (fun _ => XS.iloadN X25.here hx rfl (hb hby own_d_prog_43_method_6_code_36) rfl) ?_
    show Go p.tables e below P (T25.setTop (mkF m 37 #[.val (.ref p0), .val (.ref p1), .val (.ref b4), .val (.int (2 : Int32)), .val (.int d2)] [(.int (2 : Int32)), (.ref p1), (.int (2 : Int32)), (.ref p1)]))
    have c29 := (V18'.other W20 (Nat.ne_of_lt (Nat.lt_of_lt_of_le V1'.lt (Nat.le_of_eq g4.symm))))
    refine Go.st (fun _ => own_ldZ X25 hx hZ e25 c29 (j := (2 : Int32)) (i := 2) (v := (.int xb2)) (by decide) (by decide) rfl (g := (mkF m 37 #[.val (.ref p0), .val (.ref p1), .val (.ref b4), .val (.int (2 : Int32)), .val (.int d2)] [(.int (2 : Int32)), (.ref p1), (.int (2 : Int32)), (.ref p1)])) rfl rfl (hb hby own_d_prog_43_method_6_code_37) _) ?_
    show Go p.tables e below P (T25.setTop (mkF m 38 #[.val (.ref p0), .val (.ref p1), .val (.ref b4), .val (.int (2 : Int32)), .val (.int d2)] [(.int xb2), (.int (2 : Int32)), (.ref p1)]))
    have J30 : ∀ (Tj30 : State) (Lj30 : List Loc) (Xj30 : Stand p l e ({ frames := 0, cells := 1, slots := 6, locals := 0 } : Room) s m #[(.ref p0), (.ref p1)] below meth c Tj30 Lj30 1 6) (ej30 : Tj30.heap = h20) (Nj30 : Fr n0 Lj30) (o2 : Int32) (ho2 : o2 = own_and xb2 ((([1, 0, 0, 0, 0, 0] : List Int32).set d1.toNatClampNeg o1).getD (d2 - (1 : Int32)).toNatClampNeg 0)), Go p.tables e below P (Tj30.setTop (mkF m 55 #[.val (.ref p0), .val (.ref p1), .val (.ref b4), .val (.int (2 : Int32)), .val (.int d2)] [(.int o2), (.int (2 : Int32)), (.ref p1)])) := by
      intro Tj30 Lj30 Xj30 ej30 Nj30 o2 ho2
      show Go p.tables e below P (Tj30.setTop (mkF m 55 #[.val (.ref p0), .val (.ref p1), .val (.ref b4), .val (.int (2 : Int32)), .val (.int d2)] [(.int o2), (.int (2 : Int32)), (.ref p1)]))
      obtain ⟨T31, h31, X31, e31, W31, V31, st31⟩ := own_stZ Xj30 hx hZ ej30 c29 (j := (2 : Int32)) (i := 2) (by decide) (by decide) (Nat.le_of_ble_eq_true rfl) (g := (mkF m 55 #[.val (.ref p0), .val (.ref p1), .val (.ref b4), .val (.int (2 : Int32)), .val (.int d2)] [(.int o2), (.int (2 : Int32)), (.ref p1)])) rfl rfl (hb hby own_d_prog_43_method_6_code_55)
      refine Go.st st31 ?_
      rw [own_narZ (by rw [ho2]; exact own_and01 _ _)] at V31
      have K31 : Keep h0 h31 [p1] := K20.wr W31 (Or.inl (List.mem_of_getElem? (i := 0) rfl))
      have O31 := O20.wr W31 hp6
      have N31 := Fr.snoc X31 Nj30 hp6
      have V31' : Arv Z h31 p1 kb .boolean (5 : Int32) [(.int (1 : Int32)), (.int o1), (.int o2), (.int xb3), (.int xb4)] (.int (0 : Int32)) := V31
      show Go p.tables e below P (T31.setTop (mkF m 56 #[.val (.ref p0), .val (.ref p1), .val (.ref b4), .val (.int (2 : Int32)), .val (.int d2)] []))
      refine Go.st (fun _ => XS.aloadN X31.here hx rfl (hb hby own_d_prog_43_method_6_code_56) rfl rfl) ?_
      show Go p.tables e below P (T31.setTop (mkF m 57 #[.val (.ref p0), .val (.ref p1), .val (.ref b4), .val (.int (2 : Int32)), .val (.int d2)] [(.ref b4)]))
      refine Go.st (fun _ => XS.iload X31.here hx rfl (hb hby own_d_prog_43_method_6_code_57) rfl) ?_
      show Go p.tables e below P (T31.setTop (mkF m 59 #[.val (.ref p0), .val (.ref p1), .val (.ref b4), .val (.int (2 : Int32)), .val (.int d2)] [(.int d2), (.ref b4)]))
      refine Go.st (fun _ => XS.aloadN X31.here hx rfl (hb hby own_d_prog_43_method_6_code_59) rfl rfl) ?_
      show Go p.tables e below P (T31.setTop (mkF m 60 #[.val (.ref p0), .val (.ref p1), .val (.ref b4), .val (.int (2 : Int32)), .val (.int d2)] [(.ref p1), (.int d2), (.ref b4)]))
      refine Go.st (fun _ => XS.iloadN X31.here hx rfl (hb hby own_d_prog_43_method_6_code_60) rfl) ?_
      show Go p.tables e below P (T31.setTop (mkF m 61 #[.val (.ref p0), .val (.ref p1), .val (.ref b4), .val (.int (2 : Int32)), .val (.int d2)] [(.int (2 : Int32)), (.ref p1), (.int d2), (.ref b4)]))
      refine Go.st (fun _ => own_ldZ X31 hx hZ e31 V31' (j := (2 : Int32)) (i := 2) (v := (.int o2)) (by decide) (by decide) rfl (g := (mkF m 61 #[.val (.ref p0), .val (.ref p1), .val (.ref b4), .val (.int (2 : Int32)), .val (.int d2)] [(.int (2 : Int32)), (.ref p1), (.int d2), (.ref b4)])) rfl rfl (hb hby own_d_prog_43_method_6_code_61) _) ?_
      show Go p.tables e below P (T31.setTop (mkF m 62 #[.val (.ref p0), .val (.ref p1), .val (.ref b4), .val (.int (2 : Int32)), .val (.int d2)] [(.int o2), (.int d2), (.ref b4)]))
      have c34 := (V20'.other W31 (Ne.symm (Nat.ne_of_lt (Nat.lt_of_lt_of_le V1'.lt (Nat.le_of_eq g4.symm)))))
      obtain ⟨T33, h33, X33, e33, W33, V33, st33⟩ := own_stZ X31 hx hZ e31 c34 (j := d2) (i := (d2).toNatClampNeg) (own_ix hdd2 hps).1 rfl (by first | exact (own_ix hdd2 hps).2 | (simp only [List.length_map, List.length_set]; exact (own_ix hdd2 hps).2)) (g := (mkF m 62 #[.val (.ref p0), .val (.ref p1), .val (.ref b4), .val (.int (2 : Int32)), .val (.int d2)] [(.int o2), (.int d2), (.ref b4)])) rfl rfl (hb hby own_d_prog_43_method_6_code_62)
      refine Go.st st33 ?_
      rw [own_narZ (by rw [ho2]; exact own_and01 _ _)] at V33
      have K33 : Keep h0 h33 [p1] := K31.wr W33 (Or.inr sz_b4)
      have O33 := O31.wr W33 g_b4
      have N33 := Fr.snoc X33 N31 g_b4
      have V33' : Arv Z h33 b4 k4 .boolean ps (((([1, 0, 0, 0, 0, 0] : List Int32).set d1.toNatClampNeg o1).set d2.toNatClampNeg o2).map Value.int) (.int (0 : Int32)) := own_arv_set V33
      show Go p.tables e below P (T33.setTop (mkF m 63 #[.val (.ref p0), .val (.ref p1), .val (.ref b4), .val (.int (2 : Int32)), .val (.int d2)] []))
      refine Go.st (fun _ => XS.iinc X33.here hx rfl (hb hby own_d_prog_43_method_6_code_63) rfl (l' := #[.val (.ref p0), .val (.ref p1), .val (.ref b4), .val (.int (3 : Int32)), .val (.int d2)]) rfl) ?_
      show Go p.tables e below P (T33.setTop (mkF m 66 #[.val (.ref p0), .val (.ref p1), .val (.ref b4), .val (.int (3 : Int32)), .val (.int d2)] []))
      refine Go.st (fun _ => XS.goto X33.here hx rfl (pc0 := 66) (pc' := 17) rfl (hb hby own_d_prog_43_method_6_code_66) (by decide) (by decide)) ?_
      show Go p.tables e below P (T33.setTop (mkF m 17 #[.val (.ref p0), .val (.ref p1), .val (.ref b4), .val (.int (3 : Int32)), .val (.int d2)] []))
      refine Go.st (fun _ => XS.iloadN X33.here hx rfl (hb hby own_d_prog_43_method_6_code_17) rfl) ?_
      show Go p.tables e below P (T33.setTop (mkF m 18 #[.val (.ref p0), .val (.ref p1), .val (.ref b4), .val (.int (3 : Int32)), .val (.int d2)] [(.int (3 : Int32))]))
      refine Go.st (fun _ => XS.aloadN X33.here hx rfl (hb hby own_d_prog_43_method_6_code_18) rfl rfl) ?_
      show Go p.tables e below P (T33.setTop (mkF m 19 #[.val (.ref p0), .val (.ref p1), .val (.ref b4), .val (.int (3 : Int32)), .val (.int d2)] [(.ref p0), (.int (3 : Int32))]))
      have c35 := ((c22.other W31 (Or.inl (Exa.neArv hp0 hp5 (hw _ (List.mem_of_getElem? (i := 48) rfl))))).other W33 (Or.inl (Nat.ne_of_lt (Nat.lt_of_lt_of_le c5.lt (Nat.le_of_eq g4.symm)))))
      obtain ⟨T36, X36, e36, st36⟩ := getF X33 hx hZ hown (host := "") (Or.inl (hw _ (List.mem_of_getElem? (i := 60) rfl))) Via.refl e33 c35 (g := (mkF m 19 #[.val (.ref p0), .val (.ref p1), .val (.ref b4), .val (.int (3 : Int32)), .val (.int d2)] [(.ref p0), (.int (3 : Int32))])) rfl rfl (hb hby own_d_prog_43_method_6_code_19)
      refine Go.st st36 ?_
      show Go p.tables e below P (T36.setTop (mkF m 22 #[.val (.ref p0), .val (.ref p1), .val (.ref b4), .val (.int (3 : Int32)), .val (.int d2)] [(.int (5 : Int32)), (.int (3 : Int32))]))
      refine Go.st (fun _ => XS.icmpNo X36.here hx rfl (hb hby own_d_prog_43_method_6_code_22) rfl (tlt (by decide)).2.1) ?_
      show Go p.tables e below P (T36.setTop (mkF m 25 #[.val (.ref p0), .val (.ref p1), .val (.ref b4), .val (.int (3 : Int32)), .val (.int d2)] []))
      refine Go.st (fun _ => XS.aloadN X36.here hx rfl (hb hby own_d_prog_43_method_6_code_25) rfl rfl) ?_
      show Go p.tables e below P (T36.setTop (mkF m 26 #[.val (.ref p0), .val (.ref p1), .val (.ref b4), .val (.int (3 : Int32)), .val (.int d2)] [(.ref p0)]))
      have c37 := ((c24.other W31 (Or.inl (Exa.neArv hp0 hp5 (hw _ (List.mem_of_getElem? (i := 48) rfl))))).other W33 (Or.inl (Nat.ne_of_lt (Nat.lt_of_lt_of_le c5.lt (Nat.le_of_eq g4.symm)))))
      obtain ⟨T38, X38, e38, st38⟩ := getF X36 hx hZ hown (host := "") (Or.inl (hw _ (List.mem_of_getElem? (i := 74) rfl))) Via.refl e36 c37 (g := (mkF m 26 #[.val (.ref p0), .val (.ref p1), .val (.ref b4), .val (.int (3 : Int32)), .val (.int d2)] [(.ref p0)])) rfl rfl (hb hby own_d_prog_43_method_6_code_26)
      refine Go.st st38 ?_
      show Go p.tables e below P (T38.setTop (mkF m 29 #[.val (.ref p0), .val (.ref p1), .val (.ref b4), .val (.int (3 : Int32)), .val (.int d2)] [(.ref pd)]))
      refine Go.st (fun _ => XS.iloadN X38.here hx rfl (hb hby own_d_prog_43_method_6_code_29) rfl) ?_
      show Go p.tables e below P (T38.setTop (mkF m 30 #[.val (.ref p0), .val (.ref p1), .val (.ref b4), .val (.int (3 : Int32)), .val (.int d2)] [(.int (3 : Int32)), (.ref pd)]))
      have c40 := ((c27.other W31 hp7).other W33 (Nat.ne_of_lt (Nat.lt_of_lt_of_le c6.lt (Nat.le_of_eq g4.symm))))
      refine Go.st (fun _ => own_ldI X38 hx hZ e38 c40 (j := (3 : Int32)) (i := 3) (v := (.int d3)) (by decide) (by decide) rfl (g := (mkF m 30 #[.val (.ref p0), .val (.ref p1), .val (.ref b4), .val (.int (3 : Int32)), .val (.int d2)] [(.int (3 : Int32)), (.ref pd)])) rfl rfl (hb hby own_d_prog_43_method_6_code_30) _) ?_
      show Go p.tables e below P (T38.setTop (mkF m 31 #[.val (.ref p0), .val (.ref p1), .val (.ref b4), .val (.int (3 : Int32)), .val (.int d2)] [(.int d3)]))
      refine Go.st (fun _ => XS.istore X38.here hx rfl (hb hby own_d_prog_43_method_6_code_31) rfl (l' := #[.val (.ref p0), .val (.ref p1), .val (.ref b4), .val (.int (3 : Int32)), .val (.int d3)]) rfl) ?_
      show Go p.tables e below P (T38.setTop (mkF m 33 #[.val (.ref p0), .val (.ref p1), .val (.ref b4), .val (.int (3 : Int32)), .val (.int d3)] []))
      refine Go.st (fun _ => XS.aloadN X38.here hx rfl (hb hby own_d_prog_43_method_6_code_33) rfl rfl) ?_
      show Go p.tables e below P (T38.setTop (mkF m 34 #[.val (.ref p0), .val (.ref p1), .val (.ref b4), .val (.int (3 : Int32)), .val (.int d3)] [(.ref p1)]))
      refine Go.st (fun _ => XS.iloadN X38.here hx rfl (hb hby own_d_prog_43_method_6_code_34) rfl) ?_
      show Go p.tables e below P (T38.setTop (mkF m 35 #[.val (.ref p0), .val (.ref p1), .val (.ref b4), .val (.int (3 : Int32)), .val (.int d3)] [(.int (3 : Int32)), (.ref p1)]))
      refine Go.st (fun _ => XS.aloadN X38.here hx rfl (hb hby own_d_prog_43_method_6_code_35) rfl rfl) ?_
      show Go p.tables e below P (T38.setTop (mkF m 36 #[.val (.ref p0), .val (.ref p1), .val (.ref b4), .val (.int (3 : Int32)), .val (.int d3)] [(.ref p1), (.int (3 : Int32)), (.ref p1)]))
      refine Go.st (fun _ => XS.iloadN X38.here hx rfl (hb hby own_d_prog_43_method_6_code_36) rfl) ?_
      show Go p.tables e below P (T38.setTop (mkF m 37 #[.val (.ref p0), .val (.ref p1), .val (.ref b4), .val (.int (3 : Int32)), .val (.int d3)] [(.int (3 : Int32)), (.ref p1), (.int (3 : Int32)), (.ref p1)]))
      have c42 := (V31'.other W33 (Nat.ne_of_lt (Nat.lt_of_lt_of_le V1'.lt (Nat.le_of_eq g4.symm))))
      refine Go.st (fun _ => own_ldZ X38 hx hZ e38 c42 (j := (3 : Int32)) (i := 3) (v := (.int xb3)) (by decide) (by decide) rfl (g := (mkF m 37 #[.val (.ref p0), .val (.ref p1), .val (.ref b4), .val (.int (3 : Int32)), .val (.int d3)] [(.int (3 : Int32)), (.ref p1), (.int (3 : Int32)), (.ref p1)])) rfl rfl (hb hby own_d_prog_43_method_6_code_37) _) ?_
      show Go p.tables e below P (T38.setTop (mkF m 38 #[.val (.ref p0), .val (.ref p1), .val (.ref b4), .val (.int (3 : Int32)), .val (.int d3)] [(.int xb3), (.int (3 : Int32)), (.ref p1)]))
      have J43 : ∀ (Tj43 : State) (Lj43 : List Loc) (Xj43 : Stand p l e ({ frames := 0, cells := 1, slots := 6, locals := 0 } : Room) s m #[(.ref p0), (.ref p1)] below meth c Tj43 Lj43 1 6) (ej43 : Tj43.heap = h33) (Nj43 : Fr n0 Lj43) (o3 : Int32) (ho3 : o3 = own_and xb3 (((([1, 0, 0, 0, 0, 0] : List Int32).set d1.toNatClampNeg o1).set d2.toNatClampNeg o2).getD (d3 - (1 : Int32)).toNatClampNeg 0)), Go p.tables e below P (Tj43.setTop (mkF m 55 #[.val (.ref p0), .val (.ref p1), .val (.ref b4), .val (.int (3 : Int32)), .val (.int d3)] [(.int o3), (.int (3 : Int32)), (.ref p1)])) := by
        intro Tj43 Lj43 Xj43 ej43 Nj43 o3 ho3
        show Go p.tables e below P (Tj43.setTop (mkF m 55 #[.val (.ref p0), .val (.ref p1), .val (.ref b4), .val (.int (3 : Int32)), .val (.int d3)] [(.int o3), (.int (3 : Int32)), (.ref p1)]))
        obtain ⟨T44, h44, X44, e44, W44, V44, st44⟩ := own_stZ Xj43 hx hZ ej43 c42 (j := (3 : Int32)) (i := 3) (by decide) (by decide) (Nat.le_of_ble_eq_true rfl) (g := (mkF m 55 #[.val (.ref p0), .val (.ref p1), .val (.ref b4), .val (.int (3 : Int32)), .val (.int d3)] [(.int o3), (.int (3 : Int32)), (.ref p1)])) rfl rfl (hb hby own_d_prog_43_method_6_code_55)
        refine Go.st st44 ?_
        rw [own_narZ (by rw [ho3]; exact own_and01 _ _)] at V44
        have K44 : Keep h0 h44 [p1] := K33.wr W44 (Or.inl (List.mem_of_getElem? (i := 0) rfl))
        have O44 := O33.wr W44 hp6
        have N44 := Fr.snoc X44 Nj43 hp6
        have V44' : Arv Z h44 p1 kb .boolean (5 : Int32) [(.int (1 : Int32)), (.int o1), (.int o2), (.int o3), (.int xb4)] (.int (0 : Int32)) := V44
        show Go p.tables e below P (T44.setTop (mkF m 56 #[.val (.ref p0), .val (.ref p1), .val (.ref b4), .val (.int (3 : Int32)), .val (.int d3)] []))
        refine Go.st (fun _ => XS.aloadN X44.here hx rfl (hb hby own_d_prog_43_method_6_code_56) rfl rfl) ?_
        show Go p.tables e below P (T44.setTop (mkF m 57 #[.val (.ref p0), .val (.ref p1), .val (.ref b4), .val (.int (3 : Int32)), .val (.int d3)] [(.ref b4)]))
        refine Go.st (fun _ => XS.iload X44.here hx rfl (hb hby own_d_prog_43_method_6_code_57) rfl) ?_
        show Go p.tables e below P (T44.setTop (mkF m 59 #[.val (.ref p0), .val (.ref p1), .val (.ref b4), .val (.int (3 : Int32)), .val (.int d3)] [(.int d3), (.ref b4)]))
        refine Go.st (fun _ => XS.aloadN X44.here hx rfl (hb hby own_d_prog_43_method_6_code_59) rfl rfl) ?_
        show Go p.tables e below P (T44.setTop (mkF m 60 #[.val (.ref p0), .val (.ref p1), .val (.ref b4), .val (.int (3 : Int32)), .val (.int d3)] [(.ref p1), (.int d3), (.ref b4)]))
        refine Go.st (fun _ => XS.iloadN X44.here hx rfl (hb hby own_d_prog_43_method_6_code_60) rfl) ?_
        show Go p.tables e below P (T44.setTop (mkF m 61 #[.val (.ref p0), .val (.ref p1), .val (.ref b4), .val (.int (3 : Int32)), .val (.int d3)] [(.int (3 : Int32)), (.ref p1), (.int d3), (.ref b4)]))
        refine Go.st (fun _ => own_ldZ X44 hx hZ e44 V44' (j := (3 : Int32)) (i := 3) (v := (.int o3)) (by decide) (by decide) rfl (g := (mkF m 61 #[.val (.ref p0), .val (.ref p1), .val (.ref b4), .val (.int (3 : Int32)), .val (.int d3)] [(.int (3 : Int32)), (.ref p1), (.int d3), (.ref b4)])) rfl rfl (hb hby own_d_prog_43_method_6_code_61) _) ?_
        show Go p.tables e below P (T44.setTop (mkF m 62 #[.val (.ref p0), .val (.ref p1), .val (.ref b4), .val (.int (3 : Int32)), .val (.int d3)] [(.int o3), (.int d3), (.ref b4)]))
        have c47 := (V33'.other W44 (Ne.symm (Nat.ne_of_lt (Nat.lt_of_lt_of_le V1'.lt (Nat.le_of_eq g4.symm)))))
        obtain ⟨T46, h46, X46, e46, W46, V46, st46⟩ := own_stZ X44 hx hZ e44 c47 (j := d3) (i := (d3).toNatClampNeg) (own_ix hdd3 hps).1 rfl (by first | exact (own_ix hdd3 hps).2 | (simp only [List.length_map, List.length_set]; exact (own_ix hdd3 hps).2)) (g := (mkF m 62 #[.val (.ref p0), .val (.ref p1), .val (.ref b4), .val (.int (3 : Int32)), .val (.int d3)] [(.int o3), (.int d3), (.ref b4)])) rfl rfl (hb hby own_d_prog_43_method_6_code_62)
        refine Go.st st46 ?_
        rw [own_narZ (by rw [ho3]; exact own_and01 _ _)] at V46
        have K46 : Keep h0 h46 [p1] := K44.wr W46 (Or.inr sz_b4)
        have O46 := O44.wr W46 g_b4
        have N46 := Fr.snoc X46 N44 g_b4
        have V46' : Arv Z h46 b4 k4 .boolean ps ((((([1, 0, 0, 0, 0, 0] : List Int32).set d1.toNatClampNeg o1).set d2.toNatClampNeg o2).set d3.toNatClampNeg o3).map Value.int) (.int (0 : Int32)) := own_arv_set V46
        show Go p.tables e below P (T46.setTop (mkF m 63 #[.val (.ref p0), .val (.ref p1), .val (.ref b4), .val (.int (3 : Int32)), .val (.int d3)] []))
        refine Go.st (fun _ => XS.iinc X46.here hx rfl (hb hby own_d_prog_43_method_6_code_63) rfl (l' := #[.val (.ref p0), .val (.ref p1), .val (.ref b4), .val (.int (4 : Int32)), .val (.int d3)]) rfl) ?_
        show Go p.tables e below P (T46.setTop (mkF m 66 #[.val (.ref p0), .val (.ref p1), .val (.ref b4), .val (.int (4 : Int32)), .val (.int d3)] []))
        refine Go.st (fun _ => XS.goto X46.here hx rfl (pc0 := 66) (pc' := 17) rfl (hb hby own_d_prog_43_method_6_code_66) (by decide) (by decide)) ?_
        show Go p.tables e below P (T46.setTop (mkF m 17 #[.val (.ref p0), .val (.ref p1), .val (.ref b4), .val (.int (4 : Int32)), .val (.int d3)] []))
        refine Go.st (fun _ => XS.iloadN X46.here hx rfl (hb hby own_d_prog_43_method_6_code_17) rfl) ?_
        show Go p.tables e below P (T46.setTop (mkF m 18 #[.val (.ref p0), .val (.ref p1), .val (.ref b4), .val (.int (4 : Int32)), .val (.int d3)] [(.int (4 : Int32))]))
        refine Go.st (fun _ => XS.aloadN X46.here hx rfl (hb hby own_d_prog_43_method_6_code_18) rfl rfl) ?_
        show Go p.tables e below P (T46.setTop (mkF m 19 #[.val (.ref p0), .val (.ref p1), .val (.ref b4), .val (.int (4 : Int32)), .val (.int d3)] [(.ref p0), (.int (4 : Int32))]))
        have c48 := ((c35.other W44 (Or.inl (Exa.neArv hp0 hp5 (hw _ (List.mem_of_getElem? (i := 48) rfl))))).other W46 (Or.inl (Nat.ne_of_lt (Nat.lt_of_lt_of_le c5.lt (Nat.le_of_eq g4.symm)))))
        obtain ⟨T49, X49, e49, st49⟩ := getF X46 hx hZ hown (host := "") (Or.inl (hw _ (List.mem_of_getElem? (i := 60) rfl))) Via.refl e46 c48 (g := (mkF m 19 #[.val (.ref p0), .val (.ref p1), .val (.ref b4), .val (.int (4 : Int32)), .val (.int d3)] [(.ref p0), (.int (4 : Int32))])) rfl rfl (hb hby own_d_prog_43_method_6_code_19)
        refine Go.st st49 ?_
        show Go p.tables e below P (T49.setTop (mkF m 22 #[.val (.ref p0), .val (.ref p1), .val (.ref b4), .val (.int (4 : Int32)), .val (.int d3)] [(.int (5 : Int32)), (.int (4 : Int32))]))
        refine Go.st (fun _ => XS.icmpNo X49.here hx rfl (hb hby own_d_prog_43_method_6_code_22) rfl (tlt (by decide)).2.1) ?_
        show Go p.tables e below P (T49.setTop (mkF m 25 #[.val (.ref p0), .val (.ref p1), .val (.ref b4), .val (.int (4 : Int32)), .val (.int d3)] []))
        refine Go.st (fun _ => XS.aloadN X49.here hx rfl (hb hby own_d_prog_43_method_6_code_25) rfl rfl) ?_
        show Go p.tables e below P (T49.setTop (mkF m 26 #[.val (.ref p0), .val (.ref p1), .val (.ref b4), .val (.int (4 : Int32)), .val (.int d3)] [(.ref p0)]))
        have c50 := ((c37.other W44 (Or.inl (Exa.neArv hp0 hp5 (hw _ (List.mem_of_getElem? (i := 48) rfl))))).other W46 (Or.inl (Nat.ne_of_lt (Nat.lt_of_lt_of_le c5.lt (Nat.le_of_eq g4.symm)))))
        obtain ⟨T51, X51, e51, st51⟩ := getF X49 hx hZ hown (host := "") (Or.inl (hw _ (List.mem_of_getElem? (i := 74) rfl))) Via.refl e49 c50 (g := (mkF m 26 #[.val (.ref p0), .val (.ref p1), .val (.ref b4), .val (.int (4 : Int32)), .val (.int d3)] [(.ref p0)])) rfl rfl (hb hby own_d_prog_43_method_6_code_26)
        refine Go.st st51 ?_
        show Go p.tables e below P (T51.setTop (mkF m 29 #[.val (.ref p0), .val (.ref p1), .val (.ref b4), .val (.int (4 : Int32)), .val (.int d3)] [(.ref pd)]))
        refine Go.st (fun _ => XS.iloadN X51.here hx rfl (hb hby own_d_prog_43_method_6_code_29) rfl) ?_
        show Go p.tables e below P (T51.setTop (mkF m 30 #[.val (.ref p0), .val (.ref p1), .val (.ref b4), .val (.int (4 : Int32)), .val (.int d3)] [(.int (4 : Int32)), (.ref pd)]))
        have c53 := ((c40.other W44 hp7).other W46 (Nat.ne_of_lt (Nat.lt_of_lt_of_le c6.lt (Nat.le_of_eq g4.symm))))
        refine Go.st (fun _ => own_ldI X51 hx hZ e51 c53 (j := (4 : Int32)) (i := 4) (v := (.int d4)) (by decide) (by decide) rfl (g := (mkF m 30 #[.val (.ref p0), .val (.ref p1), .val (.ref b4), .val (.int (4 : Int32)), .val (.int d3)] [(.int (4 : Int32)), (.ref pd)])) rfl rfl (hb hby own_d_prog_43_method_6_code_30) _) ?_
        show Go p.tables e below P (T51.setTop (mkF m 31 #[.val (.ref p0), .val (.ref p1), .val (.ref b4), .val (.int (4 : Int32)), .val (.int d3)] [(.int d4)]))
        refine Go.st (fun _ => XS.istore X51.here hx rfl (hb hby own_d_prog_43_method_6_code_31) rfl (l' := #[.val (.ref p0), .val (.ref p1), .val (.ref b4), .val (.int (4 : Int32)), .val (.int d4)]) rfl) ?_
        show Go p.tables e below P (T51.setTop (mkF m 33 #[.val (.ref p0), .val (.ref p1), .val (.ref b4), .val (.int (4 : Int32)), .val (.int d4)] []))
        refine Go.st (fun _ => XS.aloadN X51.here hx rfl (hb hby own_d_prog_43_method_6_code_33) rfl rfl) ?_
        show Go p.tables e below P (T51.setTop (mkF m 34 #[.val (.ref p0), .val (.ref p1), .val (.ref b4), .val (.int (4 : Int32)), .val (.int d4)] [(.ref p1)]))
        refine Go.st (fun _ => XS.iloadN X51.here hx rfl (hb hby own_d_prog_43_method_6_code_34) rfl) ?_
        show Go p.tables e below P (T51.setTop (mkF m 35 #[.val (.ref p0), .val (.ref p1), .val (.ref b4), .val (.int (4 : Int32)), .val (.int d4)] [(.int (4 : Int32)), (.ref p1)]))
        refine Go.st (fun _ => XS.aloadN X51.here hx rfl (hb hby own_d_prog_43_method_6_code_35) rfl rfl) ?_
        show Go p.tables e below P (T51.setTop (mkF m 36 #[.val (.ref p0), .val (.ref p1), .val (.ref b4), .val (.int (4 : Int32)), .val (.int d4)] [(.ref p1), (.int (4 : Int32)), (.ref p1)]))
        refine Go.st (fun _ => XS.iloadN X51.here hx rfl (hb hby own_d_prog_43_method_6_code_36) rfl) ?_
        show Go p.tables e below P (T51.setTop (mkF m 37 #[.val (.ref p0), .val (.ref p1), .val (.ref b4), .val (.int (4 : Int32)), .val (.int d4)] [(.int (4 : Int32)), (.ref p1), (.int (4 : Int32)), (.ref p1)]))
        have c55 := (V44'.other W46 (Nat.ne_of_lt (Nat.lt_of_lt_of_le V1'.lt (Nat.le_of_eq g4.symm))))
        refine Go.st (fun _ => own_ldZ X51 hx hZ e51 c55 (j := (4 : Int32)) (i := 4) (v := (.int xb4)) (by decide) (by decide) rfl (g := (mkF m 37 #[.val (.ref p0), .val (.ref p1), .val (.ref b4), .val (.int (4 : Int32)), .val (.int d4)] [(.int (4 : Int32)), (.ref p1), (.int (4 : Int32)), (.ref p1)])) rfl rfl (hb hby own_d_prog_43_method_6_code_37) _) ?_
        show Go p.tables e below P (T51.setTop (mkF m 38 #[.val (.ref p0), .val (.ref p1), .val (.ref b4), .val (.int (4 : Int32)), .val (.int d4)] [(.int xb4), (.int (4 : Int32)), (.ref p1)]))
        have J56 : ∀ (Tj56 : State) (Lj56 : List Loc) (Xj56 : Stand p l e ({ frames := 0, cells := 1, slots := 6, locals := 0 } : Room) s m #[(.ref p0), (.ref p1)] below meth c Tj56 Lj56 1 6) (ej56 : Tj56.heap = h46) (Nj56 : Fr n0 Lj56) (o4 : Int32) (ho4 : o4 = own_and xb4 ((((([1, 0, 0, 0, 0, 0] : List Int32).set d1.toNatClampNeg o1).set d2.toNatClampNeg o2).set d3.toNatClampNeg o3).getD (d4 - (1 : Int32)).toNatClampNeg 0)), Go p.tables e below P (Tj56.setTop (mkF m 55 #[.val (.ref p0), .val (.ref p1), .val (.ref b4), .val (.int (4 : Int32)), .val (.int d4)] [(.int o4), (.int (4 : Int32)), (.ref p1)])) := by
          intro Tj56 Lj56 Xj56 ej56 Nj56 o4 ho4
          show Go p.tables e below P (Tj56.setTop (mkF m 55 #[.val (.ref p0), .val (.ref p1), .val (.ref b4), .val (.int (4 : Int32)), .val (.int d4)] [(.int o4), (.int (4 : Int32)), (.ref p1)]))
          obtain ⟨T57, h57, X57, e57, W57, V57, st57⟩ := own_stZ Xj56 hx hZ ej56 c55 (j := (4 : Int32)) (i := 4) (by decide) (by decide) (Nat.le_of_ble_eq_true rfl) (g := (mkF m 55 #[.val (.ref p0), .val (.ref p1), .val (.ref b4), .val (.int (4 : Int32)), .val (.int d4)] [(.int o4), (.int (4 : Int32)), (.ref p1)])) rfl rfl (hb hby own_d_prog_43_method_6_code_55)
          refine Go.st st57 ?_
          rw [own_narZ (by rw [ho4]; exact own_and01 _ _)] at V57
          have K57 : Keep h0 h57 [p1] := K46.wr W57 (Or.inl (List.mem_of_getElem? (i := 0) rfl))
          have O57 := O46.wr W57 hp6
          have N57 := Fr.snoc X57 Nj56 hp6
          have V57' : Arv Z h57 p1 kb .boolean (5 : Int32) [(.int (1 : Int32)), (.int o1), (.int o2), (.int o3), (.int o4)] (.int (0 : Int32)) := V57
          show Go p.tables e below P (T57.setTop (mkF m 56 #[.val (.ref p0), .val (.ref p1), .val (.ref b4), .val (.int (4 : Int32)), .val (.int d4)] []))
          refine Go.st (fun _ => XS.aloadN X57.here hx rfl (hb hby own_d_prog_43_method_6_code_56) rfl rfl) ?_
          show Go p.tables e below P (T57.setTop (mkF m 57 #[.val (.ref p0), .val (.ref p1), .val (.ref b4), .val (.int (4 : Int32)), .val (.int d4)] [(.ref b4)]))
          refine Go.st (fun _ => XS.iload X57.here hx rfl (hb hby own_d_prog_43_method_6_code_57) rfl) ?_
          show Go p.tables e below P (T57.setTop (mkF m 59 #[.val (.ref p0), .val (.ref p1), .val (.ref b4), .val (.int (4 : Int32)), .val (.int d4)] [(.int d4), (.ref b4)]))
          refine Go.st (fun _ => XS.aloadN X57.here hx rfl (hb hby own_d_prog_43_method_6_code_59) rfl rfl) ?_
          show Go p.tables e below P (T57.setTop (mkF m 60 #[.val (.ref p0), .val (.ref p1), .val (.ref b4), .val (.int (4 : Int32)), .val (.int d4)] [(.ref p1), (.int d4), (.ref b4)]))
          refine Go.st (fun _ => XS.iloadN X57.here hx rfl (hb hby own_d_prog_43_method_6_code_60) rfl) ?_
          show Go p.tables e below P (T57.setTop (mkF m 61 #[.val (.ref p0), .val (.ref p1), .val (.ref b4), .val (.int (4 : Int32)), .val (.int d4)] [(.int (4 : Int32)), (.ref p1), (.int d4), (.ref b4)]))
          refine Go.st (fun _ => own_ldZ X57 hx hZ e57 V57' (j := (4 : Int32)) (i := 4) (v := (.int o4)) (by decide) (by decide) rfl (g := (mkF m 61 #[.val (.ref p0), .val (.ref p1), .val (.ref b4), .val (.int (4 : Int32)), .val (.int d4)] [(.int (4 : Int32)), (.ref p1), (.int d4), (.ref b4)])) rfl rfl (hb hby own_d_prog_43_method_6_code_61) _) ?_
          show Go p.tables e below P (T57.setTop (mkF m 62 #[.val (.ref p0), .val (.ref p1), .val (.ref b4), .val (.int (4 : Int32)), .val (.int d4)] [(.int o4), (.int d4), (.ref b4)]))
          have c60 := (V46'.other W57 (Ne.symm (Nat.ne_of_lt (Nat.lt_of_lt_of_le V1'.lt (Nat.le_of_eq g4.symm)))))
          obtain ⟨T59, h59, X59, e59, W59, V59, st59⟩ := own_stZ X57 hx hZ e57 c60 (j := d4) (i := (d4).toNatClampNeg) (own_ix hdd4 hps).1 rfl (by first | exact (own_ix hdd4 hps).2 | (simp only [List.length_map, List.length_set]; exact (own_ix hdd4 hps).2)) (g := (mkF m 62 #[.val (.ref p0), .val (.ref p1), .val (.ref b4), .val (.int (4 : Int32)), .val (.int d4)] [(.int o4), (.int d4), (.ref b4)])) rfl rfl (hb hby own_d_prog_43_method_6_code_62)
          refine Go.st st59 ?_
          rw [own_narZ (by rw [ho4]; exact own_and01 _ _)] at V59
          have K59 : Keep h0 h59 [p1] := K57.wr W59 (Or.inr sz_b4)
          have O59 := O57.wr W59 g_b4
          have N59 := Fr.snoc X59 N57 g_b4
          have V59' : Arv Z h59 b4 k4 .boolean ps (((((([1, 0, 0, 0, 0, 0] : List Int32).set d1.toNatClampNeg o1).set d2.toNatClampNeg o2).set d3.toNatClampNeg o3).set d4.toNatClampNeg o4).map Value.int) (.int (0 : Int32)) := own_arv_set V59
          show Go p.tables e below P (T59.setTop (mkF m 63 #[.val (.ref p0), .val (.ref p1), .val (.ref b4), .val (.int (4 : Int32)), .val (.int d4)] []))
          refine Go.st (fun _ => XS.iinc X59.here hx rfl (hb hby own_d_prog_43_method_6_code_63) rfl (l' := #[.val (.ref p0), .val (.ref p1), .val (.ref b4), .val (.int (5 : Int32)), .val (.int d4)]) rfl) ?_
          show Go p.tables e below P (T59.setTop (mkF m 66 #[.val (.ref p0), .val (.ref p1), .val (.ref b4), .val (.int (5 : Int32)), .val (.int d4)] []))
          refine Go.st (fun _ => XS.goto X59.here hx rfl (pc0 := 66) (pc' := 17) rfl (hb hby own_d_prog_43_method_6_code_66) (by decide) (by decide)) ?_
          show Go p.tables e below P (T59.setTop (mkF m 17 #[.val (.ref p0), .val (.ref p1), .val (.ref b4), .val (.int (5 : Int32)), .val (.int d4)] []))
          refine Go.st (fun _ => XS.iloadN X59.here hx rfl (hb hby own_d_prog_43_method_6_code_17) rfl) ?_
          show Go p.tables e below P (T59.setTop (mkF m 18 #[.val (.ref p0), .val (.ref p1), .val (.ref b4), .val (.int (5 : Int32)), .val (.int d4)] [(.int (5 : Int32))]))
          refine Go.st (fun _ => XS.aloadN X59.here hx rfl (hb hby own_d_prog_43_method_6_code_18) rfl rfl) ?_
          show Go p.tables e below P (T59.setTop (mkF m 19 #[.val (.ref p0), .val (.ref p1), .val (.ref b4), .val (.int (5 : Int32)), .val (.int d4)] [(.ref p0), (.int (5 : Int32))]))
          have c61 := ((c48.other W57 (Or.inl (Exa.neArv hp0 hp5 (hw _ (List.mem_of_getElem? (i := 48) rfl))))).other W59 (Or.inl (Nat.ne_of_lt (Nat.lt_of_lt_of_le c5.lt (Nat.le_of_eq g4.symm)))))
          obtain ⟨T62, X62, e62, st62⟩ := getF X59 hx hZ hown (host := "") (Or.inl (hw _ (List.mem_of_getElem? (i := 60) rfl))) Via.refl e59 c61 (g := (mkF m 19 #[.val (.ref p0), .val (.ref p1), .val (.ref b4), .val (.int (5 : Int32)), .val (.int d4)] [(.ref p0), (.int (5 : Int32))])) rfl rfl (hb hby own_d_prog_43_method_6_code_19)
          refine Go.st st62 ?_
          show Go p.tables e below P (T62.setTop (mkF m 22 #[.val (.ref p0), .val (.ref p1), .val (.ref b4), .val (.int (5 : Int32)), .val (.int d4)] [(.int (5 : Int32)), (.int (5 : Int32))]))
          refine Go.st (fun _ => XS.icmpYes X62.here hx rfl (pc0 := 22) (pc' := 69) rfl (hb hby own_d_prog_43_method_6_code_22) rfl (flt (by decide)).2.1 (by decide) (by decide)) ?_
          show Go p.tables e below P (T62.setTop (mkF m 69 #[.val (.ref p0), .val (.ref p1), .val (.ref b4), .val (.int (5 : Int32)), .val (.int d4)] []))
          refine Go.st (fun _ => XS.aloadN X62.here hx rfl (hb hby own_d_prog_43_method_6_code_69) rfl rfl) ?_
          show Go p.tables e below P (T62.setTop (mkF m 70 #[.val (.ref p0), .val (.ref p1), .val (.ref b4), .val (.int (5 : Int32)), .val (.int d4)] [(.ref p1)]))
          obtain ⟨fs, hr, hrun, hended, hW, hsame⟩ := X62.leave (v := some (.ref p1)) (fun h => by rw [Bd.returns] at h; cases h)
          refine ⟨_, ?_, hPend _ _ hrun hended ⟨_, _, rfl, ?_, ⟨_, rfl⟩, hW, hsame.mono (by decide) (by decide)⟩⟩
          · exact retOut X62 hx (t := (.array .boolean)) Bd.returns rfl (Or.inr (Or.inr (Or.inr (Or.inr ⟨rfl, rfl, rfl⟩)))) (hb hby own_d_prog_43_method_6_code_70) hr
          · show Q_rm_att Z _ _ _ _ _ _ _ _ _ _ _ _ _ _ _ _ _ h0 n0 _ T62.heap _
            rw [e62]
            have c63 := (V57'.other W59 (Nat.ne_of_lt (Nat.lt_of_lt_of_le V1'.lt (Nat.le_of_eq g4.symm))))
            exact ⟨o1, o2, o3, o4, rfl, N59, K59, c63, ho1, ho2, ho3, ho4⟩
        by_cases hc64 : xb4 = (0 : Int32)
        · skip
          refine Go.st (fun _ => XS.ifYes X51.here hx rfl (pc0 := 38) (pc' := 54) rfl (hb hby own_d_prog_43_method_6_code_38) rfl ((if0 _ _).trans (teq hc64).1) (by decide) (by decide)) ?_
          show Go p.tables e below P (T51.setTop (mkF m 54 #[.val (.ref p0), .val (.ref p1), .val (.ref b4), .val (.int (4 : Int32)), .val (.int d4)] [(.int (4 : Int32)), (.ref p1)]))
          refine Go.st (fun _ => XS.iconst X51.here hx rfl (hb hby own_d_prog_43_method_6_code_54)) ?_
          show Go p.tables e below P (T51.setTop (mkF m 55 #[.val (.ref p0), .val (.ref p1), .val (.ref b4), .val (.int (4 : Int32)), .val (.int d4)] [(.int (0 : Int32)), (.int (4 : Int32)), (.ref p1)]))
          exact J56 T51 _ (X51.more (by decide) (by decide)) e51 N46 (0 : Int32)  (by first | exact own_an0 (by assumption) | exact own_an1 (by assumption) (by assumption) | exact own_an2 (by assumption) (by assumption) | exact own_an2 (by assumption) (by decide))
        · skip
          refine Go.st (fun _ => XS.ifNo X51.here hx rfl (hb hby own_d_prog_43_method_6_code_38) rfl ((if0 _ _).trans (feq hc64).1)) ?_
          show Go p.tables e below P (T51.setTop (mkF m 41 #[.val (.ref p0), .val (.ref p1), .val (.ref b4), .val (.int (4 : Int32)), .val (.int d4)] [(.int (4 : Int32)), (.ref p1)]))
          refine Go.st (fun _ => XS.aloadN X51.here hx rfl (hb hby own_d_prog_43_method_6_code_41) rfl rfl) ?_
          show Go p.tables e below P (T51.setTop (mkF m 42 #[.val (.ref p0), .val (.ref p1), .val (.ref b4), .val (.int (4 : Int32)), .val (.int d4)] [(.ref b4), (.int (4 : Int32)), (.ref p1)]))
          refine Go.st (fun _ => XS.iload X51.here hx rfl (hb hby own_d_prog_43_method_6_code_42) rfl) ?_
          show Go p.tables e below P (T51.setTop (mkF m 44 #[.val (.ref p0), .val (.ref p1), .val (.ref b4), .val (.int (4 : Int32)), .val (.int d4)] [(.int d4), (.ref b4), (.int (4 : Int32)), (.ref p1)]))
          refine Go.st (fun _ => XS.iconst X51.here hx rfl (hb hby own_d_prog_43_method_6_code_44)) ?_
          show Go p.tables e below P (T51.setTop (mkF m 45 #[.val (.ref p0), .val (.ref p1), .val (.ref b4), .val (.int (4 : Int32)), .val (.int d4)] [(.int (1 : Int32)), (.int d4), (.ref b4), (.int (4 : Int32)), (.ref p1)]))
          refine Go.st (fun _ => XS.isub X51.here hx rfl (hb hby own_d_prog_43_method_6_code_45) rfl) ?_
          show Go p.tables e below P (T51.setTop (mkF m 46 #[.val (.ref p0), .val (.ref p1), .val (.ref b4), .val (.int (4 : Int32)), .val (.int d4)] [(.int (d4 - (1 : Int32))), (.ref b4), (.int (4 : Int32)), (.ref p1)]))
          refine Go.st (fun _ => own_ldZ X51 hx hZ e51 V46' (j := (d4 - (1 : Int32))) (i := ((d4 - (1 : Int32))).toNatClampNeg) (v := (.int ((((([1, 0, 0, 0, 0, 0] : List Int32).set d1.toNatClampNeg o1).set d2.toNatClampNeg o2).set d3.toNatClampNeg o3).getD (d4 - (1 : Int32)).toNatClampNeg 0))) (own_ix1 hdd4 hps) rfl (own_getD_int (((([1, 0, 0, 0, 0, 0] : List Int32).set d1.toNatClampNeg o1).set d2.toNatClampNeg o2).set d3.toNatClampNeg o3) _) (g := (mkF m 46 #[.val (.ref p0), .val (.ref p1), .val (.ref b4), .val (.int (4 : Int32)), .val (.int d4)] [(.int (d4 - (1 : Int32))), (.ref b4), (.int (4 : Int32)), (.ref p1)])) rfl rfl (hb hby own_d_prog_43_method_6_code_46) _) ?_
          show Go p.tables e below P (T51.setTop (mkF m 47 #[.val (.ref p0), .val (.ref p1), .val (.ref b4), .val (.int (4 : Int32)), .val (.int d4)] [(.int ((((([1, 0, 0, 0, 0, 0] : List Int32).set d1.toNatClampNeg o1).set d2.toNatClampNeg o2).set d3.toNatClampNeg o3).getD (d4 - (1 : Int32)).toNatClampNeg 0)), (.int (4 : Int32)), (.ref p1)]))
          by_cases hc66 : ((((([1, 0, 0, 0, 0, 0] : List Int32).set d1.toNatClampNeg o1).set d2.toNatClampNeg o2).set d3.toNatClampNeg o3).getD (d4 - (1 : Int32)).toNatClampNeg 0) = (0 : Int32)
          · skip
            refine Go.st (fun _ => XS.ifYes X51.here hx rfl (pc0 := 47) (pc' := 54) rfl (hb hby own_d_prog_43_method_6_code_47) rfl ((if0 _ _).trans (teq hc66).1) (by decide) (by decide)) ?_
            show Go p.tables e below P (T51.setTop (mkF m 54 #[.val (.ref p0), .val (.ref p1), .val (.ref b4), .val (.int (4 : Int32)), .val (.int d4)] [(.int (4 : Int32)), (.ref p1)]))
            refine Go.st (fun _ => XS.iconst X51.here hx rfl (hb hby own_d_prog_43_method_6_code_54)) ?_
            show Go p.tables e below P (T51.setTop (mkF m 55 #[.val (.ref p0), .val (.ref p1), .val (.ref b4), .val (.int (4 : Int32)), .val (.int d4)] [(.int (0 : Int32)), (.int (4 : Int32)), (.ref p1)]))
            exact J56 T51 _ (X51.more (by decide) (by decide)) e51 N46 (0 : Int32)  (by first | exact own_an0 (by assumption) | exact own_an1 (by assumption) (by assumption) | exact own_an2 (by assumption) (by assumption) | exact own_an2 (by assumption) (by decide))
          · skip
            refine Go.st (fun _ => XS.ifNo X51.here hx rfl (hb hby own_d_prog_43_method_6_code_47) rfl ((if0 _ _).trans (feq hc66).1)) ?_
            show Go p.tables e below P (T51.setTop (mkF m 50 #[.val (.ref p0), .val (.ref p1), .val (.ref b4), .val (.int (4 : Int32)), .val (.int d4)] [(.int (4 : Int32)), (.ref p1)]))
            refine Go.st (fun _ => XS.iconst X51.here hx rfl (hb hby own_d_prog_43_method_6_code_50)) ?_
            show Go p.tables e below P (T51.setTop (mkF m 51 #[.val (.ref p0), .val (.ref p1), .val (.ref b4), .val (.int (4 : Int32)), .val (.int d4)] [(.int (1 : Int32)), (.int (4 : Int32)), (.ref p1)]))
            refine Go.st (fun _ => XS.goto X51.here hx rfl (pc0 := 51) (pc' := 55) rfl (hb hby own_d_prog_43_method_6_code_51) (by decide) (by decide)) ?_
            show Go p.tables e below P (T51.setTop (mkF m 55 #[.val (.ref p0), .val (.ref p1), .val (.ref b4), .val (.int (4 : Int32)), .val (.int d4)] [(.int (1 : Int32)), (.int (4 : Int32)), (.ref p1)]))
            exact J56 T51 _ (X51.more (by decide) (by decide)) e51 N46 (1 : Int32)  (by first | exact own_an0 (by assumption) | exact own_an1 (by assumption) (by assumption) | exact own_an2 (by assumption) (by assumption) | exact own_an2 (by assumption) (by decide))
      by_cases hc67 : xb3 = (0 : Int32)
      · skip
        refine Go.st (fun _ => XS.ifYes X38.here hx rfl (pc0 := 38) (pc' := 54) rfl (hb hby own_d_prog_43_method_6_code_38) rfl ((if0 _ _).trans (teq hc67).1) (by decide) (by decide)) ?_
        show Go p.tables e below P (T38.setTop (mkF m 54 #[.val (.ref p0), .val (.ref p1), .val (.ref b4), .val (.int (3 : Int32)), .val (.int d3)] [(.int (3 : Int32)), (.ref p1)]))
        refine Go.st (fun _ => XS.iconst X38.here hx rfl (hb hby own_d_prog_43_method_6_code_54)) ?_
        show Go p.tables e below P (T38.setTop (mkF m 55 #[.val (.ref p0), .val (.ref p1), .val (.ref b4), .val (.int (3 : Int32)), .val (.int d3)] [(.int (0 : Int32)), (.int (3 : Int32)), (.ref p1)]))
        exact J43 T38 _ (X38.more (by decide) (by decide)) e38 N33 (0 : Int32)  (by first | exact own_an0 (by assumption) | exact own_an1 (by assumption) (by assumption) | exact own_an2 (by assumption) (by assumption) | exact own_an2 (by assumption) (by decide))
      · skip
        refine Go.st (fun _ => XS.ifNo X38.here hx rfl (hb hby own_d_prog_43_method_6_code_38) rfl ((if0 _ _).trans (feq hc67).1)) ?_
        show Go p.tables e below P (T38.setTop (mkF m 41 #[.val (.ref p0), .val (.ref p1), .val (.ref b4), .val (.int (3 : Int32)), .val (.int d3)] [(.int (3 : Int32)), (.ref p1)]))
        refine Go.st (fun _ => XS.aloadN X38.here hx rfl (hb hby own_d_prog_43_method_6_code_41) rfl rfl) ?_
        show Go p.tables e below P (T38.setTop (mkF m 42 #[.val (.ref p0), .val (.ref p1), .val (.ref b4), .val (.int (3 : Int32)), .val (.int d3)] [(.ref b4), (.int (3 : Int32)), (.ref p1)]))
        refine Go.st (fun _ => XS.iload X38.here hx rfl (hb hby own_d_prog_43_method_6_code_42) rfl) ?_
        show Go p.tables e below P (T38.setTop (mkF m 44 #[.val (.ref p0), .val (.ref p1), .val (.ref b4), .val (.int (3 : Int32)), .val (.int d3)] [(.int d3), (.ref b4), (.int (3 : Int32)), (.ref p1)]))
        refine Go.st (fun _ => XS.iconst X38.here hx rfl (hb hby own_d_prog_43_method_6_code_44)) ?_
        show Go p.tables e below P (T38.setTop (mkF m 45 #[.val (.ref p0), .val (.ref p1), .val (.ref b4), .val (.int (3 : Int32)), .val (.int d3)] [(.int (1 : Int32)), (.int d3), (.ref b4), (.int (3 : Int32)), (.ref p1)]))
        refine Go.st (fun _ => XS.isub X38.here hx rfl (hb hby own_d_prog_43_method_6_code_45) rfl) ?_
        show Go p.tables e below P (T38.setTop (mkF m 46 #[.val (.ref p0), .val (.ref p1), .val (.ref b4), .val (.int (3 : Int32)), .val (.int d3)] [(.int (d3 - (1 : Int32))), (.ref b4), (.int (3 : Int32)), (.ref p1)]))
        refine Go.st (fun _ => own_ldZ X38 hx hZ e38 V33' (j := (d3 - (1 : Int32))) (i := ((d3 - (1 : Int32))).toNatClampNeg) (v := (.int (((([1, 0, 0, 0, 0, 0] : List Int32).set d1.toNatClampNeg o1).set d2.toNatClampNeg o2).getD (d3 - (1 : Int32)).toNatClampNeg 0))) (own_ix1 hdd3 hps) rfl (own_getD_int ((([1, 0, 0, 0, 0, 0] : List Int32).set d1.toNatClampNeg o1).set d2.toNatClampNeg o2) _) (g := (mkF m 46 #[.val (.ref p0), .val (.ref p1), .val (.ref b4), .val (.int (3 : Int32)), .val (.int d3)] [(.int (d3 - (1 : Int32))), (.ref b4), (.int (3 : Int32)), (.ref p1)])) rfl rfl (hb hby own_d_prog_43_method_6_code_46) _) ?_
        show Go p.tables e below P (T38.setTop (mkF m 47 #[.val (.ref p0), .val (.ref p1), .val (.ref b4), .val (.int (3 : Int32)), .val (.int d3)] [(.int (((([1, 0, 0, 0, 0, 0] : List Int32).set d1.toNatClampNeg o1).set d2.toNatClampNeg o2).getD (d3 - (1 : Int32)).toNatClampNeg 0)), (.int (3 : Int32)), (.ref p1)]))
        by_cases hc69 : (((([1, 0, 0, 0, 0, 0] : List Int32).set d1.toNatClampNeg o1).set d2.toNatClampNeg o2).getD (d3 - (1 : Int32)).toNatClampNeg 0) = (0 : Int32)
        · skip
          refine Go.st (fun _ => XS.ifYes X38.here hx rfl (pc0 := 47) (pc' := 54) rfl (hb hby own_d_prog_43_method_6_code_47) rfl ((if0 _ _).trans (teq hc69).1) (by decide) (by decide)) ?_
          show Go p.tables e below P (T38.setTop (mkF m 54 #[.val (.ref p0), .val (.ref p1), .val (.ref b4), .val (.int (3 : Int32)), .val (.int d3)] [(.int (3 : Int32)), (.ref p1)]))
          refine Go.st (fun _ => XS.iconst X38.here hx rfl (hb hby own_d_prog_43_method_6_code_54)) ?_
          show Go p.tables e below P (T38.setTop (mkF m 55 #[.val (.ref p0), .val (.ref p1), .val (.ref b4), .val (.int (3 : Int32)), .val (.int d3)] [(.int (0 : Int32)), (.int (3 : Int32)), (.ref p1)]))
          exact J43 T38 _ (X38.more (by decide) (by decide)) e38 N33 (0 : Int32)  (by first | exact own_an0 (by assumption) | exact own_an1 (by assumption) (by assumption) | exact own_an2 (by assumption) (by assumption) | exact own_an2 (by assumption) (by decide))
        · skip
          refine Go.st (fun _ => XS.ifNo X38.here hx rfl (hb hby own_d_prog_43_method_6_code_47) rfl ((if0 _ _).trans (feq hc69).1)) ?_
          show Go p.tables e below P (T38.setTop (mkF m 50 #[.val (.ref p0), .val (.ref p1), .val (.ref b4), .val (.int (3 : Int32)), .val (.int d3)] [(.int (3 : Int32)), (.ref p1)]))
          refine Go.st (fun _ => XS.iconst X38.here hx rfl (hb hby own_d_prog_43_method_6_code_50)) ?_
          show Go p.tables e below P (T38.setTop (mkF m 51 #[.val (.ref p0), .val (.ref p1), .val (.ref b4), .val (.int (3 : Int32)), .val (.int d3)] [(.int (1 : Int32)), (.int (3 : Int32)), (.ref p1)]))
          refine Go.st (fun _ => XS.goto X38.here hx rfl (pc0 := 51) (pc' := 55) rfl (hb hby own_d_prog_43_method_6_code_51) (by decide) (by decide)) ?_
          show Go p.tables e below P (T38.setTop (mkF m 55 #[.val (.ref p0), .val (.ref p1), .val (.ref b4), .val (.int (3 : Int32)), .val (.int d3)] [(.int (1 : Int32)), (.int (3 : Int32)), (.ref p1)]))
          exact J43 T38 _ (X38.more (by decide) (by decide)) e38 N33 (1 : Int32)  (by first | exact own_an0 (by assumption) | exact own_an1 (by assumption) (by assumption) | exact own_an2 (by assumption) (by assumption) | exact own_an2 (by assumption) (by decide))
    by_cases hc70 : xb2 = (0 : Int32)
    · skip
      refine Go.st (fun _ => XS.ifYes X25.here hx rfl (pc0 := 38) (pc' := 54) rfl (hb hby own_d_prog_43_method_6_code_38) rfl ((if0 _ _).trans (teq hc70).1) (by decide) (by decide)) ?_
      show Go p.tables e below P (T25.setTop (mkF m 54 #[.val (.ref p0), .val (.ref p1), .val (.ref b4), .val (.int (2 : Int32)), .val (.int d2)] [(.int (2 : Int32)), (.ref p1)]))
      refine Go.st (fun _ => XS.iconst X25.here hx rfl (hb hby own_d_prog_43_method_6_code_54)) ?_
      show Go p.tables e below P (T25.setTop (mkF m 55 #[.val (.ref p0), .val (.ref p1), .val (.ref b4), .val (.int (2 : Int32)), .val (.int d2)] [(.int (0 : Int32)), (.int (2 : Int32)), (.ref p1)]))
      exact J30 T25 _ (X25.more (by decide) (by decide)) e25 N20 (0 : Int32)  (by first | exact own_an0 (by assumption) | exact own_an1 (by assumption) (by assumption) | exact own_an2 (by assumption) (by assumption) | exact own_an2 (by assumption) (by decide))
    · skip
      refine Go.st (fun _ => XS.ifNo X25.here hx rfl (hb hby own_d_prog_43_method_6_code_38) rfl ((if0 _ _).trans (feq hc70).1)) ?_
      show Go p.tables e below P (T25.setTop (mkF m 41 #[.val (.ref p0), .val (.ref p1), .val (.ref b4), .val (.int (2 : Int32)), .val (.int d2)] [(.int (2 : Int32)), (.ref p1)]))
      refine Go.st (fun _ => XS.aloadN X25.here hx rfl (hb hby own_d_prog_43_method_6_code_41) rfl rfl) ?_
      show Go p.tables e below P (T25.setTop (mkF m 42 #[.val (.ref p0), .val (.ref p1), .val (.ref b4), .val (.int (2 : Int32)), .val (.int d2)] [(.ref b4), (.int (2 : Int32)), (.ref p1)]))
      refine Go.st (fun _ => XS.iload X25.here hx rfl (hb hby own_d_prog_43_method_6_code_42) rfl) ?_
      show Go p.tables e below P (T25.setTop (mkF m 44 #[.val (.ref p0), .val (.ref p1), .val (.ref b4), .val (.int (2 : Int32)), .val (.int d2)] [(.int d2), (.ref b4), (.int (2 : Int32)), (.ref p1)]))
      refine Go.st (fun _ => XS.iconst X25.here hx rfl (hb hby own_d_prog_43_method_6_code_44)) ?_
      show Go p.tables e below P (T25.setTop (mkF m 45 #[.val (.ref p0), .val (.ref p1), .val (.ref b4), .val (.int (2 : Int32)), .val (.int d2)] [(.int (1 : Int32)), (.int d2), (.ref b4), (.int (2 : Int32)), (.ref p1)]))
      refine Go.st (fun _ => XS.isub X25.here hx rfl (hb hby own_d_prog_43_method_6_code_45) rfl) ?_
      show Go p.tables e below P (T25.setTop (mkF m 46 #[.val (.ref p0), .val (.ref p1), .val (.ref b4), .val (.int (2 : Int32)), .val (.int d2)] [(.int (d2 - (1 : Int32))), (.ref b4), (.int (2 : Int32)), (.ref p1)]))
      refine Go.st (fun _ => own_ldZ X25 hx hZ e25 V20' (j := (d2 - (1 : Int32))) (i := ((d2 - (1 : Int32))).toNatClampNeg) (v := (.int ((([1, 0, 0, 0, 0, 0] : List Int32).set d1.toNatClampNeg o1).getD (d2 - (1 : Int32)).toNatClampNeg 0))) (own_ix1 hdd2 hps) rfl (own_getD_int (([1, 0, 0, 0, 0, 0] : List Int32).set d1.toNatClampNeg o1) _) (g := (mkF m 46 #[.val (.ref p0), .val (.ref p1), .val (.ref b4), .val (.int (2 : Int32)), .val (.int d2)] [(.int (d2 - (1 : Int32))), (.ref b4), (.int (2 : Int32)), (.ref p1)])) rfl rfl (hb hby own_d_prog_43_method_6_code_46) _) ?_
      show Go p.tables e below P (T25.setTop (mkF m 47 #[.val (.ref p0), .val (.ref p1), .val (.ref b4), .val (.int (2 : Int32)), .val (.int d2)] [(.int ((([1, 0, 0, 0, 0, 0] : List Int32).set d1.toNatClampNeg o1).getD (d2 - (1 : Int32)).toNatClampNeg 0)), (.int (2 : Int32)), (.ref p1)]))
      by_cases hc72 : ((([1, 0, 0, 0, 0, 0] : List Int32).set d1.toNatClampNeg o1).getD (d2 - (1 : Int32)).toNatClampNeg 0) = (0 : Int32)
      · skip
        refine Go.st (fun _ => XS.ifYes X25.here hx rfl (pc0 := 47) (pc' := 54) rfl (hb hby own_d_prog_43_method_6_code_47) rfl ((if0 _ _).trans (teq hc72).1) (by decide) (by decide)) ?_
        show Go p.tables e below P (T25.setTop (mkF m 54 #[.val (.ref p0), .val (.ref p1), .val (.ref b4), .val (.int (2 : Int32)), .val (.int d2)] [(.int (2 : Int32)), (.ref p1)]))
        refine Go.st (fun _ => XS.iconst X25.here hx rfl (hb hby own_d_prog_43_method_6_code_54)) ?_
        show Go p.tables e below P (T25.setTop (mkF m 55 #[.val (.ref p0), .val (.ref p1), .val (.ref b4), .val (.int (2 : Int32)), .val (.int d2)] [(.int (0 : Int32)), (.int (2 : Int32)), (.ref p1)]))
        exact J30 T25 _ (X25.more (by decide) (by decide)) e25 N20 (0 : Int32)  (by first | exact own_an0 (by assumption) | exact own_an1 (by assumption) (by assumption) | exact own_an2 (by assumption) (by assumption) | exact own_an2 (by assumption) (by decide))
      · skip
        refine Go.st (fun _ => XS.ifNo X25.here hx rfl (hb hby own_d_prog_43_method_6_code_47) rfl ((if0 _ _).trans (feq hc72).1)) ?_
        show Go p.tables e below P (T25.setTop (mkF m 50 #[.val (.ref p0), .val (.ref p1), .val (.ref b4), .val (.int (2 : Int32)), .val (.int d2)] [(.int (2 : Int32)), (.ref p1)]))
        refine Go.st (fun _ => XS.iconst X25.here hx rfl (hb hby own_d_prog_43_method_6_code_50)) ?_
        show Go p.tables e below P (T25.setTop (mkF m 51 #[.val (.ref p0), .val (.ref p1), .val (.ref b4), .val (.int (2 : Int32)), .val (.int d2)] [(.int (1 : Int32)), (.int (2 : Int32)), (.ref p1)]))
        refine Go.st (fun _ => XS.goto X25.here hx rfl (pc0 := 51) (pc' := 55) rfl (hb hby own_d_prog_43_method_6_code_51) (by decide) (by decide)) ?_
        show Go p.tables e below P (T25.setTop (mkF m 55 #[.val (.ref p0), .val (.ref p1), .val (.ref b4), .val (.int (2 : Int32)), .val (.int d2)] [(.int (1 : Int32)), (.int (2 : Int32)), (.ref p1)]))
        exact J30 T25 _ (X25.more (by decide) (by decide)) e25 N20 (1 : Int32)  (by first | exact own_an0 (by assumption) | exact own_an1 (by assumption) (by assumption) | exact own_an2 (by assumption) (by assumption) | exact own_an2 (by assumption) (by decide))
  by_cases hc73 : xb1 = (0 : Int32)
  · skip
    refine Go.st (fun _ => XS.ifYes X12.here hx rfl (pc0 := 38) (pc' := 54) rfl (hb hby own_d_prog_43_method_6_code_38) rfl ((if0 _ _).trans (teq hc73).1) (by decide) (by decide)) ?_
    show Go p.tables e below P (T12.setTop (mkF m 54 #[.val (.ref p0), .val (.ref p1), .val (.ref b4), .val (.int (1 : Int32)), .val (.int d1)] [(.int (1 : Int32)), (.ref p1)]))
    refine Go.st (fun _ => XS.iconst X12.here hx rfl (hb hby own_d_prog_43_method_6_code_54)) ?_
    show Go p.tables e below P (T12.setTop (mkF m 55 #[.val (.ref p0), .val (.ref p1), .val (.ref b4), .val (.int (1 : Int32)), .val (.int d1)] [(.int (0 : Int32)), (.int (1 : Int32)), (.ref p1)]))
    exact J17 T12 _ (X12.more (by decide) (by decide)) e12 N8 (0 : Int32)  (by first | exact own_an0 (by assumption) | exact own_an1 (by assumption) (by assumption) | exact own_an2 (by assumption) (by assumption) | exact own_an2 (by assumption) (by decide))
  · skip
    refine Go.st (fun _ => XS.ifNo X12.here hx rfl (hb hby own_d_prog_43_method_6_code_38) rfl ((if0 _ _).trans (feq hc73).1)) ?_
    show Go p.tables e below P (T12.setTop (mkF m 41 #[.val (.ref p0), .val (.ref p1), .val (.ref b4), .val (.int (1 : Int32)), .val (.int d1)] [(.int (1 : Int32)), (.ref p1)]))
    refine Go.st (fun _ => XS.aloadN X12.here hx rfl (hb hby own_d_prog_43_method_6_code_41) rfl rfl) ?_
    show Go p.tables e below P (T12.setTop (mkF m 42 #[.val (.ref p0), .val (.ref p1), .val (.ref b4), .val (.int (1 : Int32)), .val (.int d1)] [(.ref b4), (.int (1 : Int32)), (.ref p1)]))
    refine Go.st (fun _ => XS.iload X12.here hx rfl (hb hby own_d_prog_43_method_6_code_42) rfl) ?_
    show Go p.tables e below P (T12.setTop (mkF m 44 #[.val (.ref p0), .val (.ref p1), .val (.ref b4), .val (.int (1 : Int32)), .val (.int d1)] [(.int d1), (.ref b4), (.int (1 : Int32)), (.ref p1)]))
    refine Go.st (fun _ => XS.iconst X12.here hx rfl (hb hby own_d_prog_43_method_6_code_44)) ?_
    show Go p.tables e below P (T12.setTop (mkF m 45 #[.val (.ref p0), .val (.ref p1), .val (.ref b4), .val (.int (1 : Int32)), .val (.int d1)] [(.int (1 : Int32)), (.int d1), (.ref b4), (.int (1 : Int32)), (.ref p1)]))
    refine Go.st (fun _ => XS.isub X12.here hx rfl (hb hby own_d_prog_43_method_6_code_45) rfl) ?_
    show Go p.tables e below P (T12.setTop (mkF m 46 #[.val (.ref p0), .val (.ref p1), .val (.ref b4), .val (.int (1 : Int32)), .val (.int d1)] [(.int (d1 - (1 : Int32))), (.ref b4), (.int (1 : Int32)), (.ref p1)]))
    refine Go.st (fun _ => own_ldZ X12 hx hZ e12 V8' (j := (d1 - (1 : Int32))) (i := ((d1 - (1 : Int32))).toNatClampNeg) (v := (.int (([1, 0, 0, 0, 0, 0] : List Int32).getD (d1 - (1 : Int32)).toNatClampNeg 0))) (own_ix1 hdd1 hps) rfl (own_getD_int ([1, 0, 0, 0, 0, 0] : List Int32) _) (g := (mkF m 46 #[.val (.ref p0), .val (.ref p1), .val (.ref b4), .val (.int (1 : Int32)), .val (.int d1)] [(.int (d1 - (1 : Int32))), (.ref b4), (.int (1 : Int32)), (.ref p1)])) rfl rfl (hb hby own_d_prog_43_method_6_code_46) _) ?_
    show Go p.tables e below P (T12.setTop (mkF m 47 #[.val (.ref p0), .val (.ref p1), .val (.ref b4), .val (.int (1 : Int32)), .val (.int d1)] [(.int (([1, 0, 0, 0, 0, 0] : List Int32).getD (d1 - (1 : Int32)).toNatClampNeg 0)), (.int (1 : Int32)), (.ref p1)]))
    by_cases hc75 : (([1, 0, 0, 0, 0, 0] : List Int32).getD (d1 - (1 : Int32)).toNatClampNeg 0) = (0 : Int32)
    · skip
      refine Go.st (fun _ => XS.ifYes X12.here hx rfl (pc0 := 47) (pc' := 54) rfl (hb hby own_d_prog_43_method_6_code_47) rfl ((if0 _ _).trans (teq hc75).1) (by decide) (by decide)) ?_
      show Go p.tables e below P (T12.setTop (mkF m 54 #[.val (.ref p0), .val (.ref p1), .val (.ref b4), .val (.int (1 : Int32)), .val (.int d1)] [(.int (1 : Int32)), (.ref p1)]))
      refine Go.st (fun _ => XS.iconst X12.here hx rfl (hb hby own_d_prog_43_method_6_code_54)) ?_
      show Go p.tables e below P (T12.setTop (mkF m 55 #[.val (.ref p0), .val (.ref p1), .val (.ref b4), .val (.int (1 : Int32)), .val (.int d1)] [(.int (0 : Int32)), (.int (1 : Int32)), (.ref p1)]))
      exact J17 T12 _ (X12.more (by decide) (by decide)) e12 N8 (0 : Int32)  (by first | exact own_an0 (by assumption) | exact own_an1 (by assumption) (by assumption) | exact own_an2 (by assumption) (by assumption) | exact own_an2 (by assumption) (by decide))
    · skip
      refine Go.st (fun _ => XS.ifNo X12.here hx rfl (hb hby own_d_prog_43_method_6_code_47) rfl ((if0 _ _).trans (feq hc75).1)) ?_
      show Go p.tables e below P (T12.setTop (mkF m 50 #[.val (.ref p0), .val (.ref p1), .val (.ref b4), .val (.int (1 : Int32)), .val (.int d1)] [(.int (1 : Int32)), (.ref p1)]))
      refine Go.st (fun _ => XS.iconst X12.here hx rfl (hb hby own_d_prog_43_method_6_code_50)) ?_
      show Go p.tables e below P (T12.setTop (mkF m 51 #[.val (.ref p0), .val (.ref p1), .val (.ref b4), .val (.int (1 : Int32)), .val (.int d1)] [(.int (1 : Int32)), (.int (1 : Int32)), (.ref p1)]))
      refine Go.st (fun _ => XS.goto X12.here hx rfl (pc0 := 51) (pc' := 55) rfl (hb hby own_d_prog_43_method_6_code_51) (by decide) (by decide)) ?_
      show Go p.tables e below P (T12.setTop (mkF m 55 #[.val (.ref p0), .val (.ref p1), .val (.ref b4), .val (.int (1 : Int32)), .val (.int d1)] [(.int (1 : Int32)), (.int (1 : Int32)), (.ref p1)]))
      exact J17 T12 _ (X12.more (by decide) (by decide)) e12 N8 (1 : Int32)  (by first | exact own_an0 (by assumption) | exact own_an1 (by assumption) (by assumption) | exact own_an2 (by assumption) (by assumption) | exact own_an2 (by assumption) (by decide))
theorem own_dd2 {d x : Int32} (h : d = (1 : Int32) + ((x &&& (7 : Int32)) % (2 : Int32))) : d = 1 ∨ d = 2 := by
  have a := c_and x 7 (by decide)
  have b := (c_irem (x &&& 7) 2 2 (by decide)).1 a.1
  have c := c_iadd 1 ((x &&& 7) % 2)
  have r := rng32 (1 + (x &&& 7) % 2)
  have e1 : (1 : Int32).toInt = 1 := rfl
  rw [e1, ← h] at c
  rw [← h] at r
  have q : d.toInt = 1 ∨ d.toInt = 2 := by omega
  rcases q with q | q
  · exact Or.inl (own_int q rfl)
  · exact Or.inr (own_int q rfl)
theorem own_dd3 {d d' y : Int32} (hd' : d' = 1 ∨ d' = 2) (h : d = (1 : Int32) + ((y &&& (7 : Int32)) % (d' + (1 : Int32)))) : d = 1 ∨ d = 2 ∨ (d = 3 ∧ d' = 2) := by
  have a := c_and y 7 (by decide)
  have e1 : (1 : Int32).toInt = 1 := rfl
  rcases hd' with rfl | rfl
  · have b := (c_irem (y &&& 7) (1 + 1) 2 (by decide)).1 a.1
    have c := c_iadd 1 ((y &&& 7) % (1 + 1))
    have r := rng32 (1 + (y &&& 7) % (1 + 1))
    rw [e1, ← h] at c
    rw [← h] at r
    have q : d.toInt = 1 ∨ d.toInt = 2 := by omega
    rcases q with q | q
    · exact Or.inl (own_int q rfl)
    · exact Or.inr (Or.inl (own_int q rfl))
  · have b := (c_irem (y &&& 7) (2 + 1) 3 (by decide)).1 a.1
    have c := c_iadd 1 ((y &&& 7) % (2 + 1))
    have r := rng32 (1 + (y &&& 7) % (2 + 1))
    rw [e1, ← h] at c
    rw [← h] at r
    have q : d.toInt = 1 ∨ d.toInt = 2 ∨ d.toInt = 3 := by omega
    rcases q with q | q | q
    · exact Or.inl (own_int q rfl)
    · exact Or.inr (Or.inl (own_int q rfl))
    · exact Or.inr (Or.inr ⟨own_int q rfl, rfl⟩)
theorem own_dd4 {d d' d'' y : Int32} (hd' : d' = 1 ∨ d' = 2 ∨ (d' = 3 ∧ d'' = 2)) (h : d = (1 : Int32) + ((y &&& (7 : Int32)) % (d' + (1 : Int32)))) : d = 1 ∨ d = 2 ∨ (d = 3 ∧ ¬ d' = 1) ∨ (d = 4 ∧ d' = 3) := by
  have a := c_and y 7 (by decide)
  have e1 : (1 : Int32).toInt = 1 := rfl
  rcases hd' with rfl | rfl | ⟨rfl, -⟩
  · have b := (c_irem (y &&& 7) (1 + 1) 2 (by decide)).1 a.1
    have c := c_iadd 1 ((y &&& 7) % (1 + 1))
    have r := rng32 (1 + (y &&& 7) % (1 + 1))
    rw [e1, ← h] at c
    rw [← h] at r
    have q : d.toInt = 1 ∨ d.toInt = 2 := by omega
    rcases q with q | q
    · exact Or.inl (own_int q rfl)
    · exact Or.inr (Or.inl (own_int q rfl))
  · have b := (c_irem (y &&& 7) (2 + 1) 3 (by decide)).1 a.1
    have c := c_iadd 1 ((y &&& 7) % (2 + 1))
    have r := rng32 (1 + (y &&& 7) % (2 + 1))
    rw [e1, ← h] at c
    rw [← h] at r
    have q : d.toInt = 1 ∨ d.toInt = 2 ∨ d.toInt = 3 := by omega
    rcases q with q | q | q
    · exact Or.inl (own_int q rfl)
    · exact Or.inr (Or.inl (own_int q rfl))
    · exact Or.inr (Or.inr (Or.inl ⟨own_int q rfl, by decide⟩))
  · have b := (c_irem (y &&& 7) (3 + 1) 4 (by decide)).1 a.1
    have c := c_iadd 1 ((y &&& 7) % (3 + 1))
    have r := rng32 (1 + (y &&& 7) % (3 + 1))
    rw [e1, ← h] at c
    rw [← h] at r
    have q : d.toInt = 1 ∨ d.toInt = 2 ∨ d.toInt = 3 ∨ d.toInt = 4 := by omega
    rcases q with q | q | q | q
    · exact Or.inl (own_int q rfl)
    · exact Or.inr (Or.inl (own_int q rfl))
    · exact Or.inr (Or.inr (Or.inl ⟨own_int q rfl, by decide⟩))
    · exact Or.inr (Or.inr (Or.inr ⟨own_int q rfl, rfl⟩))
theorem own_nz2 {d : Int32} (h : d = 1 ∨ d = 2) : d + 1 ≠ 0 := by rcases h with rfl | rfl <;> decide
theorem own_nz3 {d d' : Int32} (h : d = 1 ∨ d = 2 ∨ (d = 3 ∧ d' = 2)) : d + 1 ≠ 0 := by rcases h with rfl | rfl | ⟨rfl, -⟩ <;> decide
theorem own_hh {d2 d3 d4 hh : Int32} (h2 : d2 = 1 ∨ d2 = 2) (h3 : d3 = 1 ∨ d3 = 2 ∨ (d3 = 3 ∧ d2 = 2)) (h4 : d4 = 1 ∨ d4 = 2 ∨ (d4 = 3 ∧ ¬ d3 = 1) ∨ (d4 = 4 ∧ d3 = 3)) (e : hh = own_max (own_max (1 : Int32) d2) (own_max d3 d4)) :
    (¬ (hh + (2 : Int32)) < 0 ∧ (hh + (2 : Int32)).toNatClampNeg ≤ 6) ∧ (0 < (hh + (2 : Int32)).toInt ∧ (hh + (2 : Int32)).toInt ≤ 6) ∧ (1 ≤ (1 : Int32).toInt ∧ (1 : Int32).toInt < (hh + (2 : Int32)).toInt) ∧ (1 ≤ d2.toInt ∧ d2.toInt < (hh + (2 : Int32)).toInt) ∧ (1 ≤ d3.toInt ∧ d3.toInt < (hh + (2 : Int32)).toInt) ∧ (1 ≤ d4.toInt ∧ d4.toInt < (hh + (2 : Int32)).toInt) := by
  subst e
  rcases h2 with rfl | rfl <;> rcases h3 with rfl | rfl | ⟨rfl, k3⟩ <;> rcases h4 with rfl | rfl | ⟨rfl, k4⟩ | ⟨rfl, k4⟩ <;> decide
theorem own_pr2 {d2 : Int32} (h2 : d2 = 1 ∨ d2 = 2) : ¬ own_p2 (1 : Int32) d2 < 0 ∧ own_p2 (1 : Int32) d2 < 5 := by rcases h2 with rfl | rfl <;> decide
theorem own_pr3 (q1 q2 q3 : Int32) : ¬ own_p3 q1 q2 q3 < 0 ∧ own_p3 q1 q2 q3 < 5 := by unfold own_p3; split <;> (try split) <;> decide
theorem own_pr4 (q1 q2 q3 q4 : Int32) : ¬ own_p4 q1 q2 q3 q4 < 0 ∧ own_p4 q1 q2 q3 q4 < 5 := by unfold own_p4; split <;> (try split) <;> (try split) <;> decide
theorem own_fin {d2 d3 d4 b1 b2 b3 b4 o1 o2 o3 o4 e1 e2 e3 e4 : Int32} (h2 : d2 = 1 ∨ d2 = 2) (h3 : d3 = 1 ∨ d3 = 2 ∨ (d3 = 3 ∧ d2 = 2)) (h4 : d4 = 1 ∨ d4 = 2 ∨ (d4 = 3 ∧ ¬ d3 = 1) ∨ (d4 = 4 ∧ d3 = 3)) (g1 : b1 = 0 ∨ b1 = 1) (g2 : b2 = 0 ∨ b2 = 1) (g3 : b3 = 0 ∨ b3 = 1) (g4 : b4 = 0 ∨ b4 = 1)
    (ho1 : o1 = own_and b1 (([1, 0, 0, 0, 0, 0] : List Int32).getD ((1 : Int32) - 1).toNatClampNeg 0)) (ho2 : o2 = own_and b2 ((([1, 0, 0, 0, 0, 0] : List Int32).set (1 : Int32).toNatClampNeg o1).getD (d2 - 1).toNatClampNeg 0))
    (ho3 : o3 = own_and b3 (((([1, 0, 0, 0, 0, 0] : List Int32).set (1 : Int32).toNatClampNeg o1).set d2.toNatClampNeg o2).getD (d3 - 1).toNatClampNeg 0)) (ho4 : o4 = own_and b4 ((((([1, 0, 0, 0, 0, 0] : List Int32).set (1 : Int32).toNatClampNeg o1).set d2.toNatClampNeg o2).set d3.toNatClampNeg o3).getD (d4 - 1).toNatClampNeg 0))
    (he1 : e1 = own_and b1 1) (he2 : e2 = own_and b2 (([1, e1, 0, 0, 0] : List Int32).getD (own_p2 1 d2).toNatClampNeg 0)) (he3 : e3 = own_and b3 (([1, e1, e2, 0, 0] : List Int32).getD (own_p3 1 d2 d3).toNatClampNeg 0)) (he4 : e4 = own_and b4 (([1, e1, e2, e3, 0] : List Int32).getD (own_p4 1 d2 d3 d4).toNatClampNeg 0)) : o1 = e1 ∧ o2 = e2 ∧ o3 = e3 ∧ o4 = e4 := by
  subst he1 he2 he3 he4 ho1 ho2 ho3 ho4
  rcases h2 with rfl | rfl <;> rcases h3 with rfl | rfl | ⟨rfl, k3⟩ <;> rcases h4 with rfl | rfl | ⟨rfl, k4⟩ | ⟨rfl, k4⟩ <;> first | (exact absurd k3 (by decide)) | (exact absurd k4 (by decide)) | (rcases g1 with rfl | rfl <;> rcases g2 with rfl | rfl <;> rcases g3 with rfl | rfl <;> rcases g4 with rfl | rfl <;> decide)
theorem own_ef_rm_law (m : MethodId) (x0 : Int32) (x1 : Int32) : entryFrame m #[(.int x0), (.int x1)] maxLocals = mkF m 0 #[.val (.int x0), .val (.int x1), .unset, .unset, .unset, .unset, .unset, .unset, .unset, .unset, .unset] [] := by first | (simp [entryFrame, mkF, argsToLocals, Value.category, maxLocals]; done) | rfl
theorem own_pd3 : parseMethodDescriptor "(II)I" = some ⟨[.int, .int], some .int⟩ := by decide +kernel
theorem own_pd4 : parseMethodDescriptor "([II)I" = some ⟨[(.array .int), .int], some .int⟩ := by decide +kernel
theorem own_pd5 : parseMethodDescriptor "()Ljava/util/Map;" = some ⟨[], some (.object "java/util/Map")⟩ := by decide +kernel
theorem own_pd6 : parseMethodDescriptor "(Lcom/example/parametree/parametree/Ids;[II[I[I[I[IILjava/util/Map;)V" = some ⟨[(.object "com/example/parametree/parametree/Ids"), (.array .int), .int, (.array .int), (.array .int), (.array .int), (.array .int), .int, (.object "java/util/Map")], none⟩ := by decide +kernel
theorem own_pd7 : parseMethodDescriptor "(Lcom/example/parametree/parametree/Tree;[D[D)V" = some ⟨[(.object "com/example/parametree/parametree/Tree"), (.array .double), (.array .double)], none⟩ := by decide +kernel
theorem own_pd8 : parseMethodDescriptor "([Z)[Z" = some ⟨[(.array .boolean)], some (.array .boolean)⟩ := by decide +kernel
def Q_rm_law (Z : State) (w_EM : Addr) (p0 : Int32) (p1 : Int32) (h0 : Heap) (n0 : Nat) (v : Option Value) (h : Heap) (L : List Loc) : Prop := v = some (.int (1 : Int32)) ∧ Fr n0 L ∧ Keep h0 h []
set_option maxRecDepth 65536 in
set_option maxHeartbeats 40000000 in
theorem rm_law (l : Launch) (Z : State) (a0 : Array Value) (hw : ∀ d ∈ tables_1, d.before a0 Z = true) (ws : List Jvm.Cond) (w_EM : Addr) (S_EM : Sta Z Z.heap "java/util/ImmutableCollections" "EMPTY_MAP" "Ljava/util/ImmutableCollections$MapN;" (.ref w_EM)) (X_EM : Exa Z Z.heap w_EM "java/util/ImmutableCollections$MapN") (p0 : Int32) (p1 : Int32) (h0 : Heap) (n0 : Nat) (X00 : Old Z n0 h0)  :
    MetFree l x (head1 (Jvm.Cond.code x code maxLocals ret :: ws) room_1) (fun a U => a = #[(.int p0), (.int p1)] ∧ Z.Warmed39 U.vm ∧ U.heap = h0) (fun _ _ _ _ _ => True) (fun _ U o U' => ∃ v L, o = .returned v ∧ Q_rm_law Z w_EM p0 p1 h0 n0 v U'.heap L ∧ FrameEnd U o U' L 18 106) := by
  refine MetFree.of_bodySF (plainFor_of_name own_pn3) hisR ?_
  intro p e s m args below meth c s₁ Bd hml0 hP hK
  obtain ⟨rfl, hZ, hh⟩ := hP
  have hx := Bd.exec
  have hby := Bd.bytes
  have hml : c.maxLocals = 11 := hml0
  have hown : s.vm.findClass "com/example/parametree/parametree/MeanTreeAttachPinLaw" = some m.cls := findClass_of_methodNamed Bd.named
  have hnm := (name_of_methodNamed Bd.named Bd.method).1
  have X0 : Stand p l e room_1 s m #[(.int p0), (.int p1)] below meth c s₁ [] 0 0 := Stand.of_body Bd
  have e0 : s₁.heap = h0 := by rw [← hh, Bd.state]; rfl
  have N0 := Fr.nil n0
  refine Go.start fun P hPend => ?_
  refine Go.st (fun _ k => castTop (own_ef_rm_law m p0 p1) k) ?_
  show Go p.tables e below P (s₁.setTop (mkF m 0 #[.val (.int p0), .val (.int p1), .unset, .unset, .unset, .unset, .unset, .unset, .unset, .unset, .unset] []))
  refine Go.st (fun _ => XS.iconst X0.here hx rfl (hb hby at_0)) ?_
  show Go p.tables e below P (s₁.setTop (mkF m 1 #[.val (.int p0), .val (.int p1), .unset, .unset, .unset, .unset, .unset, .unset, .unset, .unset, .unset] [(.int (5 : Int32))]))
  obtain ⟨T1, h1, k1, X1, e1, E1, A1, st1⟩ := newP X0 hx hZ (hw _ (List.mem_of_getElem? (i := 0) rfl)) e0 (g := (mkF m 1 #[.val (.int p0), .val (.int p1), .unset, .unset, .unset, .unset, .unset, .unset, .unset, .unset, .unset] [(.int (5 : Int32))])) rfl (hb hby at_1) rfl (by decide) (cap := 5) (by decide) (by decide) (by decide) (by decide)
  obtain ⟨b1, g1⟩ : ∃ z, z = h0.size := ⟨_, rfl⟩
  rw [← g1] at A1 st1
  refine Go.st st1 ?_
  have g_b1 : n0 ≤ b1 := Nat.le_trans (own_oldsz X00) (Nat.le_of_eq g1.symm)
  have sz_b1 : h0.size ≤ b1 := Nat.le_trans (Keep.refl h0 []).1 (Nat.le_of_eq g1.symm)
  have K1 : Keep h0 h1 [] := (Keep.refl h0 []).ext E1
  have O1 := X00.ext E1
  have V1 : Arv Z h1 b1 k1 .int (5 : Int32) [(.int (0 : Int32)), (.int (0 : Int32)), (.int (0 : Int32)), (.int (0 : Int32)), (.int (0 : Int32))] (.int (0 : Int32)) := (Arv.new A1 (by decide)).pad (pad_rep [] (.int (0 : Int32)) 5)
  show Go p.tables e below P (T1.setTop (mkF m 3 #[.val (.int p0), .val (.int p1), .unset, .unset, .unset, .unset, .unset, .unset, .unset, .unset, .unset] [(.ref b1)]))
  refine Go.st (fun _ => XS.astoreN X1.here hx rfl (hb hby at_3) rfl rfl (l' := #[.val (.int p0), .val (.int p1), .val (.ref b1), .unset, .unset, .unset, .unset, .unset, .unset, .unset, .unset]) rfl) ?_
  show Go p.tables e below P (T1.setTop (mkF m 4 #[.val (.int p0), .val (.int p1), .val (.ref b1), .unset, .unset, .unset, .unset, .unset, .unset, .unset, .unset] []))
  refine Go.st (fun _ => XS.aloadN X1.here hx rfl (hb hby at_4) rfl rfl) ?_
  show Go p.tables e below P (T1.setTop (mkF m 5 #[.val (.int p0), .val (.int p1), .val (.ref b1), .unset, .unset, .unset, .unset, .unset, .unset, .unset, .unset] [(.ref b1)]))
  refine Go.st (fun _ => XS.iconst X1.here hx rfl (hb hby at_5)) ?_
  show Go p.tables e below P (T1.setTop (mkF m 6 #[.val (.int p0), .val (.int p1), .val (.ref b1), .unset, .unset, .unset, .unset, .unset, .unset, .unset, .unset] [(.int (0 : Int32)), (.ref b1)]))
  refine Go.st (fun _ => XS.iconst X1.here hx rfl (hb hby at_6)) ?_
  show Go p.tables e below P (T1.setTop (mkF m 7 #[.val (.int p0), .val (.int p1), .val (.ref b1), .unset, .unset, .unset, .unset, .unset, .unset, .unset, .unset] [(.int (0 : Int32)), (.int (0 : Int32)), (.ref b1)]))
  obtain ⟨T2, h2, X2, e2, W2, V2, st2⟩ := own_stI X1 hx hZ e1 V1 (j := (0 : Int32)) (i := 0) (by decide) (by decide) (Nat.le_of_ble_eq_true rfl) (g := (mkF m 7 #[.val (.int p0), .val (.int p1), .val (.ref b1), .unset, .unset, .unset, .unset, .unset, .unset, .unset, .unset] [(.int (0 : Int32)), (.int (0 : Int32)), (.ref b1)])) rfl rfl (hb hby at_7)
  refine Go.st st2 ?_
  have K2 : Keep h0 h2 [] := K1.wr W2 (Or.inr sz_b1)
  have O2 := O1.wr W2 g_b1
  have N2 := Fr.snoc X2 N0 g_b1
  have V2' : Arv Z h2 b1 k1 .int (5 : Int32) [(.int (0 : Int32)), (.int (0 : Int32)), (.int (0 : Int32)), (.int (0 : Int32)), (.int (0 : Int32))] (.int (0 : Int32)) := V2
  show Go p.tables e below P (T2.setTop (mkF m 8 #[.val (.int p0), .val (.int p1), .val (.ref b1), .unset, .unset, .unset, .unset, .unset, .unset, .unset, .unset] []))
  refine Go.st (fun _ => XS.aloadN X2.here hx rfl (hb hby at_8) rfl rfl) ?_
  show Go p.tables e below P (T2.setTop (mkF m 9 #[.val (.int p0), .val (.int p1), .val (.ref b1), .unset, .unset, .unset, .unset, .unset, .unset, .unset, .unset] [(.ref b1)]))
  refine Go.st (fun _ => XS.iconst X2.here hx rfl (hb hby at_9)) ?_
  show Go p.tables e below P (T2.setTop (mkF m 10 #[.val (.int p0), .val (.int p1), .val (.ref b1), .unset, .unset, .unset, .unset, .unset, .unset, .unset, .unset] [(.int (1 : Int32)), (.ref b1)]))
  refine Go.st (fun _ => XS.iconst X2.here hx rfl (hb hby at_10)) ?_
  show Go p.tables e below P (T2.setTop (mkF m 11 #[.val (.int p0), .val (.int p1), .val (.ref b1), .unset, .unset, .unset, .unset, .unset, .unset, .unset, .unset] [(.int (1 : Int32)), (.int (1 : Int32)), (.ref b1)]))
  obtain ⟨T3, h3, X3, e3, W3, V3, st3⟩ := own_stI X2 hx hZ e2 V2' (j := (1 : Int32)) (i := 1) (by decide) (by decide) (Nat.le_of_ble_eq_true rfl) (g := (mkF m 11 #[.val (.int p0), .val (.int p1), .val (.ref b1), .unset, .unset, .unset, .unset, .unset, .unset, .unset, .unset] [(.int (1 : Int32)), (.int (1 : Int32)), (.ref b1)])) rfl rfl (hb hby at_11)
  refine Go.st st3 ?_
  have K3 : Keep h0 h3 [] := K2.wr W3 (Or.inr sz_b1)
  have O3 := O2.wr W3 g_b1
  have N3 := Fr.snoc X3 N2 g_b1
  have V3' : Arv Z h3 b1 k1 .int (5 : Int32) [(.int (0 : Int32)), (.int (1 : Int32)), (.int (0 : Int32)), (.int (0 : Int32)), (.int (0 : Int32))] (.int (0 : Int32)) := V3
  show Go p.tables e below P (T3.setTop (mkF m 12 #[.val (.int p0), .val (.int p1), .val (.ref b1), .unset, .unset, .unset, .unset, .unset, .unset, .unset, .unset] []))
  refine Go.st (fun _ => XS.aloadN X3.here hx rfl (hb hby at_12) rfl rfl) ?_
  show Go p.tables e below P (T3.setTop (mkF m 13 #[.val (.int p0), .val (.int p1), .val (.ref b1), .unset, .unset, .unset, .unset, .unset, .unset, .unset, .unset] [(.ref b1)]))
  refine Go.st (fun _ => XS.iconst X3.here hx rfl (hb hby at_13)) ?_
  show Go p.tables e below P (T3.setTop (mkF m 14 #[.val (.int p0), .val (.int p1), .val (.ref b1), .unset, .unset, .unset, .unset, .unset, .unset, .unset, .unset] [(.int (2 : Int32)), (.ref b1)]))
  refine Go.st (fun _ => XS.iconst X3.here hx rfl (hb hby at_14)) ?_
  show Go p.tables e below P (T3.setTop (mkF m 15 #[.val (.int p0), .val (.int p1), .val (.ref b1), .unset, .unset, .unset, .unset, .unset, .unset, .unset, .unset] [(.int (1 : Int32)), (.int (2 : Int32)), (.ref b1)]))
  refine Go.st (fun _ => XS.iloadN X3.here hx rfl (hb hby at_15) rfl) ?_
  show Go p.tables e below P (T3.setTop (mkF m 16 #[.val (.int p0), .val (.int p1), .val (.ref b1), .unset, .unset, .unset, .unset, .unset, .unset, .unset, .unset] [(.int p0), (.int (1 : Int32)), (.int (2 : Int32)), (.ref b1)]))
  refine Go.st (fun _ => XS.bipush X3.here hx rfl (hb hby at_16)) ?_
  show Go p.tables e below P (T3.setTop (mkF m 18 #[.val (.int p0), .val (.int p1), .val (.ref b1), .unset, .unset, .unset, .unset, .unset, .unset, .unset, .unset] [(.int (7 : Int32)), (.int p0), (.int (1 : Int32)), (.int (2 : Int32)), (.ref b1)]))
  refine Go.st (fun _ => XS.iand X3.here hx rfl (hb hby at_18) rfl) ?_
  show Go p.tables e below P (T3.setTop (mkF m 19 #[.val (.int p0), .val (.int p1), .val (.ref b1), .unset, .unset, .unset, .unset, .unset, .unset, .unset, .unset] [(.int (p0 &&& (7 : Int32))), (.int (1 : Int32)), (.int (2 : Int32)), (.ref b1)]))
  refine Go.st (fun _ => XS.aloadN X3.here hx rfl (hb hby at_19) rfl rfl) ?_
  show Go p.tables e below P (T3.setTop (mkF m 20 #[.val (.int p0), .val (.int p1), .val (.ref b1), .unset, .unset, .unset, .unset, .unset, .unset, .unset, .unset] [(.ref b1), (.int (p0 &&& (7 : Int32))), (.int (1 : Int32)), (.int (2 : Int32)), (.ref b1)]))
  refine Go.st (fun _ => XS.iconst X3.here hx rfl (hb hby at_20)) ?_
  show Go p.tables e below P (T3.setTop (mkF m 21 #[.val (.int p0), .val (.int p1), .val (.ref b1), .unset, .unset, .unset, .unset, .unset, .unset, .unset, .unset] [(.int (1 : Int32)), (.ref b1), (.int (p0 &&& (7 : Int32))), (.int (1 : Int32)), (.int (2 : Int32)), (.ref b1)]))
  refine Go.st (fun _ => own_ldI X3 hx hZ e3 V3' (j := (1 : Int32)) (i := 1) (v := (.int (1 : Int32))) (by decide) (by decide) rfl (g := (mkF m 21 #[.val (.int p0), .val (.int p1), .val (.ref b1), .unset, .unset, .unset, .unset, .unset, .unset, .unset, .unset] [(.int (1 : Int32)), (.ref b1), (.int (p0 &&& (7 : Int32))), (.int (1 : Int32)), (.int (2 : Int32)), (.ref b1)])) rfl rfl (hb hby at_21) _) ?_
  show Go p.tables e below P (T3.setTop (mkF m 22 #[.val (.int p0), .val (.int p1), .val (.ref b1), .unset, .unset, .unset, .unset, .unset, .unset, .unset, .unset] [(.int (1 : Int32)), (.int (p0 &&& (7 : Int32))), (.int (1 : Int32)), (.int (2 : Int32)), (.ref b1)]))
  refine Go.st (fun _ => XS.iconst X3.here hx rfl (hb hby at_22)) ?_
  show Go p.tables e below P (T3.setTop (mkF m 23 #[.val (.int p0), .val (.int p1), .val (.ref b1), .unset, .unset, .unset, .unset, .unset, .unset, .unset, .unset] [(.int (1 : Int32)), (.int (1 : Int32)), (.int (p0 &&& (7 : Int32))), (.int (1 : Int32)), (.int (2 : Int32)), (.ref b1)]))
  refine Go.st (fun _ => XS.iadd X3.here hx rfl (hb hby at_23) rfl) ?_
  show Go p.tables e below P (T3.setTop (mkF m 24 #[.val (.int p0), .val (.int p1), .val (.ref b1), .unset, .unset, .unset, .unset, .unset, .unset, .unset, .unset] [(.int (2 : Int32)), (.int (p0 &&& (7 : Int32))), (.int (1 : Int32)), (.int (2 : Int32)), (.ref b1)]))
  refine Go.st (fun _ => iremM (g := (mkF m 24 #[.val (.int p0), .val (.int p1), .val (.ref b1), .unset, .unset, .unset, .unset, .unset, .unset, .unset, .unset] [(.int (2 : Int32)), (.int (p0 &&& (7 : Int32))), (.int (1 : Int32)), (.int (2 : Int32)), (.ref b1)])) X3 hx rfl (hb hby at_24) rfl (by decide)) ?_
  show Go p.tables e below P (T3.setTop (mkF m 25 #[.val (.int p0), .val (.int p1), .val (.ref b1), .unset, .unset, .unset, .unset, .unset, .unset, .unset, .unset] [(.int ((p0 &&& (7 : Int32)) % (2 : Int32))), (.int (1 : Int32)), (.int (2 : Int32)), (.ref b1)]))
  refine Go.st (fun _ => XS.iadd X3.here hx rfl (hb hby at_25) rfl) ?_
  show Go p.tables e below P (T3.setTop (mkF m 26 #[.val (.int p0), .val (.int p1), .val (.ref b1), .unset, .unset, .unset, .unset, .unset, .unset, .unset, .unset] [(.int ((1 : Int32) + ((p0 &&& (7 : Int32)) % (2 : Int32)))), (.int (2 : Int32)), (.ref b1)]))
  obtain ⟨d2, he_d2⟩ : ∃ z : Int32, z = ((1 : Int32) + ((p0 &&& (7 : Int32)) % (2 : Int32))) := ⟨_, rfl⟩
  rw [← he_d2]
  show Go p.tables e below P (T3.setTop (mkF m 26 #[.val (.int p0), .val (.int p1), .val (.ref b1), .unset, .unset, .unset, .unset, .unset, .unset, .unset, .unset] [(.int d2), (.int (2 : Int32)), (.ref b1)]))
  have hd2 := own_dd2 he_d2
  obtain ⟨T5, h5, X5, e5, W5, V5, st5⟩ := own_stI X3 hx hZ e3 V3' (j := (2 : Int32)) (i := 2) (by decide) (by decide) (Nat.le_of_ble_eq_true rfl) (g := (mkF m 26 #[.val (.int p0), .val (.int p1), .val (.ref b1), .unset, .unset, .unset, .unset, .unset, .unset, .unset, .unset] [(.int d2), (.int (2 : Int32)), (.ref b1)])) rfl rfl (hb hby at_26)
  refine Go.st st5 ?_
  have K5 : Keep h0 h5 [] := K3.wr W5 (Or.inr sz_b1)
  have O5 := O3.wr W5 g_b1
  have N5 := Fr.snoc X5 N3 g_b1
  have V5' : Arv Z h5 b1 k1 .int (5 : Int32) [(.int (0 : Int32)), (.int (1 : Int32)), (.int d2), (.int (0 : Int32)), (.int (0 : Int32))] (.int (0 : Int32)) := V5
  show Go p.tables e below P (T5.setTop (mkF m 27 #[.val (.int p0), .val (.int p1), .val (.ref b1), .unset, .unset, .unset, .unset, .unset, .unset, .unset, .unset] []))
  refine Go.st (fun _ => XS.aloadN X5.here hx rfl (hb hby at_27) rfl rfl) ?_
  show Go p.tables e below P (T5.setTop (mkF m 28 #[.val (.int p0), .val (.int p1), .val (.ref b1), .unset, .unset, .unset, .unset, .unset, .unset, .unset, .unset] [(.ref b1)]))
  refine Go.st (fun _ => XS.iconst X5.here hx rfl (hb hby at_28)) ?_
  show Go p.tables e below P (T5.setTop (mkF m 29 #[.val (.int p0), .val (.int p1), .val (.ref b1), .unset, .unset, .unset, .unset, .unset, .unset, .unset, .unset] [(.int (3 : Int32)), (.ref b1)]))
  refine Go.st (fun _ => XS.iconst X5.here hx rfl (hb hby at_29)) ?_
  show Go p.tables e below P (T5.setTop (mkF m 30 #[.val (.int p0), .val (.int p1), .val (.ref b1), .unset, .unset, .unset, .unset, .unset, .unset, .unset, .unset] [(.int (1 : Int32)), (.int (3 : Int32)), (.ref b1)]))
  refine Go.st (fun _ => XS.iloadN X5.here hx rfl (hb hby at_30) rfl) ?_
  show Go p.tables e below P (T5.setTop (mkF m 31 #[.val (.int p0), .val (.int p1), .val (.ref b1), .unset, .unset, .unset, .unset, .unset, .unset, .unset, .unset] [(.int p0), (.int (1 : Int32)), (.int (3 : Int32)), (.ref b1)]))
  refine Go.st (fun _ => XS.iconst X5.here hx rfl (hb hby at_31)) ?_
  show Go p.tables e below P (T5.setTop (mkF m 32 #[.val (.int p0), .val (.int p1), .val (.ref b1), .unset, .unset, .unset, .unset, .unset, .unset, .unset, .unset] [(.int (3 : Int32)), (.int p0), (.int (1 : Int32)), (.int (3 : Int32)), (.ref b1)]))
  refine Go.st (fun _ => XS.iushr X5.here hx rfl (hb hby at_32) rfl) ?_
  show Go p.tables e below P (T5.setTop (mkF m 33 #[.val (.int p0), .val (.int p1), .val (.ref b1), .unset, .unset, .unset, .unset, .unset, .unset, .unset, .unset] [(.int ((p0.toUInt32 >>> ((3 : Int32) &&& 31).toUInt32).toInt32)), (.int (1 : Int32)), (.int (3 : Int32)), (.ref b1)]))
  refine Go.st (fun _ => XS.bipush X5.here hx rfl (hb hby at_33)) ?_
  show Go p.tables e below P (T5.setTop (mkF m 35 #[.val (.int p0), .val (.int p1), .val (.ref b1), .unset, .unset, .unset, .unset, .unset, .unset, .unset, .unset] [(.int (7 : Int32)), (.int ((p0.toUInt32 >>> ((3 : Int32) &&& 31).toUInt32).toInt32)), (.int (1 : Int32)), (.int (3 : Int32)), (.ref b1)]))
  refine Go.st (fun _ => XS.iand X5.here hx rfl (hb hby at_35) rfl) ?_
  show Go p.tables e below P (T5.setTop (mkF m 36 #[.val (.int p0), .val (.int p1), .val (.ref b1), .unset, .unset, .unset, .unset, .unset, .unset, .unset, .unset] [(.int (((p0.toUInt32 >>> ((3 : Int32) &&& 31).toUInt32).toInt32) &&& (7 : Int32))), (.int (1 : Int32)), (.int (3 : Int32)), (.ref b1)]))
  refine Go.st (fun _ => XS.aloadN X5.here hx rfl (hb hby at_36) rfl rfl) ?_
  show Go p.tables e below P (T5.setTop (mkF m 37 #[.val (.int p0), .val (.int p1), .val (.ref b1), .unset, .unset, .unset, .unset, .unset, .unset, .unset, .unset] [(.ref b1), (.int (((p0.toUInt32 >>> ((3 : Int32) &&& 31).toUInt32).toInt32) &&& (7 : Int32))), (.int (1 : Int32)), (.int (3 : Int32)), (.ref b1)]))
  refine Go.st (fun _ => XS.iconst X5.here hx rfl (hb hby at_37)) ?_
  show Go p.tables e below P (T5.setTop (mkF m 38 #[.val (.int p0), .val (.int p1), .val (.ref b1), .unset, .unset, .unset, .unset, .unset, .unset, .unset, .unset] [(.int (2 : Int32)), (.ref b1), (.int (((p0.toUInt32 >>> ((3 : Int32) &&& 31).toUInt32).toInt32) &&& (7 : Int32))), (.int (1 : Int32)), (.int (3 : Int32)), (.ref b1)]))
  refine Go.st (fun _ => own_ldI X5 hx hZ e5 V5' (j := (2 : Int32)) (i := 2) (v := (.int d2)) (by decide) (by decide) rfl (g := (mkF m 38 #[.val (.int p0), .val (.int p1), .val (.ref b1), .unset, .unset, .unset, .unset, .unset, .unset, .unset, .unset] [(.int (2 : Int32)), (.ref b1), (.int (((p0.toUInt32 >>> ((3 : Int32) &&& 31).toUInt32).toInt32) &&& (7 : Int32))), (.int (1 : Int32)), (.int (3 : Int32)), (.ref b1)])) rfl rfl (hb hby at_38) _) ?_
  show Go p.tables e below P (T5.setTop (mkF m 39 #[.val (.int p0), .val (.int p1), .val (.ref b1), .unset, .unset, .unset, .unset, .unset, .unset, .unset, .unset] [(.int d2), (.int (((p0.toUInt32 >>> ((3 : Int32) &&& 31).toUInt32).toInt32) &&& (7 : Int32))), (.int (1 : Int32)), (.int (3 : Int32)), (.ref b1)]))
  refine Go.st (fun _ => XS.iconst X5.here hx rfl (hb hby at_39)) ?_
  show Go p.tables e below P (T5.setTop (mkF m 40 #[.val (.int p0), .val (.int p1), .val (.ref b1), .unset, .unset, .unset, .unset, .unset, .unset, .unset, .unset] [(.int (1 : Int32)), (.int d2), (.int (((p0.toUInt32 >>> ((3 : Int32) &&& 31).toUInt32).toInt32) &&& (7 : Int32))), (.int (1 : Int32)), (.int (3 : Int32)), (.ref b1)]))
  refine Go.st (fun _ => XS.iadd X5.here hx rfl (hb hby at_40) rfl) ?_
  show Go p.tables e below P (T5.setTop (mkF m 41 #[.val (.int p0), .val (.int p1), .val (.ref b1), .unset, .unset, .unset, .unset, .unset, .unset, .unset, .unset] [(.int (d2 + (1 : Int32))), (.int (((p0.toUInt32 >>> ((3 : Int32) &&& 31).toUInt32).toInt32) &&& (7 : Int32))), (.int (1 : Int32)), (.int (3 : Int32)), (.ref b1)]))
  refine Go.st (fun _ => iremM (g := (mkF m 41 #[.val (.int p0), .val (.int p1), .val (.ref b1), .unset, .unset, .unset, .unset, .unset, .unset, .unset, .unset] [(.int (d2 + (1 : Int32))), (.int (((p0.toUInt32 >>> ((3 : Int32) &&& 31).toUInt32).toInt32) &&& (7 : Int32))), (.int (1 : Int32)), (.int (3 : Int32)), (.ref b1)])) X5 hx rfl (hb hby at_41) rfl (own_nz2 hd2)) ?_
  show Go p.tables e below P (T5.setTop (mkF m 42 #[.val (.int p0), .val (.int p1), .val (.ref b1), .unset, .unset, .unset, .unset, .unset, .unset, .unset, .unset] [(.int ((((p0.toUInt32 >>> ((3 : Int32) &&& 31).toUInt32).toInt32) &&& (7 : Int32)) % (d2 + (1 : Int32)))), (.int (1 : Int32)), (.int (3 : Int32)), (.ref b1)]))
  refine Go.st (fun _ => XS.iadd X5.here hx rfl (hb hby at_42) rfl) ?_
  show Go p.tables e below P (T5.setTop (mkF m 43 #[.val (.int p0), .val (.int p1), .val (.ref b1), .unset, .unset, .unset, .unset, .unset, .unset, .unset, .unset] [(.int ((1 : Int32) + ((((p0.toUInt32 >>> ((3 : Int32) &&& 31).toUInt32).toInt32) &&& (7 : Int32)) % (d2 + (1 : Int32))))), (.int (3 : Int32)), (.ref b1)]))
  obtain ⟨d3, he_d3⟩ : ∃ z : Int32, z = ((1 : Int32) + ((((p0.toUInt32 >>> ((3 : Int32) &&& 31).toUInt32).toInt32) &&& (7 : Int32)) % (d2 + (1 : Int32)))) := ⟨_, rfl⟩
  rw [← he_d3]
  show Go p.tables e below P (T5.setTop (mkF m 43 #[.val (.int p0), .val (.int p1), .val (.ref b1), .unset, .unset, .unset, .unset, .unset, .unset, .unset, .unset] [(.int d3), (.int (3 : Int32)), (.ref b1)]))
  have hd3 := own_dd3 hd2 he_d3
  obtain ⟨T7, h7, X7, e7, W7, V7, st7⟩ := own_stI X5 hx hZ e5 V5' (j := (3 : Int32)) (i := 3) (by decide) (by decide) (Nat.le_of_ble_eq_true rfl) (g := (mkF m 43 #[.val (.int p0), .val (.int p1), .val (.ref b1), .unset, .unset, .unset, .unset, .unset, .unset, .unset, .unset] [(.int d3), (.int (3 : Int32)), (.ref b1)])) rfl rfl (hb hby at_43)
  refine Go.st st7 ?_
  have K7 : Keep h0 h7 [] := K5.wr W7 (Or.inr sz_b1)
  have O7 := O5.wr W7 g_b1
  have N7 := Fr.snoc X7 N5 g_b1
  have V7' : Arv Z h7 b1 k1 .int (5 : Int32) [(.int (0 : Int32)), (.int (1 : Int32)), (.int d2), (.int d3), (.int (0 : Int32))] (.int (0 : Int32)) := V7
  show Go p.tables e below P (T7.setTop (mkF m 44 #[.val (.int p0), .val (.int p1), .val (.ref b1), .unset, .unset, .unset, .unset, .unset, .unset, .unset, .unset] []))
  refine Go.st (fun _ => XS.aloadN X7.here hx rfl (hb hby at_44) rfl rfl) ?_
  show Go p.tables e below P (T7.setTop (mkF m 45 #[.val (.int p0), .val (.int p1), .val (.ref b1), .unset, .unset, .unset, .unset, .unset, .unset, .unset, .unset] [(.ref b1)]))
  refine Go.st (fun _ => XS.iconst X7.here hx rfl (hb hby at_45)) ?_
  show Go p.tables e below P (T7.setTop (mkF m 46 #[.val (.int p0), .val (.int p1), .val (.ref b1), .unset, .unset, .unset, .unset, .unset, .unset, .unset, .unset] [(.int (4 : Int32)), (.ref b1)]))
  refine Go.st (fun _ => XS.iconst X7.here hx rfl (hb hby at_46)) ?_
  show Go p.tables e below P (T7.setTop (mkF m 47 #[.val (.int p0), .val (.int p1), .val (.ref b1), .unset, .unset, .unset, .unset, .unset, .unset, .unset, .unset] [(.int (1 : Int32)), (.int (4 : Int32)), (.ref b1)]))
  refine Go.st (fun _ => XS.iloadN X7.here hx rfl (hb hby at_47) rfl) ?_
  show Go p.tables e below P (T7.setTop (mkF m 48 #[.val (.int p0), .val (.int p1), .val (.ref b1), .unset, .unset, .unset, .unset, .unset, .unset, .unset, .unset] [(.int p0), (.int (1 : Int32)), (.int (4 : Int32)), (.ref b1)]))
  refine Go.st (fun _ => XS.bipush X7.here hx rfl (hb hby at_48)) ?_
  show Go p.tables e below P (T7.setTop (mkF m 50 #[.val (.int p0), .val (.int p1), .val (.ref b1), .unset, .unset, .unset, .unset, .unset, .unset, .unset, .unset] [(.int (6 : Int32)), (.int p0), (.int (1 : Int32)), (.int (4 : Int32)), (.ref b1)]))
  refine Go.st (fun _ => XS.iushr X7.here hx rfl (hb hby at_50) rfl) ?_
  show Go p.tables e below P (T7.setTop (mkF m 51 #[.val (.int p0), .val (.int p1), .val (.ref b1), .unset, .unset, .unset, .unset, .unset, .unset, .unset, .unset] [(.int ((p0.toUInt32 >>> ((6 : Int32) &&& 31).toUInt32).toInt32)), (.int (1 : Int32)), (.int (4 : Int32)), (.ref b1)]))
  refine Go.st (fun _ => XS.bipush X7.here hx rfl (hb hby at_51)) ?_
  show Go p.tables e below P (T7.setTop (mkF m 53 #[.val (.int p0), .val (.int p1), .val (.ref b1), .unset, .unset, .unset, .unset, .unset, .unset, .unset, .unset] [(.int (7 : Int32)), (.int ((p0.toUInt32 >>> ((6 : Int32) &&& 31).toUInt32).toInt32)), (.int (1 : Int32)), (.int (4 : Int32)), (.ref b1)]))
  refine Go.st (fun _ => XS.iand X7.here hx rfl (hb hby at_53) rfl) ?_
  show Go p.tables e below P (T7.setTop (mkF m 54 #[.val (.int p0), .val (.int p1), .val (.ref b1), .unset, .unset, .unset, .unset, .unset, .unset, .unset, .unset] [(.int (((p0.toUInt32 >>> ((6 : Int32) &&& 31).toUInt32).toInt32) &&& (7 : Int32))), (.int (1 : Int32)), (.int (4 : Int32)), (.ref b1)]))
  refine Go.st (fun _ => XS.aloadN X7.here hx rfl (hb hby at_54) rfl rfl) ?_
  show Go p.tables e below P (T7.setTop (mkF m 55 #[.val (.int p0), .val (.int p1), .val (.ref b1), .unset, .unset, .unset, .unset, .unset, .unset, .unset, .unset] [(.ref b1), (.int (((p0.toUInt32 >>> ((6 : Int32) &&& 31).toUInt32).toInt32) &&& (7 : Int32))), (.int (1 : Int32)), (.int (4 : Int32)), (.ref b1)]))
  refine Go.st (fun _ => XS.iconst X7.here hx rfl (hb hby at_55)) ?_
  show Go p.tables e below P (T7.setTop (mkF m 56 #[.val (.int p0), .val (.int p1), .val (.ref b1), .unset, .unset, .unset, .unset, .unset, .unset, .unset, .unset] [(.int (3 : Int32)), (.ref b1), (.int (((p0.toUInt32 >>> ((6 : Int32) &&& 31).toUInt32).toInt32) &&& (7 : Int32))), (.int (1 : Int32)), (.int (4 : Int32)), (.ref b1)]))
  refine Go.st (fun _ => own_ldI X7 hx hZ e7 V7' (j := (3 : Int32)) (i := 3) (v := (.int d3)) (by decide) (by decide) rfl (g := (mkF m 56 #[.val (.int p0), .val (.int p1), .val (.ref b1), .unset, .unset, .unset, .unset, .unset, .unset, .unset, .unset] [(.int (3 : Int32)), (.ref b1), (.int (((p0.toUInt32 >>> ((6 : Int32) &&& 31).toUInt32).toInt32) &&& (7 : Int32))), (.int (1 : Int32)), (.int (4 : Int32)), (.ref b1)])) rfl rfl (hb hby at_56) _) ?_
  show Go p.tables e below P (T7.setTop (mkF m 57 #[.val (.int p0), .val (.int p1), .val (.ref b1), .unset, .unset, .unset, .unset, .unset, .unset, .unset, .unset] [(.int d3), (.int (((p0.toUInt32 >>> ((6 : Int32) &&& 31).toUInt32).toInt32) &&& (7 : Int32))), (.int (1 : Int32)), (.int (4 : Int32)), (.ref b1)]))
  refine Go.st (fun _ => XS.iconst X7.here hx rfl (hb hby at_57)) ?_
  show Go p.tables e below P (T7.setTop (mkF m 58 #[.val (.int p0), .val (.int p1), .val (.ref b1), .unset, .unset, .unset, .unset, .unset, .unset, .unset, .unset] [(.int (1 : Int32)), (.int d3), (.int (((p0.toUInt32 >>> ((6 : Int32) &&& 31).toUInt32).toInt32) &&& (7 : Int32))), (.int (1 : Int32)), (.int (4 : Int32)), (.ref b1)]))
  refine Go.st (fun _ => XS.iadd X7.here hx rfl (hb hby at_58) rfl) ?_
  show Go p.tables e below P (T7.setTop (mkF m 59 #[.val (.int p0), .val (.int p1), .val (.ref b1), .unset, .unset, .unset, .unset, .unset, .unset, .unset, .unset] [(.int (d3 + (1 : Int32))), (.int (((p0.toUInt32 >>> ((6 : Int32) &&& 31).toUInt32).toInt32) &&& (7 : Int32))), (.int (1 : Int32)), (.int (4 : Int32)), (.ref b1)]))
  refine Go.st (fun _ => iremM (g := (mkF m 59 #[.val (.int p0), .val (.int p1), .val (.ref b1), .unset, .unset, .unset, .unset, .unset, .unset, .unset, .unset] [(.int (d3 + (1 : Int32))), (.int (((p0.toUInt32 >>> ((6 : Int32) &&& 31).toUInt32).toInt32) &&& (7 : Int32))), (.int (1 : Int32)), (.int (4 : Int32)), (.ref b1)])) X7 hx rfl (hb hby at_59) rfl (own_nz3 hd3)) ?_
  show Go p.tables e below P (T7.setTop (mkF m 60 #[.val (.int p0), .val (.int p1), .val (.ref b1), .unset, .unset, .unset, .unset, .unset, .unset, .unset, .unset] [(.int ((((p0.toUInt32 >>> ((6 : Int32) &&& 31).toUInt32).toInt32) &&& (7 : Int32)) % (d3 + (1 : Int32)))), (.int (1 : Int32)), (.int (4 : Int32)), (.ref b1)]))
  refine Go.st (fun _ => XS.iadd X7.here hx rfl (hb hby at_60) rfl) ?_
  show Go p.tables e below P (T7.setTop (mkF m 61 #[.val (.int p0), .val (.int p1), .val (.ref b1), .unset, .unset, .unset, .unset, .unset, .unset, .unset, .unset] [(.int ((1 : Int32) + ((((p0.toUInt32 >>> ((6 : Int32) &&& 31).toUInt32).toInt32) &&& (7 : Int32)) % (d3 + (1 : Int32))))), (.int (4 : Int32)), (.ref b1)]))
  obtain ⟨d4, he_d4⟩ : ∃ z : Int32, z = ((1 : Int32) + ((((p0.toUInt32 >>> ((6 : Int32) &&& 31).toUInt32).toInt32) &&& (7 : Int32)) % (d3 + (1 : Int32)))) := ⟨_, rfl⟩
  rw [← he_d4]
  show Go p.tables e below P (T7.setTop (mkF m 61 #[.val (.int p0), .val (.int p1), .val (.ref b1), .unset, .unset, .unset, .unset, .unset, .unset, .unset, .unset] [(.int d4), (.int (4 : Int32)), (.ref b1)]))
  have hd4 := own_dd4 hd3 he_d4
  obtain ⟨T9, h9, X9, e9, W9, V9, st9⟩ := own_stI X7 hx hZ e7 V7' (j := (4 : Int32)) (i := 4) (by decide) (by decide) (Nat.le_of_ble_eq_true rfl) (g := (mkF m 61 #[.val (.int p0), .val (.int p1), .val (.ref b1), .unset, .unset, .unset, .unset, .unset, .unset, .unset, .unset] [(.int d4), (.int (4 : Int32)), (.ref b1)])) rfl rfl (hb hby at_61)
  refine Go.st st9 ?_
  have K9 : Keep h0 h9 [] := K7.wr W9 (Or.inr sz_b1)
  have O9 := O7.wr W9 g_b1
  have N9 := Fr.snoc X9 N7 g_b1
  have V9' : Arv Z h9 b1 k1 .int (5 : Int32) [(.int (0 : Int32)), (.int (1 : Int32)), (.int d2), (.int d3), (.int d4)] (.int (0 : Int32)) := V9
  show Go p.tables e below P (T9.setTop (mkF m 62 #[.val (.int p0), .val (.int p1), .val (.ref b1), .unset, .unset, .unset, .unset, .unset, .unset, .unset, .unset] []))
  refine Go.st (fun _ => XS.aloadN X9.here hx rfl (hb hby at_62) rfl rfl) ?_
  show Go p.tables e below P (T9.setTop (mkF m 63 #[.val (.int p0), .val (.int p1), .val (.ref b1), .unset, .unset, .unset, .unset, .unset, .unset, .unset, .unset] [(.ref b1)]))
  refine Go.st (fun _ => XS.iconst X9.here hx rfl (hb hby at_63)) ?_
  show Go p.tables e below P (T9.setTop (mkF m 64 #[.val (.int p0), .val (.int p1), .val (.ref b1), .unset, .unset, .unset, .unset, .unset, .unset, .unset, .unset] [(.int (1 : Int32)), (.ref b1)]))
  refine Go.st (fun _ => own_ldI X9 hx hZ e9 V9' (j := (1 : Int32)) (i := 1) (v := (.int (1 : Int32))) (by decide) (by decide) rfl (g := (mkF m 64 #[.val (.int p0), .val (.int p1), .val (.ref b1), .unset, .unset, .unset, .unset, .unset, .unset, .unset, .unset] [(.int (1 : Int32)), (.ref b1)])) rfl rfl (hb hby at_64) _) ?_
  show Go p.tables e below P (T9.setTop (mkF m 65 #[.val (.int p0), .val (.int p1), .val (.ref b1), .unset, .unset, .unset, .unset, .unset, .unset, .unset, .unset] [(.int (1 : Int32))]))
  refine Go.st (fun _ => XS.aloadN X9.here hx rfl (hb hby at_65) rfl rfl) ?_
  show Go p.tables e below P (T9.setTop (mkF m 66 #[.val (.int p0), .val (.int p1), .val (.ref b1), .unset, .unset, .unset, .unset, .unset, .unset, .unset, .unset] [(.ref b1), (.int (1 : Int32))]))
  refine Go.st (fun _ => XS.iconst X9.here hx rfl (hb hby at_66)) ?_
  show Go p.tables e below P (T9.setTop (mkF m 67 #[.val (.int p0), .val (.int p1), .val (.ref b1), .unset, .unset, .unset, .unset, .unset, .unset, .unset, .unset] [(.int (2 : Int32)), (.ref b1), (.int (1 : Int32))]))
  refine Go.st (fun _ => own_ldI X9 hx hZ e9 V9' (j := (2 : Int32)) (i := 2) (v := (.int d2)) (by decide) (by decide) rfl (g := (mkF m 67 #[.val (.int p0), .val (.int p1), .val (.ref b1), .unset, .unset, .unset, .unset, .unset, .unset, .unset, .unset] [(.int (2 : Int32)), (.ref b1), (.int (1 : Int32))])) rfl rfl (hb hby at_67) _) ?_
  show Go p.tables e below P (T9.setTop (mkF m 68 #[.val (.int p0), .val (.int p1), .val (.ref b1), .unset, .unset, .unset, .unset, .unset, .unset, .unset, .unset] [(.int d2), (.int (1 : Int32))]))
  obtain ⟨_, _, ⟨T12, L12, k12, n12⟩, -, X12, ⟨Lc12, hQ12, l12, y12, z12⟩, st12⟩ := Jvm.LawKit.callS X9 hx (y := (⟨"java/lang/Math", "max", "(II)I"⟩ : MethodName)) hown (mvT hZ (hw _ (List.mem_of_getElem? (i := 1) rfl))) (mvT hZ (hw _ (List.mem_of_getElem? (i := 2) rfl))) (mvT hZ (hw _ (List.mem_of_getElem? (i := 3) rfl))) (mvT hZ (hw _ (List.mem_of_getElem? (i := 4) rfl))) (by decide) (backOf (W := 0) (rm_max l Z a0 hw [] w_EM S_EM X_EM (1 : Int32) d2 h9 n0 O9 ) hZ (hw _ (List.mem_of_getElem? (i := 4) rfl)) (hw _ (List.mem_of_getElem? (i := 3) rfl)) (by decide) (by decide)) (g := (mkF m 68 #[.val (.int p0), .val (.int p1), .val (.ref b1), .unset, .unset, .unset, .unset, .unset, .unset, .unset, .unset] [(.int d2), (.int (1 : Int32))])) rfl (by rw [hml]; rfl) (argsL := [(.int (1 : Int32)), (.int d2)]) (rest := []) (lenOf own_pd3 rfl) rfl (by show 2 * 0 + _ ≤ _; exact Nat.le_of_eq rfl) (hb hby at_68) (fun _ _ => ⟨rfl, e9, (by decide : 1 + 0 ≤ _), (by decide : 5 + 0 ≤ _)⟩)
  dsimp only [Pt.U, Pt.locs, Pt.cells, Pt.slots] at X12 l12 y12 z12 st12 hQ12
  subst y12 z12
  refine Go.st st12 ?_
  obtain ⟨R12, N12q, e12⟩ := hQ12
  have N12 : Fr n0 L12 := by rw [l12]; exact Fr.app N9 N12q
  subst R12
  show Go p.tables e below P (T12.setTop (mkF m 71 #[.val (.int p0), .val (.int p1), .val (.ref b1), .unset, .unset, .unset, .unset, .unset, .unset, .unset, .unset] [(.int (own_max (1 : Int32) d2))]))
  refine Go.st (fun _ => XS.aloadN X12.here hx rfl (hb hby at_71) rfl rfl) ?_
  show Go p.tables e below P (T12.setTop (mkF m 72 #[.val (.int p0), .val (.int p1), .val (.ref b1), .unset, .unset, .unset, .unset, .unset, .unset, .unset, .unset] [(.ref b1), (.int (own_max (1 : Int32) d2))]))
  refine Go.st (fun _ => XS.iconst X12.here hx rfl (hb hby at_72)) ?_
  show Go p.tables e below P (T12.setTop (mkF m 73 #[.val (.int p0), .val (.int p1), .val (.ref b1), .unset, .unset, .unset, .unset, .unset, .unset, .unset, .unset] [(.int (3 : Int32)), (.ref b1), (.int (own_max (1 : Int32) d2))]))
  refine Go.st (fun _ => own_ldI X12 hx hZ e12 V9' (j := (3 : Int32)) (i := 3) (v := (.int d3)) (by decide) (by decide) rfl (g := (mkF m 73 #[.val (.int p0), .val (.int p1), .val (.ref b1), .unset, .unset, .unset, .unset, .unset, .unset, .unset, .unset] [(.int (3 : Int32)), (.ref b1), (.int (own_max (1 : Int32) d2))])) rfl rfl (hb hby at_73) _) ?_
  show Go p.tables e below P (T12.setTop (mkF m 74 #[.val (.int p0), .val (.int p1), .val (.ref b1), .unset, .unset, .unset, .unset, .unset, .unset, .unset, .unset] [(.int d3), (.int (own_max (1 : Int32) d2))]))
  refine Go.st (fun _ => XS.aloadN X12.here hx rfl (hb hby at_74) rfl rfl) ?_
  show Go p.tables e below P (T12.setTop (mkF m 75 #[.val (.int p0), .val (.int p1), .val (.ref b1), .unset, .unset, .unset, .unset, .unset, .unset, .unset, .unset] [(.ref b1), (.int d3), (.int (own_max (1 : Int32) d2))]))
  refine Go.st (fun _ => XS.iconst X12.here hx rfl (hb hby at_75)) ?_
  show Go p.tables e below P (T12.setTop (mkF m 76 #[.val (.int p0), .val (.int p1), .val (.ref b1), .unset, .unset, .unset, .unset, .unset, .unset, .unset, .unset] [(.int (4 : Int32)), (.ref b1), (.int d3), (.int (own_max (1 : Int32) d2))]))
  refine Go.st (fun _ => own_ldI X12 hx hZ e12 V9' (j := (4 : Int32)) (i := 4) (v := (.int d4)) (by decide) (by decide) rfl (g := (mkF m 76 #[.val (.int p0), .val (.int p1), .val (.ref b1), .unset, .unset, .unset, .unset, .unset, .unset, .unset, .unset] [(.int (4 : Int32)), (.ref b1), (.int d3), (.int (own_max (1 : Int32) d2))])) rfl rfl (hb hby at_76) _) ?_
  show Go p.tables e below P (T12.setTop (mkF m 77 #[.val (.int p0), .val (.int p1), .val (.ref b1), .unset, .unset, .unset, .unset, .unset, .unset, .unset, .unset] [(.int d4), (.int d3), (.int (own_max (1 : Int32) d2))]))
  obtain ⟨_, _, ⟨T15, L15, k15, n15⟩, -, X15, ⟨Lc15, hQ15, l15, y15, z15⟩, st15⟩ := Jvm.LawKit.callS X12 hx (y := (⟨"java/lang/Math", "max", "(II)I"⟩ : MethodName)) hown (mvT hZ (hw _ (List.mem_of_getElem? (i := 1) rfl))) (mvT hZ (hw _ (List.mem_of_getElem? (i := 2) rfl))) (mvT hZ (hw _ (List.mem_of_getElem? (i := 3) rfl))) (mvT hZ (hw _ (List.mem_of_getElem? (i := 4) rfl))) (by decide) (backOf (W := 1) (rm_max l Z a0 hw [] w_EM S_EM X_EM d3 d4 h9 n0 O9 ) hZ (hw _ (List.mem_of_getElem? (i := 4) rfl)) (hw _ (List.mem_of_getElem? (i := 3) rfl)) (by decide) (by decide)) (g := (mkF m 77 #[.val (.int p0), .val (.int p1), .val (.ref b1), .unset, .unset, .unset, .unset, .unset, .unset, .unset, .unset] [(.int d4), (.int d3), (.int (own_max (1 : Int32) d2))])) rfl (by rw [hml]; rfl) (argsL := [(.int d3), (.int d4)]) (rest := [(.int (own_max (1 : Int32) d2))]) (lenOf own_pd3 rfl) rfl (by show 2 * 0 + _ ≤ _; exact Nat.le_of_eq rfl) (hb hby at_77) (fun _ _ => ⟨rfl, e12, (by decide : 1 + 0 ≤ _), (by decide : 5 + 0 ≤ _)⟩)
  dsimp only [Pt.U, Pt.locs, Pt.cells, Pt.slots] at X15 l15 y15 z15 st15 hQ15
  subst y15 z15
  refine Go.st st15 ?_
  obtain ⟨R15, N15q, e15⟩ := hQ15
  have N15 : Fr n0 L15 := by rw [l15]; exact Fr.app N12 N15q
  subst R15
  show Go p.tables e below P (T15.setTop (mkF m 80 #[.val (.int p0), .val (.int p1), .val (.ref b1), .unset, .unset, .unset, .unset, .unset, .unset, .unset, .unset] [(.int (own_max d3 d4)), (.int (own_max (1 : Int32) d2))]))
  obtain ⟨_, _, ⟨T16, L16, k16, n16⟩, -, X16, ⟨Lc16, hQ16, l16, y16, z16⟩, st16⟩ := Jvm.LawKit.callS X15 hx (y := (⟨"java/lang/Math", "max", "(II)I"⟩ : MethodName)) hown (mvT hZ (hw _ (List.mem_of_getElem? (i := 1) rfl))) (mvT hZ (hw _ (List.mem_of_getElem? (i := 2) rfl))) (mvT hZ (hw _ (List.mem_of_getElem? (i := 3) rfl))) (mvT hZ (hw _ (List.mem_of_getElem? (i := 4) rfl))) (by decide) (backOf (W := 0) (rm_max l Z a0 hw [] w_EM S_EM X_EM (own_max (1 : Int32) d2) (own_max d3 d4) h9 n0 O9 ) hZ (hw _ (List.mem_of_getElem? (i := 4) rfl)) (hw _ (List.mem_of_getElem? (i := 3) rfl)) (by decide) (by decide)) (g := (mkF m 80 #[.val (.int p0), .val (.int p1), .val (.ref b1), .unset, .unset, .unset, .unset, .unset, .unset, .unset, .unset] [(.int (own_max d3 d4)), (.int (own_max (1 : Int32) d2))])) rfl (by rw [hml]; rfl) (argsL := [(.int (own_max (1 : Int32) d2)), (.int (own_max d3 d4))]) (rest := []) (lenOf own_pd3 rfl) rfl (by show 2 * 0 + _ ≤ _; exact Nat.le_of_eq rfl) (hb hby at_80) (fun _ _ => ⟨rfl, e15, (by decide : 1 + 0 ≤ _), (by decide : 5 + 0 ≤ _)⟩)
  dsimp only [Pt.U, Pt.locs, Pt.cells, Pt.slots] at X16 l16 y16 z16 st16 hQ16
  subst y16 z16
  refine Go.st st16 ?_
  obtain ⟨R16, N16q, e16⟩ := hQ16
  have N16 : Fr n0 L16 := by rw [l16]; exact Fr.app N15 N16q
  subst R16
  show Go p.tables e below P (T16.setTop (mkF m 83 #[.val (.int p0), .val (.int p1), .val (.ref b1), .unset, .unset, .unset, .unset, .unset, .unset, .unset, .unset] [(.int (own_max (own_max (1 : Int32) d2) (own_max d3 d4)))]))
  obtain ⟨hh, he_hh⟩ : ∃ z : Int32, z = (own_max (own_max (1 : Int32) d2) (own_max d3 d4)) := ⟨_, rfl⟩
  rw [← he_hh]
  show Go p.tables e below P (T16.setTop (mkF m 83 #[.val (.int p0), .val (.int p1), .val (.ref b1), .unset, .unset, .unset, .unset, .unset, .unset, .unset, .unset] [(.int hh)]))
  obtain ⟨⟨hsn, hsc⟩, hps, hk1, hk2, hk3, hk4⟩ := own_hh hd2 hd3 hd4 he_hh
  refine Go.st (fun _ => XS.istoreN X16.here hx rfl (hb hby at_83) rfl (l' := #[.val (.int p0), .val (.int p1), .val (.ref b1), .val (.int hh), .unset, .unset, .unset, .unset, .unset, .unset, .unset]) rfl) ?_
  show Go p.tables e below P (T16.setTop (mkF m 84 #[.val (.int p0), .val (.int p1), .val (.ref b1), .val (.int hh), .unset, .unset, .unset, .unset, .unset, .unset, .unset] []))
  refine Go.st (fun _ => XS.iconst X16.here hx rfl (hb hby at_84)) ?_
  show Go p.tables e below P (T16.setTop (mkF m 85 #[.val (.int p0), .val (.int p1), .val (.ref b1), .val (.int hh), .unset, .unset, .unset, .unset, .unset, .unset, .unset] [(.int (5 : Int32))]))
  obtain ⟨T17, h17, k17, X17, e17, E17, A17, st17⟩ := newP X16 hx hZ (hw _ (List.mem_of_getElem? (i := 0) rfl)) e16 (g := (mkF m 85 #[.val (.int p0), .val (.int p1), .val (.ref b1), .val (.int hh), .unset, .unset, .unset, .unset, .unset, .unset, .unset] [(.int (5 : Int32))])) rfl (hb hby at_85) rfl (by decide) (cap := 5) (by decide) (by decide) (by decide) (by decide)
  obtain ⟨b17, g17⟩ : ∃ z, z = h9.size := ⟨_, rfl⟩
  rw [← g17] at A17 st17
  refine Go.st st17 ?_
  have g_b17 : n0 ≤ b17 := Nat.le_trans (own_oldsz O9) (Nat.le_of_eq g17.symm)
  have sz_b17 : h0.size ≤ b17 := Nat.le_trans K9.1 (Nat.le_of_eq g17.symm)
  have K17 : Keep h0 h17 [] := K9.ext E17
  have O17 := O9.ext E17
  have V17 : Arv Z h17 b17 k17 .int (5 : Int32) [(.int (0 : Int32)), (.int (0 : Int32)), (.int (0 : Int32)), (.int (0 : Int32)), (.int (0 : Int32))] (.int (0 : Int32)) := (Arv.new A17 (by decide)).pad (pad_rep [] (.int (0 : Int32)) 5)
  show Go p.tables e below P (T17.setTop (mkF m 87 #[.val (.int p0), .val (.int p1), .val (.ref b1), .val (.int hh), .unset, .unset, .unset, .unset, .unset, .unset, .unset] [(.ref b17)]))
  refine Go.st (fun _ => XS.astore X17.here hx rfl (hb hby at_87) rfl rfl (l' := #[.val (.int p0), .val (.int p1), .val (.ref b1), .val (.int hh), .val (.ref b17), .unset, .unset, .unset, .unset, .unset, .unset]) rfl) ?_
  show Go p.tables e below P (T17.setTop (mkF m 89 #[.val (.int p0), .val (.int p1), .val (.ref b1), .val (.int hh), .val (.ref b17), .unset, .unset, .unset, .unset, .unset, .unset] []))
  refine Go.st (fun _ => XS.aload X17.here hx rfl (hb hby at_89) rfl rfl) ?_
  show Go p.tables e below P (T17.setTop (mkF m 91 #[.val (.int p0), .val (.int p1), .val (.ref b1), .val (.int hh), .val (.ref b17), .unset, .unset, .unset, .unset, .unset, .unset] [(.ref b17)]))
  refine Go.st (fun _ => XS.iconst X17.here hx rfl (hb hby at_91)) ?_
  show Go p.tables e below P (T17.setTop (mkF m 92 #[.val (.int p0), .val (.int p1), .val (.ref b1), .val (.int hh), .val (.ref b17), .unset, .unset, .unset, .unset, .unset, .unset] [(.int (0 : Int32)), (.ref b17)]))
  refine Go.st (fun _ => XS.iconst X17.here hx rfl (hb hby at_92)) ?_
  show Go p.tables e below P (T17.setTop (mkF m 93 #[.val (.int p0), .val (.int p1), .val (.ref b1), .val (.int hh), .val (.ref b17), .unset, .unset, .unset, .unset, .unset, .unset] [(.int (-1 : Int32)), (.int (0 : Int32)), (.ref b17)]))
  obtain ⟨T18, h18, X18, e18, W18, V18, st18⟩ := own_stI X17 hx hZ e17 V17 (j := (0 : Int32)) (i := 0) (by decide) (by decide) (Nat.le_of_ble_eq_true rfl) (g := (mkF m 93 #[.val (.int p0), .val (.int p1), .val (.ref b1), .val (.int hh), .val (.ref b17), .unset, .unset, .unset, .unset, .unset, .unset] [(.int (-1 : Int32)), (.int (0 : Int32)), (.ref b17)])) rfl rfl (hb hby at_93)
  refine Go.st st18 ?_
  have K18 : Keep h0 h18 [] := K17.wr W18 (Or.inr sz_b17)
  have O18 := O17.wr W18 g_b17
  have N18 := Fr.snoc X18 N16 g_b17
  have V18' : Arv Z h18 b17 k17 .int (5 : Int32) [(.int (-1 : Int32)), (.int (0 : Int32)), (.int (0 : Int32)), (.int (0 : Int32)), (.int (0 : Int32))] (.int (0 : Int32)) := V18
  show Go p.tables e below P (T18.setTop (mkF m 94 #[.val (.int p0), .val (.int p1), .val (.ref b1), .val (.int hh), .val (.ref b17), .unset, .unset, .unset, .unset, .unset, .unset] []))
  refine Go.st (fun _ => XS.aload X18.here hx rfl (hb hby at_94) rfl rfl) ?_
  show Go p.tables e below P (T18.setTop (mkF m 96 #[.val (.int p0), .val (.int p1), .val (.ref b1), .val (.int hh), .val (.ref b17), .unset, .unset, .unset, .unset, .unset, .unset] [(.ref b17)]))
  refine Go.st (fun _ => XS.iconst X18.here hx rfl (hb hby at_96)) ?_
  show Go p.tables e below P (T18.setTop (mkF m 97 #[.val (.int p0), .val (.int p1), .val (.ref b1), .val (.int hh), .val (.ref b17), .unset, .unset, .unset, .unset, .unset, .unset] [(.int (1 : Int32)), (.ref b17)]))
  refine Go.st (fun _ => XS.aloadN X18.here hx rfl (hb hby at_97) rfl rfl) ?_
  show Go p.tables e below P (T18.setTop (mkF m 98 #[.val (.int p0), .val (.int p1), .val (.ref b1), .val (.int hh), .val (.ref b17), .unset, .unset, .unset, .unset, .unset, .unset] [(.ref b1), (.int (1 : Int32)), (.ref b17)]))
  refine Go.st (fun _ => XS.iconst X18.here hx rfl (hb hby at_98)) ?_
  show Go p.tables e below P (T18.setTop (mkF m 99 #[.val (.int p0), .val (.int p1), .val (.ref b1), .val (.int hh), .val (.ref b17), .unset, .unset, .unset, .unset, .unset, .unset] [(.int (1 : Int32)), (.ref b1), (.int (1 : Int32)), (.ref b17)]))
  have c20 := ((V9'.ext E17).other W18 (Nat.ne_of_lt (Nat.lt_of_lt_of_le V9'.lt (Nat.le_of_eq g17.symm))))
  obtain ⟨_, _, ⟨T19, L19, k19, n19⟩, -, X19, ⟨Lc19, hQ19, l19, y19, z19⟩, st19⟩ := Jvm.LawKit.callS X18 hx (y := (⟨"com/example/parametree/parametree/MeanTreeAttachPinLaw", "parentOf", "([II)I"⟩ : MethodName)) hown (mvT hZ (hw _ (List.mem_of_getElem? (i := 5) rfl))) (mvT hZ (hw _ (List.mem_of_getElem? (i := 6) rfl))) (mvT hZ (hw _ (List.mem_of_getElem? (i := 7) rfl))) (mvT hZ (hw _ (List.mem_of_getElem? (i := 8) rfl))) (by decide) (backOf (W := 2) (rm_par1 l Z a0 hw [] w_EM S_EM X_EM b1 k1 (0 : Int32) (1 : Int32) d2 d3 d4 h18 n0 O18 c20) hZ (hw _ (List.mem_of_getElem? (i := 8) rfl)) (hw _ (List.mem_of_getElem? (i := 7) rfl)) (by decide) (by decide)) (g := (mkF m 99 #[.val (.int p0), .val (.int p1), .val (.ref b1), .val (.int hh), .val (.ref b17), .unset, .unset, .unset, .unset, .unset, .unset] [(.int (1 : Int32)), (.ref b1), (.int (1 : Int32)), (.ref b17)])) rfl (by rw [hml]; rfl) (argsL := [(.ref b1), (.int (1 : Int32))]) (rest := [(.int (1 : Int32)), (.ref b17)]) (lenOf own_pd4 rfl) rfl (by show 2 * 0 + _ ≤ _; exact Nat.le_of_eq rfl) (hb hby at_99) (fun _ _ => ⟨rfl, e18, (by decide : 2 + 0 ≤ _), (by decide : 10 + 0 ≤ _)⟩)
  dsimp only [Pt.U, Pt.locs, Pt.cells, Pt.slots] at X19 l19 y19 z19 st19 hQ19
  subst y19 z19
  refine Go.st st19 ?_
  obtain ⟨R19, N19q, e19⟩ := hQ19
  have N19 : Fr n0 L19 := by rw [l19]; exact Fr.app N18 N19q
  subst R19
  show Go p.tables e below P (T19.setTop (mkF m 102 #[.val (.int p0), .val (.int p1), .val (.ref b1), .val (.int hh), .val (.ref b17), .unset, .unset, .unset, .unset, .unset, .unset] [(.int (0 : Int32)), (.int (1 : Int32)), (.ref b17)]))
  obtain ⟨T21, h21, X21, e21, W21, V21, st21⟩ := own_stI X19 hx hZ e19 V18' (j := (1 : Int32)) (i := 1) (by decide) (by decide) (Nat.le_of_ble_eq_true rfl) (g := (mkF m 102 #[.val (.int p0), .val (.int p1), .val (.ref b1), .val (.int hh), .val (.ref b17), .unset, .unset, .unset, .unset, .unset, .unset] [(.int (0 : Int32)), (.int (1 : Int32)), (.ref b17)])) rfl rfl (hb hby at_102)
  refine Go.st st21 ?_
  have K21 : Keep h0 h21 [] := K18.wr W21 (Or.inr sz_b17)
  have O21 := O18.wr W21 g_b17
  have N21 := Fr.snoc X21 N19 g_b17
  have V21' : Arv Z h21 b17 k17 .int (5 : Int32) [(.int (-1 : Int32)), (.int (0 : Int32)), (.int (0 : Int32)), (.int (0 : Int32)), (.int (0 : Int32))] (.int (0 : Int32)) := V21
  show Go p.tables e below P (T21.setTop (mkF m 103 #[.val (.int p0), .val (.int p1), .val (.ref b1), .val (.int hh), .val (.ref b17), .unset, .unset, .unset, .unset, .unset, .unset] []))
  refine Go.st (fun _ => XS.aload X21.here hx rfl (hb hby at_103) rfl rfl) ?_
  show Go p.tables e below P (T21.setTop (mkF m 105 #[.val (.int p0), .val (.int p1), .val (.ref b1), .val (.int hh), .val (.ref b17), .unset, .unset, .unset, .unset, .unset, .unset] [(.ref b17)]))
  refine Go.st (fun _ => XS.iconst X21.here hx rfl (hb hby at_105)) ?_
  show Go p.tables e below P (T21.setTop (mkF m 106 #[.val (.int p0), .val (.int p1), .val (.ref b1), .val (.int hh), .val (.ref b17), .unset, .unset, .unset, .unset, .unset, .unset] [(.int (2 : Int32)), (.ref b17)]))
  refine Go.st (fun _ => XS.aloadN X21.here hx rfl (hb hby at_106) rfl rfl) ?_
  show Go p.tables e below P (T21.setTop (mkF m 107 #[.val (.int p0), .val (.int p1), .val (.ref b1), .val (.int hh), .val (.ref b17), .unset, .unset, .unset, .unset, .unset, .unset] [(.ref b1), (.int (2 : Int32)), (.ref b17)]))
  refine Go.st (fun _ => XS.iconst X21.here hx rfl (hb hby at_107)) ?_
  show Go p.tables e below P (T21.setTop (mkF m 108 #[.val (.int p0), .val (.int p1), .val (.ref b1), .val (.int hh), .val (.ref b17), .unset, .unset, .unset, .unset, .unset, .unset] [(.int (2 : Int32)), (.ref b1), (.int (2 : Int32)), (.ref b17)]))
  have c23 := (c20.other W21 (Nat.ne_of_lt (Nat.lt_of_lt_of_le V9'.lt (Nat.le_of_eq g17.symm))))
  obtain ⟨_, _, ⟨T22, L22, k22, n22⟩, -, X22, ⟨Lc22, hQ22, l22, y22, z22⟩, st22⟩ := Jvm.LawKit.callS X21 hx (y := (⟨"com/example/parametree/parametree/MeanTreeAttachPinLaw", "parentOf", "([II)I"⟩ : MethodName)) hown (mvT hZ (hw _ (List.mem_of_getElem? (i := 5) rfl))) (mvT hZ (hw _ (List.mem_of_getElem? (i := 6) rfl))) (mvT hZ (hw _ (List.mem_of_getElem? (i := 7) rfl))) (mvT hZ (hw _ (List.mem_of_getElem? (i := 8) rfl))) (by decide) (backOf (W := 2) (rm_par2 l Z a0 hw [] w_EM S_EM X_EM b1 k1 (0 : Int32) (1 : Int32) d2 d3 d4 h21 n0 O21 c23) hZ (hw _ (List.mem_of_getElem? (i := 8) rfl)) (hw _ (List.mem_of_getElem? (i := 7) rfl)) (by decide) (by decide)) (g := (mkF m 108 #[.val (.int p0), .val (.int p1), .val (.ref b1), .val (.int hh), .val (.ref b17), .unset, .unset, .unset, .unset, .unset, .unset] [(.int (2 : Int32)), (.ref b1), (.int (2 : Int32)), (.ref b17)])) rfl (by rw [hml]; rfl) (argsL := [(.ref b1), (.int (2 : Int32))]) (rest := [(.int (2 : Int32)), (.ref b17)]) (lenOf own_pd4 rfl) rfl (by show 2 * 0 + _ ≤ _; exact Nat.le_of_eq rfl) (hb hby at_108) (fun _ _ => ⟨rfl, e21, (by decide : 2 + 0 ≤ _), (by decide : 10 + 0 ≤ _)⟩)
  dsimp only [Pt.U, Pt.locs, Pt.cells, Pt.slots] at X22 l22 y22 z22 st22 hQ22
  subst y22 z22
  refine Go.st st22 ?_
  obtain ⟨R22, N22q, e22⟩ := hQ22
  have N22 : Fr n0 L22 := by rw [l22]; exact Fr.app N21 N22q
  subst R22
  show Go p.tables e below P (T22.setTop (mkF m 111 #[.val (.int p0), .val (.int p1), .val (.ref b1), .val (.int hh), .val (.ref b17), .unset, .unset, .unset, .unset, .unset, .unset] [(.int (own_p2 (1 : Int32) d2)), (.int (2 : Int32)), (.ref b17)]))
  obtain ⟨T24, h24, X24, e24, W24, V24, st24⟩ := own_stI X22 hx hZ e22 V21' (j := (2 : Int32)) (i := 2) (by decide) (by decide) (Nat.le_of_ble_eq_true rfl) (g := (mkF m 111 #[.val (.int p0), .val (.int p1), .val (.ref b1), .val (.int hh), .val (.ref b17), .unset, .unset, .unset, .unset, .unset, .unset] [(.int (own_p2 (1 : Int32) d2)), (.int (2 : Int32)), (.ref b17)])) rfl rfl (hb hby at_111)
  refine Go.st st24 ?_
  have K24 : Keep h0 h24 [] := K21.wr W24 (Or.inr sz_b17)
  have O24 := O21.wr W24 g_b17
  have N24 := Fr.snoc X24 N22 g_b17
  have V24' : Arv Z h24 b17 k17 .int (5 : Int32) [(.int (-1 : Int32)), (.int (0 : Int32)), (.int (own_p2 (1 : Int32) d2)), (.int (0 : Int32)), (.int (0 : Int32))] (.int (0 : Int32)) := V24
  show Go p.tables e below P (T24.setTop (mkF m 112 #[.val (.int p0), .val (.int p1), .val (.ref b1), .val (.int hh), .val (.ref b17), .unset, .unset, .unset, .unset, .unset, .unset] []))
  refine Go.st (fun _ => XS.aload X24.here hx rfl (hb hby at_112) rfl rfl) ?_
  show Go p.tables e below P (T24.setTop (mkF m 114 #[.val (.int p0), .val (.int p1), .val (.ref b1), .val (.int hh), .val (.ref b17), .unset, .unset, .unset, .unset, .unset, .unset] [(.ref b17)]))
  refine Go.st (fun _ => XS.iconst X24.here hx rfl (hb hby at_114)) ?_
  show Go p.tables e below P (T24.setTop (mkF m 115 #[.val (.int p0), .val (.int p1), .val (.ref b1), .val (.int hh), .val (.ref b17), .unset, .unset, .unset, .unset, .unset, .unset] [(.int (3 : Int32)), (.ref b17)]))
  refine Go.st (fun _ => XS.aloadN X24.here hx rfl (hb hby at_115) rfl rfl) ?_
  show Go p.tables e below P (T24.setTop (mkF m 116 #[.val (.int p0), .val (.int p1), .val (.ref b1), .val (.int hh), .val (.ref b17), .unset, .unset, .unset, .unset, .unset, .unset] [(.ref b1), (.int (3 : Int32)), (.ref b17)]))
  refine Go.st (fun _ => XS.iconst X24.here hx rfl (hb hby at_116)) ?_
  show Go p.tables e below P (T24.setTop (mkF m 117 #[.val (.int p0), .val (.int p1), .val (.ref b1), .val (.int hh), .val (.ref b17), .unset, .unset, .unset, .unset, .unset, .unset] [(.int (3 : Int32)), (.ref b1), (.int (3 : Int32)), (.ref b17)]))
  have c26 := (c23.other W24 (Nat.ne_of_lt (Nat.lt_of_lt_of_le V9'.lt (Nat.le_of_eq g17.symm))))
  obtain ⟨_, _, ⟨T25, L25, k25, n25⟩, -, X25, ⟨Lc25, hQ25, l25, y25, z25⟩, st25⟩ := Jvm.LawKit.callS X24 hx (y := (⟨"com/example/parametree/parametree/MeanTreeAttachPinLaw", "parentOf", "([II)I"⟩ : MethodName)) hown (mvT hZ (hw _ (List.mem_of_getElem? (i := 5) rfl))) (mvT hZ (hw _ (List.mem_of_getElem? (i := 6) rfl))) (mvT hZ (hw _ (List.mem_of_getElem? (i := 7) rfl))) (mvT hZ (hw _ (List.mem_of_getElem? (i := 8) rfl))) (by decide) (backOf (W := 2) (rm_par3 l Z a0 hw [] w_EM S_EM X_EM b1 k1 (0 : Int32) (1 : Int32) d2 d3 d4 h24 n0 O24 c26) hZ (hw _ (List.mem_of_getElem? (i := 8) rfl)) (hw _ (List.mem_of_getElem? (i := 7) rfl)) (by decide) (by decide)) (g := (mkF m 117 #[.val (.int p0), .val (.int p1), .val (.ref b1), .val (.int hh), .val (.ref b17), .unset, .unset, .unset, .unset, .unset, .unset] [(.int (3 : Int32)), (.ref b1), (.int (3 : Int32)), (.ref b17)])) rfl (by rw [hml]; rfl) (argsL := [(.ref b1), (.int (3 : Int32))]) (rest := [(.int (3 : Int32)), (.ref b17)]) (lenOf own_pd4 rfl) rfl (by show 2 * 0 + _ ≤ _; exact Nat.le_of_eq rfl) (hb hby at_117) (fun _ _ => ⟨rfl, e24, (by decide : 2 + 0 ≤ _), (by decide : 10 + 0 ≤ _)⟩)
  dsimp only [Pt.U, Pt.locs, Pt.cells, Pt.slots] at X25 l25 y25 z25 st25 hQ25
  subst y25 z25
  refine Go.st st25 ?_
  obtain ⟨R25, N25q, e25⟩ := hQ25
  have N25 : Fr n0 L25 := by rw [l25]; exact Fr.app N24 N25q
  subst R25
  show Go p.tables e below P (T25.setTop (mkF m 120 #[.val (.int p0), .val (.int p1), .val (.ref b1), .val (.int hh), .val (.ref b17), .unset, .unset, .unset, .unset, .unset, .unset] [(.int (own_p3 (1 : Int32) d2 d3)), (.int (3 : Int32)), (.ref b17)]))
  obtain ⟨T27, h27, X27, e27, W27, V27, st27⟩ := own_stI X25 hx hZ e25 V24' (j := (3 : Int32)) (i := 3) (by decide) (by decide) (Nat.le_of_ble_eq_true rfl) (g := (mkF m 120 #[.val (.int p0), .val (.int p1), .val (.ref b1), .val (.int hh), .val (.ref b17), .unset, .unset, .unset, .unset, .unset, .unset] [(.int (own_p3 (1 : Int32) d2 d3)), (.int (3 : Int32)), (.ref b17)])) rfl rfl (hb hby at_120)
  refine Go.st st27 ?_
  have K27 : Keep h0 h27 [] := K24.wr W27 (Or.inr sz_b17)
  have O27 := O24.wr W27 g_b17
  have N27 := Fr.snoc X27 N25 g_b17
  have V27' : Arv Z h27 b17 k17 .int (5 : Int32) [(.int (-1 : Int32)), (.int (0 : Int32)), (.int (own_p2 (1 : Int32) d2)), (.int (own_p3 (1 : Int32) d2 d3)), (.int (0 : Int32))] (.int (0 : Int32)) := V27
  show Go p.tables e below P (T27.setTop (mkF m 121 #[.val (.int p0), .val (.int p1), .val (.ref b1), .val (.int hh), .val (.ref b17), .unset, .unset, .unset, .unset, .unset, .unset] []))
  refine Go.st (fun _ => XS.aload X27.here hx rfl (hb hby at_121) rfl rfl) ?_
  show Go p.tables e below P (T27.setTop (mkF m 123 #[.val (.int p0), .val (.int p1), .val (.ref b1), .val (.int hh), .val (.ref b17), .unset, .unset, .unset, .unset, .unset, .unset] [(.ref b17)]))
  refine Go.st (fun _ => XS.iconst X27.here hx rfl (hb hby at_123)) ?_
  show Go p.tables e below P (T27.setTop (mkF m 124 #[.val (.int p0), .val (.int p1), .val (.ref b1), .val (.int hh), .val (.ref b17), .unset, .unset, .unset, .unset, .unset, .unset] [(.int (4 : Int32)), (.ref b17)]))
  refine Go.st (fun _ => XS.aloadN X27.here hx rfl (hb hby at_124) rfl rfl) ?_
  show Go p.tables e below P (T27.setTop (mkF m 125 #[.val (.int p0), .val (.int p1), .val (.ref b1), .val (.int hh), .val (.ref b17), .unset, .unset, .unset, .unset, .unset, .unset] [(.ref b1), (.int (4 : Int32)), (.ref b17)]))
  refine Go.st (fun _ => XS.iconst X27.here hx rfl (hb hby at_125)) ?_
  show Go p.tables e below P (T27.setTop (mkF m 126 #[.val (.int p0), .val (.int p1), .val (.ref b1), .val (.int hh), .val (.ref b17), .unset, .unset, .unset, .unset, .unset, .unset] [(.int (4 : Int32)), (.ref b1), (.int (4 : Int32)), (.ref b17)]))
  have c29 := (c26.other W27 (Nat.ne_of_lt (Nat.lt_of_lt_of_le V9'.lt (Nat.le_of_eq g17.symm))))
  obtain ⟨_, _, ⟨T28, L28, k28, n28⟩, -, X28, ⟨Lc28, hQ28, l28, y28, z28⟩, st28⟩ := Jvm.LawKit.callS X27 hx (y := (⟨"com/example/parametree/parametree/MeanTreeAttachPinLaw", "parentOf", "([II)I"⟩ : MethodName)) hown (mvT hZ (hw _ (List.mem_of_getElem? (i := 5) rfl))) (mvT hZ (hw _ (List.mem_of_getElem? (i := 6) rfl))) (mvT hZ (hw _ (List.mem_of_getElem? (i := 7) rfl))) (mvT hZ (hw _ (List.mem_of_getElem? (i := 8) rfl))) (by decide) (backOf (W := 2) (rm_par4 l Z a0 hw [] w_EM S_EM X_EM b1 k1 (0 : Int32) (1 : Int32) d2 d3 d4 h27 n0 O27 c29) hZ (hw _ (List.mem_of_getElem? (i := 8) rfl)) (hw _ (List.mem_of_getElem? (i := 7) rfl)) (by decide) (by decide)) (g := (mkF m 126 #[.val (.int p0), .val (.int p1), .val (.ref b1), .val (.int hh), .val (.ref b17), .unset, .unset, .unset, .unset, .unset, .unset] [(.int (4 : Int32)), (.ref b1), (.int (4 : Int32)), (.ref b17)])) rfl (by rw [hml]; rfl) (argsL := [(.ref b1), (.int (4 : Int32))]) (rest := [(.int (4 : Int32)), (.ref b17)]) (lenOf own_pd4 rfl) rfl (by show 2 * 0 + _ ≤ _; exact Nat.le_of_eq rfl) (hb hby at_126) (fun _ _ => ⟨rfl, e27, (by decide : 2 + 0 ≤ _), (by decide : 10 + 0 ≤ _)⟩)
  dsimp only [Pt.U, Pt.locs, Pt.cells, Pt.slots] at X28 l28 y28 z28 st28 hQ28
  subst y28 z28
  refine Go.st st28 ?_
  obtain ⟨R28, N28q, e28⟩ := hQ28
  have N28 : Fr n0 L28 := by rw [l28]; exact Fr.app N27 N28q
  subst R28
  show Go p.tables e below P (T28.setTop (mkF m 129 #[.val (.int p0), .val (.int p1), .val (.ref b1), .val (.int hh), .val (.ref b17), .unset, .unset, .unset, .unset, .unset, .unset] [(.int (own_p4 (1 : Int32) d2 d3 d4)), (.int (4 : Int32)), (.ref b17)]))
  obtain ⟨T30, h30, X30, e30, W30, V30, st30⟩ := own_stI X28 hx hZ e28 V27' (j := (4 : Int32)) (i := 4) (by decide) (by decide) (Nat.le_of_ble_eq_true rfl) (g := (mkF m 129 #[.val (.int p0), .val (.int p1), .val (.ref b1), .val (.int hh), .val (.ref b17), .unset, .unset, .unset, .unset, .unset, .unset] [(.int (own_p4 (1 : Int32) d2 d3 d4)), (.int (4 : Int32)), (.ref b17)])) rfl rfl (hb hby at_129)
  refine Go.st st30 ?_
  have K30 : Keep h0 h30 [] := K27.wr W30 (Or.inr sz_b17)
  have O30 := O27.wr W30 g_b17
  have N30 := Fr.snoc X30 N28 g_b17
  have V30' : Arv Z h30 b17 k17 .int (5 : Int32) [(.int (-1 : Int32)), (.int (0 : Int32)), (.int (own_p2 (1 : Int32) d2)), (.int (own_p3 (1 : Int32) d2 d3)), (.int (own_p4 (1 : Int32) d2 d3 d4))] (.int (0 : Int32)) := V30
  show Go p.tables e below P (T30.setTop (mkF m 130 #[.val (.int p0), .val (.int p1), .val (.ref b1), .val (.int hh), .val (.ref b17), .unset, .unset, .unset, .unset, .unset, .unset] []))
  refine Go.st (fun _ => XS.iconst X30.here hx rfl (hb hby at_130)) ?_
  show Go p.tables e below P (T30.setTop (mkF m 131 #[.val (.int p0), .val (.int p1), .val (.ref b1), .val (.int hh), .val (.ref b17), .unset, .unset, .unset, .unset, .unset, .unset] [(.int (5 : Int32))]))
  have c32 := (c29.other W30 (Nat.ne_of_lt (Nat.lt_of_lt_of_le V9'.lt (Nat.le_of_eq g17.symm))))
  obtain ⟨T31, h31, k31, X31, e31, E31, A31, st31⟩ := newP X30 hx hZ (hw _ (List.mem_of_getElem? (i := 0) rfl)) e30 (g := (mkF m 131 #[.val (.int p0), .val (.int p1), .val (.ref b1), .val (.int hh), .val (.ref b17), .unset, .unset, .unset, .unset, .unset, .unset] [(.int (5 : Int32))])) rfl (hb hby at_131) rfl (by decide) (cap := 5) (by decide) (by decide) (by decide) (by decide)
  obtain ⟨b31, g31⟩ : ∃ z, z = h30.size := ⟨_, rfl⟩
  rw [← g31] at A31 st31
  refine Go.st st31 ?_
  have g_b31 : n0 ≤ b31 := Nat.le_trans (own_oldsz O30) (Nat.le_of_eq g31.symm)
  have sz_b31 : h0.size ≤ b31 := Nat.le_trans K30.1 (Nat.le_of_eq g31.symm)
  have K31 : Keep h0 h31 [] := K30.ext E31
  have O31 := O30.ext E31
  have V31 : Arv Z h31 b31 k31 .int (5 : Int32) [(.int (0 : Int32)), (.int (0 : Int32)), (.int (0 : Int32)), (.int (0 : Int32)), (.int (0 : Int32))] (.int (0 : Int32)) := (Arv.new A31 (by decide)).pad (pad_rep [] (.int (0 : Int32)) 5)
  show Go p.tables e below P (T31.setTop (mkF m 133 #[.val (.int p0), .val (.int p1), .val (.ref b1), .val (.int hh), .val (.ref b17), .unset, .unset, .unset, .unset, .unset, .unset] [(.ref b31)]))
  refine Go.st (fun _ => XS.dup X31.here hx rfl (hb hby at_133) rfl rfl) ?_
  show Go p.tables e below P (T31.setTop (mkF m 134 #[.val (.int p0), .val (.int p1), .val (.ref b1), .val (.int hh), .val (.ref b17), .unset, .unset, .unset, .unset, .unset, .unset] [(.ref b31), (.ref b31)]))
  refine Go.st (fun _ => XS.iconst X31.here hx rfl (hb hby at_134)) ?_
  show Go p.tables e below P (T31.setTop (mkF m 135 #[.val (.int p0), .val (.int p1), .val (.ref b1), .val (.int hh), .val (.ref b17), .unset, .unset, .unset, .unset, .unset, .unset] [(.int (0 : Int32)), (.ref b31), (.ref b31)]))
  refine Go.st (fun _ => XS.iconst X31.here hx rfl (hb hby at_135)) ?_
  show Go p.tables e below P (T31.setTop (mkF m 136 #[.val (.int p0), .val (.int p1), .val (.ref b1), .val (.int hh), .val (.ref b17), .unset, .unset, .unset, .unset, .unset, .unset] [(.int (0 : Int32)), (.int (0 : Int32)), (.ref b31), (.ref b31)]))
  obtain ⟨T33, h33, X33, e33, W33, V33, st33⟩ := own_stI X31 hx hZ e31 V31 (j := (0 : Int32)) (i := 0) (by decide) (by decide) (Nat.le_of_ble_eq_true rfl) (g := (mkF m 136 #[.val (.int p0), .val (.int p1), .val (.ref b1), .val (.int hh), .val (.ref b17), .unset, .unset, .unset, .unset, .unset, .unset] [(.int (0 : Int32)), (.int (0 : Int32)), (.ref b31), (.ref b31)])) rfl rfl (hb hby at_136)
  refine Go.st st33 ?_
  have K33 : Keep h0 h33 [] := K31.wr W33 (Or.inr sz_b31)
  have O33 := O31.wr W33 g_b31
  have N33 := Fr.snoc X33 N30 g_b31
  have V33' : Arv Z h33 b31 k31 .int (5 : Int32) [(.int (0 : Int32)), (.int (0 : Int32)), (.int (0 : Int32)), (.int (0 : Int32)), (.int (0 : Int32))] (.int (0 : Int32)) := V33
  show Go p.tables e below P (T33.setTop (mkF m 137 #[.val (.int p0), .val (.int p1), .val (.ref b1), .val (.int hh), .val (.ref b17), .unset, .unset, .unset, .unset, .unset, .unset] [(.ref b31)]))
  refine Go.st (fun _ => XS.dup X33.here hx rfl (hb hby at_137) rfl rfl) ?_
  show Go p.tables e below P (T33.setTop (mkF m 138 #[.val (.int p0), .val (.int p1), .val (.ref b1), .val (.int hh), .val (.ref b17), .unset, .unset, .unset, .unset, .unset, .unset] [(.ref b31), (.ref b31)]))
  refine Go.st (fun _ => XS.iconst X33.here hx rfl (hb hby at_138)) ?_
  show Go p.tables e below P (T33.setTop (mkF m 139 #[.val (.int p0), .val (.int p1), .val (.ref b1), .val (.int hh), .val (.ref b17), .unset, .unset, .unset, .unset, .unset, .unset] [(.int (1 : Int32)), (.ref b31), (.ref b31)]))
  refine Go.st (fun _ => XS.iconst X33.here hx rfl (hb hby at_139)) ?_
  show Go p.tables e below P (T33.setTop (mkF m 140 #[.val (.int p0), .val (.int p1), .val (.ref b1), .val (.int hh), .val (.ref b17), .unset, .unset, .unset, .unset, .unset, .unset] [(.int (1 : Int32)), (.int (1 : Int32)), (.ref b31), (.ref b31)]))
  obtain ⟨T34, h34, X34, e34, W34, V34, st34⟩ := own_stI X33 hx hZ e33 V33' (j := (1 : Int32)) (i := 1) (by decide) (by decide) (Nat.le_of_ble_eq_true rfl) (g := (mkF m 140 #[.val (.int p0), .val (.int p1), .val (.ref b1), .val (.int hh), .val (.ref b17), .unset, .unset, .unset, .unset, .unset, .unset] [(.int (1 : Int32)), (.int (1 : Int32)), (.ref b31), (.ref b31)])) rfl rfl (hb hby at_140)
  refine Go.st st34 ?_
  have K34 : Keep h0 h34 [] := K33.wr W34 (Or.inr sz_b31)
  have O34 := O33.wr W34 g_b31
  have N34 := Fr.snoc X34 N33 g_b31
  have V34' : Arv Z h34 b31 k31 .int (5 : Int32) [(.int (0 : Int32)), (.int (1 : Int32)), (.int (0 : Int32)), (.int (0 : Int32)), (.int (0 : Int32))] (.int (0 : Int32)) := V34
  show Go p.tables e below P (T34.setTop (mkF m 141 #[.val (.int p0), .val (.int p1), .val (.ref b1), .val (.int hh), .val (.ref b17), .unset, .unset, .unset, .unset, .unset, .unset] [(.ref b31)]))
  refine Go.st (fun _ => XS.dup X34.here hx rfl (hb hby at_141) rfl rfl) ?_
  show Go p.tables e below P (T34.setTop (mkF m 142 #[.val (.int p0), .val (.int p1), .val (.ref b1), .val (.int hh), .val (.ref b17), .unset, .unset, .unset, .unset, .unset, .unset] [(.ref b31), (.ref b31)]))
  refine Go.st (fun _ => XS.iconst X34.here hx rfl (hb hby at_142)) ?_
  show Go p.tables e below P (T34.setTop (mkF m 143 #[.val (.int p0), .val (.int p1), .val (.ref b1), .val (.int hh), .val (.ref b17), .unset, .unset, .unset, .unset, .unset, .unset] [(.int (2 : Int32)), (.ref b31), (.ref b31)]))
  refine Go.st (fun _ => XS.iconst X34.here hx rfl (hb hby at_143)) ?_
  show Go p.tables e below P (T34.setTop (mkF m 144 #[.val (.int p0), .val (.int p1), .val (.ref b1), .val (.int hh), .val (.ref b17), .unset, .unset, .unset, .unset, .unset, .unset] [(.int (2 : Int32)), (.int (2 : Int32)), (.ref b31), (.ref b31)]))
  obtain ⟨T35, h35, X35, e35, W35, V35, st35⟩ := own_stI X34 hx hZ e34 V34' (j := (2 : Int32)) (i := 2) (by decide) (by decide) (Nat.le_of_ble_eq_true rfl) (g := (mkF m 144 #[.val (.int p0), .val (.int p1), .val (.ref b1), .val (.int hh), .val (.ref b17), .unset, .unset, .unset, .unset, .unset, .unset] [(.int (2 : Int32)), (.int (2 : Int32)), (.ref b31), (.ref b31)])) rfl rfl (hb hby at_144)
  refine Go.st st35 ?_
  have K35 : Keep h0 h35 [] := K34.wr W35 (Or.inr sz_b31)
  have O35 := O34.wr W35 g_b31
  have N35 := Fr.snoc X35 N34 g_b31
  have V35' : Arv Z h35 b31 k31 .int (5 : Int32) [(.int (0 : Int32)), (.int (1 : Int32)), (.int (2 : Int32)), (.int (0 : Int32)), (.int (0 : Int32))] (.int (0 : Int32)) := V35
  show Go p.tables e below P (T35.setTop (mkF m 145 #[.val (.int p0), .val (.int p1), .val (.ref b1), .val (.int hh), .val (.ref b17), .unset, .unset, .unset, .unset, .unset, .unset] [(.ref b31)]))
  refine Go.st (fun _ => XS.dup X35.here hx rfl (hb hby at_145) rfl rfl) ?_
  show Go p.tables e below P (T35.setTop (mkF m 146 #[.val (.int p0), .val (.int p1), .val (.ref b1), .val (.int hh), .val (.ref b17), .unset, .unset, .unset, .unset, .unset, .unset] [(.ref b31), (.ref b31)]))
  refine Go.st (fun _ => XS.iconst X35.here hx rfl (hb hby at_146)) ?_
  show Go p.tables e below P (T35.setTop (mkF m 147 #[.val (.int p0), .val (.int p1), .val (.ref b1), .val (.int hh), .val (.ref b17), .unset, .unset, .unset, .unset, .unset, .unset] [(.int (3 : Int32)), (.ref b31), (.ref b31)]))
  refine Go.st (fun _ => XS.iconst X35.here hx rfl (hb hby at_147)) ?_
  show Go p.tables e below P (T35.setTop (mkF m 148 #[.val (.int p0), .val (.int p1), .val (.ref b1), .val (.int hh), .val (.ref b17), .unset, .unset, .unset, .unset, .unset, .unset] [(.int (3 : Int32)), (.int (3 : Int32)), (.ref b31), (.ref b31)]))
  obtain ⟨T36, h36, X36, e36, W36, V36, st36⟩ := own_stI X35 hx hZ e35 V35' (j := (3 : Int32)) (i := 3) (by decide) (by decide) (Nat.le_of_ble_eq_true rfl) (g := (mkF m 148 #[.val (.int p0), .val (.int p1), .val (.ref b1), .val (.int hh), .val (.ref b17), .unset, .unset, .unset, .unset, .unset, .unset] [(.int (3 : Int32)), (.int (3 : Int32)), (.ref b31), (.ref b31)])) rfl rfl (hb hby at_148)
  refine Go.st st36 ?_
  have K36 : Keep h0 h36 [] := K35.wr W36 (Or.inr sz_b31)
  have O36 := O35.wr W36 g_b31
  have N36 := Fr.snoc X36 N35 g_b31
  have V36' : Arv Z h36 b31 k31 .int (5 : Int32) [(.int (0 : Int32)), (.int (1 : Int32)), (.int (2 : Int32)), (.int (3 : Int32)), (.int (0 : Int32))] (.int (0 : Int32)) := V36
  show Go p.tables e below P (T36.setTop (mkF m 149 #[.val (.int p0), .val (.int p1), .val (.ref b1), .val (.int hh), .val (.ref b17), .unset, .unset, .unset, .unset, .unset, .unset] [(.ref b31)]))
  refine Go.st (fun _ => XS.dup X36.here hx rfl (hb hby at_149) rfl rfl) ?_
  show Go p.tables e below P (T36.setTop (mkF m 150 #[.val (.int p0), .val (.int p1), .val (.ref b1), .val (.int hh), .val (.ref b17), .unset, .unset, .unset, .unset, .unset, .unset] [(.ref b31), (.ref b31)]))
  refine Go.st (fun _ => XS.iconst X36.here hx rfl (hb hby at_150)) ?_
  show Go p.tables e below P (T36.setTop (mkF m 151 #[.val (.int p0), .val (.int p1), .val (.ref b1), .val (.int hh), .val (.ref b17), .unset, .unset, .unset, .unset, .unset, .unset] [(.int (4 : Int32)), (.ref b31), (.ref b31)]))
  refine Go.st (fun _ => XS.iconst X36.here hx rfl (hb hby at_151)) ?_
  show Go p.tables e below P (T36.setTop (mkF m 152 #[.val (.int p0), .val (.int p1), .val (.ref b1), .val (.int hh), .val (.ref b17), .unset, .unset, .unset, .unset, .unset, .unset] [(.int (4 : Int32)), (.int (4 : Int32)), (.ref b31), (.ref b31)]))
  obtain ⟨T37, h37, X37, e37, W37, V37, st37⟩ := own_stI X36 hx hZ e36 V36' (j := (4 : Int32)) (i := 4) (by decide) (by decide) (Nat.le_of_ble_eq_true rfl) (g := (mkF m 152 #[.val (.int p0), .val (.int p1), .val (.ref b1), .val (.int hh), .val (.ref b17), .unset, .unset, .unset, .unset, .unset, .unset] [(.int (4 : Int32)), (.int (4 : Int32)), (.ref b31), (.ref b31)])) rfl rfl (hb hby at_152)
  refine Go.st st37 ?_
  have K37 : Keep h0 h37 [] := K36.wr W37 (Or.inr sz_b31)
  have O37 := O36.wr W37 g_b31
  have N37 := Fr.snoc X37 N36 g_b31
  have V37' : Arv Z h37 b31 k31 .int (5 : Int32) [(.int (0 : Int32)), (.int (1 : Int32)), (.int (2 : Int32)), (.int (3 : Int32)), (.int (4 : Int32))] (.int (0 : Int32)) := V37
  show Go p.tables e below P (T37.setTop (mkF m 153 #[.val (.int p0), .val (.int p1), .val (.ref b1), .val (.int hh), .val (.ref b17), .unset, .unset, .unset, .unset, .unset, .unset] [(.ref b31)]))
  refine Go.st (fun _ => XS.astore X37.here hx rfl (hb hby at_153) rfl rfl (l' := #[.val (.int p0), .val (.int p1), .val (.ref b1), .val (.int hh), .val (.ref b17), .val (.ref b31), .unset, .unset, .unset, .unset, .unset]) rfl) ?_
  show Go p.tables e below P (T37.setTop (mkF m 155 #[.val (.int p0), .val (.int p1), .val (.ref b1), .val (.int hh), .val (.ref b17), .val (.ref b31), .unset, .unset, .unset, .unset, .unset] []))
  have c39 := ((((((c32.ext E31).other W33 (Nat.ne_of_lt (Nat.lt_of_lt_of_le c32.lt (Nat.le_of_eq g31.symm)))).other W34 (Nat.ne_of_lt (Nat.lt_of_lt_of_le c32.lt (Nat.le_of_eq g31.symm)))).other W35 (Nat.ne_of_lt (Nat.lt_of_lt_of_le c32.lt (Nat.le_of_eq g31.symm)))).other W36 (Nat.ne_of_lt (Nat.lt_of_lt_of_le c32.lt (Nat.le_of_eq g31.symm)))).other W37 (Nat.ne_of_lt (Nat.lt_of_lt_of_le c32.lt (Nat.le_of_eq g31.symm))))
  have c40 := ((((((V30'.ext E31).other W33 (Nat.ne_of_lt (Nat.lt_of_lt_of_le V30'.lt (Nat.le_of_eq g31.symm)))).other W34 (Nat.ne_of_lt (Nat.lt_of_lt_of_le V30'.lt (Nat.le_of_eq g31.symm)))).other W35 (Nat.ne_of_lt (Nat.lt_of_lt_of_le V30'.lt (Nat.le_of_eq g31.symm)))).other W36 (Nat.ne_of_lt (Nat.lt_of_lt_of_le V30'.lt (Nat.le_of_eq g31.symm)))).other W37 (Nat.ne_of_lt (Nat.lt_of_lt_of_le V30'.lt (Nat.le_of_eq g31.symm))))
  obtain ⟨T38, h38, X38, e38, E38, A38, D38, -, st38⟩ := newO X37 hx hZ hown (hw _ (List.mem_of_getElem? (i := 9) rfl)) (hw _ (List.mem_of_getElem? (i := 10) rfl)) (hw _ (List.mem_of_getElem? (i := 11) rfl)) e37 (g := (mkF m 155 #[.val (.int p0), .val (.int p1), .val (.ref b1), .val (.int hh), .val (.ref b17), .val (.ref b31), .unset, .unset, .unset, .unset, .unset] [])) rfl (hb hby at_155) (by decide) (by decide)
  obtain ⟨b38, g38⟩ : ∃ z, z = h37.size := ⟨_, rfl⟩
  rw [← g38] at A38 D38 st38
  refine Go.st st38 ?_
  have g_b38 : n0 ≤ b38 := Nat.le_trans (own_oldsz O37) (Nat.le_of_eq g38.symm)
  have sz_b38 : h0.size ≤ b38 := Nat.le_trans K37.1 (Nat.le_of_eq g38.symm)
  have K38 : Keep h0 h38 [] := K37.ext E38
  have O38 := O37.ext E38
  have F41 : Fld Z h38 b38 "com/example/parametree/parametree/Tree" "ids" "Lcom/example/parametree/parametree/Ids;" .null := D38 (Or.inr (hw _ (List.mem_of_getElem? (i := 25) rfl))) (ty := (.object "com/example/parametree/parametree/Ids")) (by decide)
  have F42 : Fld Z h38 b38 "com/example/parametree/parametree/Tree" "parents" "[I" .null := D38 (Or.inr (hw _ (List.mem_of_getElem? (i := 27) rfl))) (ty := (.array .int)) (by decide)
  have F43 : Fld Z h38 b38 "com/example/parametree/parametree/Tree" "root" "I" (.int (0 : Int32)) := D38 (Or.inr (hw _ (List.mem_of_getElem? (i := 29) rfl))) (ty := .int) (by decide)
  have F44 : Fld Z h38 b38 "com/example/parametree/parametree/Tree" "childStart" "[I" .null := D38 (Or.inr (hw _ (List.mem_of_getElem? (i := 31) rfl))) (ty := (.array .int)) (by decide)
  have F45 : Fld Z h38 b38 "com/example/parametree/parametree/Tree" "children" "[I" .null := D38 (Or.inr (hw _ (List.mem_of_getElem? (i := 33) rfl))) (ty := (.array .int)) (by decide)
  have F46 : Fld Z h38 b38 "com/example/parametree/parametree/Tree" "preorder" "[I" .null := D38 (Or.inr (hw _ (List.mem_of_getElem? (i := 35) rfl))) (ty := (.array .int)) (by decide)
  have F47 : Fld Z h38 b38 "com/example/parametree/parametree/Tree" "depths" "[I" .null := D38 (Or.inr (hw _ (List.mem_of_getElem? (i := 37) rfl))) (ty := (.array .int)) (by decide)
  have F48 : Fld Z h38 b38 "com/example/parametree/parametree/Tree" "height" "I" (.int (0 : Int32)) := D38 (Or.inr (hw _ (List.mem_of_getElem? (i := 39) rfl))) (ty := .int) (by decide)
  have F49 : Fld Z h38 b38 "com/example/parametree/parametree/Tree" "columns" "Ljava/util/Map;" .null := D38 (Or.inr (hw _ (List.mem_of_getElem? (i := 46) rfl))) (ty := (.object "java/util/Map")) (by decide)
  show Go p.tables e below P (T38.setTop (mkF m 158 #[.val (.int p0), .val (.int p1), .val (.ref b1), .val (.int hh), .val (.ref b17), .val (.ref b31), .unset, .unset, .unset, .unset, .unset] [(.ref b38)]))
  refine Go.st (fun _ => XS.dup X38.here hx rfl (hb hby at_158) rfl rfl) ?_
  show Go p.tables e below P (T38.setTop (mkF m 159 #[.val (.int p0), .val (.int p1), .val (.ref b1), .val (.int hh), .val (.ref b17), .val (.ref b31), .unset, .unset, .unset, .unset, .unset] [(.ref b38), (.ref b38)]))
  refine Go.st (fun _ => XS.aconstNull X38.here hx rfl (hb hby at_159)) ?_
  show Go p.tables e below P (T38.setTop (mkF m 160 #[.val (.int p0), .val (.int p1), .val (.ref b1), .val (.int hh), .val (.ref b17), .val (.ref b31), .unset, .unset, .unset, .unset, .unset] [.null, (.ref b38), (.ref b38)]))
  refine Go.st (fun _ => XS.aload X38.here hx rfl (hb hby at_160) rfl rfl) ?_
  show Go p.tables e below P (T38.setTop (mkF m 162 #[.val (.int p0), .val (.int p1), .val (.ref b1), .val (.int hh), .val (.ref b17), .val (.ref b31), .unset, .unset, .unset, .unset, .unset] [(.ref b17), .null, (.ref b38), (.ref b38)]))
  refine Go.st (fun _ => XS.iconst X38.here hx rfl (hb hby at_162)) ?_
  show Go p.tables e below P (T38.setTop (mkF m 163 #[.val (.int p0), .val (.int p1), .val (.ref b1), .val (.int hh), .val (.ref b17), .val (.ref b31), .unset, .unset, .unset, .unset, .unset] [(.int (0 : Int32)), (.ref b17), .null, (.ref b38), (.ref b38)]))
  refine Go.st (fun _ => XS.bipush X38.here hx rfl (hb hby at_163)) ?_
  show Go p.tables e below P (T38.setTop (mkF m 165 #[.val (.int p0), .val (.int p1), .val (.ref b1), .val (.int hh), .val (.ref b17), .val (.ref b31), .unset, .unset, .unset, .unset, .unset] [(.int (6 : Int32)), (.int (0 : Int32)), (.ref b17), .null, (.ref b38), (.ref b38)]))
  have c51 := (c39.ext E38)
  have c52 := (c40.ext E38)
  have c53 := (V37'.ext E38)
  obtain ⟨T50, h50, k50, X50, e50, E50, A50, st50⟩ := newP X38 hx hZ (hw _ (List.mem_of_getElem? (i := 0) rfl)) e38 (g := (mkF m 165 #[.val (.int p0), .val (.int p1), .val (.ref b1), .val (.int hh), .val (.ref b17), .val (.ref b31), .unset, .unset, .unset, .unset, .unset] [(.int (6 : Int32)), (.int (0 : Int32)), (.ref b17), .null, (.ref b38), (.ref b38)])) rfl (hb hby at_165) rfl (by decide) (cap := 6) (by decide) (by decide) (by decide) (by decide)
  obtain ⟨b50, g50⟩ : ∃ z, z = h38.size := ⟨_, rfl⟩
  rw [← g50] at A50 st50
  refine Go.st st50 ?_
  have g_b50 : n0 ≤ b50 := Nat.le_trans (own_oldsz O38) (Nat.le_of_eq g50.symm)
  have sz_b50 : h0.size ≤ b50 := Nat.le_trans K38.1 (Nat.le_of_eq g50.symm)
  have K50 : Keep h0 h50 [] := K38.ext E50
  have O50 := O38.ext E50
  have V50 : Arv Z h50 b50 k50 .int (6 : Int32) [(.int (0 : Int32)), (.int (0 : Int32)), (.int (0 : Int32)), (.int (0 : Int32)), (.int (0 : Int32)), (.int (0 : Int32))] (.int (0 : Int32)) := (Arv.new A50 (by decide)).pad (pad_rep [] (.int (0 : Int32)) 6)
  show Go p.tables e below P (T50.setTop (mkF m 167 #[.val (.int p0), .val (.int p1), .val (.ref b1), .val (.int hh), .val (.ref b17), .val (.ref b31), .unset, .unset, .unset, .unset, .unset] [(.ref b50), (.int (0 : Int32)), (.ref b17), .null, (.ref b38), (.ref b38)]))
  refine Go.st (fun _ => XS.iconst X50.here hx rfl (hb hby at_167)) ?_
  show Go p.tables e below P (T50.setTop (mkF m 168 #[.val (.int p0), .val (.int p1), .val (.ref b1), .val (.int hh), .val (.ref b17), .val (.ref b31), .unset, .unset, .unset, .unset, .unset] [(.int (4 : Int32)), (.ref b50), (.int (0 : Int32)), (.ref b17), .null, (.ref b38), (.ref b38)]))
  have c55 := (c51.ext E50)
  have c56 := (c52.ext E50)
  have c57 := (c53.ext E50)
  have c58 := (A38.ext E50)
  obtain ⟨T54, h54, k54, X54, e54, E54, A54, st54⟩ := newP X50 hx hZ (hw _ (List.mem_of_getElem? (i := 0) rfl)) e50 (g := (mkF m 168 #[.val (.int p0), .val (.int p1), .val (.ref b1), .val (.int hh), .val (.ref b17), .val (.ref b31), .unset, .unset, .unset, .unset, .unset] [(.int (4 : Int32)), (.ref b50), (.int (0 : Int32)), (.ref b17), .null, (.ref b38), (.ref b38)])) rfl (hb hby at_168) rfl (by decide) (cap := 4) (by decide) (by decide) (by decide) (by decide)
  obtain ⟨b54, g54⟩ : ∃ z, z = h50.size := ⟨_, rfl⟩
  rw [← g54] at A54 st54
  refine Go.st st54 ?_
  have g_b54 : n0 ≤ b54 := Nat.le_trans (own_oldsz O50) (Nat.le_of_eq g54.symm)
  have sz_b54 : h0.size ≤ b54 := Nat.le_trans K50.1 (Nat.le_of_eq g54.symm)
  have K54 : Keep h0 h54 [] := K50.ext E54
  have O54 := O50.ext E54
  have V54 : Arv Z h54 b54 k54 .int (4 : Int32) [(.int (0 : Int32)), (.int (0 : Int32)), (.int (0 : Int32)), (.int (0 : Int32))] (.int (0 : Int32)) := (Arv.new A54 (by decide)).pad (pad_rep [] (.int (0 : Int32)) 4)
  show Go p.tables e below P (T54.setTop (mkF m 170 #[.val (.int p0), .val (.int p1), .val (.ref b1), .val (.int hh), .val (.ref b17), .val (.ref b31), .unset, .unset, .unset, .unset, .unset] [(.ref b54), (.ref b50), (.int (0 : Int32)), (.ref b17), .null, (.ref b38), (.ref b38)]))
  refine Go.st (fun _ => XS.aload X54.here hx rfl (hb hby at_170) rfl rfl) ?_
  show Go p.tables e below P (T54.setTop (mkF m 172 #[.val (.int p0), .val (.int p1), .val (.ref b1), .val (.int hh), .val (.ref b17), .val (.ref b31), .unset, .unset, .unset, .unset, .unset] [(.ref b31), (.ref b54), (.ref b50), (.int (0 : Int32)), (.ref b17), .null, (.ref b38), (.ref b38)]))
  refine Go.st (fun _ => XS.aloadN X54.here hx rfl (hb hby at_172) rfl rfl) ?_
  show Go p.tables e below P (T54.setTop (mkF m 173 #[.val (.int p0), .val (.int p1), .val (.ref b1), .val (.int hh), .val (.ref b17), .val (.ref b31), .unset, .unset, .unset, .unset, .unset] [(.ref b1), (.ref b31), (.ref b54), (.ref b50), (.int (0 : Int32)), (.ref b17), .null, (.ref b38), (.ref b38)]))
  refine Go.st (fun _ => XS.iloadN X54.here hx rfl (hb hby at_173) rfl) ?_
  show Go p.tables e below P (T54.setTop (mkF m 174 #[.val (.int p0), .val (.int p1), .val (.ref b1), .val (.int hh), .val (.ref b17), .val (.ref b31), .unset, .unset, .unset, .unset, .unset] [(.int hh), (.ref b1), (.ref b31), (.ref b54), (.ref b50), (.int (0 : Int32)), (.ref b17), .null, (.ref b38), (.ref b38)]))
  obtain ⟨_, _, ⟨T59, L59, k59, n59⟩, -, X59, ⟨Lc59, hQ59, l59, y59, z59⟩, st59⟩ := Jvm.LawKit.callS X54 hx (y := (⟨"java/util/Map", "of", "()Ljava/util/Map;"⟩ : MethodName)) hown (mvT hZ (hw _ (List.mem_of_getElem? (i := 12) rfl))) (mvT hZ (hw _ (List.mem_of_getElem? (i := 13) rfl))) (mvT hZ (hw _ (List.mem_of_getElem? (i := 14) rfl))) (mvT hZ (hw _ (List.mem_of_getElem? (i := 15) rfl))) (by decide) (backOf (W := 10) (rm_mof l Z a0 hw [] w_EM S_EM X_EM h54 n0 O54 ) hZ (hw _ (List.mem_of_getElem? (i := 15) rfl)) (hw _ (List.mem_of_getElem? (i := 14) rfl)) (by decide) (by decide)) (g := (mkF m 174 #[.val (.int p0), .val (.int p1), .val (.ref b1), .val (.int hh), .val (.ref b17), .val (.ref b31), .unset, .unset, .unset, .unset, .unset] [(.int hh), (.ref b1), (.ref b31), (.ref b54), (.ref b50), (.int (0 : Int32)), (.ref b17), .null, (.ref b38), (.ref b38)])) rfl (by rw [hml]; rfl) (argsL := []) (rest := [(.int hh), (.ref b1), (.ref b31), (.ref b54), (.ref b50), (.int (0 : Int32)), (.ref b17), .null, (.ref b38), (.ref b38)]) (lenOf own_pd5 rfl) rfl (by show 2 * 0 + _ ≤ _; exact Nat.le_of_eq rfl) (hb hby at_174) (fun _ _ => ⟨rfl, e54, (by decide : 6 + 0 ≤ _), (by decide : 34 + 0 ≤ _)⟩)
  dsimp only [Pt.U, Pt.locs, Pt.cells, Pt.slots] at X59 l59 y59 z59 st59 hQ59
  subst y59 z59
  refine Go.st st59 ?_
  obtain ⟨rfl, N59q, e59⟩ := hQ59
  have N59 : Fr n0 L59 := by rw [l59]; exact Fr.app N37 N59q
  show Go p.tables e below P (T59.setTop (mkF m 177 #[.val (.int p0), .val (.int p1), .val (.ref b1), .val (.int hh), .val (.ref b17), .val (.ref b31), .unset, .unset, .unset, .unset, .unset] [(.ref w_EM), (.int hh), (.ref b1), (.ref b31), (.ref b54), (.ref b50), (.int (0 : Int32)), (.ref b17), .null, (.ref b38), (.ref b38)]))
  have c61 := (c58.ext E54)
  have c62 := ((F41.ext E50).ext E54)
  have c63 := ((F42.ext E50).ext E54)
  have c64 := ((F43.ext E50).ext E54)
  have c65 := ((F44.ext E50).ext E54)
  have c66 := ((F45.ext E50).ext E54)
  have c67 := ((F46.ext E50).ext E54)
  have c68 := ((F47.ext E50).ext E54)
  have c69 := ((F48.ext E50).ext E54)
  have c70 := ((F49.ext E50).ext E54)
  have c71 := (c55.ext E54)
  have c72 := (c56.ext E54)
  have c73 := (c57.ext E54)
  have c74 := (V50.ext E54)
  obtain ⟨_, _, ⟨T60, L60, k60, n60⟩, -, X60, ⟨Lc60, hQ60, l60, y60, z60⟩, st60⟩ := X59.specialBack hx (y := (⟨"com/example/parametree/parametree/Tree", "<init>", "(Lcom/example/parametree/parametree/Ids;[II[I[I[I[IILjava/util/Map;)V"⟩ : MethodName)) rfl hown (mvT hZ (hw _ (List.mem_of_getElem? (i := 18) rfl))) (mvT hZ (hw _ (List.mem_of_getElem? (i := 19) rfl))) (mvT hZ (hw _ (List.mem_of_getElem? (i := 20) rfl))) (by decide) (backOf (W := 1) (rm_tin l Z a0 hw [] w_EM S_EM X_EM b38 b17 (0 : Int32) b50 b54 b31 b1 hh h54 n0 O54 c61 c62 c63 c64 c65 c66 c67 c68 c69 c70 g_b38) hZ (hw _ (List.mem_of_getElem? (i := 20) rfl)) (hw _ (List.mem_of_getElem? (i := 11) rfl)) (by decide) (by decide)) (g := (mkF m 177 #[.val (.int p0), .val (.int p1), .val (.ref b1), .val (.int hh), .val (.ref b17), .val (.ref b31), .unset, .unset, .unset, .unset, .unset] [(.ref w_EM), (.int hh), (.ref b1), (.ref b31), (.ref b54), (.ref b50), (.int (0 : Int32)), (.ref b17), .null, (.ref b38), (.ref b38)])) rfl (by rw [hml]; rfl) (Steps.refl _) (a := b38) (argsL := [.null, (.ref b17), (.int (0 : Int32)), (.ref b50), (.ref b54), (.ref b31), (.ref b1), (.int hh), (.ref w_EM)]) (rest := [(.ref b38)]) (lenOf own_pd6 rfl) rfl (by show 2 * 0 + _ ≤ _; exact Nat.le_of_eq rfl) (hb hby at_177) (fun _ _ => ⟨rfl, e59, (by decide : 6 + 0 ≤ _), (by decide : 34 + 0 ≤ _)⟩)
  dsimp only [Pt.U, Pt.locs, Pt.cells, Pt.slots] at X60 l60 y60 z60 st60 hQ60
  subst y60 z60
  refine Go.tr st60 ?_
  obtain ⟨rfl, N60q, K60q, q60_0, q60_1, q60_2, q60_3, q60_4⟩ := hQ60
  have N60 : Fr n0 L60 := by rw [l60]; exact Fr.app N59 N60q
  have O60 := O54.keep K60q (allS g_b38 all0)
  have K60 : Keep h0 T60.heap [] := K54.trans K60q (allS (Or.inr sz_b38) all0)
  show Go p.tables e below P (T60.setTop (mkF m 180 #[.val (.int p0), .val (.int p1), .val (.ref b1), .val (.int hh), .val (.ref b17), .val (.ref b31), .unset, .unset, .unset, .unset, .unset] [(.ref b38)]))
  refine Go.st (fun _ => XS.astore X60.here hx rfl (hb hby at_180) rfl rfl (l' := #[.val (.int p0), .val (.int p1), .val (.ref b1), .val (.int hh), .val (.ref b17), .val (.ref b31), .val (.ref b38), .unset, .unset, .unset, .unset]) rfl) ?_
  show Go p.tables e below P (T60.setTop (mkF m 182 #[.val (.int p0), .val (.int p1), .val (.ref b1), .val (.int hh), .val (.ref b17), .val (.ref b31), .val (.ref b38), .unset, .unset, .unset, .unset] []))
  have c76 := (c71.keep K60q (ninS (Nat.ne_of_lt (Nat.lt_of_lt_of_le c39.lt (Nat.le_of_eq g38.symm))) nin0))
  have c77 := (c72.keep K60q (ninS (Nat.ne_of_lt (Nat.lt_of_lt_of_le c40.lt (Nat.le_of_eq g38.symm))) nin0))
  have c78 := (c73.keep K60q (ninS (Nat.ne_of_lt (Nat.lt_of_lt_of_le V37'.lt (Nat.le_of_eq g38.symm))) nin0))
  have c79 := (c74.keep K60q (ninS (Ne.symm (Nat.ne_of_lt (Nat.lt_of_lt_of_le A38.lt (Nat.le_of_eq g50.symm)))) nin0))
  have c80 := (V54.keep K60q (ninS (Ne.symm (Nat.ne_of_lt (Nat.lt_of_lt_of_le c58.lt (Nat.le_of_eq g54.symm)))) nin0))
  obtain ⟨T75, h75, X75, e75, E75, A75, D75, -, st75⟩ := newO X60 hx hZ hown (hw _ (List.mem_of_getElem? (i := 47) rfl)) (hw _ (List.mem_of_getElem? (i := 48) rfl)) (hw _ (List.mem_of_getElem? (i := 49) rfl)) rfl (g := (mkF m 182 #[.val (.int p0), .val (.int p1), .val (.ref b1), .val (.int hh), .val (.ref b17), .val (.ref b31), .val (.ref b38), .unset, .unset, .unset, .unset] [])) rfl (hb hby at_182) (by decide) (by decide)
  obtain ⟨b75, g75⟩ : ∃ z, z = T60.heap.size := ⟨_, rfl⟩
  rw [← g75] at A75 D75 st75
  refine Go.st st75 ?_
  have g_b75 : n0 ≤ b75 := Nat.le_trans (own_oldsz O60) (Nat.le_of_eq g75.symm)
  have sz_b75 : h0.size ≤ b75 := Nat.le_trans K60.1 (Nat.le_of_eq g75.symm)
  have K75 : Keep h0 h75 [] := K60.ext E75
  have O75 := O60.ext E75
  have F81 : Fld Z h75 b75 "com/example/parametree/parametree/MeanTree" "size" "I" (.int (0 : Int32)) := D75 (Or.inl (hw _ (List.mem_of_getElem? (i := 61) rfl))) (ty := .int) (by decide)
  have F82 : Fld Z h75 b75 "com/example/parametree/parametree/MeanTree" "node" "[I" .null := D75 (Or.inr (hw _ (List.mem_of_getElem? (i := 68) rfl))) (ty := (.array .int)) (by decide)
  have F83 : Fld Z h75 b75 "com/example/parametree/parametree/MeanTree" "depth" "[I" .null := D75 (Or.inr (hw _ (List.mem_of_getElem? (i := 75) rfl))) (ty := (.array .int)) (by decide)
  have F84 : Fld Z h75 b75 "com/example/parametree/parametree/MeanTree" "profit" "[D" .null := D75 (Or.inr (hw _ (List.mem_of_getElem? (i := 77) rfl))) (ty := (.array .double)) (by decide)
  have F85 : Fld Z h75 b75 "com/example/parametree/parametree/MeanTree" "cost" "[D" .null := D75 (Or.inr (hw _ (List.mem_of_getElem? (i := 79) rfl))) (ty := (.array .double)) (by decide)
  have F86 : Fld Z h75 b75 "com/example/parametree/parametree/MeanTree" "kept" "[Z" .null := D75 (Or.inr (hw _ (List.mem_of_getElem? (i := 82) rfl))) (ty := (.array .boolean)) (by decide)
  have F87 : Fld Z h75 b75 "com/example/parametree/parametree/MeanTree" "slots" "I" (.int (0 : Int32)) := D75 (Or.inr (hw _ (List.mem_of_getElem? (i := 89) rfl))) (ty := .int) (by decide)
  have F88 : Fld Z h75 b75 "com/example/parametree/parametree/MeanTree" "profitSlots" "[D" .null := D75 (Or.inr (hw _ (List.mem_of_getElem? (i := 91) rfl))) (ty := (.array .double)) (by decide)
  have F89 : Fld Z h75 b75 "com/example/parametree/parametree/MeanTree" "costSlots" "[D" .null := D75 (Or.inr (hw _ (List.mem_of_getElem? (i := 93) rfl))) (ty := (.array .double)) (by decide)
  show Go p.tables e below P (T75.setTop (mkF m 185 #[.val (.int p0), .val (.int p1), .val (.ref b1), .val (.int hh), .val (.ref b17), .val (.ref b31), .val (.ref b38), .unset, .unset, .unset, .unset] [(.ref b75)]))
  refine Go.st (fun _ => XS.dup X75.here hx rfl (hb hby at_185) rfl rfl) ?_
  show Go p.tables e below P (T75.setTop (mkF m 186 #[.val (.int p0), .val (.int p1), .val (.ref b1), .val (.int hh), .val (.ref b17), .val (.ref b31), .val (.ref b38), .unset, .unset, .unset, .unset] [(.ref b75), (.ref b75)]))
  refine Go.st (fun _ => XS.aload X75.here hx rfl (hb hby at_186) rfl rfl) ?_
  show Go p.tables e below P (T75.setTop (mkF m 188 #[.val (.int p0), .val (.int p1), .val (.ref b1), .val (.int hh), .val (.ref b17), .val (.ref b31), .val (.ref b38), .unset, .unset, .unset, .unset] [(.ref b38), (.ref b75), (.ref b75)]))
  refine Go.st (fun _ => XS.iconst X75.here hx rfl (hb hby at_188)) ?_
  show Go p.tables e below P (T75.setTop (mkF m 189 #[.val (.int p0), .val (.int p1), .val (.ref b1), .val (.int hh), .val (.ref b17), .val (.ref b31), .val (.ref b38), .unset, .unset, .unset, .unset] [(.int (5 : Int32)), (.ref b38), (.ref b75), (.ref b75)]))
  have c91 := (c76.ext E75)
  have c92 := (c77.ext E75)
  have c93 := (c78.ext E75)
  have c94 := (q60_0.ext E75)
  have c95 := (c79.ext E75)
  have c96 := (c80.ext E75)
  obtain ⟨T90, h90, k90, X90, e90, E90, A90, st90⟩ := newP X75 hx hZ (hw _ (List.mem_of_getElem? (i := 50) rfl)) e75 (g := (mkF m 189 #[.val (.int p0), .val (.int p1), .val (.ref b1), .val (.int hh), .val (.ref b17), .val (.ref b31), .val (.ref b38), .unset, .unset, .unset, .unset] [(.int (5 : Int32)), (.ref b38), (.ref b75), (.ref b75)])) rfl (hb hby at_189) rfl (by decide) (cap := 5) (by decide) (by decide) (by decide) (by decide)
  obtain ⟨b90, g90⟩ : ∃ z, z = h75.size := ⟨_, rfl⟩
  rw [← g90] at A90 st90
  refine Go.st st90 ?_
  have g_b90 : n0 ≤ b90 := Nat.le_trans (own_oldsz O75) (Nat.le_of_eq g90.symm)
  have sz_b90 : h0.size ≤ b90 := Nat.le_trans K75.1 (Nat.le_of_eq g90.symm)
  have K90 : Keep h0 h90 [] := K75.ext E90
  have O90 := O75.ext E90
  have V90 : Arv Z h90 b90 k90 .double (5 : Int32) [(.double (0 : UInt64)), (.double (0 : UInt64)), (.double (0 : UInt64)), (.double (0 : UInt64)), (.double (0 : UInt64))] (.double (0 : UInt64)) := (Arv.new A90 (by decide)).pad (pad_rep [] (.double (0 : UInt64)) 5)
  show Go p.tables e below P (T90.setTop (mkF m 191 #[.val (.int p0), .val (.int p1), .val (.ref b1), .val (.int hh), .val (.ref b17), .val (.ref b31), .val (.ref b38), .unset, .unset, .unset, .unset] [(.ref b90), (.ref b38), (.ref b75), (.ref b75)]))
  refine Go.st (fun _ => XS.iconst X90.here hx rfl (hb hby at_191)) ?_
  show Go p.tables e below P (T90.setTop (mkF m 192 #[.val (.int p0), .val (.int p1), .val (.ref b1), .val (.int hh), .val (.ref b17), .val (.ref b31), .val (.ref b38), .unset, .unset, .unset, .unset] [(.int (5 : Int32)), (.ref b90), (.ref b38), (.ref b75), (.ref b75)]))
  have c98 := (c91.ext E90)
  have c99 := (c92.ext E90)
  have c100 := (c93.ext E90)
  have c101 := (c94.ext E90)
  have c102 := (c95.ext E90)
  have c103 := (c96.ext E90)
  have c104 := (A75.ext E90)
  obtain ⟨T97, h97, k97, X97, e97, E97, A97, st97⟩ := newP X90 hx hZ (hw _ (List.mem_of_getElem? (i := 50) rfl)) e90 (g := (mkF m 192 #[.val (.int p0), .val (.int p1), .val (.ref b1), .val (.int hh), .val (.ref b17), .val (.ref b31), .val (.ref b38), .unset, .unset, .unset, .unset] [(.int (5 : Int32)), (.ref b90), (.ref b38), (.ref b75), (.ref b75)])) rfl (hb hby at_192) rfl (by decide) (cap := 5) (by decide) (by decide) (by decide) (by decide)
  obtain ⟨b97, g97⟩ : ∃ z, z = h90.size := ⟨_, rfl⟩
  rw [← g97] at A97 st97
  refine Go.st st97 ?_
  have g_b97 : n0 ≤ b97 := Nat.le_trans (own_oldsz O90) (Nat.le_of_eq g97.symm)
  have sz_b97 : h0.size ≤ b97 := Nat.le_trans K90.1 (Nat.le_of_eq g97.symm)
  have K97 : Keep h0 h97 [] := K90.ext E97
  have O97 := O90.ext E97
  have V97 : Arv Z h97 b97 k97 .double (5 : Int32) [(.double (0 : UInt64)), (.double (0 : UInt64)), (.double (0 : UInt64)), (.double (0 : UInt64)), (.double (0 : UInt64))] (.double (0 : UInt64)) := (Arv.new A97 (by decide)).pad (pad_rep [] (.double (0 : UInt64)) 5)
  show Go p.tables e below P (T97.setTop (mkF m 194 #[.val (.int p0), .val (.int p1), .val (.ref b1), .val (.int hh), .val (.ref b17), .val (.ref b31), .val (.ref b38), .unset, .unset, .unset, .unset] [(.ref b97), (.ref b90), (.ref b38), (.ref b75), (.ref b75)]))
  have c106 := (c104.ext E97)
  have c107 := ((F81.ext E90).ext E97)
  have c108 := ((F82.ext E90).ext E97)
  have c109 := ((F83.ext E90).ext E97)
  have c110 := ((F84.ext E90).ext E97)
  have c111 := ((F85.ext E90).ext E97)
  have c112 := ((F86.ext E90).ext E97)
  have c113 := ((F87.ext E90).ext E97)
  have c114 := ((F88.ext E90).ext E97)
  have c115 := ((F89.ext E90).ext E97)
  have c116 := (c101.ext E97)
  have c117 := (((q60_1.ext E75).ext E90).ext E97)
  have c118 := (c99.ext E97)
  have c119 := (((q60_2.ext E75).ext E90).ext E97)
  have c120 := (c100.ext E97)
  have c121 := (((q60_3.ext E75).ext E90).ext E97)
  have c122 := (((q60_4.ext E75).ext E90).ext E97)
  have c123 := (V90.ext E97)
  have c124 := (c98.ext E97)
  have c125 := (c102.ext E97)
  have c126 := (c103.ext E97)
  obtain ⟨_, _, ⟨T105, L105, k105, n105⟩, -, X105, ⟨Lc105, hQ105, l105, y105, z105⟩, st105⟩ := X97.specialBack hx (y := (⟨"com/example/parametree/parametree/MeanTree", "<init>", "(Lcom/example/parametree/parametree/Tree;[D[D)V"⟩ : MethodName)) rfl hown (mvT hZ (hw _ (List.mem_of_getElem? (i := 51) rfl))) (mvT hZ (hw _ (List.mem_of_getElem? (i := 52) rfl))) (mvT hZ (hw _ (List.mem_of_getElem? (i := 53) rfl))) (by decide) (backOf (W := 1) (rm_min l Z a0 hw [] w_EM S_EM X_EM b75 b38 b90 b97 b17 k17 (-1 : Int32) (0 : Int32) (own_p2 (1 : Int32) d2) (own_p3 (1 : Int32) d2 d3) (own_p4 (1 : Int32) d2 d3 d4) b31 k31 b1 hh k90 k97 h97 n0 O97 c106 c107 c108 c109 c110 c111 c112 c113 c114 c115 g_b75 c116 c117 c118 c119 c120 c121 c122 c123 V97 hsn hsc) hZ (hw _ (List.mem_of_getElem? (i := 53) rfl)) (hw _ (List.mem_of_getElem? (i := 49) rfl)) (by decide) (by decide)) (g := (mkF m 194 #[.val (.int p0), .val (.int p1), .val (.ref b1), .val (.int hh), .val (.ref b17), .val (.ref b31), .val (.ref b38), .unset, .unset, .unset, .unset] [(.ref b97), (.ref b90), (.ref b38), (.ref b75), (.ref b75)])) rfl (by rw [hml]; rfl) (Steps.refl _) (a := b75) (argsL := [(.ref b38), (.ref b90), (.ref b97)]) (rest := [(.ref b75)]) (lenOf own_pd7 rfl) rfl (by show 2 * 0 + _ ≤ _; exact Nat.le_of_eq rfl) (hb hby at_194) (fun _ _ => ⟨rfl, e97, (by decide : 9 + 6 ≤ _), (by decide : 53 + 37 ≤ _)⟩)
  dsimp only [Pt.U, Pt.locs, Pt.cells, Pt.slots] at X105 l105 y105 z105 st105 hQ105
  subst y105 z105
  refine Go.tr st105 ?_
  obtain ⟨rfl, N105q, K105q, q105_0, q105_1, q105_2, q105_3⟩ := hQ105
  have N105 : Fr n0 L105 := by rw [l105]; exact Fr.app N60 N105q
  have O105 := O97.keep K105q (allS g_b75 all0)
  have K105 : Keep h0 T105.heap [] := K97.trans K105q (allS (Or.inr sz_b75) all0)
  show Go p.tables e below P (T105.setTop (mkF m 197 #[.val (.int p0), .val (.int p1), .val (.ref b1), .val (.int hh), .val (.ref b17), .val (.ref b31), .val (.ref b38), .unset, .unset, .unset, .unset] [(.ref b75)]))
  refine Go.st (fun _ => XS.astore X105.here hx rfl (hb hby at_197) rfl rfl (l' := #[.val (.int p0), .val (.int p1), .val (.ref b1), .val (.int hh), .val (.ref b17), .val (.ref b31), .val (.ref b38), .val (.ref b75), .unset, .unset, .unset]) rfl) ?_
  show Go p.tables e below P (T105.setTop (mkF m 199 #[.val (.int p0), .val (.int p1), .val (.ref b1), .val (.int hh), .val (.ref b17), .val (.ref b31), .val (.ref b38), .val (.ref b75), .unset, .unset, .unset] []))
  refine Go.st (fun _ => XS.iconst X105.here hx rfl (hb hby at_199)) ?_
  show Go p.tables e below P (T105.setTop (mkF m 200 #[.val (.int p0), .val (.int p1), .val (.ref b1), .val (.int hh), .val (.ref b17), .val (.ref b31), .val (.ref b38), .val (.ref b75), .unset, .unset, .unset] [(.int (5 : Int32))]))
  have c128 := (c124.keep K105q (ninS (Nat.ne_of_lt (Nat.lt_of_lt_of_le c76.lt (Nat.le_of_eq g75.symm))) nin0))
  have c129 := (c118.keep K105q (ninS (Nat.ne_of_lt (Nat.lt_of_lt_of_le c77.lt (Nat.le_of_eq g75.symm))) nin0))
  have c130 := (c120.keep K105q (ninS (Nat.ne_of_lt (Nat.lt_of_lt_of_le c78.lt (Nat.le_of_eq g75.symm))) nin0))
  have c131 := (c116.keep K105q)
  have c132 := (c125.keep K105q (ninS (Nat.ne_of_lt (Nat.lt_of_lt_of_le c79.lt (Nat.le_of_eq g75.symm))) nin0))
  have c133 := (c126.keep K105q (ninS (Nat.ne_of_lt (Nat.lt_of_lt_of_le c80.lt (Nat.le_of_eq g75.symm))) nin0))
  have c134 := (c123.keep K105q (ninS (Ne.symm (Nat.ne_of_lt (Nat.lt_of_lt_of_le A75.lt (Nat.le_of_eq g90.symm)))) nin0))
  have c135 := (V97.keep K105q (ninS (Ne.symm (Nat.ne_of_lt (Nat.lt_of_lt_of_le c104.lt (Nat.le_of_eq g97.symm)))) nin0))
  obtain ⟨T127, h127, k127, X127, e127, E127, A127, st127⟩ := newP X105 hx hZ (hw _ (List.mem_of_getElem? (i := 80) rfl)) rfl (g := (mkF m 200 #[.val (.int p0), .val (.int p1), .val (.ref b1), .val (.int hh), .val (.ref b17), .val (.ref b31), .val (.ref b38), .val (.ref b75), .unset, .unset, .unset] [(.int (5 : Int32))])) rfl (hb hby at_200) rfl (by decide) (cap := 5) (by decide) (by decide) (by decide) (by decide)
  obtain ⟨b127, g127⟩ : ∃ z, z = T105.heap.size := ⟨_, rfl⟩
  rw [← g127] at A127 st127
  refine Go.st st127 ?_
  have g_b127 : n0 ≤ b127 := Nat.le_trans (own_oldsz O105) (Nat.le_of_eq g127.symm)
  have sz_b127 : h0.size ≤ b127 := Nat.le_trans K105.1 (Nat.le_of_eq g127.symm)
  have K127 : Keep h0 h127 [] := K105.ext E127
  have O127 := O105.ext E127
  have V127 : Arv Z h127 b127 k127 .boolean (5 : Int32) [(.int (0 : Int32)), (.int (0 : Int32)), (.int (0 : Int32)), (.int (0 : Int32)), (.int (0 : Int32))] (.int (0 : Int32)) := (Arv.new A127 (by decide)).pad (pad_rep [] (.int (0 : Int32)) 5)
  show Go p.tables e below P (T127.setTop (mkF m 202 #[.val (.int p0), .val (.int p1), .val (.ref b1), .val (.int hh), .val (.ref b17), .val (.ref b31), .val (.ref b38), .val (.ref b75), .unset, .unset, .unset] [(.ref b127)]))
  refine Go.st (fun _ => XS.astore X127.here hx rfl (hb hby at_202) rfl rfl (l' := #[.val (.int p0), .val (.int p1), .val (.ref b1), .val (.int hh), .val (.ref b17), .val (.ref b31), .val (.ref b38), .val (.ref b75), .val (.ref b127), .unset, .unset]) rfl) ?_
  show Go p.tables e below P (T127.setTop (mkF m 204 #[.val (.int p0), .val (.int p1), .val (.ref b1), .val (.int hh), .val (.ref b17), .val (.ref b31), .val (.ref b38), .val (.ref b75), .val (.ref b127), .unset, .unset] []))
  refine Go.st (fun _ => XS.aload X127.here hx rfl (hb hby at_204) rfl rfl) ?_
  show Go p.tables e below P (T127.setTop (mkF m 206 #[.val (.int p0), .val (.int p1), .val (.ref b1), .val (.int hh), .val (.ref b17), .val (.ref b31), .val (.ref b38), .val (.ref b75), .val (.ref b127), .unset, .unset] [(.ref b127)]))
  refine Go.st (fun _ => XS.iconst X127.here hx rfl (hb hby at_206)) ?_
  show Go p.tables e below P (T127.setTop (mkF m 207 #[.val (.int p0), .val (.int p1), .val (.ref b1), .val (.int hh), .val (.ref b17), .val (.ref b31), .val (.ref b38), .val (.ref b75), .val (.ref b127), .unset, .unset] [(.int (0 : Int32)), (.ref b127)]))
  refine Go.st (fun _ => XS.iloadN X127.here hx rfl (hb hby at_207) rfl) ?_
  show Go p.tables e below P (T127.setTop (mkF m 208 #[.val (.int p0), .val (.int p1), .val (.ref b1), .val (.int hh), .val (.ref b17), .val (.ref b31), .val (.ref b38), .val (.ref b75), .val (.ref b127), .unset, .unset] [(.int p1), (.int (0 : Int32)), (.ref b127)]))
  refine Go.st (fun _ => XS.iconst X127.here hx rfl (hb hby at_208)) ?_
  show Go p.tables e below P (T127.setTop (mkF m 209 #[.val (.int p0), .val (.int p1), .val (.ref b1), .val (.int hh), .val (.ref b17), .val (.ref b31), .val (.ref b38), .val (.ref b75), .val (.ref b127), .unset, .unset] [(.int (1 : Int32)), (.int p1), (.int (0 : Int32)), (.ref b127)]))
  refine Go.st (fun _ => XS.iand X127.here hx rfl (hb hby at_209) rfl) ?_
  show Go p.tables e below P (T127.setTop (mkF m 210 #[.val (.int p0), .val (.int p1), .val (.ref b1), .val (.int hh), .val (.ref b17), .val (.ref b31), .val (.ref b38), .val (.ref b75), .val (.ref b127), .unset, .unset] [(.int (p1 &&& (1 : Int32))), (.int (0 : Int32)), (.ref b127)]))
  have J136 : ∀ (jb0 : Int32), (jb0 = 0 ∨ jb0 = 1) → Go p.tables e below P (T127.setTop (mkF m 218 #[.val (.int p0), .val (.int p1), .val (.ref b1), .val (.int hh), .val (.ref b17), .val (.ref b31), .val (.ref b38), .val (.ref b75), .val (.ref b127), .unset, .unset] [(.int jb0), (.int (0 : Int32)), (.ref b127)])) := by
    intro jb0 hjJ136
    show Go p.tables e below P (T127.setTop (mkF m 218 #[.val (.int p0), .val (.int p1), .val (.ref b1), .val (.int hh), .val (.ref b17), .val (.ref b31), .val (.ref b38), .val (.ref b75), .val (.ref b127), .unset, .unset] [(.int jb0), (.int (0 : Int32)), (.ref b127)]))
    have hjb0 := hjJ136
    obtain ⟨T137, h137, X137, e137, W137, V137, st137⟩ := own_stZ X127 hx hZ e127 V127 (j := (0 : Int32)) (i := 0) (by decide) (by decide) (Nat.le_of_ble_eq_true rfl) (g := (mkF m 218 #[.val (.int p0), .val (.int p1), .val (.ref b1), .val (.int hh), .val (.ref b17), .val (.ref b31), .val (.ref b38), .val (.ref b75), .val (.ref b127), .unset, .unset] [(.int jb0), (.int (0 : Int32)), (.ref b127)])) rfl rfl (hb hby at_218)
    refine Go.st st137 ?_
    rw [own_narZ hjb0] at V137
    have K137 : Keep h0 h137 [] := K127.wr W137 (Or.inr sz_b127)
    have O137 := O127.wr W137 g_b127
    have N137 := Fr.snoc X137 N105 g_b127
    have V137' : Arv Z h137 b127 k127 .boolean (5 : Int32) [(.int jb0), (.int (0 : Int32)), (.int (0 : Int32)), (.int (0 : Int32)), (.int (0 : Int32))] (.int (0 : Int32)) := V137
    show Go p.tables e below P (T137.setTop (mkF m 219 #[.val (.int p0), .val (.int p1), .val (.ref b1), .val (.int hh), .val (.ref b17), .val (.ref b31), .val (.ref b38), .val (.ref b75), .val (.ref b127), .unset, .unset] []))
    refine Go.st (fun _ => XS.aload X137.here hx rfl (hb hby at_219) rfl rfl) ?_
    show Go p.tables e below P (T137.setTop (mkF m 221 #[.val (.int p0), .val (.int p1), .val (.ref b1), .val (.int hh), .val (.ref b17), .val (.ref b31), .val (.ref b38), .val (.ref b75), .val (.ref b127), .unset, .unset] [(.ref b127)]))
    refine Go.st (fun _ => XS.iconst X137.here hx rfl (hb hby at_221)) ?_
    show Go p.tables e below P (T137.setTop (mkF m 222 #[.val (.int p0), .val (.int p1), .val (.ref b1), .val (.int hh), .val (.ref b17), .val (.ref b31), .val (.ref b38), .val (.ref b75), .val (.ref b127), .unset, .unset] [(.int (1 : Int32)), (.ref b127)]))
    refine Go.st (fun _ => XS.iloadN X137.here hx rfl (hb hby at_222) rfl) ?_
    show Go p.tables e below P (T137.setTop (mkF m 223 #[.val (.int p0), .val (.int p1), .val (.ref b1), .val (.int hh), .val (.ref b17), .val (.ref b31), .val (.ref b38), .val (.ref b75), .val (.ref b127), .unset, .unset] [(.int p1), (.int (1 : Int32)), (.ref b127)]))
    refine Go.st (fun _ => XS.iconst X137.here hx rfl (hb hby at_223)) ?_
    show Go p.tables e below P (T137.setTop (mkF m 224 #[.val (.int p0), .val (.int p1), .val (.ref b1), .val (.int hh), .val (.ref b17), .val (.ref b31), .val (.ref b38), .val (.ref b75), .val (.ref b127), .unset, .unset] [(.int (1 : Int32)), (.int p1), (.int (1 : Int32)), (.ref b127)]))
    refine Go.st (fun _ => XS.iushr X137.here hx rfl (hb hby at_224) rfl) ?_
    show Go p.tables e below P (T137.setTop (mkF m 225 #[.val (.int p0), .val (.int p1), .val (.ref b1), .val (.int hh), .val (.ref b17), .val (.ref b31), .val (.ref b38), .val (.ref b75), .val (.ref b127), .unset, .unset] [(.int ((p1.toUInt32 >>> ((1 : Int32) &&& 31).toUInt32).toInt32)), (.int (1 : Int32)), (.ref b127)]))
    refine Go.st (fun _ => XS.iconst X137.here hx rfl (hb hby at_225)) ?_
    show Go p.tables e below P (T137.setTop (mkF m 226 #[.val (.int p0), .val (.int p1), .val (.ref b1), .val (.int hh), .val (.ref b17), .val (.ref b31), .val (.ref b38), .val (.ref b75), .val (.ref b127), .unset, .unset] [(.int (1 : Int32)), (.int ((p1.toUInt32 >>> ((1 : Int32) &&& 31).toUInt32).toInt32)), (.int (1 : Int32)), (.ref b127)]))
    refine Go.st (fun _ => XS.iand X137.here hx rfl (hb hby at_226) rfl) ?_
    show Go p.tables e below P (T137.setTop (mkF m 227 #[.val (.int p0), .val (.int p1), .val (.ref b1), .val (.int hh), .val (.ref b17), .val (.ref b31), .val (.ref b38), .val (.ref b75), .val (.ref b127), .unset, .unset] [(.int (((p1.toUInt32 >>> ((1 : Int32) &&& 31).toUInt32).toInt32) &&& (1 : Int32))), (.int (1 : Int32)), (.ref b127)]))
    have J138 : ∀ (jb1 : Int32), (jb1 = 0 ∨ jb1 = 1) → Go p.tables e below P (T137.setTop (mkF m 235 #[.val (.int p0), .val (.int p1), .val (.ref b1), .val (.int hh), .val (.ref b17), .val (.ref b31), .val (.ref b38), .val (.ref b75), .val (.ref b127), .unset, .unset] [(.int jb1), (.int (1 : Int32)), (.ref b127)])) := by
      intro jb1 hjJ138
      show Go p.tables e below P (T137.setTop (mkF m 235 #[.val (.int p0), .val (.int p1), .val (.ref b1), .val (.int hh), .val (.ref b17), .val (.ref b31), .val (.ref b38), .val (.ref b75), .val (.ref b127), .unset, .unset] [(.int jb1), (.int (1 : Int32)), (.ref b127)]))
      have hjb1 := hjJ138
      obtain ⟨T139, h139, X139, e139, W139, V139, st139⟩ := own_stZ X137 hx hZ e137 V137' (j := (1 : Int32)) (i := 1) (by decide) (by decide) (Nat.le_of_ble_eq_true rfl) (g := (mkF m 235 #[.val (.int p0), .val (.int p1), .val (.ref b1), .val (.int hh), .val (.ref b17), .val (.ref b31), .val (.ref b38), .val (.ref b75), .val (.ref b127), .unset, .unset] [(.int jb1), (.int (1 : Int32)), (.ref b127)])) rfl rfl (hb hby at_235)
      refine Go.st st139 ?_
      rw [own_narZ hjb1] at V139
      have K139 : Keep h0 h139 [] := K137.wr W139 (Or.inr sz_b127)
      have O139 := O137.wr W139 g_b127
      have N139 := Fr.snoc X139 N137 g_b127
      have V139' : Arv Z h139 b127 k127 .boolean (5 : Int32) [(.int jb0), (.int jb1), (.int (0 : Int32)), (.int (0 : Int32)), (.int (0 : Int32))] (.int (0 : Int32)) := V139
      show Go p.tables e below P (T139.setTop (mkF m 236 #[.val (.int p0), .val (.int p1), .val (.ref b1), .val (.int hh), .val (.ref b17), .val (.ref b31), .val (.ref b38), .val (.ref b75), .val (.ref b127), .unset, .unset] []))
      refine Go.st (fun _ => XS.aload X139.here hx rfl (hb hby at_236) rfl rfl) ?_
      show Go p.tables e below P (T139.setTop (mkF m 238 #[.val (.int p0), .val (.int p1), .val (.ref b1), .val (.int hh), .val (.ref b17), .val (.ref b31), .val (.ref b38), .val (.ref b75), .val (.ref b127), .unset, .unset] [(.ref b127)]))
      refine Go.st (fun _ => XS.iconst X139.here hx rfl (hb hby at_238)) ?_
      show Go p.tables e below P (T139.setTop (mkF m 239 #[.val (.int p0), .val (.int p1), .val (.ref b1), .val (.int hh), .val (.ref b17), .val (.ref b31), .val (.ref b38), .val (.ref b75), .val (.ref b127), .unset, .unset] [(.int (2 : Int32)), (.ref b127)]))
      refine Go.st (fun _ => XS.iloadN X139.here hx rfl (hb hby at_239) rfl) ?_
      show Go p.tables e below P (T139.setTop (mkF m 240 #[.val (.int p0), .val (.int p1), .val (.ref b1), .val (.int hh), .val (.ref b17), .val (.ref b31), .val (.ref b38), .val (.ref b75), .val (.ref b127), .unset, .unset] [(.int p1), (.int (2 : Int32)), (.ref b127)]))
      refine Go.st (fun _ => XS.iconst X139.here hx rfl (hb hby at_240)) ?_
      show Go p.tables e below P (T139.setTop (mkF m 241 #[.val (.int p0), .val (.int p1), .val (.ref b1), .val (.int hh), .val (.ref b17), .val (.ref b31), .val (.ref b38), .val (.ref b75), .val (.ref b127), .unset, .unset] [(.int (2 : Int32)), (.int p1), (.int (2 : Int32)), (.ref b127)]))
      refine Go.st (fun _ => XS.iushr X139.here hx rfl (hb hby at_241) rfl) ?_
      show Go p.tables e below P (T139.setTop (mkF m 242 #[.val (.int p0), .val (.int p1), .val (.ref b1), .val (.int hh), .val (.ref b17), .val (.ref b31), .val (.ref b38), .val (.ref b75), .val (.ref b127), .unset, .unset] [(.int ((p1.toUInt32 >>> ((2 : Int32) &&& 31).toUInt32).toInt32)), (.int (2 : Int32)), (.ref b127)]))
      refine Go.st (fun _ => XS.iconst X139.here hx rfl (hb hby at_242)) ?_
      show Go p.tables e below P (T139.setTop (mkF m 243 #[.val (.int p0), .val (.int p1), .val (.ref b1), .val (.int hh), .val (.ref b17), .val (.ref b31), .val (.ref b38), .val (.ref b75), .val (.ref b127), .unset, .unset] [(.int (1 : Int32)), (.int ((p1.toUInt32 >>> ((2 : Int32) &&& 31).toUInt32).toInt32)), (.int (2 : Int32)), (.ref b127)]))
      refine Go.st (fun _ => XS.iand X139.here hx rfl (hb hby at_243) rfl) ?_
      show Go p.tables e below P (T139.setTop (mkF m 244 #[.val (.int p0), .val (.int p1), .val (.ref b1), .val (.int hh), .val (.ref b17), .val (.ref b31), .val (.ref b38), .val (.ref b75), .val (.ref b127), .unset, .unset] [(.int (((p1.toUInt32 >>> ((2 : Int32) &&& 31).toUInt32).toInt32) &&& (1 : Int32))), (.int (2 : Int32)), (.ref b127)]))
      have J140 : ∀ (jb2 : Int32), (jb2 = 0 ∨ jb2 = 1) → Go p.tables e below P (T139.setTop (mkF m 252 #[.val (.int p0), .val (.int p1), .val (.ref b1), .val (.int hh), .val (.ref b17), .val (.ref b31), .val (.ref b38), .val (.ref b75), .val (.ref b127), .unset, .unset] [(.int jb2), (.int (2 : Int32)), (.ref b127)])) := by
        intro jb2 hjJ140
        show Go p.tables e below P (T139.setTop (mkF m 252 #[.val (.int p0), .val (.int p1), .val (.ref b1), .val (.int hh), .val (.ref b17), .val (.ref b31), .val (.ref b38), .val (.ref b75), .val (.ref b127), .unset, .unset] [(.int jb2), (.int (2 : Int32)), (.ref b127)]))
        have hjb2 := hjJ140
        obtain ⟨T141, h141, X141, e141, W141, V141, st141⟩ := own_stZ X139 hx hZ e139 V139' (j := (2 : Int32)) (i := 2) (by decide) (by decide) (Nat.le_of_ble_eq_true rfl) (g := (mkF m 252 #[.val (.int p0), .val (.int p1), .val (.ref b1), .val (.int hh), .val (.ref b17), .val (.ref b31), .val (.ref b38), .val (.ref b75), .val (.ref b127), .unset, .unset] [(.int jb2), (.int (2 : Int32)), (.ref b127)])) rfl rfl (hb hby at_252)
        refine Go.st st141 ?_
        rw [own_narZ hjb2] at V141
        have K141 : Keep h0 h141 [] := K139.wr W141 (Or.inr sz_b127)
        have O141 := O139.wr W141 g_b127
        have N141 := Fr.snoc X141 N139 g_b127
        have V141' : Arv Z h141 b127 k127 .boolean (5 : Int32) [(.int jb0), (.int jb1), (.int jb2), (.int (0 : Int32)), (.int (0 : Int32))] (.int (0 : Int32)) := V141
        show Go p.tables e below P (T141.setTop (mkF m 253 #[.val (.int p0), .val (.int p1), .val (.ref b1), .val (.int hh), .val (.ref b17), .val (.ref b31), .val (.ref b38), .val (.ref b75), .val (.ref b127), .unset, .unset] []))
        refine Go.st (fun _ => XS.aload X141.here hx rfl (hb hby at_253) rfl rfl) ?_
        show Go p.tables e below P (T141.setTop (mkF m 255 #[.val (.int p0), .val (.int p1), .val (.ref b1), .val (.int hh), .val (.ref b17), .val (.ref b31), .val (.ref b38), .val (.ref b75), .val (.ref b127), .unset, .unset] [(.ref b127)]))
        refine Go.st (fun _ => XS.iconst X141.here hx rfl (hb hby at_255)) ?_
        show Go p.tables e below P (T141.setTop (mkF m 256 #[.val (.int p0), .val (.int p1), .val (.ref b1), .val (.int hh), .val (.ref b17), .val (.ref b31), .val (.ref b38), .val (.ref b75), .val (.ref b127), .unset, .unset] [(.int (3 : Int32)), (.ref b127)]))
        refine Go.st (fun _ => XS.iloadN X141.here hx rfl (hb hby at_256) rfl) ?_
        show Go p.tables e below P (T141.setTop (mkF m 257 #[.val (.int p0), .val (.int p1), .val (.ref b1), .val (.int hh), .val (.ref b17), .val (.ref b31), .val (.ref b38), .val (.ref b75), .val (.ref b127), .unset, .unset] [(.int p1), (.int (3 : Int32)), (.ref b127)]))
        refine Go.st (fun _ => XS.iconst X141.here hx rfl (hb hby at_257)) ?_
        show Go p.tables e below P (T141.setTop (mkF m 258 #[.val (.int p0), .val (.int p1), .val (.ref b1), .val (.int hh), .val (.ref b17), .val (.ref b31), .val (.ref b38), .val (.ref b75), .val (.ref b127), .unset, .unset] [(.int (3 : Int32)), (.int p1), (.int (3 : Int32)), (.ref b127)]))
        refine Go.st (fun _ => XS.iushr X141.here hx rfl (hb hby at_258) rfl) ?_
        show Go p.tables e below P (T141.setTop (mkF m 259 #[.val (.int p0), .val (.int p1), .val (.ref b1), .val (.int hh), .val (.ref b17), .val (.ref b31), .val (.ref b38), .val (.ref b75), .val (.ref b127), .unset, .unset] [(.int ((p1.toUInt32 >>> ((3 : Int32) &&& 31).toUInt32).toInt32)), (.int (3 : Int32)), (.ref b127)]))
        refine Go.st (fun _ => XS.iconst X141.here hx rfl (hb hby at_259)) ?_
        show Go p.tables e below P (T141.setTop (mkF m 260 #[.val (.int p0), .val (.int p1), .val (.ref b1), .val (.int hh), .val (.ref b17), .val (.ref b31), .val (.ref b38), .val (.ref b75), .val (.ref b127), .unset, .unset] [(.int (1 : Int32)), (.int ((p1.toUInt32 >>> ((3 : Int32) &&& 31).toUInt32).toInt32)), (.int (3 : Int32)), (.ref b127)]))
        refine Go.st (fun _ => XS.iand X141.here hx rfl (hb hby at_260) rfl) ?_
        show Go p.tables e below P (T141.setTop (mkF m 261 #[.val (.int p0), .val (.int p1), .val (.ref b1), .val (.int hh), .val (.ref b17), .val (.ref b31), .val (.ref b38), .val (.ref b75), .val (.ref b127), .unset, .unset] [(.int (((p1.toUInt32 >>> ((3 : Int32) &&& 31).toUInt32).toInt32) &&& (1 : Int32))), (.int (3 : Int32)), (.ref b127)]))
        have J142 : ∀ (jb3 : Int32), (jb3 = 0 ∨ jb3 = 1) → Go p.tables e below P (T141.setTop (mkF m 269 #[.val (.int p0), .val (.int p1), .val (.ref b1), .val (.int hh), .val (.ref b17), .val (.ref b31), .val (.ref b38), .val (.ref b75), .val (.ref b127), .unset, .unset] [(.int jb3), (.int (3 : Int32)), (.ref b127)])) := by
          intro jb3 hjJ142
          show Go p.tables e below P (T141.setTop (mkF m 269 #[.val (.int p0), .val (.int p1), .val (.ref b1), .val (.int hh), .val (.ref b17), .val (.ref b31), .val (.ref b38), .val (.ref b75), .val (.ref b127), .unset, .unset] [(.int jb3), (.int (3 : Int32)), (.ref b127)]))
          have hjb3 := hjJ142
          obtain ⟨T143, h143, X143, e143, W143, V143, st143⟩ := own_stZ X141 hx hZ e141 V141' (j := (3 : Int32)) (i := 3) (by decide) (by decide) (Nat.le_of_ble_eq_true rfl) (g := (mkF m 269 #[.val (.int p0), .val (.int p1), .val (.ref b1), .val (.int hh), .val (.ref b17), .val (.ref b31), .val (.ref b38), .val (.ref b75), .val (.ref b127), .unset, .unset] [(.int jb3), (.int (3 : Int32)), (.ref b127)])) rfl rfl (hb hby at_269)
          refine Go.st st143 ?_
          rw [own_narZ hjb3] at V143
          have K143 : Keep h0 h143 [] := K141.wr W143 (Or.inr sz_b127)
          have O143 := O141.wr W143 g_b127
          have N143 := Fr.snoc X143 N141 g_b127
          have V143' : Arv Z h143 b127 k127 .boolean (5 : Int32) [(.int jb0), (.int jb1), (.int jb2), (.int jb3), (.int (0 : Int32))] (.int (0 : Int32)) := V143
          show Go p.tables e below P (T143.setTop (mkF m 270 #[.val (.int p0), .val (.int p1), .val (.ref b1), .val (.int hh), .val (.ref b17), .val (.ref b31), .val (.ref b38), .val (.ref b75), .val (.ref b127), .unset, .unset] []))
          refine Go.st (fun _ => XS.aload X143.here hx rfl (hb hby at_270) rfl rfl) ?_
          show Go p.tables e below P (T143.setTop (mkF m 272 #[.val (.int p0), .val (.int p1), .val (.ref b1), .val (.int hh), .val (.ref b17), .val (.ref b31), .val (.ref b38), .val (.ref b75), .val (.ref b127), .unset, .unset] [(.ref b127)]))
          refine Go.st (fun _ => XS.iconst X143.here hx rfl (hb hby at_272)) ?_
          show Go p.tables e below P (T143.setTop (mkF m 273 #[.val (.int p0), .val (.int p1), .val (.ref b1), .val (.int hh), .val (.ref b17), .val (.ref b31), .val (.ref b38), .val (.ref b75), .val (.ref b127), .unset, .unset] [(.int (4 : Int32)), (.ref b127)]))
          refine Go.st (fun _ => XS.iloadN X143.here hx rfl (hb hby at_273) rfl) ?_
          show Go p.tables e below P (T143.setTop (mkF m 274 #[.val (.int p0), .val (.int p1), .val (.ref b1), .val (.int hh), .val (.ref b17), .val (.ref b31), .val (.ref b38), .val (.ref b75), .val (.ref b127), .unset, .unset] [(.int p1), (.int (4 : Int32)), (.ref b127)]))
          refine Go.st (fun _ => XS.iconst X143.here hx rfl (hb hby at_274)) ?_
          show Go p.tables e below P (T143.setTop (mkF m 275 #[.val (.int p0), .val (.int p1), .val (.ref b1), .val (.int hh), .val (.ref b17), .val (.ref b31), .val (.ref b38), .val (.ref b75), .val (.ref b127), .unset, .unset] [(.int (4 : Int32)), (.int p1), (.int (4 : Int32)), (.ref b127)]))
          refine Go.st (fun _ => XS.iushr X143.here hx rfl (hb hby at_275) rfl) ?_
          show Go p.tables e below P (T143.setTop (mkF m 276 #[.val (.int p0), .val (.int p1), .val (.ref b1), .val (.int hh), .val (.ref b17), .val (.ref b31), .val (.ref b38), .val (.ref b75), .val (.ref b127), .unset, .unset] [(.int ((p1.toUInt32 >>> ((4 : Int32) &&& 31).toUInt32).toInt32)), (.int (4 : Int32)), (.ref b127)]))
          refine Go.st (fun _ => XS.iconst X143.here hx rfl (hb hby at_276)) ?_
          show Go p.tables e below P (T143.setTop (mkF m 277 #[.val (.int p0), .val (.int p1), .val (.ref b1), .val (.int hh), .val (.ref b17), .val (.ref b31), .val (.ref b38), .val (.ref b75), .val (.ref b127), .unset, .unset] [(.int (1 : Int32)), (.int ((p1.toUInt32 >>> ((4 : Int32) &&& 31).toUInt32).toInt32)), (.int (4 : Int32)), (.ref b127)]))
          refine Go.st (fun _ => XS.iand X143.here hx rfl (hb hby at_277) rfl) ?_
          show Go p.tables e below P (T143.setTop (mkF m 278 #[.val (.int p0), .val (.int p1), .val (.ref b1), .val (.int hh), .val (.ref b17), .val (.ref b31), .val (.ref b38), .val (.ref b75), .val (.ref b127), .unset, .unset] [(.int (((p1.toUInt32 >>> ((4 : Int32) &&& 31).toUInt32).toInt32) &&& (1 : Int32))), (.int (4 : Int32)), (.ref b127)]))
          have J144 : ∀ (jb4 : Int32), (jb4 = 0 ∨ jb4 = 1) → Go p.tables e below P (T143.setTop (mkF m 286 #[.val (.int p0), .val (.int p1), .val (.ref b1), .val (.int hh), .val (.ref b17), .val (.ref b31), .val (.ref b38), .val (.ref b75), .val (.ref b127), .unset, .unset] [(.int jb4), (.int (4 : Int32)), (.ref b127)])) := by
            intro jb4 hjJ144
            show Go p.tables e below P (T143.setTop (mkF m 286 #[.val (.int p0), .val (.int p1), .val (.ref b1), .val (.int hh), .val (.ref b17), .val (.ref b31), .val (.ref b38), .val (.ref b75), .val (.ref b127), .unset, .unset] [(.int jb4), (.int (4 : Int32)), (.ref b127)]))
            have hjb4 := hjJ144
            obtain ⟨T145, h145, X145, e145, W145, V145, st145⟩ := own_stZ X143 hx hZ e143 V143' (j := (4 : Int32)) (i := 4) (by decide) (by decide) (Nat.le_of_ble_eq_true rfl) (g := (mkF m 286 #[.val (.int p0), .val (.int p1), .val (.ref b1), .val (.int hh), .val (.ref b17), .val (.ref b31), .val (.ref b38), .val (.ref b75), .val (.ref b127), .unset, .unset] [(.int jb4), (.int (4 : Int32)), (.ref b127)])) rfl rfl (hb hby at_286)
            refine Go.st st145 ?_
            rw [own_narZ hjb4] at V145
            have K145 : Keep h0 h145 [] := K143.wr W145 (Or.inr sz_b127)
            have O145 := O143.wr W145 g_b127
            have N145 := Fr.snoc X145 N143 g_b127
            have V145' : Arv Z h145 b127 k127 .boolean (5 : Int32) [(.int jb0), (.int jb1), (.int jb2), (.int jb3), (.int jb4)] (.int (0 : Int32)) := V145
            show Go p.tables e below P (T145.setTop (mkF m 287 #[.val (.int p0), .val (.int p1), .val (.ref b1), .val (.int hh), .val (.ref b17), .val (.ref b31), .val (.ref b38), .val (.ref b75), .val (.ref b127), .unset, .unset] []))
            refine Go.st (fun _ => XS.iconst X145.here hx rfl (hb hby at_287)) ?_
            show Go p.tables e below P (T145.setTop (mkF m 288 #[.val (.int p0), .val (.int p1), .val (.ref b1), .val (.int hh), .val (.ref b17), .val (.ref b31), .val (.ref b38), .val (.ref b75), .val (.ref b127), .unset, .unset] [(.int (5 : Int32))]))
            have c147 := ((((((c128.ext E127).other W137 (Nat.ne_of_lt (Nat.lt_of_lt_of_le c128.lt (Nat.le_of_eq g127.symm)))).other W139 (Nat.ne_of_lt (Nat.lt_of_lt_of_le c128.lt (Nat.le_of_eq g127.symm)))).other W141 (Nat.ne_of_lt (Nat.lt_of_lt_of_le c128.lt (Nat.le_of_eq g127.symm)))).other W143 (Nat.ne_of_lt (Nat.lt_of_lt_of_le c128.lt (Nat.le_of_eq g127.symm)))).other W145 (Nat.ne_of_lt (Nat.lt_of_lt_of_le c128.lt (Nat.le_of_eq g127.symm))))
            have c148 := ((((((c129.ext E127).other W137 (Nat.ne_of_lt (Nat.lt_of_lt_of_le c129.lt (Nat.le_of_eq g127.symm)))).other W139 (Nat.ne_of_lt (Nat.lt_of_lt_of_le c129.lt (Nat.le_of_eq g127.symm)))).other W141 (Nat.ne_of_lt (Nat.lt_of_lt_of_le c129.lt (Nat.le_of_eq g127.symm)))).other W143 (Nat.ne_of_lt (Nat.lt_of_lt_of_le c129.lt (Nat.le_of_eq g127.symm)))).other W145 (Nat.ne_of_lt (Nat.lt_of_lt_of_le c129.lt (Nat.le_of_eq g127.symm))))
            have c149 := ((((((c130.ext E127).other W137 (Nat.ne_of_lt (Nat.lt_of_lt_of_le c130.lt (Nat.le_of_eq g127.symm)))).other W139 (Nat.ne_of_lt (Nat.lt_of_lt_of_le c130.lt (Nat.le_of_eq g127.symm)))).other W141 (Nat.ne_of_lt (Nat.lt_of_lt_of_le c130.lt (Nat.le_of_eq g127.symm)))).other W143 (Nat.ne_of_lt (Nat.lt_of_lt_of_le c130.lt (Nat.le_of_eq g127.symm)))).other W145 (Nat.ne_of_lt (Nat.lt_of_lt_of_le c130.lt (Nat.le_of_eq g127.symm))))
            have c150 := ((((((c131.ext E127).wr W137).wr W139).wr W141).wr W143).wr W145)
            have c151 := ((((((c132.ext E127).other W137 (Nat.ne_of_lt (Nat.lt_of_lt_of_le c132.lt (Nat.le_of_eq g127.symm)))).other W139 (Nat.ne_of_lt (Nat.lt_of_lt_of_le c132.lt (Nat.le_of_eq g127.symm)))).other W141 (Nat.ne_of_lt (Nat.lt_of_lt_of_le c132.lt (Nat.le_of_eq g127.symm)))).other W143 (Nat.ne_of_lt (Nat.lt_of_lt_of_le c132.lt (Nat.le_of_eq g127.symm)))).other W145 (Nat.ne_of_lt (Nat.lt_of_lt_of_le c132.lt (Nat.le_of_eq g127.symm))))
            have c152 := ((((((c133.ext E127).other W137 (Nat.ne_of_lt (Nat.lt_of_lt_of_le c133.lt (Nat.le_of_eq g127.symm)))).other W139 (Nat.ne_of_lt (Nat.lt_of_lt_of_le c133.lt (Nat.le_of_eq g127.symm)))).other W141 (Nat.ne_of_lt (Nat.lt_of_lt_of_le c133.lt (Nat.le_of_eq g127.symm)))).other W143 (Nat.ne_of_lt (Nat.lt_of_lt_of_le c133.lt (Nat.le_of_eq g127.symm)))).other W145 (Nat.ne_of_lt (Nat.lt_of_lt_of_le c133.lt (Nat.le_of_eq g127.symm))))
            have c153 := ((((((q105_0.ext E127).wr W137).wr W139).wr W141).wr W143).wr W145)
            have c154 := ((((((c134.ext E127).other W137 (Nat.ne_of_lt (Nat.lt_of_lt_of_le c134.lt (Nat.le_of_eq g127.symm)))).other W139 (Nat.ne_of_lt (Nat.lt_of_lt_of_le c134.lt (Nat.le_of_eq g127.symm)))).other W141 (Nat.ne_of_lt (Nat.lt_of_lt_of_le c134.lt (Nat.le_of_eq g127.symm)))).other W143 (Nat.ne_of_lt (Nat.lt_of_lt_of_le c134.lt (Nat.le_of_eq g127.symm)))).other W145 (Nat.ne_of_lt (Nat.lt_of_lt_of_le c134.lt (Nat.le_of_eq g127.symm))))
            have c155 := ((((((c135.ext E127).other W137 (Nat.ne_of_lt (Nat.lt_of_lt_of_le c135.lt (Nat.le_of_eq g127.symm)))).other W139 (Nat.ne_of_lt (Nat.lt_of_lt_of_le c135.lt (Nat.le_of_eq g127.symm)))).other W141 (Nat.ne_of_lt (Nat.lt_of_lt_of_le c135.lt (Nat.le_of_eq g127.symm)))).other W143 (Nat.ne_of_lt (Nat.lt_of_lt_of_le c135.lt (Nat.le_of_eq g127.symm)))).other W145 (Nat.ne_of_lt (Nat.lt_of_lt_of_le c135.lt (Nat.le_of_eq g127.symm))))
            obtain ⟨T146, h146, k146, X146, e146, E146, A146, st146⟩ := newP X145 hx hZ (hw _ (List.mem_of_getElem? (i := 80) rfl)) e145 (g := (mkF m 288 #[.val (.int p0), .val (.int p1), .val (.ref b1), .val (.int hh), .val (.ref b17), .val (.ref b31), .val (.ref b38), .val (.ref b75), .val (.ref b127), .unset, .unset] [(.int (5 : Int32))])) rfl (hb hby at_288) rfl (by decide) (cap := 5) (by decide) (by decide) (by decide) (by decide)
            obtain ⟨b146, g146⟩ : ∃ z, z = h145.size := ⟨_, rfl⟩
            rw [← g146] at A146 st146
            refine Go.st st146 ?_
            have g_b146 : n0 ≤ b146 := Nat.le_trans (own_oldsz O145) (Nat.le_of_eq g146.symm)
            have sz_b146 : h0.size ≤ b146 := Nat.le_trans K145.1 (Nat.le_of_eq g146.symm)
            have K146 : Keep h0 h146 [] := K145.ext E146
            have O146 := O145.ext E146
            have V146 : Arv Z h146 b146 k146 .boolean (5 : Int32) [(.int (0 : Int32)), (.int (0 : Int32)), (.int (0 : Int32)), (.int (0 : Int32)), (.int (0 : Int32))] (.int (0 : Int32)) := (Arv.new A146 (by decide)).pad (pad_rep [] (.int (0 : Int32)) 5)
            show Go p.tables e below P (T146.setTop (mkF m 290 #[.val (.int p0), .val (.int p1), .val (.ref b1), .val (.int hh), .val (.ref b17), .val (.ref b31), .val (.ref b38), .val (.ref b75), .val (.ref b127), .unset, .unset] [(.ref b146)]))
            refine Go.st (fun _ => XS.astore X146.here hx rfl (hb hby at_290) rfl rfl (l' := #[.val (.int p0), .val (.int p1), .val (.ref b1), .val (.int hh), .val (.ref b17), .val (.ref b31), .val (.ref b38), .val (.ref b75), .val (.ref b127), .val (.ref b146), .unset]) rfl) ?_
            show Go p.tables e below P (T146.setTop (mkF m 292 #[.val (.int p0), .val (.int p1), .val (.ref b1), .val (.int hh), .val (.ref b17), .val (.ref b31), .val (.ref b38), .val (.ref b75), .val (.ref b127), .val (.ref b146), .unset] []))
            refine Go.st (fun _ => XS.aload X146.here hx rfl (hb hby at_292) rfl rfl) ?_
            show Go p.tables e below P (T146.setTop (mkF m 294 #[.val (.int p0), .val (.int p1), .val (.ref b1), .val (.int hh), .val (.ref b17), .val (.ref b31), .val (.ref b38), .val (.ref b75), .val (.ref b127), .val (.ref b146), .unset] [(.ref b146)]))
            refine Go.st (fun _ => XS.iconst X146.here hx rfl (hb hby at_294)) ?_
            show Go p.tables e below P (T146.setTop (mkF m 295 #[.val (.int p0), .val (.int p1), .val (.ref b1), .val (.int hh), .val (.ref b17), .val (.ref b31), .val (.ref b38), .val (.ref b75), .val (.ref b127), .val (.ref b146), .unset] [(.int (0 : Int32)), (.ref b146)]))
            refine Go.st (fun _ => XS.iconst X146.here hx rfl (hb hby at_295)) ?_
            show Go p.tables e below P (T146.setTop (mkF m 296 #[.val (.int p0), .val (.int p1), .val (.ref b1), .val (.int hh), .val (.ref b17), .val (.ref b31), .val (.ref b38), .val (.ref b75), .val (.ref b127), .val (.ref b146), .unset] [(.int (1 : Int32)), (.int (0 : Int32)), (.ref b146)]))
            obtain ⟨T156, h156, X156, e156, W156, V156, st156⟩ := own_stZ X146 hx hZ e146 V146 (j := (0 : Int32)) (i := 0) (by decide) (by decide) (Nat.le_of_ble_eq_true rfl) (g := (mkF m 296 #[.val (.int p0), .val (.int p1), .val (.ref b1), .val (.int hh), .val (.ref b17), .val (.ref b31), .val (.ref b38), .val (.ref b75), .val (.ref b127), .val (.ref b146), .unset] [(.int (1 : Int32)), (.int (0 : Int32)), (.ref b146)])) rfl rfl (hb hby at_296)
            refine Go.st st156 ?_
            have K156 : Keep h0 h156 [] := K146.wr W156 (Or.inr sz_b146)
            have O156 := O146.wr W156 g_b146
            have N156 := Fr.snoc X156 N145 g_b146
            have V156' : Arv Z h156 b146 k146 .boolean (5 : Int32) [(.int (1 : Int32)), (.int (0 : Int32)), (.int (0 : Int32)), (.int (0 : Int32)), (.int (0 : Int32))] (.int (0 : Int32)) := V156
            show Go p.tables e below P (T156.setTop (mkF m 297 #[.val (.int p0), .val (.int p1), .val (.ref b1), .val (.int hh), .val (.ref b17), .val (.ref b31), .val (.ref b38), .val (.ref b75), .val (.ref b127), .val (.ref b146), .unset] []))
            refine Go.st (fun _ => XS.aload X156.here hx rfl (hb hby at_297) rfl rfl) ?_
            show Go p.tables e below P (T156.setTop (mkF m 299 #[.val (.int p0), .val (.int p1), .val (.ref b1), .val (.int hh), .val (.ref b17), .val (.ref b31), .val (.ref b38), .val (.ref b75), .val (.ref b127), .val (.ref b146), .unset] [(.ref b146)]))
            refine Go.st (fun _ => XS.iconst X156.here hx rfl (hb hby at_299)) ?_
            show Go p.tables e below P (T156.setTop (mkF m 300 #[.val (.int p0), .val (.int p1), .val (.ref b1), .val (.int hh), .val (.ref b17), .val (.ref b31), .val (.ref b38), .val (.ref b75), .val (.ref b127), .val (.ref b146), .unset] [(.int (1 : Int32)), (.ref b146)]))
            refine Go.st (fun _ => XS.aload X156.here hx rfl (hb hby at_300) rfl rfl) ?_
            show Go p.tables e below P (T156.setTop (mkF m 302 #[.val (.int p0), .val (.int p1), .val (.ref b1), .val (.int hh), .val (.ref b17), .val (.ref b31), .val (.ref b38), .val (.ref b75), .val (.ref b127), .val (.ref b146), .unset] [(.ref b127), (.int (1 : Int32)), (.ref b146)]))
            refine Go.st (fun _ => XS.iconst X156.here hx rfl (hb hby at_302)) ?_
            show Go p.tables e below P (T156.setTop (mkF m 303 #[.val (.int p0), .val (.int p1), .val (.ref b1), .val (.int hh), .val (.ref b17), .val (.ref b31), .val (.ref b38), .val (.ref b75), .val (.ref b127), .val (.ref b146), .unset] [(.int (1 : Int32)), (.ref b127), (.int (1 : Int32)), (.ref b146)]))
            have c158 := ((V145'.ext E146).other W156 (Nat.ne_of_lt (Nat.lt_of_lt_of_le V145'.lt (Nat.le_of_eq g146.symm))))
            refine Go.st (fun _ => own_ldZ X156 hx hZ e156 c158 (j := (1 : Int32)) (i := 1) (v := (.int jb1)) (by decide) (by decide) rfl (g := (mkF m 303 #[.val (.int p0), .val (.int p1), .val (.ref b1), .val (.int hh), .val (.ref b17), .val (.ref b31), .val (.ref b38), .val (.ref b75), .val (.ref b127), .val (.ref b146), .unset] [(.int (1 : Int32)), (.ref b127), (.int (1 : Int32)), (.ref b146)])) rfl rfl (hb hby at_303) _) ?_
            show Go p.tables e below P (T156.setTop (mkF m 304 #[.val (.int p0), .val (.int p1), .val (.ref b1), .val (.int hh), .val (.ref b17), .val (.ref b31), .val (.ref b38), .val (.ref b75), .val (.ref b127), .val (.ref b146), .unset] [(.int jb1), (.int (1 : Int32)), (.ref b146)]))
            have J159 : ∀ (je1 : Int32), (je1 = own_and jb1 (1 : Int32)) → Go p.tables e below P (T156.setTop (mkF m 322 #[.val (.int p0), .val (.int p1), .val (.ref b1), .val (.int hh), .val (.ref b17), .val (.ref b31), .val (.ref b38), .val (.ref b75), .val (.ref b127), .val (.ref b146), .unset] [(.int je1), (.int (1 : Int32)), (.ref b146)])) := by
              intro je1 hjJ159
              show Go p.tables e below P (T156.setTop (mkF m 322 #[.val (.int p0), .val (.int p1), .val (.ref b1), .val (.int hh), .val (.ref b17), .val (.ref b31), .val (.ref b38), .val (.ref b75), .val (.ref b127), .val (.ref b146), .unset] [(.int je1), (.int (1 : Int32)), (.ref b146)]))
              have he1 := hjJ159
              obtain ⟨T160, h160, X160, e160, W160, V160, st160⟩ := own_stZ X156 hx hZ e156 V156' (j := (1 : Int32)) (i := 1) (by decide) (by decide) (Nat.le_of_ble_eq_true rfl) (g := (mkF m 322 #[.val (.int p0), .val (.int p1), .val (.ref b1), .val (.int hh), .val (.ref b17), .val (.ref b31), .val (.ref b38), .val (.ref b75), .val (.ref b127), .val (.ref b146), .unset] [(.int je1), (.int (1 : Int32)), (.ref b146)])) rfl rfl (hb hby at_322)
              refine Go.st st160 ?_
              rw [own_narZ (by rw [he1]; exact own_and01 _ _)] at V160
              have K160 : Keep h0 h160 [] := K156.wr W160 (Or.inr sz_b146)
              have O160 := O156.wr W160 g_b146
              have N160 := Fr.snoc X160 N156 g_b146
              have V160' : Arv Z h160 b146 k146 .boolean (5 : Int32) [(.int (1 : Int32)), (.int je1), (.int (0 : Int32)), (.int (0 : Int32)), (.int (0 : Int32))] (.int (0 : Int32)) := V160
              show Go p.tables e below P (T160.setTop (mkF m 323 #[.val (.int p0), .val (.int p1), .val (.ref b1), .val (.int hh), .val (.ref b17), .val (.ref b31), .val (.ref b38), .val (.ref b75), .val (.ref b127), .val (.ref b146), .unset] []))
              refine Go.st (fun _ => XS.aload X160.here hx rfl (hb hby at_323) rfl rfl) ?_
              show Go p.tables e below P (T160.setTop (mkF m 325 #[.val (.int p0), .val (.int p1), .val (.ref b1), .val (.int hh), .val (.ref b17), .val (.ref b31), .val (.ref b38), .val (.ref b75), .val (.ref b127), .val (.ref b146), .unset] [(.ref b146)]))
              refine Go.st (fun _ => XS.iconst X160.here hx rfl (hb hby at_325)) ?_
              show Go p.tables e below P (T160.setTop (mkF m 326 #[.val (.int p0), .val (.int p1), .val (.ref b1), .val (.int hh), .val (.ref b17), .val (.ref b31), .val (.ref b38), .val (.ref b75), .val (.ref b127), .val (.ref b146), .unset] [(.int (2 : Int32)), (.ref b146)]))
              refine Go.st (fun _ => XS.aload X160.here hx rfl (hb hby at_326) rfl rfl) ?_
              show Go p.tables e below P (T160.setTop (mkF m 328 #[.val (.int p0), .val (.int p1), .val (.ref b1), .val (.int hh), .val (.ref b17), .val (.ref b31), .val (.ref b38), .val (.ref b75), .val (.ref b127), .val (.ref b146), .unset] [(.ref b127), (.int (2 : Int32)), (.ref b146)]))
              refine Go.st (fun _ => XS.iconst X160.here hx rfl (hb hby at_328)) ?_
              show Go p.tables e below P (T160.setTop (mkF m 329 #[.val (.int p0), .val (.int p1), .val (.ref b1), .val (.int hh), .val (.ref b17), .val (.ref b31), .val (.ref b38), .val (.ref b75), .val (.ref b127), .val (.ref b146), .unset] [(.int (2 : Int32)), (.ref b127), (.int (2 : Int32)), (.ref b146)]))
              have c162 := (c158.other W160 (Nat.ne_of_lt (Nat.lt_of_lt_of_le V145'.lt (Nat.le_of_eq g146.symm))))
              refine Go.st (fun _ => own_ldZ X160 hx hZ e160 c162 (j := (2 : Int32)) (i := 2) (v := (.int jb2)) (by decide) (by decide) rfl (g := (mkF m 329 #[.val (.int p0), .val (.int p1), .val (.ref b1), .val (.int hh), .val (.ref b17), .val (.ref b31), .val (.ref b38), .val (.ref b75), .val (.ref b127), .val (.ref b146), .unset] [(.int (2 : Int32)), (.ref b127), (.int (2 : Int32)), (.ref b146)])) rfl rfl (hb hby at_329) _) ?_
              show Go p.tables e below P (T160.setTop (mkF m 330 #[.val (.int p0), .val (.int p1), .val (.ref b1), .val (.int hh), .val (.ref b17), .val (.ref b31), .val (.ref b38), .val (.ref b75), .val (.ref b127), .val (.ref b146), .unset] [(.int jb2), (.int (2 : Int32)), (.ref b146)]))
              have J163 : ∀ (je2 : Int32), (je2 = own_and jb2 (([(1 : Int32), je1, (0 : Int32), (0 : Int32), (0 : Int32)] : List Int32).getD (own_p2 (1 : Int32) d2).toNatClampNeg 0)) → Go p.tables e below P (T160.setTop (mkF m 348 #[.val (.int p0), .val (.int p1), .val (.ref b1), .val (.int hh), .val (.ref b17), .val (.ref b31), .val (.ref b38), .val (.ref b75), .val (.ref b127), .val (.ref b146), .unset] [(.int je2), (.int (2 : Int32)), (.ref b146)])) := by
                intro je2 hjJ163
                show Go p.tables e below P (T160.setTop (mkF m 348 #[.val (.int p0), .val (.int p1), .val (.ref b1), .val (.int hh), .val (.ref b17), .val (.ref b31), .val (.ref b38), .val (.ref b75), .val (.ref b127), .val (.ref b146), .unset] [(.int je2), (.int (2 : Int32)), (.ref b146)]))
                have he2 := hjJ163
                obtain ⟨T164, h164, X164, e164, W164, V164, st164⟩ := own_stZ X160 hx hZ e160 V160' (j := (2 : Int32)) (i := 2) (by decide) (by decide) (Nat.le_of_ble_eq_true rfl) (g := (mkF m 348 #[.val (.int p0), .val (.int p1), .val (.ref b1), .val (.int hh), .val (.ref b17), .val (.ref b31), .val (.ref b38), .val (.ref b75), .val (.ref b127), .val (.ref b146), .unset] [(.int je2), (.int (2 : Int32)), (.ref b146)])) rfl rfl (hb hby at_348)
                refine Go.st st164 ?_
                rw [own_narZ (by rw [he2]; exact own_and01 _ _)] at V164
                have K164 : Keep h0 h164 [] := K160.wr W164 (Or.inr sz_b146)
                have O164 := O160.wr W164 g_b146
                have N164 := Fr.snoc X164 N160 g_b146
                have V164' : Arv Z h164 b146 k146 .boolean (5 : Int32) [(.int (1 : Int32)), (.int je1), (.int je2), (.int (0 : Int32)), (.int (0 : Int32))] (.int (0 : Int32)) := V164
                show Go p.tables e below P (T164.setTop (mkF m 349 #[.val (.int p0), .val (.int p1), .val (.ref b1), .val (.int hh), .val (.ref b17), .val (.ref b31), .val (.ref b38), .val (.ref b75), .val (.ref b127), .val (.ref b146), .unset] []))
                refine Go.st (fun _ => XS.aload X164.here hx rfl (hb hby at_349) rfl rfl) ?_
                show Go p.tables e below P (T164.setTop (mkF m 351 #[.val (.int p0), .val (.int p1), .val (.ref b1), .val (.int hh), .val (.ref b17), .val (.ref b31), .val (.ref b38), .val (.ref b75), .val (.ref b127), .val (.ref b146), .unset] [(.ref b146)]))
                refine Go.st (fun _ => XS.iconst X164.here hx rfl (hb hby at_351)) ?_
                show Go p.tables e below P (T164.setTop (mkF m 352 #[.val (.int p0), .val (.int p1), .val (.ref b1), .val (.int hh), .val (.ref b17), .val (.ref b31), .val (.ref b38), .val (.ref b75), .val (.ref b127), .val (.ref b146), .unset] [(.int (3 : Int32)), (.ref b146)]))
                refine Go.st (fun _ => XS.aload X164.here hx rfl (hb hby at_352) rfl rfl) ?_
                show Go p.tables e below P (T164.setTop (mkF m 354 #[.val (.int p0), .val (.int p1), .val (.ref b1), .val (.int hh), .val (.ref b17), .val (.ref b31), .val (.ref b38), .val (.ref b75), .val (.ref b127), .val (.ref b146), .unset] [(.ref b127), (.int (3 : Int32)), (.ref b146)]))
                refine Go.st (fun _ => XS.iconst X164.here hx rfl (hb hby at_354)) ?_
                show Go p.tables e below P (T164.setTop (mkF m 355 #[.val (.int p0), .val (.int p1), .val (.ref b1), .val (.int hh), .val (.ref b17), .val (.ref b31), .val (.ref b38), .val (.ref b75), .val (.ref b127), .val (.ref b146), .unset] [(.int (3 : Int32)), (.ref b127), (.int (3 : Int32)), (.ref b146)]))
                have c166 := (c162.other W164 (Nat.ne_of_lt (Nat.lt_of_lt_of_le V145'.lt (Nat.le_of_eq g146.symm))))
                refine Go.st (fun _ => own_ldZ X164 hx hZ e164 c166 (j := (3 : Int32)) (i := 3) (v := (.int jb3)) (by decide) (by decide) rfl (g := (mkF m 355 #[.val (.int p0), .val (.int p1), .val (.ref b1), .val (.int hh), .val (.ref b17), .val (.ref b31), .val (.ref b38), .val (.ref b75), .val (.ref b127), .val (.ref b146), .unset] [(.int (3 : Int32)), (.ref b127), (.int (3 : Int32)), (.ref b146)])) rfl rfl (hb hby at_355) _) ?_
                show Go p.tables e below P (T164.setTop (mkF m 356 #[.val (.int p0), .val (.int p1), .val (.ref b1), .val (.int hh), .val (.ref b17), .val (.ref b31), .val (.ref b38), .val (.ref b75), .val (.ref b127), .val (.ref b146), .unset] [(.int jb3), (.int (3 : Int32)), (.ref b146)]))
                have J167 : ∀ (je3 : Int32), (je3 = own_and jb3 (([(1 : Int32), je1, je2, (0 : Int32), (0 : Int32)] : List Int32).getD (own_p3 (1 : Int32) d2 d3).toNatClampNeg 0)) → Go p.tables e below P (T164.setTop (mkF m 374 #[.val (.int p0), .val (.int p1), .val (.ref b1), .val (.int hh), .val (.ref b17), .val (.ref b31), .val (.ref b38), .val (.ref b75), .val (.ref b127), .val (.ref b146), .unset] [(.int je3), (.int (3 : Int32)), (.ref b146)])) := by
                  intro je3 hjJ167
                  show Go p.tables e below P (T164.setTop (mkF m 374 #[.val (.int p0), .val (.int p1), .val (.ref b1), .val (.int hh), .val (.ref b17), .val (.ref b31), .val (.ref b38), .val (.ref b75), .val (.ref b127), .val (.ref b146), .unset] [(.int je3), (.int (3 : Int32)), (.ref b146)]))
                  have he3 := hjJ167
                  obtain ⟨T168, h168, X168, e168, W168, V168, st168⟩ := own_stZ X164 hx hZ e164 V164' (j := (3 : Int32)) (i := 3) (by decide) (by decide) (Nat.le_of_ble_eq_true rfl) (g := (mkF m 374 #[.val (.int p0), .val (.int p1), .val (.ref b1), .val (.int hh), .val (.ref b17), .val (.ref b31), .val (.ref b38), .val (.ref b75), .val (.ref b127), .val (.ref b146), .unset] [(.int je3), (.int (3 : Int32)), (.ref b146)])) rfl rfl (hb hby at_374)
                  refine Go.st st168 ?_
                  rw [own_narZ (by rw [he3]; exact own_and01 _ _)] at V168
                  have K168 : Keep h0 h168 [] := K164.wr W168 (Or.inr sz_b146)
                  have O168 := O164.wr W168 g_b146
                  have N168 := Fr.snoc X168 N164 g_b146
                  have V168' : Arv Z h168 b146 k146 .boolean (5 : Int32) [(.int (1 : Int32)), (.int je1), (.int je2), (.int je3), (.int (0 : Int32))] (.int (0 : Int32)) := V168
                  show Go p.tables e below P (T168.setTop (mkF m 375 #[.val (.int p0), .val (.int p1), .val (.ref b1), .val (.int hh), .val (.ref b17), .val (.ref b31), .val (.ref b38), .val (.ref b75), .val (.ref b127), .val (.ref b146), .unset] []))
                  refine Go.st (fun _ => XS.aload X168.here hx rfl (hb hby at_375) rfl rfl) ?_
                  show Go p.tables e below P (T168.setTop (mkF m 377 #[.val (.int p0), .val (.int p1), .val (.ref b1), .val (.int hh), .val (.ref b17), .val (.ref b31), .val (.ref b38), .val (.ref b75), .val (.ref b127), .val (.ref b146), .unset] [(.ref b146)]))
                  refine Go.st (fun _ => XS.iconst X168.here hx rfl (hb hby at_377)) ?_
                  show Go p.tables e below P (T168.setTop (mkF m 378 #[.val (.int p0), .val (.int p1), .val (.ref b1), .val (.int hh), .val (.ref b17), .val (.ref b31), .val (.ref b38), .val (.ref b75), .val (.ref b127), .val (.ref b146), .unset] [(.int (4 : Int32)), (.ref b146)]))
                  refine Go.st (fun _ => XS.aload X168.here hx rfl (hb hby at_378) rfl rfl) ?_
                  show Go p.tables e below P (T168.setTop (mkF m 380 #[.val (.int p0), .val (.int p1), .val (.ref b1), .val (.int hh), .val (.ref b17), .val (.ref b31), .val (.ref b38), .val (.ref b75), .val (.ref b127), .val (.ref b146), .unset] [(.ref b127), (.int (4 : Int32)), (.ref b146)]))
                  refine Go.st (fun _ => XS.iconst X168.here hx rfl (hb hby at_380)) ?_
                  show Go p.tables e below P (T168.setTop (mkF m 381 #[.val (.int p0), .val (.int p1), .val (.ref b1), .val (.int hh), .val (.ref b17), .val (.ref b31), .val (.ref b38), .val (.ref b75), .val (.ref b127), .val (.ref b146), .unset] [(.int (4 : Int32)), (.ref b127), (.int (4 : Int32)), (.ref b146)]))
                  have c170 := (c166.other W168 (Nat.ne_of_lt (Nat.lt_of_lt_of_le V145'.lt (Nat.le_of_eq g146.symm))))
                  refine Go.st (fun _ => own_ldZ X168 hx hZ e168 c170 (j := (4 : Int32)) (i := 4) (v := (.int jb4)) (by decide) (by decide) rfl (g := (mkF m 381 #[.val (.int p0), .val (.int p1), .val (.ref b1), .val (.int hh), .val (.ref b17), .val (.ref b31), .val (.ref b38), .val (.ref b75), .val (.ref b127), .val (.ref b146), .unset] [(.int (4 : Int32)), (.ref b127), (.int (4 : Int32)), (.ref b146)])) rfl rfl (hb hby at_381) _) ?_
                  show Go p.tables e below P (T168.setTop (mkF m 382 #[.val (.int p0), .val (.int p1), .val (.ref b1), .val (.int hh), .val (.ref b17), .val (.ref b31), .val (.ref b38), .val (.ref b75), .val (.ref b127), .val (.ref b146), .unset] [(.int jb4), (.int (4 : Int32)), (.ref b146)]))
                  have J171 : ∀ (je4 : Int32), (je4 = own_and jb4 (([(1 : Int32), je1, je2, je3, (0 : Int32)] : List Int32).getD (own_p4 (1 : Int32) d2 d3 d4).toNatClampNeg 0)) → Go p.tables e below P (T168.setTop (mkF m 400 #[.val (.int p0), .val (.int p1), .val (.ref b1), .val (.int hh), .val (.ref b17), .val (.ref b31), .val (.ref b38), .val (.ref b75), .val (.ref b127), .val (.ref b146), .unset] [(.int je4), (.int (4 : Int32)), (.ref b146)])) := by
                    intro je4 hjJ171
                    show Go p.tables e below P (T168.setTop (mkF m 400 #[.val (.int p0), .val (.int p1), .val (.ref b1), .val (.int hh), .val (.ref b17), .val (.ref b31), .val (.ref b38), .val (.ref b75), .val (.ref b127), .val (.ref b146), .unset] [(.int je4), (.int (4 : Int32)), (.ref b146)]))
                    have he4 := hjJ171
                    obtain ⟨T172, h172, X172, e172, W172, V172, st172⟩ := own_stZ X168 hx hZ e168 V168' (j := (4 : Int32)) (i := 4) (by decide) (by decide) (Nat.le_of_ble_eq_true rfl) (g := (mkF m 400 #[.val (.int p0), .val (.int p1), .val (.ref b1), .val (.int hh), .val (.ref b17), .val (.ref b31), .val (.ref b38), .val (.ref b75), .val (.ref b127), .val (.ref b146), .unset] [(.int je4), (.int (4 : Int32)), (.ref b146)])) rfl rfl (hb hby at_400)
                    refine Go.st st172 ?_
                    rw [own_narZ (by rw [he4]; exact own_and01 _ _)] at V172
                    have K172 : Keep h0 h172 [] := K168.wr W172 (Or.inr sz_b146)
                    have O172 := O168.wr W172 g_b146
                    have N172 := Fr.snoc X172 N168 g_b146
                    have V172' : Arv Z h172 b146 k146 .boolean (5 : Int32) [(.int (1 : Int32)), (.int je1), (.int je2), (.int je3), (.int je4)] (.int (0 : Int32)) := V172
                    show Go p.tables e below P (T172.setTop (mkF m 401 #[.val (.int p0), .val (.int p1), .val (.ref b1), .val (.int hh), .val (.ref b17), .val (.ref b31), .val (.ref b38), .val (.ref b75), .val (.ref b127), .val (.ref b146), .unset] []))
                    refine Go.st (fun _ => XS.aload X172.here hx rfl (hb hby at_401) rfl rfl) ?_
                    show Go p.tables e below P (T172.setTop (mkF m 403 #[.val (.int p0), .val (.int p1), .val (.ref b1), .val (.int hh), .val (.ref b17), .val (.ref b31), .val (.ref b38), .val (.ref b75), .val (.ref b127), .val (.ref b146), .unset] [(.ref b75)]))
                    refine Go.st (fun _ => XS.aload X172.here hx rfl (hb hby at_403) rfl rfl) ?_
                    show Go p.tables e below P (T172.setTop (mkF m 405 #[.val (.int p0), .val (.int p1), .val (.ref b1), .val (.int hh), .val (.ref b17), .val (.ref b31), .val (.ref b38), .val (.ref b75), .val (.ref b127), .val (.ref b146), .unset] [(.ref b127), (.ref b75)]))
                    have c174 := ((((((c153.ext E146).wr W156).wr W160).wr W164).wr W168).wr W172)
                    have c175 := ((((((((((((q105_1.ext E127).other W137 (Or.inl (Nat.ne_of_lt (Nat.lt_of_lt_of_le q105_0.lt (Nat.le_of_eq g127.symm))))).other W139 (Or.inl (Nat.ne_of_lt (Nat.lt_of_lt_of_le q105_0.lt (Nat.le_of_eq g127.symm))))).other W141 (Or.inl (Nat.ne_of_lt (Nat.lt_of_lt_of_le q105_0.lt (Nat.le_of_eq g127.symm))))).other W143 (Or.inl (Nat.ne_of_lt (Nat.lt_of_lt_of_le q105_0.lt (Nat.le_of_eq g127.symm))))).other W145 (Or.inl (Nat.ne_of_lt (Nat.lt_of_lt_of_le q105_0.lt (Nat.le_of_eq g127.symm))))).ext E146).other W156 (Or.inl (Nat.ne_of_lt (Nat.lt_of_lt_of_le c153.lt (Nat.le_of_eq g146.symm))))).other W160 (Or.inl (Nat.ne_of_lt (Nat.lt_of_lt_of_le c153.lt (Nat.le_of_eq g146.symm))))).other W164 (Or.inl (Nat.ne_of_lt (Nat.lt_of_lt_of_le c153.lt (Nat.le_of_eq g146.symm))))).other W168 (Or.inl (Nat.ne_of_lt (Nat.lt_of_lt_of_le c153.lt (Nat.le_of_eq g146.symm))))).other W172 (Or.inl (Nat.ne_of_lt (Nat.lt_of_lt_of_le c153.lt (Nat.le_of_eq g146.symm)))))
                    have c176 := ((((((((((((q105_2.ext E127).other W137 (Or.inl (Nat.ne_of_lt (Nat.lt_of_lt_of_le q105_0.lt (Nat.le_of_eq g127.symm))))).other W139 (Or.inl (Nat.ne_of_lt (Nat.lt_of_lt_of_le q105_0.lt (Nat.le_of_eq g127.symm))))).other W141 (Or.inl (Nat.ne_of_lt (Nat.lt_of_lt_of_le q105_0.lt (Nat.le_of_eq g127.symm))))).other W143 (Or.inl (Nat.ne_of_lt (Nat.lt_of_lt_of_le q105_0.lt (Nat.le_of_eq g127.symm))))).other W145 (Or.inl (Nat.ne_of_lt (Nat.lt_of_lt_of_le q105_0.lt (Nat.le_of_eq g127.symm))))).ext E146).other W156 (Or.inl (Nat.ne_of_lt (Nat.lt_of_lt_of_le c153.lt (Nat.le_of_eq g146.symm))))).other W160 (Or.inl (Nat.ne_of_lt (Nat.lt_of_lt_of_le c153.lt (Nat.le_of_eq g146.symm))))).other W164 (Or.inl (Nat.ne_of_lt (Nat.lt_of_lt_of_le c153.lt (Nat.le_of_eq g146.symm))))).other W168 (Or.inl (Nat.ne_of_lt (Nat.lt_of_lt_of_le c153.lt (Nat.le_of_eq g146.symm))))).other W172 (Or.inl (Nat.ne_of_lt (Nat.lt_of_lt_of_le c153.lt (Nat.le_of_eq g146.symm)))))
                    have c177 := ((((((((((((q105_3.ext E127).other W137 (Or.inl (Nat.ne_of_lt (Nat.lt_of_lt_of_le q105_0.lt (Nat.le_of_eq g127.symm))))).other W139 (Or.inl (Nat.ne_of_lt (Nat.lt_of_lt_of_le q105_0.lt (Nat.le_of_eq g127.symm))))).other W141 (Or.inl (Nat.ne_of_lt (Nat.lt_of_lt_of_le q105_0.lt (Nat.le_of_eq g127.symm))))).other W143 (Or.inl (Nat.ne_of_lt (Nat.lt_of_lt_of_le q105_0.lt (Nat.le_of_eq g127.symm))))).other W145 (Or.inl (Nat.ne_of_lt (Nat.lt_of_lt_of_le q105_0.lt (Nat.le_of_eq g127.symm))))).ext E146).other W156 (Or.inl (Nat.ne_of_lt (Nat.lt_of_lt_of_le c153.lt (Nat.le_of_eq g146.symm))))).other W160 (Or.inl (Nat.ne_of_lt (Nat.lt_of_lt_of_le c153.lt (Nat.le_of_eq g146.symm))))).other W164 (Or.inl (Nat.ne_of_lt (Nat.lt_of_lt_of_le c153.lt (Nat.le_of_eq g146.symm))))).other W168 (Or.inl (Nat.ne_of_lt (Nat.lt_of_lt_of_le c153.lt (Nat.le_of_eq g146.symm))))).other W172 (Or.inl (Nat.ne_of_lt (Nat.lt_of_lt_of_le c153.lt (Nat.le_of_eq g146.symm)))))
                    have c178 := ((((((c147.ext E146).other W156 (Nat.ne_of_lt (Nat.lt_of_lt_of_le c147.lt (Nat.le_of_eq g146.symm)))).other W160 (Nat.ne_of_lt (Nat.lt_of_lt_of_le c147.lt (Nat.le_of_eq g146.symm)))).other W164 (Nat.ne_of_lt (Nat.lt_of_lt_of_le c147.lt (Nat.le_of_eq g146.symm)))).other W168 (Nat.ne_of_lt (Nat.lt_of_lt_of_le c147.lt (Nat.le_of_eq g146.symm)))).other W172 (Nat.ne_of_lt (Nat.lt_of_lt_of_le c147.lt (Nat.le_of_eq g146.symm))))
                    have c179 := (c170.other W172 (Nat.ne_of_lt (Nat.lt_of_lt_of_le V145'.lt (Nat.le_of_eq g146.symm))))
                    have c180 := ((((((c148.ext E146).other W156 (Nat.ne_of_lt (Nat.lt_of_lt_of_le c148.lt (Nat.le_of_eq g146.symm)))).other W160 (Nat.ne_of_lt (Nat.lt_of_lt_of_le c148.lt (Nat.le_of_eq g146.symm)))).other W164 (Nat.ne_of_lt (Nat.lt_of_lt_of_le c148.lt (Nat.le_of_eq g146.symm)))).other W168 (Nat.ne_of_lt (Nat.lt_of_lt_of_le c148.lt (Nat.le_of_eq g146.symm)))).other W172 (Nat.ne_of_lt (Nat.lt_of_lt_of_le c148.lt (Nat.le_of_eq g146.symm))))
                    have c181 := ((((((c149.ext E146).other W156 (Nat.ne_of_lt (Nat.lt_of_lt_of_le c149.lt (Nat.le_of_eq g146.symm)))).other W160 (Nat.ne_of_lt (Nat.lt_of_lt_of_le c149.lt (Nat.le_of_eq g146.symm)))).other W164 (Nat.ne_of_lt (Nat.lt_of_lt_of_le c149.lt (Nat.le_of_eq g146.symm)))).other W168 (Nat.ne_of_lt (Nat.lt_of_lt_of_le c149.lt (Nat.le_of_eq g146.symm)))).other W172 (Nat.ne_of_lt (Nat.lt_of_lt_of_le c149.lt (Nat.le_of_eq g146.symm))))
                    have c182 := ((((((c150.ext E146).wr W156).wr W160).wr W164).wr W168).wr W172)
                    have c183 := ((((((c151.ext E146).other W156 (Nat.ne_of_lt (Nat.lt_of_lt_of_le c151.lt (Nat.le_of_eq g146.symm)))).other W160 (Nat.ne_of_lt (Nat.lt_of_lt_of_le c151.lt (Nat.le_of_eq g146.symm)))).other W164 (Nat.ne_of_lt (Nat.lt_of_lt_of_le c151.lt (Nat.le_of_eq g146.symm)))).other W168 (Nat.ne_of_lt (Nat.lt_of_lt_of_le c151.lt (Nat.le_of_eq g146.symm)))).other W172 (Nat.ne_of_lt (Nat.lt_of_lt_of_le c151.lt (Nat.le_of_eq g146.symm))))
                    have c184 := ((((((c152.ext E146).other W156 (Nat.ne_of_lt (Nat.lt_of_lt_of_le c152.lt (Nat.le_of_eq g146.symm)))).other W160 (Nat.ne_of_lt (Nat.lt_of_lt_of_le c152.lt (Nat.le_of_eq g146.symm)))).other W164 (Nat.ne_of_lt (Nat.lt_of_lt_of_le c152.lt (Nat.le_of_eq g146.symm)))).other W168 (Nat.ne_of_lt (Nat.lt_of_lt_of_le c152.lt (Nat.le_of_eq g146.symm)))).other W172 (Nat.ne_of_lt (Nat.lt_of_lt_of_le c152.lt (Nat.le_of_eq g146.symm))))
                    have c185 := ((((((c154.ext E146).other W156 (Nat.ne_of_lt (Nat.lt_of_lt_of_le c154.lt (Nat.le_of_eq g146.symm)))).other W160 (Nat.ne_of_lt (Nat.lt_of_lt_of_le c154.lt (Nat.le_of_eq g146.symm)))).other W164 (Nat.ne_of_lt (Nat.lt_of_lt_of_le c154.lt (Nat.le_of_eq g146.symm)))).other W168 (Nat.ne_of_lt (Nat.lt_of_lt_of_le c154.lt (Nat.le_of_eq g146.symm)))).other W172 (Nat.ne_of_lt (Nat.lt_of_lt_of_le c154.lt (Nat.le_of_eq g146.symm))))
                    have c186 := ((((((c155.ext E146).other W156 (Nat.ne_of_lt (Nat.lt_of_lt_of_le c155.lt (Nat.le_of_eq g146.symm)))).other W160 (Nat.ne_of_lt (Nat.lt_of_lt_of_le c155.lt (Nat.le_of_eq g146.symm)))).other W164 (Nat.ne_of_lt (Nat.lt_of_lt_of_le c155.lt (Nat.le_of_eq g146.symm)))).other W168 (Nat.ne_of_lt (Nat.lt_of_lt_of_le c155.lt (Nat.le_of_eq g146.symm)))).other W172 (Nat.ne_of_lt (Nat.lt_of_lt_of_le c155.lt (Nat.le_of_eq g146.symm))))
                    obtain ⟨cq173, kq173, q173a, q173b, q173c⟩ := isOf hZ e172 c174
                    obtain ⟨_, _, ⟨T173, L173, k173, n173⟩, -, X173, ⟨Lc173, hQ173, l173, y173, z173⟩, st173⟩ := X172.virtualBack hx (y := (⟨"com/example/parametree/parametree/MeanTree", "attach", "([Z)[Z"⟩ : MethodName)) (z := (⟨"com/example/parametree/parametree/MeanTree", "attach", "([Z)[Z"⟩ : MethodName)) hown (mvT hZ (hw _ (List.mem_of_getElem? (i := 94) rfl))) (mvT hZ (hw _ (List.mem_of_getElem? (i := 95) rfl))) (notFace_of_selects (args := #[]) (mvT hZ (hw _ (List.mem_of_getElem? (i := 97) rfl)))) (mvT hZ (hw _ (List.mem_of_getElem? (i := 97) rfl))) (mvT hZ (hw _ (List.mem_of_getElem? (i := 96) rfl))) (by decide) (backOf (W := 0) (rm_att l Z a0 hw [] w_EM S_EM X_EM b75 b127 b1 k1 (0 : Int32) (1 : Int32) d2 d3 d4 (hh + (2 : Int32)) k127 jb0 jb1 jb2 jb3 jb4 h172 n0 O172 c174 c175 c176 c177 c178 c179 g_b127 (Nat.ne_of_lt (Nat.lt_of_lt_of_le c128.lt (Nat.le_of_eq g127.symm))) hps hk1 hk2 hk3 hk4) hZ (hw _ (List.mem_of_getElem? (i := 98) rfl)) (hw _ (List.mem_of_getElem? (i := 49) rfl)) (by decide) (by decide)) q173a q173c (g := (mkF m 405 #[.val (.int p0), .val (.int p1), .val (.ref b1), .val (.int hh), .val (.ref b17), .val (.ref b31), .val (.ref b38), .val (.ref b75), .val (.ref b127), .val (.ref b146), .unset] [(.ref b127), (.ref b75)])) rfl (by rw [hml]; rfl) (Steps.refl _) (argsL := [(.ref b127)]) (rest := []) (lenOf own_pd8 rfl) rfl (by show 2 * 0 + _ ≤ _; exact Nat.le_of_eq rfl) (hb hby at_405) (fun _ _ => ⟨rfl, e172, (by decide : 17 + 1 ≤ _), (by decide : 100 + 6 ≤ _)⟩)
                    dsimp only [Pt.U, Pt.locs, Pt.cells, Pt.slots] at X173 l173 y173 z173 st173 hQ173
                    subst y173 z173
                    refine Go.tr st173 ?_
                    obtain ⟨o1_187, o2_188, o3_189, o4_190, rfl, N173q, K173q, q173_0, q173_1, q173_2, q173_3, q173_4⟩ := hQ173
                    have N173 : Fr n0 L173 := by rw [l173]; exact Fr.app N172 N173q
                    have O173 := O172.keep K173q (allS g_b127 all0)
                    have K173 : Keep h0 T173.heap [] := K172.trans K173q (allS (Or.inr sz_b127) all0)
                    have hfin := own_fin hd2 hd3 hd4 hjb1 hjb2 hjb3 hjb4 q173_1 q173_2 q173_3 q173_4 he1 he2 he3 he4
                    show Go p.tables e below P (T173.setTop (mkF m 408 #[.val (.int p0), .val (.int p1), .val (.ref b1), .val (.int hh), .val (.ref b17), .val (.ref b31), .val (.ref b38), .val (.ref b75), .val (.ref b127), .val (.ref b146), .unset] [(.ref b127)]))
                    refine Go.st (fun _ => XS.astore X173.here hx rfl (hb hby at_408) rfl rfl (l' := #[.val (.int p0), .val (.int p1), .val (.ref b1), .val (.int hh), .val (.ref b17), .val (.ref b31), .val (.ref b38), .val (.ref b75), .val (.ref b127), .val (.ref b146), .val (.ref b127)]) rfl) ?_
                    show Go p.tables e below P (T173.setTop (mkF m 410 #[.val (.int p0), .val (.int p1), .val (.ref b1), .val (.int hh), .val (.ref b17), .val (.ref b31), .val (.ref b38), .val (.ref b75), .val (.ref b127), .val (.ref b146), .val (.ref b127)] []))
                    refine Go.st (fun _ => XS.aload X173.here hx rfl (hb hby at_410) rfl rfl) ?_
                    show Go p.tables e below P (T173.setTop (mkF m 412 #[.val (.int p0), .val (.int p1), .val (.ref b1), .val (.int hh), .val (.ref b17), .val (.ref b31), .val (.ref b38), .val (.ref b75), .val (.ref b127), .val (.ref b146), .val (.ref b127)] [(.ref b127)]))
                    refine Go.st (fun _ => XS.aload X173.here hx rfl (hb hby at_412) rfl rfl) ?_
                    show Go p.tables e below P (T173.setTop (mkF m 414 #[.val (.int p0), .val (.int p1), .val (.ref b1), .val (.int hh), .val (.ref b17), .val (.ref b31), .val (.ref b38), .val (.ref b75), .val (.ref b127), .val (.ref b146), .val (.ref b127)] [(.ref b127), (.ref b127)]))
                    refine Go.st (fun _ => Jvm.RoadKit.acmp (g := (mkF m 414 #[.val (.int p0), .val (.int p1), .val (.ref b1), .val (.int hh), .val (.ref b17), .val (.ref b31), .val (.ref b38), .val (.ref b75), .val (.ref b127), .val (.ref b146), .val (.ref b127)] [(.ref b127), (.ref b127)])) X173 hx rfl rfl rfl (pc0 := 414) (pc' := 417) (same := true) rfl (hb hby at_414) rfl (decide_eq_true rfl) (by decide) (by decide)) ?_
                    show Go p.tables e below P (T173.setTop (mkF m 417 #[.val (.int p0), .val (.int p1), .val (.ref b1), .val (.int hh), .val (.ref b17), .val (.ref b31), .val (.ref b38), .val (.ref b75), .val (.ref b127), .val (.ref b146), .val (.ref b127)] []))
                    refine Go.st (fun _ => XS.aload X173.here hx rfl (hb hby at_417) rfl rfl) ?_
                    show Go p.tables e below P (T173.setTop (mkF m 419 #[.val (.int p0), .val (.int p1), .val (.ref b1), .val (.int hh), .val (.ref b17), .val (.ref b31), .val (.ref b38), .val (.ref b75), .val (.ref b127), .val (.ref b146), .val (.ref b127)] [(.ref b127)]))
                    refine Go.st (fun _ => XS.iconst X173.here hx rfl (hb hby at_419)) ?_
                    show Go p.tables e below P (T173.setTop (mkF m 420 #[.val (.int p0), .val (.int p1), .val (.ref b1), .val (.int hh), .val (.ref b17), .val (.ref b31), .val (.ref b38), .val (.ref b75), .val (.ref b127), .val (.ref b146), .val (.ref b127)] [(.int (0 : Int32)), (.ref b127)]))
                    refine Go.st (fun _ => own_ldZ X173 hx hZ rfl q173_0 (j := (0 : Int32)) (i := 0) (v := (.int (1 : Int32))) (by decide) (by decide) rfl (g := (mkF m 420 #[.val (.int p0), .val (.int p1), .val (.ref b1), .val (.int hh), .val (.ref b17), .val (.ref b31), .val (.ref b38), .val (.ref b75), .val (.ref b127), .val (.ref b146), .val (.ref b127)] [(.int (0 : Int32)), (.ref b127)])) rfl rfl (hb hby at_420) _) ?_
                    show Go p.tables e below P (T173.setTop (mkF m 421 #[.val (.int p0), .val (.int p1), .val (.ref b1), .val (.int hh), .val (.ref b17), .val (.ref b31), .val (.ref b38), .val (.ref b75), .val (.ref b127), .val (.ref b146), .val (.ref b127)] [(.int (1 : Int32))]))
                    refine Go.st (fun _ => XS.aload X173.here hx rfl (hb hby at_421) rfl rfl) ?_
                    show Go p.tables e below P (T173.setTop (mkF m 423 #[.val (.int p0), .val (.int p1), .val (.ref b1), .val (.int hh), .val (.ref b17), .val (.ref b31), .val (.ref b38), .val (.ref b75), .val (.ref b127), .val (.ref b146), .val (.ref b127)] [(.ref b146), (.int (1 : Int32))]))
                    refine Go.st (fun _ => XS.iconst X173.here hx rfl (hb hby at_423)) ?_
                    show Go p.tables e below P (T173.setTop (mkF m 424 #[.val (.int p0), .val (.int p1), .val (.ref b1), .val (.int hh), .val (.ref b17), .val (.ref b31), .val (.ref b38), .val (.ref b75), .val (.ref b127), .val (.ref b146), .val (.ref b127)] [(.int (0 : Int32)), (.ref b146), (.int (1 : Int32))]))
                    have c193 := (V172'.keep K173q (ninS (Ne.symm (Nat.ne_of_lt (Nat.lt_of_lt_of_le V145'.lt (Nat.le_of_eq g146.symm)))) nin0))
                    refine Go.st (fun _ => own_ldZ X173 hx hZ rfl c193 (j := (0 : Int32)) (i := 0) (v := (.int (1 : Int32))) (by decide) (by decide) rfl (g := (mkF m 424 #[.val (.int p0), .val (.int p1), .val (.ref b1), .val (.int hh), .val (.ref b17), .val (.ref b31), .val (.ref b38), .val (.ref b75), .val (.ref b127), .val (.ref b146), .val (.ref b127)] [(.int (0 : Int32)), (.ref b146), (.int (1 : Int32))])) rfl rfl (hb hby at_424) _) ?_
                    show Go p.tables e below P (T173.setTop (mkF m 425 #[.val (.int p0), .val (.int p1), .val (.ref b1), .val (.int hh), .val (.ref b17), .val (.ref b31), .val (.ref b38), .val (.ref b75), .val (.ref b127), .val (.ref b146), .val (.ref b127)] [(.int (1 : Int32)), (.int (1 : Int32))]))
                    refine Go.st (fun _ => XS.icmpNo X173.here hx rfl (hb hby at_425) rfl (teq (by decide)).2) ?_
                    show Go p.tables e below P (T173.setTop (mkF m 428 #[.val (.int p0), .val (.int p1), .val (.ref b1), .val (.int hh), .val (.ref b17), .val (.ref b31), .val (.ref b38), .val (.ref b75), .val (.ref b127), .val (.ref b146), .val (.ref b127)] []))
                    refine Go.st (fun _ => XS.aload X173.here hx rfl (hb hby at_428) rfl rfl) ?_
                    show Go p.tables e below P (T173.setTop (mkF m 430 #[.val (.int p0), .val (.int p1), .val (.ref b1), .val (.int hh), .val (.ref b17), .val (.ref b31), .val (.ref b38), .val (.ref b75), .val (.ref b127), .val (.ref b146), .val (.ref b127)] [(.ref b127)]))
                    refine Go.st (fun _ => XS.iconst X173.here hx rfl (hb hby at_430)) ?_
                    show Go p.tables e below P (T173.setTop (mkF m 431 #[.val (.int p0), .val (.int p1), .val (.ref b1), .val (.int hh), .val (.ref b17), .val (.ref b31), .val (.ref b38), .val (.ref b75), .val (.ref b127), .val (.ref b146), .val (.ref b127)] [(.int (1 : Int32)), (.ref b127)]))
                    refine Go.st (fun _ => own_ldZ X173 hx hZ rfl q173_0 (j := (1 : Int32)) (i := 1) (v := (.int o1_187)) (by decide) (by decide) rfl (g := (mkF m 431 #[.val (.int p0), .val (.int p1), .val (.ref b1), .val (.int hh), .val (.ref b17), .val (.ref b31), .val (.ref b38), .val (.ref b75), .val (.ref b127), .val (.ref b146), .val (.ref b127)] [(.int (1 : Int32)), (.ref b127)])) rfl rfl (hb hby at_431) _) ?_
                    show Go p.tables e below P (T173.setTop (mkF m 432 #[.val (.int p0), .val (.int p1), .val (.ref b1), .val (.int hh), .val (.ref b17), .val (.ref b31), .val (.ref b38), .val (.ref b75), .val (.ref b127), .val (.ref b146), .val (.ref b127)] [(.int o1_187)]))
                    refine Go.st (fun _ => XS.aload X173.here hx rfl (hb hby at_432) rfl rfl) ?_
                    show Go p.tables e below P (T173.setTop (mkF m 434 #[.val (.int p0), .val (.int p1), .val (.ref b1), .val (.int hh), .val (.ref b17), .val (.ref b31), .val (.ref b38), .val (.ref b75), .val (.ref b127), .val (.ref b146), .val (.ref b127)] [(.ref b146), (.int o1_187)]))
                    refine Go.st (fun _ => XS.iconst X173.here hx rfl (hb hby at_434)) ?_
                    show Go p.tables e below P (T173.setTop (mkF m 435 #[.val (.int p0), .val (.int p1), .val (.ref b1), .val (.int hh), .val (.ref b17), .val (.ref b31), .val (.ref b38), .val (.ref b75), .val (.ref b127), .val (.ref b146), .val (.ref b127)] [(.int (1 : Int32)), (.ref b146), (.int o1_187)]))
                    refine Go.st (fun _ => own_ldZ X173 hx hZ rfl c193 (j := (1 : Int32)) (i := 1) (v := (.int je1)) (by decide) (by decide) rfl (g := (mkF m 435 #[.val (.int p0), .val (.int p1), .val (.ref b1), .val (.int hh), .val (.ref b17), .val (.ref b31), .val (.ref b38), .val (.ref b75), .val (.ref b127), .val (.ref b146), .val (.ref b127)] [(.int (1 : Int32)), (.ref b146), (.int o1_187)])) rfl rfl (hb hby at_435) _) ?_
                    show Go p.tables e below P (T173.setTop (mkF m 436 #[.val (.int p0), .val (.int p1), .val (.ref b1), .val (.int hh), .val (.ref b17), .val (.ref b31), .val (.ref b38), .val (.ref b75), .val (.ref b127), .val (.ref b146), .val (.ref b127)] [(.int je1), (.int o1_187)]))
                    have hb196 : o1_187 = je1 := hfin.1
                    refine Go.st (fun _ => XS.icmpNo X173.here hx rfl (hb hby at_436) rfl (teq hb196).2) ?_
                    show Go p.tables e below P (T173.setTop (mkF m 439 #[.val (.int p0), .val (.int p1), .val (.ref b1), .val (.int hh), .val (.ref b17), .val (.ref b31), .val (.ref b38), .val (.ref b75), .val (.ref b127), .val (.ref b146), .val (.ref b127)] []))
                    refine Go.st (fun _ => XS.aload X173.here hx rfl (hb hby at_439) rfl rfl) ?_
                    show Go p.tables e below P (T173.setTop (mkF m 441 #[.val (.int p0), .val (.int p1), .val (.ref b1), .val (.int hh), .val (.ref b17), .val (.ref b31), .val (.ref b38), .val (.ref b75), .val (.ref b127), .val (.ref b146), .val (.ref b127)] [(.ref b127)]))
                    refine Go.st (fun _ => XS.iconst X173.here hx rfl (hb hby at_441)) ?_
                    show Go p.tables e below P (T173.setTop (mkF m 442 #[.val (.int p0), .val (.int p1), .val (.ref b1), .val (.int hh), .val (.ref b17), .val (.ref b31), .val (.ref b38), .val (.ref b75), .val (.ref b127), .val (.ref b146), .val (.ref b127)] [(.int (2 : Int32)), (.ref b127)]))
                    refine Go.st (fun _ => own_ldZ X173 hx hZ rfl q173_0 (j := (2 : Int32)) (i := 2) (v := (.int o2_188)) (by decide) (by decide) rfl (g := (mkF m 442 #[.val (.int p0), .val (.int p1), .val (.ref b1), .val (.int hh), .val (.ref b17), .val (.ref b31), .val (.ref b38), .val (.ref b75), .val (.ref b127), .val (.ref b146), .val (.ref b127)] [(.int (2 : Int32)), (.ref b127)])) rfl rfl (hb hby at_442) _) ?_
                    show Go p.tables e below P (T173.setTop (mkF m 443 #[.val (.int p0), .val (.int p1), .val (.ref b1), .val (.int hh), .val (.ref b17), .val (.ref b31), .val (.ref b38), .val (.ref b75), .val (.ref b127), .val (.ref b146), .val (.ref b127)] [(.int o2_188)]))
                    refine Go.st (fun _ => XS.aload X173.here hx rfl (hb hby at_443) rfl rfl) ?_
                    show Go p.tables e below P (T173.setTop (mkF m 445 #[.val (.int p0), .val (.int p1), .val (.ref b1), .val (.int hh), .val (.ref b17), .val (.ref b31), .val (.ref b38), .val (.ref b75), .val (.ref b127), .val (.ref b146), .val (.ref b127)] [(.ref b146), (.int o2_188)]))
                    refine Go.st (fun _ => XS.iconst X173.here hx rfl (hb hby at_445)) ?_
                    show Go p.tables e below P (T173.setTop (mkF m 446 #[.val (.int p0), .val (.int p1), .val (.ref b1), .val (.int hh), .val (.ref b17), .val (.ref b31), .val (.ref b38), .val (.ref b75), .val (.ref b127), .val (.ref b146), .val (.ref b127)] [(.int (2 : Int32)), (.ref b146), (.int o2_188)]))
                    refine Go.st (fun _ => own_ldZ X173 hx hZ rfl c193 (j := (2 : Int32)) (i := 2) (v := (.int je2)) (by decide) (by decide) rfl (g := (mkF m 446 #[.val (.int p0), .val (.int p1), .val (.ref b1), .val (.int hh), .val (.ref b17), .val (.ref b31), .val (.ref b38), .val (.ref b75), .val (.ref b127), .val (.ref b146), .val (.ref b127)] [(.int (2 : Int32)), (.ref b146), (.int o2_188)])) rfl rfl (hb hby at_446) _) ?_
                    show Go p.tables e below P (T173.setTop (mkF m 447 #[.val (.int p0), .val (.int p1), .val (.ref b1), .val (.int hh), .val (.ref b17), .val (.ref b31), .val (.ref b38), .val (.ref b75), .val (.ref b127), .val (.ref b146), .val (.ref b127)] [(.int je2), (.int o2_188)]))
                    have hb199 : o2_188 = je2 := hfin.2.1
                    refine Go.st (fun _ => XS.icmpNo X173.here hx rfl (hb hby at_447) rfl (teq hb199).2) ?_
                    show Go p.tables e below P (T173.setTop (mkF m 450 #[.val (.int p0), .val (.int p1), .val (.ref b1), .val (.int hh), .val (.ref b17), .val (.ref b31), .val (.ref b38), .val (.ref b75), .val (.ref b127), .val (.ref b146), .val (.ref b127)] []))
                    refine Go.st (fun _ => XS.aload X173.here hx rfl (hb hby at_450) rfl rfl) ?_
                    show Go p.tables e below P (T173.setTop (mkF m 452 #[.val (.int p0), .val (.int p1), .val (.ref b1), .val (.int hh), .val (.ref b17), .val (.ref b31), .val (.ref b38), .val (.ref b75), .val (.ref b127), .val (.ref b146), .val (.ref b127)] [(.ref b127)]))
                    refine Go.st (fun _ => XS.iconst X173.here hx rfl (hb hby at_452)) ?_
                    show Go p.tables e below P (T173.setTop (mkF m 453 #[.val (.int p0), .val (.int p1), .val (.ref b1), .val (.int hh), .val (.ref b17), .val (.ref b31), .val (.ref b38), .val (.ref b75), .val (.ref b127), .val (.ref b146), .val (.ref b127)] [(.int (3 : Int32)), (.ref b127)]))
                    refine Go.st (fun _ => own_ldZ X173 hx hZ rfl q173_0 (j := (3 : Int32)) (i := 3) (v := (.int o3_189)) (by decide) (by decide) rfl (g := (mkF m 453 #[.val (.int p0), .val (.int p1), .val (.ref b1), .val (.int hh), .val (.ref b17), .val (.ref b31), .val (.ref b38), .val (.ref b75), .val (.ref b127), .val (.ref b146), .val (.ref b127)] [(.int (3 : Int32)), (.ref b127)])) rfl rfl (hb hby at_453) _) ?_
                    show Go p.tables e below P (T173.setTop (mkF m 454 #[.val (.int p0), .val (.int p1), .val (.ref b1), .val (.int hh), .val (.ref b17), .val (.ref b31), .val (.ref b38), .val (.ref b75), .val (.ref b127), .val (.ref b146), .val (.ref b127)] [(.int o3_189)]))
                    refine Go.st (fun _ => XS.aload X173.here hx rfl (hb hby at_454) rfl rfl) ?_
                    show Go p.tables e below P (T173.setTop (mkF m 456 #[.val (.int p0), .val (.int p1), .val (.ref b1), .val (.int hh), .val (.ref b17), .val (.ref b31), .val (.ref b38), .val (.ref b75), .val (.ref b127), .val (.ref b146), .val (.ref b127)] [(.ref b146), (.int o3_189)]))
                    refine Go.st (fun _ => XS.iconst X173.here hx rfl (hb hby at_456)) ?_
                    show Go p.tables e below P (T173.setTop (mkF m 457 #[.val (.int p0), .val (.int p1), .val (.ref b1), .val (.int hh), .val (.ref b17), .val (.ref b31), .val (.ref b38), .val (.ref b75), .val (.ref b127), .val (.ref b146), .val (.ref b127)] [(.int (3 : Int32)), (.ref b146), (.int o3_189)]))
                    refine Go.st (fun _ => own_ldZ X173 hx hZ rfl c193 (j := (3 : Int32)) (i := 3) (v := (.int je3)) (by decide) (by decide) rfl (g := (mkF m 457 #[.val (.int p0), .val (.int p1), .val (.ref b1), .val (.int hh), .val (.ref b17), .val (.ref b31), .val (.ref b38), .val (.ref b75), .val (.ref b127), .val (.ref b146), .val (.ref b127)] [(.int (3 : Int32)), (.ref b146), (.int o3_189)])) rfl rfl (hb hby at_457) _) ?_
                    show Go p.tables e below P (T173.setTop (mkF m 458 #[.val (.int p0), .val (.int p1), .val (.ref b1), .val (.int hh), .val (.ref b17), .val (.ref b31), .val (.ref b38), .val (.ref b75), .val (.ref b127), .val (.ref b146), .val (.ref b127)] [(.int je3), (.int o3_189)]))
                    have hb202 : o3_189 = je3 := hfin.2.2.1
                    refine Go.st (fun _ => XS.icmpNo X173.here hx rfl (hb hby at_458) rfl (teq hb202).2) ?_
                    show Go p.tables e below P (T173.setTop (mkF m 461 #[.val (.int p0), .val (.int p1), .val (.ref b1), .val (.int hh), .val (.ref b17), .val (.ref b31), .val (.ref b38), .val (.ref b75), .val (.ref b127), .val (.ref b146), .val (.ref b127)] []))
                    refine Go.st (fun _ => XS.aload X173.here hx rfl (hb hby at_461) rfl rfl) ?_
                    show Go p.tables e below P (T173.setTop (mkF m 463 #[.val (.int p0), .val (.int p1), .val (.ref b1), .val (.int hh), .val (.ref b17), .val (.ref b31), .val (.ref b38), .val (.ref b75), .val (.ref b127), .val (.ref b146), .val (.ref b127)] [(.ref b127)]))
                    refine Go.st (fun _ => XS.iconst X173.here hx rfl (hb hby at_463)) ?_
                    show Go p.tables e below P (T173.setTop (mkF m 464 #[.val (.int p0), .val (.int p1), .val (.ref b1), .val (.int hh), .val (.ref b17), .val (.ref b31), .val (.ref b38), .val (.ref b75), .val (.ref b127), .val (.ref b146), .val (.ref b127)] [(.int (4 : Int32)), (.ref b127)]))
                    refine Go.st (fun _ => own_ldZ X173 hx hZ rfl q173_0 (j := (4 : Int32)) (i := 4) (v := (.int o4_190)) (by decide) (by decide) rfl (g := (mkF m 464 #[.val (.int p0), .val (.int p1), .val (.ref b1), .val (.int hh), .val (.ref b17), .val (.ref b31), .val (.ref b38), .val (.ref b75), .val (.ref b127), .val (.ref b146), .val (.ref b127)] [(.int (4 : Int32)), (.ref b127)])) rfl rfl (hb hby at_464) _) ?_
                    show Go p.tables e below P (T173.setTop (mkF m 465 #[.val (.int p0), .val (.int p1), .val (.ref b1), .val (.int hh), .val (.ref b17), .val (.ref b31), .val (.ref b38), .val (.ref b75), .val (.ref b127), .val (.ref b146), .val (.ref b127)] [(.int o4_190)]))
                    refine Go.st (fun _ => XS.aload X173.here hx rfl (hb hby at_465) rfl rfl) ?_
                    show Go p.tables e below P (T173.setTop (mkF m 467 #[.val (.int p0), .val (.int p1), .val (.ref b1), .val (.int hh), .val (.ref b17), .val (.ref b31), .val (.ref b38), .val (.ref b75), .val (.ref b127), .val (.ref b146), .val (.ref b127)] [(.ref b146), (.int o4_190)]))
                    refine Go.st (fun _ => XS.iconst X173.here hx rfl (hb hby at_467)) ?_
                    show Go p.tables e below P (T173.setTop (mkF m 468 #[.val (.int p0), .val (.int p1), .val (.ref b1), .val (.int hh), .val (.ref b17), .val (.ref b31), .val (.ref b38), .val (.ref b75), .val (.ref b127), .val (.ref b146), .val (.ref b127)] [(.int (4 : Int32)), (.ref b146), (.int o4_190)]))
                    refine Go.st (fun _ => own_ldZ X173 hx hZ rfl c193 (j := (4 : Int32)) (i := 4) (v := (.int je4)) (by decide) (by decide) rfl (g := (mkF m 468 #[.val (.int p0), .val (.int p1), .val (.ref b1), .val (.int hh), .val (.ref b17), .val (.ref b31), .val (.ref b38), .val (.ref b75), .val (.ref b127), .val (.ref b146), .val (.ref b127)] [(.int (4 : Int32)), (.ref b146), (.int o4_190)])) rfl rfl (hb hby at_468) _) ?_
                    show Go p.tables e below P (T173.setTop (mkF m 469 #[.val (.int p0), .val (.int p1), .val (.ref b1), .val (.int hh), .val (.ref b17), .val (.ref b31), .val (.ref b38), .val (.ref b75), .val (.ref b127), .val (.ref b146), .val (.ref b127)] [(.int je4), (.int o4_190)]))
                    have hb205 : o4_190 = je4 := hfin.2.2.2
                    refine Go.st (fun _ => XS.icmpNo X173.here hx rfl (hb hby at_469) rfl (teq hb205).2) ?_
                    show Go p.tables e below P (T173.setTop (mkF m 472 #[.val (.int p0), .val (.int p1), .val (.ref b1), .val (.int hh), .val (.ref b17), .val (.ref b31), .val (.ref b38), .val (.ref b75), .val (.ref b127), .val (.ref b146), .val (.ref b127)] []))
                    refine Go.st (fun _ => XS.iconst X173.here hx rfl (hb hby at_472)) ?_
                    show Go p.tables e below P (T173.setTop (mkF m 473 #[.val (.int p0), .val (.int p1), .val (.ref b1), .val (.int hh), .val (.ref b17), .val (.ref b31), .val (.ref b38), .val (.ref b75), .val (.ref b127), .val (.ref b146), .val (.ref b127)] [(.int (1 : Int32))]))
                    refine Go.st (fun _ => XS.goto X173.here hx rfl (pc0 := 473) (pc' := 477) rfl (hb hby at_473) (by decide) (by decide)) ?_
                    show Go p.tables e below P (T173.setTop (mkF m 477 #[.val (.int p0), .val (.int p1), .val (.ref b1), .val (.int hh), .val (.ref b17), .val (.ref b31), .val (.ref b38), .val (.ref b75), .val (.ref b127), .val (.ref b146), .val (.ref b127)] [(.int (1 : Int32))]))
                    obtain ⟨fs, hr, hrun, hended, hW, hsame⟩ := X173.leave (v := some (.int (1 : Int32))) (fun h => by rw [Bd.returns] at h; cases h)
                    refine ⟨_, ?_, hPend _ _ hrun hended ⟨_, _, rfl, ?_, ⟨_, rfl⟩, hW, hsame.mono (by decide) (by decide)⟩⟩
                    · exact retN X173 hx (t := .boolean) Bd.returns (by simp) (hb hby at_477) hr
                    · show Q_rm_law Z _ _ _ h0 n0 _ T173.heap _
                      exact ⟨rfl, N173, K173⟩
                  by_cases hc206 : jb4 = (0 : Int32)
                  · skip
                    refine Go.st (fun _ => XS.ifYes X168.here hx rfl (pc0 := 382) (pc' := 399) rfl (hb hby at_382) rfl ((if0 _ _).trans (teq hc206).1) (by decide) (by decide)) ?_
                    show Go p.tables e below P (T168.setTop (mkF m 399 #[.val (.int p0), .val (.int p1), .val (.ref b1), .val (.int hh), .val (.ref b17), .val (.ref b31), .val (.ref b38), .val (.ref b75), .val (.ref b127), .val (.ref b146), .unset] [(.int (4 : Int32)), (.ref b146)]))
                    refine Go.st (fun _ => XS.iconst X168.here hx rfl (hb hby at_399)) ?_
                    show Go p.tables e below P (T168.setTop (mkF m 400 #[.val (.int p0), .val (.int p1), .val (.ref b1), .val (.int hh), .val (.ref b17), .val (.ref b31), .val (.ref b38), .val (.ref b75), .val (.ref b127), .val (.ref b146), .unset] [(.int (0 : Int32)), (.int (4 : Int32)), (.ref b146)]))
                    exact J171 (0 : Int32) (by first | exact own_an0 (by assumption) | exact own_an1 (by assumption) (by assumption) | exact own_an2 (by assumption) (by assumption) | exact own_an2 (by assumption) (by decide))
                  · skip
                    refine Go.st (fun _ => XS.ifNo X168.here hx rfl (hb hby at_382) rfl ((if0 _ _).trans (feq hc206).1)) ?_
                    show Go p.tables e below P (T168.setTop (mkF m 385 #[.val (.int p0), .val (.int p1), .val (.ref b1), .val (.int hh), .val (.ref b17), .val (.ref b31), .val (.ref b38), .val (.ref b75), .val (.ref b127), .val (.ref b146), .unset] [(.int (4 : Int32)), (.ref b146)]))
                    refine Go.st (fun _ => XS.aload X168.here hx rfl (hb hby at_385) rfl rfl) ?_
                    show Go p.tables e below P (T168.setTop (mkF m 387 #[.val (.int p0), .val (.int p1), .val (.ref b1), .val (.int hh), .val (.ref b17), .val (.ref b31), .val (.ref b38), .val (.ref b75), .val (.ref b127), .val (.ref b146), .unset] [(.ref b146), (.int (4 : Int32)), (.ref b146)]))
                    refine Go.st (fun _ => XS.aload X168.here hx rfl (hb hby at_387) rfl rfl) ?_
                    show Go p.tables e below P (T168.setTop (mkF m 389 #[.val (.int p0), .val (.int p1), .val (.ref b1), .val (.int hh), .val (.ref b17), .val (.ref b31), .val (.ref b38), .val (.ref b75), .val (.ref b127), .val (.ref b146), .unset] [(.ref b17), (.ref b146), (.int (4 : Int32)), (.ref b146)]))
                    refine Go.st (fun _ => XS.iconst X168.here hx rfl (hb hby at_389)) ?_
                    show Go p.tables e below P (T168.setTop (mkF m 390 #[.val (.int p0), .val (.int p1), .val (.ref b1), .val (.int hh), .val (.ref b17), .val (.ref b31), .val (.ref b38), .val (.ref b75), .val (.ref b127), .val (.ref b146), .unset] [(.int (4 : Int32)), (.ref b17), (.ref b146), (.int (4 : Int32)), (.ref b146)]))
                    have c208 := (((((c148.ext E146).other W156 (Nat.ne_of_lt (Nat.lt_of_lt_of_le c148.lt (Nat.le_of_eq g146.symm)))).other W160 (Nat.ne_of_lt (Nat.lt_of_lt_of_le c148.lt (Nat.le_of_eq g146.symm)))).other W164 (Nat.ne_of_lt (Nat.lt_of_lt_of_le c148.lt (Nat.le_of_eq g146.symm)))).other W168 (Nat.ne_of_lt (Nat.lt_of_lt_of_le c148.lt (Nat.le_of_eq g146.symm))))
                    refine Go.st (fun _ => own_ldI X168 hx hZ e168 c208 (j := (4 : Int32)) (i := 4) (v := (.int (own_p4 (1 : Int32) d2 d3 d4))) (by decide) (by decide) rfl (g := (mkF m 390 #[.val (.int p0), .val (.int p1), .val (.ref b1), .val (.int hh), .val (.ref b17), .val (.ref b31), .val (.ref b38), .val (.ref b75), .val (.ref b127), .val (.ref b146), .unset] [(.int (4 : Int32)), (.ref b17), (.ref b146), (.int (4 : Int32)), (.ref b146)])) rfl rfl (hb hby at_390) _) ?_
                    show Go p.tables e below P (T168.setTop (mkF m 391 #[.val (.int p0), .val (.int p1), .val (.ref b1), .val (.int hh), .val (.ref b17), .val (.ref b31), .val (.ref b38), .val (.ref b75), .val (.ref b127), .val (.ref b146), .unset] [(.int (own_p4 (1 : Int32) d2 d3 d4)), (.ref b146), (.int (4 : Int32)), (.ref b146)]))
                    refine Go.st (fun _ => own_ldZ X168 hx hZ e168 V168' (j := (own_p4 (1 : Int32) d2 d3 d4)) (i := ((own_p4 (1 : Int32) d2 d3 d4)).toNatClampNeg) (v := (.int (([(1 : Int32), je1, je2, je3, (0 : Int32)] : List Int32).getD (own_p4 (1 : Int32) d2 d3 d4).toNatClampNeg 0))) (own_pr4 _ _ _ _) rfl (own_getD_int ([(1 : Int32), je1, je2, je3, (0 : Int32)] : List Int32) _) (g := (mkF m 391 #[.val (.int p0), .val (.int p1), .val (.ref b1), .val (.int hh), .val (.ref b17), .val (.ref b31), .val (.ref b38), .val (.ref b75), .val (.ref b127), .val (.ref b146), .unset] [(.int (own_p4 (1 : Int32) d2 d3 d4)), (.ref b146), (.int (4 : Int32)), (.ref b146)])) rfl rfl (hb hby at_391) _) ?_
                    show Go p.tables e below P (T168.setTop (mkF m 392 #[.val (.int p0), .val (.int p1), .val (.ref b1), .val (.int hh), .val (.ref b17), .val (.ref b31), .val (.ref b38), .val (.ref b75), .val (.ref b127), .val (.ref b146), .unset] [(.int (([(1 : Int32), je1, je2, je3, (0 : Int32)] : List Int32).getD (own_p4 (1 : Int32) d2 d3 d4).toNatClampNeg 0)), (.int (4 : Int32)), (.ref b146)]))
                    by_cases hc210 : (([(1 : Int32), je1, je2, je3, (0 : Int32)] : List Int32).getD (own_p4 (1 : Int32) d2 d3 d4).toNatClampNeg 0) = (0 : Int32)
                    · skip
                      refine Go.st (fun _ => XS.ifYes X168.here hx rfl (pc0 := 392) (pc' := 399) rfl (hb hby at_392) rfl ((if0 _ _).trans (teq hc210).1) (by decide) (by decide)) ?_
                      show Go p.tables e below P (T168.setTop (mkF m 399 #[.val (.int p0), .val (.int p1), .val (.ref b1), .val (.int hh), .val (.ref b17), .val (.ref b31), .val (.ref b38), .val (.ref b75), .val (.ref b127), .val (.ref b146), .unset] [(.int (4 : Int32)), (.ref b146)]))
                      refine Go.st (fun _ => XS.iconst X168.here hx rfl (hb hby at_399)) ?_
                      show Go p.tables e below P (T168.setTop (mkF m 400 #[.val (.int p0), .val (.int p1), .val (.ref b1), .val (.int hh), .val (.ref b17), .val (.ref b31), .val (.ref b38), .val (.ref b75), .val (.ref b127), .val (.ref b146), .unset] [(.int (0 : Int32)), (.int (4 : Int32)), (.ref b146)]))
                      exact J171 (0 : Int32) (by first | exact own_an0 (by assumption) | exact own_an1 (by assumption) (by assumption) | exact own_an2 (by assumption) (by assumption) | exact own_an2 (by assumption) (by decide))
                    · skip
                      refine Go.st (fun _ => XS.ifNo X168.here hx rfl (hb hby at_392) rfl ((if0 _ _).trans (feq hc210).1)) ?_
                      show Go p.tables e below P (T168.setTop (mkF m 395 #[.val (.int p0), .val (.int p1), .val (.ref b1), .val (.int hh), .val (.ref b17), .val (.ref b31), .val (.ref b38), .val (.ref b75), .val (.ref b127), .val (.ref b146), .unset] [(.int (4 : Int32)), (.ref b146)]))
                      refine Go.st (fun _ => XS.iconst X168.here hx rfl (hb hby at_395)) ?_
                      show Go p.tables e below P (T168.setTop (mkF m 396 #[.val (.int p0), .val (.int p1), .val (.ref b1), .val (.int hh), .val (.ref b17), .val (.ref b31), .val (.ref b38), .val (.ref b75), .val (.ref b127), .val (.ref b146), .unset] [(.int (1 : Int32)), (.int (4 : Int32)), (.ref b146)]))
                      refine Go.st (fun _ => XS.goto X168.here hx rfl (pc0 := 396) (pc' := 400) rfl (hb hby at_396) (by decide) (by decide)) ?_
                      show Go p.tables e below P (T168.setTop (mkF m 400 #[.val (.int p0), .val (.int p1), .val (.ref b1), .val (.int hh), .val (.ref b17), .val (.ref b31), .val (.ref b38), .val (.ref b75), .val (.ref b127), .val (.ref b146), .unset] [(.int (1 : Int32)), (.int (4 : Int32)), (.ref b146)]))
                      exact J171 (1 : Int32) (by first | exact own_an0 (by assumption) | exact own_an1 (by assumption) (by assumption) | exact own_an2 (by assumption) (by assumption) | exact own_an2 (by assumption) (by decide))
                by_cases hc211 : jb3 = (0 : Int32)
                · skip
                  refine Go.st (fun _ => XS.ifYes X164.here hx rfl (pc0 := 356) (pc' := 373) rfl (hb hby at_356) rfl ((if0 _ _).trans (teq hc211).1) (by decide) (by decide)) ?_
                  show Go p.tables e below P (T164.setTop (mkF m 373 #[.val (.int p0), .val (.int p1), .val (.ref b1), .val (.int hh), .val (.ref b17), .val (.ref b31), .val (.ref b38), .val (.ref b75), .val (.ref b127), .val (.ref b146), .unset] [(.int (3 : Int32)), (.ref b146)]))
                  refine Go.st (fun _ => XS.iconst X164.here hx rfl (hb hby at_373)) ?_
                  show Go p.tables e below P (T164.setTop (mkF m 374 #[.val (.int p0), .val (.int p1), .val (.ref b1), .val (.int hh), .val (.ref b17), .val (.ref b31), .val (.ref b38), .val (.ref b75), .val (.ref b127), .val (.ref b146), .unset] [(.int (0 : Int32)), (.int (3 : Int32)), (.ref b146)]))
                  exact J167 (0 : Int32) (by first | exact own_an0 (by assumption) | exact own_an1 (by assumption) (by assumption) | exact own_an2 (by assumption) (by assumption) | exact own_an2 (by assumption) (by decide))
                · skip
                  refine Go.st (fun _ => XS.ifNo X164.here hx rfl (hb hby at_356) rfl ((if0 _ _).trans (feq hc211).1)) ?_
                  show Go p.tables e below P (T164.setTop (mkF m 359 #[.val (.int p0), .val (.int p1), .val (.ref b1), .val (.int hh), .val (.ref b17), .val (.ref b31), .val (.ref b38), .val (.ref b75), .val (.ref b127), .val (.ref b146), .unset] [(.int (3 : Int32)), (.ref b146)]))
                  refine Go.st (fun _ => XS.aload X164.here hx rfl (hb hby at_359) rfl rfl) ?_
                  show Go p.tables e below P (T164.setTop (mkF m 361 #[.val (.int p0), .val (.int p1), .val (.ref b1), .val (.int hh), .val (.ref b17), .val (.ref b31), .val (.ref b38), .val (.ref b75), .val (.ref b127), .val (.ref b146), .unset] [(.ref b146), (.int (3 : Int32)), (.ref b146)]))
                  refine Go.st (fun _ => XS.aload X164.here hx rfl (hb hby at_361) rfl rfl) ?_
                  show Go p.tables e below P (T164.setTop (mkF m 363 #[.val (.int p0), .val (.int p1), .val (.ref b1), .val (.int hh), .val (.ref b17), .val (.ref b31), .val (.ref b38), .val (.ref b75), .val (.ref b127), .val (.ref b146), .unset] [(.ref b17), (.ref b146), (.int (3 : Int32)), (.ref b146)]))
                  refine Go.st (fun _ => XS.iconst X164.here hx rfl (hb hby at_363)) ?_
                  show Go p.tables e below P (T164.setTop (mkF m 364 #[.val (.int p0), .val (.int p1), .val (.ref b1), .val (.int hh), .val (.ref b17), .val (.ref b31), .val (.ref b38), .val (.ref b75), .val (.ref b127), .val (.ref b146), .unset] [(.int (3 : Int32)), (.ref b17), (.ref b146), (.int (3 : Int32)), (.ref b146)]))
                  have c213 := ((((c148.ext E146).other W156 (Nat.ne_of_lt (Nat.lt_of_lt_of_le c148.lt (Nat.le_of_eq g146.symm)))).other W160 (Nat.ne_of_lt (Nat.lt_of_lt_of_le c148.lt (Nat.le_of_eq g146.symm)))).other W164 (Nat.ne_of_lt (Nat.lt_of_lt_of_le c148.lt (Nat.le_of_eq g146.symm))))
                  refine Go.st (fun _ => own_ldI X164 hx hZ e164 c213 (j := (3 : Int32)) (i := 3) (v := (.int (own_p3 (1 : Int32) d2 d3))) (by decide) (by decide) rfl (g := (mkF m 364 #[.val (.int p0), .val (.int p1), .val (.ref b1), .val (.int hh), .val (.ref b17), .val (.ref b31), .val (.ref b38), .val (.ref b75), .val (.ref b127), .val (.ref b146), .unset] [(.int (3 : Int32)), (.ref b17), (.ref b146), (.int (3 : Int32)), (.ref b146)])) rfl rfl (hb hby at_364) _) ?_
                  show Go p.tables e below P (T164.setTop (mkF m 365 #[.val (.int p0), .val (.int p1), .val (.ref b1), .val (.int hh), .val (.ref b17), .val (.ref b31), .val (.ref b38), .val (.ref b75), .val (.ref b127), .val (.ref b146), .unset] [(.int (own_p3 (1 : Int32) d2 d3)), (.ref b146), (.int (3 : Int32)), (.ref b146)]))
                  refine Go.st (fun _ => own_ldZ X164 hx hZ e164 V164' (j := (own_p3 (1 : Int32) d2 d3)) (i := ((own_p3 (1 : Int32) d2 d3)).toNatClampNeg) (v := (.int (([(1 : Int32), je1, je2, (0 : Int32), (0 : Int32)] : List Int32).getD (own_p3 (1 : Int32) d2 d3).toNatClampNeg 0))) (own_pr3 _ _ _) rfl (own_getD_int ([(1 : Int32), je1, je2, (0 : Int32), (0 : Int32)] : List Int32) _) (g := (mkF m 365 #[.val (.int p0), .val (.int p1), .val (.ref b1), .val (.int hh), .val (.ref b17), .val (.ref b31), .val (.ref b38), .val (.ref b75), .val (.ref b127), .val (.ref b146), .unset] [(.int (own_p3 (1 : Int32) d2 d3)), (.ref b146), (.int (3 : Int32)), (.ref b146)])) rfl rfl (hb hby at_365) _) ?_
                  show Go p.tables e below P (T164.setTop (mkF m 366 #[.val (.int p0), .val (.int p1), .val (.ref b1), .val (.int hh), .val (.ref b17), .val (.ref b31), .val (.ref b38), .val (.ref b75), .val (.ref b127), .val (.ref b146), .unset] [(.int (([(1 : Int32), je1, je2, (0 : Int32), (0 : Int32)] : List Int32).getD (own_p3 (1 : Int32) d2 d3).toNatClampNeg 0)), (.int (3 : Int32)), (.ref b146)]))
                  by_cases hc215 : (([(1 : Int32), je1, je2, (0 : Int32), (0 : Int32)] : List Int32).getD (own_p3 (1 : Int32) d2 d3).toNatClampNeg 0) = (0 : Int32)
                  · skip
                    refine Go.st (fun _ => XS.ifYes X164.here hx rfl (pc0 := 366) (pc' := 373) rfl (hb hby at_366) rfl ((if0 _ _).trans (teq hc215).1) (by decide) (by decide)) ?_
                    show Go p.tables e below P (T164.setTop (mkF m 373 #[.val (.int p0), .val (.int p1), .val (.ref b1), .val (.int hh), .val (.ref b17), .val (.ref b31), .val (.ref b38), .val (.ref b75), .val (.ref b127), .val (.ref b146), .unset] [(.int (3 : Int32)), (.ref b146)]))
                    refine Go.st (fun _ => XS.iconst X164.here hx rfl (hb hby at_373)) ?_
                    show Go p.tables e below P (T164.setTop (mkF m 374 #[.val (.int p0), .val (.int p1), .val (.ref b1), .val (.int hh), .val (.ref b17), .val (.ref b31), .val (.ref b38), .val (.ref b75), .val (.ref b127), .val (.ref b146), .unset] [(.int (0 : Int32)), (.int (3 : Int32)), (.ref b146)]))
                    exact J167 (0 : Int32) (by first | exact own_an0 (by assumption) | exact own_an1 (by assumption) (by assumption) | exact own_an2 (by assumption) (by assumption) | exact own_an2 (by assumption) (by decide))
                  · skip
                    refine Go.st (fun _ => XS.ifNo X164.here hx rfl (hb hby at_366) rfl ((if0 _ _).trans (feq hc215).1)) ?_
                    show Go p.tables e below P (T164.setTop (mkF m 369 #[.val (.int p0), .val (.int p1), .val (.ref b1), .val (.int hh), .val (.ref b17), .val (.ref b31), .val (.ref b38), .val (.ref b75), .val (.ref b127), .val (.ref b146), .unset] [(.int (3 : Int32)), (.ref b146)]))
                    refine Go.st (fun _ => XS.iconst X164.here hx rfl (hb hby at_369)) ?_
                    show Go p.tables e below P (T164.setTop (mkF m 370 #[.val (.int p0), .val (.int p1), .val (.ref b1), .val (.int hh), .val (.ref b17), .val (.ref b31), .val (.ref b38), .val (.ref b75), .val (.ref b127), .val (.ref b146), .unset] [(.int (1 : Int32)), (.int (3 : Int32)), (.ref b146)]))
                    refine Go.st (fun _ => XS.goto X164.here hx rfl (pc0 := 370) (pc' := 374) rfl (hb hby at_370) (by decide) (by decide)) ?_
                    show Go p.tables e below P (T164.setTop (mkF m 374 #[.val (.int p0), .val (.int p1), .val (.ref b1), .val (.int hh), .val (.ref b17), .val (.ref b31), .val (.ref b38), .val (.ref b75), .val (.ref b127), .val (.ref b146), .unset] [(.int (1 : Int32)), (.int (3 : Int32)), (.ref b146)]))
                    exact J167 (1 : Int32) (by first | exact own_an0 (by assumption) | exact own_an1 (by assumption) (by assumption) | exact own_an2 (by assumption) (by assumption) | exact own_an2 (by assumption) (by decide))
              by_cases hc216 : jb2 = (0 : Int32)
              · skip
                refine Go.st (fun _ => XS.ifYes X160.here hx rfl (pc0 := 330) (pc' := 347) rfl (hb hby at_330) rfl ((if0 _ _).trans (teq hc216).1) (by decide) (by decide)) ?_
                show Go p.tables e below P (T160.setTop (mkF m 347 #[.val (.int p0), .val (.int p1), .val (.ref b1), .val (.int hh), .val (.ref b17), .val (.ref b31), .val (.ref b38), .val (.ref b75), .val (.ref b127), .val (.ref b146), .unset] [(.int (2 : Int32)), (.ref b146)]))
                refine Go.st (fun _ => XS.iconst X160.here hx rfl (hb hby at_347)) ?_
                show Go p.tables e below P (T160.setTop (mkF m 348 #[.val (.int p0), .val (.int p1), .val (.ref b1), .val (.int hh), .val (.ref b17), .val (.ref b31), .val (.ref b38), .val (.ref b75), .val (.ref b127), .val (.ref b146), .unset] [(.int (0 : Int32)), (.int (2 : Int32)), (.ref b146)]))
                exact J163 (0 : Int32) (by first | exact own_an0 (by assumption) | exact own_an1 (by assumption) (by assumption) | exact own_an2 (by assumption) (by assumption) | exact own_an2 (by assumption) (by decide))
              · skip
                refine Go.st (fun _ => XS.ifNo X160.here hx rfl (hb hby at_330) rfl ((if0 _ _).trans (feq hc216).1)) ?_
                show Go p.tables e below P (T160.setTop (mkF m 333 #[.val (.int p0), .val (.int p1), .val (.ref b1), .val (.int hh), .val (.ref b17), .val (.ref b31), .val (.ref b38), .val (.ref b75), .val (.ref b127), .val (.ref b146), .unset] [(.int (2 : Int32)), (.ref b146)]))
                refine Go.st (fun _ => XS.aload X160.here hx rfl (hb hby at_333) rfl rfl) ?_
                show Go p.tables e below P (T160.setTop (mkF m 335 #[.val (.int p0), .val (.int p1), .val (.ref b1), .val (.int hh), .val (.ref b17), .val (.ref b31), .val (.ref b38), .val (.ref b75), .val (.ref b127), .val (.ref b146), .unset] [(.ref b146), (.int (2 : Int32)), (.ref b146)]))
                refine Go.st (fun _ => XS.aload X160.here hx rfl (hb hby at_335) rfl rfl) ?_
                show Go p.tables e below P (T160.setTop (mkF m 337 #[.val (.int p0), .val (.int p1), .val (.ref b1), .val (.int hh), .val (.ref b17), .val (.ref b31), .val (.ref b38), .val (.ref b75), .val (.ref b127), .val (.ref b146), .unset] [(.ref b17), (.ref b146), (.int (2 : Int32)), (.ref b146)]))
                refine Go.st (fun _ => XS.iconst X160.here hx rfl (hb hby at_337)) ?_
                show Go p.tables e below P (T160.setTop (mkF m 338 #[.val (.int p0), .val (.int p1), .val (.ref b1), .val (.int hh), .val (.ref b17), .val (.ref b31), .val (.ref b38), .val (.ref b75), .val (.ref b127), .val (.ref b146), .unset] [(.int (2 : Int32)), (.ref b17), (.ref b146), (.int (2 : Int32)), (.ref b146)]))
                have c218 := (((c148.ext E146).other W156 (Nat.ne_of_lt (Nat.lt_of_lt_of_le c148.lt (Nat.le_of_eq g146.symm)))).other W160 (Nat.ne_of_lt (Nat.lt_of_lt_of_le c148.lt (Nat.le_of_eq g146.symm))))
                refine Go.st (fun _ => own_ldI X160 hx hZ e160 c218 (j := (2 : Int32)) (i := 2) (v := (.int (own_p2 (1 : Int32) d2))) (by decide) (by decide) rfl (g := (mkF m 338 #[.val (.int p0), .val (.int p1), .val (.ref b1), .val (.int hh), .val (.ref b17), .val (.ref b31), .val (.ref b38), .val (.ref b75), .val (.ref b127), .val (.ref b146), .unset] [(.int (2 : Int32)), (.ref b17), (.ref b146), (.int (2 : Int32)), (.ref b146)])) rfl rfl (hb hby at_338) _) ?_
                show Go p.tables e below P (T160.setTop (mkF m 339 #[.val (.int p0), .val (.int p1), .val (.ref b1), .val (.int hh), .val (.ref b17), .val (.ref b31), .val (.ref b38), .val (.ref b75), .val (.ref b127), .val (.ref b146), .unset] [(.int (own_p2 (1 : Int32) d2)), (.ref b146), (.int (2 : Int32)), (.ref b146)]))
                refine Go.st (fun _ => own_ldZ X160 hx hZ e160 V160' (j := (own_p2 (1 : Int32) d2)) (i := ((own_p2 (1 : Int32) d2)).toNatClampNeg) (v := (.int (([(1 : Int32), je1, (0 : Int32), (0 : Int32), (0 : Int32)] : List Int32).getD (own_p2 (1 : Int32) d2).toNatClampNeg 0))) (own_pr2 hd2) rfl (own_getD_int ([(1 : Int32), je1, (0 : Int32), (0 : Int32), (0 : Int32)] : List Int32) _) (g := (mkF m 339 #[.val (.int p0), .val (.int p1), .val (.ref b1), .val (.int hh), .val (.ref b17), .val (.ref b31), .val (.ref b38), .val (.ref b75), .val (.ref b127), .val (.ref b146), .unset] [(.int (own_p2 (1 : Int32) d2)), (.ref b146), (.int (2 : Int32)), (.ref b146)])) rfl rfl (hb hby at_339) _) ?_
                show Go p.tables e below P (T160.setTop (mkF m 340 #[.val (.int p0), .val (.int p1), .val (.ref b1), .val (.int hh), .val (.ref b17), .val (.ref b31), .val (.ref b38), .val (.ref b75), .val (.ref b127), .val (.ref b146), .unset] [(.int (([(1 : Int32), je1, (0 : Int32), (0 : Int32), (0 : Int32)] : List Int32).getD (own_p2 (1 : Int32) d2).toNatClampNeg 0)), (.int (2 : Int32)), (.ref b146)]))
                by_cases hc220 : (([(1 : Int32), je1, (0 : Int32), (0 : Int32), (0 : Int32)] : List Int32).getD (own_p2 (1 : Int32) d2).toNatClampNeg 0) = (0 : Int32)
                · skip
                  refine Go.st (fun _ => XS.ifYes X160.here hx rfl (pc0 := 340) (pc' := 347) rfl (hb hby at_340) rfl ((if0 _ _).trans (teq hc220).1) (by decide) (by decide)) ?_
                  show Go p.tables e below P (T160.setTop (mkF m 347 #[.val (.int p0), .val (.int p1), .val (.ref b1), .val (.int hh), .val (.ref b17), .val (.ref b31), .val (.ref b38), .val (.ref b75), .val (.ref b127), .val (.ref b146), .unset] [(.int (2 : Int32)), (.ref b146)]))
                  refine Go.st (fun _ => XS.iconst X160.here hx rfl (hb hby at_347)) ?_
                  show Go p.tables e below P (T160.setTop (mkF m 348 #[.val (.int p0), .val (.int p1), .val (.ref b1), .val (.int hh), .val (.ref b17), .val (.ref b31), .val (.ref b38), .val (.ref b75), .val (.ref b127), .val (.ref b146), .unset] [(.int (0 : Int32)), (.int (2 : Int32)), (.ref b146)]))
                  exact J163 (0 : Int32) (by first | exact own_an0 (by assumption) | exact own_an1 (by assumption) (by assumption) | exact own_an2 (by assumption) (by assumption) | exact own_an2 (by assumption) (by decide))
                · skip
                  refine Go.st (fun _ => XS.ifNo X160.here hx rfl (hb hby at_340) rfl ((if0 _ _).trans (feq hc220).1)) ?_
                  show Go p.tables e below P (T160.setTop (mkF m 343 #[.val (.int p0), .val (.int p1), .val (.ref b1), .val (.int hh), .val (.ref b17), .val (.ref b31), .val (.ref b38), .val (.ref b75), .val (.ref b127), .val (.ref b146), .unset] [(.int (2 : Int32)), (.ref b146)]))
                  refine Go.st (fun _ => XS.iconst X160.here hx rfl (hb hby at_343)) ?_
                  show Go p.tables e below P (T160.setTop (mkF m 344 #[.val (.int p0), .val (.int p1), .val (.ref b1), .val (.int hh), .val (.ref b17), .val (.ref b31), .val (.ref b38), .val (.ref b75), .val (.ref b127), .val (.ref b146), .unset] [(.int (1 : Int32)), (.int (2 : Int32)), (.ref b146)]))
                  refine Go.st (fun _ => XS.goto X160.here hx rfl (pc0 := 344) (pc' := 348) rfl (hb hby at_344) (by decide) (by decide)) ?_
                  show Go p.tables e below P (T160.setTop (mkF m 348 #[.val (.int p0), .val (.int p1), .val (.ref b1), .val (.int hh), .val (.ref b17), .val (.ref b31), .val (.ref b38), .val (.ref b75), .val (.ref b127), .val (.ref b146), .unset] [(.int (1 : Int32)), (.int (2 : Int32)), (.ref b146)]))
                  exact J163 (1 : Int32) (by first | exact own_an0 (by assumption) | exact own_an1 (by assumption) (by assumption) | exact own_an2 (by assumption) (by assumption) | exact own_an2 (by assumption) (by decide))
            by_cases hc221 : jb1 = (0 : Int32)
            · skip
              refine Go.st (fun _ => XS.ifYes X156.here hx rfl (pc0 := 304) (pc' := 321) rfl (hb hby at_304) rfl ((if0 _ _).trans (teq hc221).1) (by decide) (by decide)) ?_
              show Go p.tables e below P (T156.setTop (mkF m 321 #[.val (.int p0), .val (.int p1), .val (.ref b1), .val (.int hh), .val (.ref b17), .val (.ref b31), .val (.ref b38), .val (.ref b75), .val (.ref b127), .val (.ref b146), .unset] [(.int (1 : Int32)), (.ref b146)]))
              refine Go.st (fun _ => XS.iconst X156.here hx rfl (hb hby at_321)) ?_
              show Go p.tables e below P (T156.setTop (mkF m 322 #[.val (.int p0), .val (.int p1), .val (.ref b1), .val (.int hh), .val (.ref b17), .val (.ref b31), .val (.ref b38), .val (.ref b75), .val (.ref b127), .val (.ref b146), .unset] [(.int (0 : Int32)), (.int (1 : Int32)), (.ref b146)]))
              exact J159 (0 : Int32) (by first | exact own_an0 (by assumption) | exact own_an1 (by assumption) (by assumption) | exact own_an2 (by assumption) (by assumption) | exact own_an2 (by assumption) (by decide))
            · skip
              refine Go.st (fun _ => XS.ifNo X156.here hx rfl (hb hby at_304) rfl ((if0 _ _).trans (feq hc221).1)) ?_
              show Go p.tables e below P (T156.setTop (mkF m 307 #[.val (.int p0), .val (.int p1), .val (.ref b1), .val (.int hh), .val (.ref b17), .val (.ref b31), .val (.ref b38), .val (.ref b75), .val (.ref b127), .val (.ref b146), .unset] [(.int (1 : Int32)), (.ref b146)]))
              refine Go.st (fun _ => XS.aload X156.here hx rfl (hb hby at_307) rfl rfl) ?_
              show Go p.tables e below P (T156.setTop (mkF m 309 #[.val (.int p0), .val (.int p1), .val (.ref b1), .val (.int hh), .val (.ref b17), .val (.ref b31), .val (.ref b38), .val (.ref b75), .val (.ref b127), .val (.ref b146), .unset] [(.ref b146), (.int (1 : Int32)), (.ref b146)]))
              refine Go.st (fun _ => XS.aload X156.here hx rfl (hb hby at_309) rfl rfl) ?_
              show Go p.tables e below P (T156.setTop (mkF m 311 #[.val (.int p0), .val (.int p1), .val (.ref b1), .val (.int hh), .val (.ref b17), .val (.ref b31), .val (.ref b38), .val (.ref b75), .val (.ref b127), .val (.ref b146), .unset] [(.ref b17), (.ref b146), (.int (1 : Int32)), (.ref b146)]))
              refine Go.st (fun _ => XS.iconst X156.here hx rfl (hb hby at_311)) ?_
              show Go p.tables e below P (T156.setTop (mkF m 312 #[.val (.int p0), .val (.int p1), .val (.ref b1), .val (.int hh), .val (.ref b17), .val (.ref b31), .val (.ref b38), .val (.ref b75), .val (.ref b127), .val (.ref b146), .unset] [(.int (1 : Int32)), (.ref b17), (.ref b146), (.int (1 : Int32)), (.ref b146)]))
              have c223 := ((c148.ext E146).other W156 (Nat.ne_of_lt (Nat.lt_of_lt_of_le c148.lt (Nat.le_of_eq g146.symm))))
              refine Go.st (fun _ => own_ldI X156 hx hZ e156 c223 (j := (1 : Int32)) (i := 1) (v := (.int (0 : Int32))) (by decide) (by decide) rfl (g := (mkF m 312 #[.val (.int p0), .val (.int p1), .val (.ref b1), .val (.int hh), .val (.ref b17), .val (.ref b31), .val (.ref b38), .val (.ref b75), .val (.ref b127), .val (.ref b146), .unset] [(.int (1 : Int32)), (.ref b17), (.ref b146), (.int (1 : Int32)), (.ref b146)])) rfl rfl (hb hby at_312) _) ?_
              show Go p.tables e below P (T156.setTop (mkF m 313 #[.val (.int p0), .val (.int p1), .val (.ref b1), .val (.int hh), .val (.ref b17), .val (.ref b31), .val (.ref b38), .val (.ref b75), .val (.ref b127), .val (.ref b146), .unset] [(.int (0 : Int32)), (.ref b146), (.int (1 : Int32)), (.ref b146)]))
              refine Go.st (fun _ => own_ldZ X156 hx hZ e156 V156' (j := (0 : Int32)) (i := 0) (v := (.int (1 : Int32))) (by decide) (by decide) rfl (g := (mkF m 313 #[.val (.int p0), .val (.int p1), .val (.ref b1), .val (.int hh), .val (.ref b17), .val (.ref b31), .val (.ref b38), .val (.ref b75), .val (.ref b127), .val (.ref b146), .unset] [(.int (0 : Int32)), (.ref b146), (.int (1 : Int32)), (.ref b146)])) rfl rfl (hb hby at_313) _) ?_
              show Go p.tables e below P (T156.setTop (mkF m 314 #[.val (.int p0), .val (.int p1), .val (.ref b1), .val (.int hh), .val (.ref b17), .val (.ref b31), .val (.ref b38), .val (.ref b75), .val (.ref b127), .val (.ref b146), .unset] [(.int (1 : Int32)), (.int (1 : Int32)), (.ref b146)]))
              refine Go.st (fun _ => XS.ifNo X156.here hx rfl (hb hby at_314) rfl ((if0 _ _).trans (feq (by decide)).1)) ?_
              show Go p.tables e below P (T156.setTop (mkF m 317 #[.val (.int p0), .val (.int p1), .val (.ref b1), .val (.int hh), .val (.ref b17), .val (.ref b31), .val (.ref b38), .val (.ref b75), .val (.ref b127), .val (.ref b146), .unset] [(.int (1 : Int32)), (.ref b146)]))
              refine Go.st (fun _ => XS.iconst X156.here hx rfl (hb hby at_317)) ?_
              show Go p.tables e below P (T156.setTop (mkF m 318 #[.val (.int p0), .val (.int p1), .val (.ref b1), .val (.int hh), .val (.ref b17), .val (.ref b31), .val (.ref b38), .val (.ref b75), .val (.ref b127), .val (.ref b146), .unset] [(.int (1 : Int32)), (.int (1 : Int32)), (.ref b146)]))
              refine Go.st (fun _ => XS.goto X156.here hx rfl (pc0 := 318) (pc' := 322) rfl (hb hby at_318) (by decide) (by decide)) ?_
              show Go p.tables e below P (T156.setTop (mkF m 322 #[.val (.int p0), .val (.int p1), .val (.ref b1), .val (.int hh), .val (.ref b17), .val (.ref b31), .val (.ref b38), .val (.ref b75), .val (.ref b127), .val (.ref b146), .unset] [(.int (1 : Int32)), (.int (1 : Int32)), (.ref b146)]))
              exact J159 (1 : Int32) (by first | exact own_an0 (by assumption) | exact own_an1 (by assumption) (by assumption) | exact own_an2 (by assumption) (by assumption) | exact own_an2 (by assumption) (by decide))
          by_cases hc225 : (((p1.toUInt32 >>> ((4 : Int32) &&& 31).toUInt32).toInt32) &&& (1 : Int32)) = (0 : Int32)
          · skip
            refine Go.st (fun _ => XS.ifYes X143.here hx rfl (pc0 := 278) (pc' := 285) rfl (hb hby at_278) rfl ((if0 _ _).trans (teq hc225).1) (by decide) (by decide)) ?_
            show Go p.tables e below P (T143.setTop (mkF m 285 #[.val (.int p0), .val (.int p1), .val (.ref b1), .val (.int hh), .val (.ref b17), .val (.ref b31), .val (.ref b38), .val (.ref b75), .val (.ref b127), .unset, .unset] [(.int (4 : Int32)), (.ref b127)]))
            refine Go.st (fun _ => XS.iconst X143.here hx rfl (hb hby at_285)) ?_
            show Go p.tables e below P (T143.setTop (mkF m 286 #[.val (.int p0), .val (.int p1), .val (.ref b1), .val (.int hh), .val (.ref b17), .val (.ref b31), .val (.ref b38), .val (.ref b75), .val (.ref b127), .unset, .unset] [(.int (0 : Int32)), (.int (4 : Int32)), (.ref b127)]))
            exact J144 (0 : Int32) (by decide)
          · skip
            refine Go.st (fun _ => XS.ifNo X143.here hx rfl (hb hby at_278) rfl ((if0 _ _).trans (feq hc225).1)) ?_
            show Go p.tables e below P (T143.setTop (mkF m 281 #[.val (.int p0), .val (.int p1), .val (.ref b1), .val (.int hh), .val (.ref b17), .val (.ref b31), .val (.ref b38), .val (.ref b75), .val (.ref b127), .unset, .unset] [(.int (4 : Int32)), (.ref b127)]))
            refine Go.st (fun _ => XS.iconst X143.here hx rfl (hb hby at_281)) ?_
            show Go p.tables e below P (T143.setTop (mkF m 282 #[.val (.int p0), .val (.int p1), .val (.ref b1), .val (.int hh), .val (.ref b17), .val (.ref b31), .val (.ref b38), .val (.ref b75), .val (.ref b127), .unset, .unset] [(.int (1 : Int32)), (.int (4 : Int32)), (.ref b127)]))
            refine Go.st (fun _ => XS.goto X143.here hx rfl (pc0 := 282) (pc' := 286) rfl (hb hby at_282) (by decide) (by decide)) ?_
            show Go p.tables e below P (T143.setTop (mkF m 286 #[.val (.int p0), .val (.int p1), .val (.ref b1), .val (.int hh), .val (.ref b17), .val (.ref b31), .val (.ref b38), .val (.ref b75), .val (.ref b127), .unset, .unset] [(.int (1 : Int32)), (.int (4 : Int32)), (.ref b127)]))
            exact J144 (1 : Int32) (by decide)
        by_cases hc226 : (((p1.toUInt32 >>> ((3 : Int32) &&& 31).toUInt32).toInt32) &&& (1 : Int32)) = (0 : Int32)
        · skip
          refine Go.st (fun _ => XS.ifYes X141.here hx rfl (pc0 := 261) (pc' := 268) rfl (hb hby at_261) rfl ((if0 _ _).trans (teq hc226).1) (by decide) (by decide)) ?_
          show Go p.tables e below P (T141.setTop (mkF m 268 #[.val (.int p0), .val (.int p1), .val (.ref b1), .val (.int hh), .val (.ref b17), .val (.ref b31), .val (.ref b38), .val (.ref b75), .val (.ref b127), .unset, .unset] [(.int (3 : Int32)), (.ref b127)]))
          refine Go.st (fun _ => XS.iconst X141.here hx rfl (hb hby at_268)) ?_
          show Go p.tables e below P (T141.setTop (mkF m 269 #[.val (.int p0), .val (.int p1), .val (.ref b1), .val (.int hh), .val (.ref b17), .val (.ref b31), .val (.ref b38), .val (.ref b75), .val (.ref b127), .unset, .unset] [(.int (0 : Int32)), (.int (3 : Int32)), (.ref b127)]))
          exact J142 (0 : Int32) (by decide)
        · skip
          refine Go.st (fun _ => XS.ifNo X141.here hx rfl (hb hby at_261) rfl ((if0 _ _).trans (feq hc226).1)) ?_
          show Go p.tables e below P (T141.setTop (mkF m 264 #[.val (.int p0), .val (.int p1), .val (.ref b1), .val (.int hh), .val (.ref b17), .val (.ref b31), .val (.ref b38), .val (.ref b75), .val (.ref b127), .unset, .unset] [(.int (3 : Int32)), (.ref b127)]))
          refine Go.st (fun _ => XS.iconst X141.here hx rfl (hb hby at_264)) ?_
          show Go p.tables e below P (T141.setTop (mkF m 265 #[.val (.int p0), .val (.int p1), .val (.ref b1), .val (.int hh), .val (.ref b17), .val (.ref b31), .val (.ref b38), .val (.ref b75), .val (.ref b127), .unset, .unset] [(.int (1 : Int32)), (.int (3 : Int32)), (.ref b127)]))
          refine Go.st (fun _ => XS.goto X141.here hx rfl (pc0 := 265) (pc' := 269) rfl (hb hby at_265) (by decide) (by decide)) ?_
          show Go p.tables e below P (T141.setTop (mkF m 269 #[.val (.int p0), .val (.int p1), .val (.ref b1), .val (.int hh), .val (.ref b17), .val (.ref b31), .val (.ref b38), .val (.ref b75), .val (.ref b127), .unset, .unset] [(.int (1 : Int32)), (.int (3 : Int32)), (.ref b127)]))
          exact J142 (1 : Int32) (by decide)
      by_cases hc227 : (((p1.toUInt32 >>> ((2 : Int32) &&& 31).toUInt32).toInt32) &&& (1 : Int32)) = (0 : Int32)
      · skip
        refine Go.st (fun _ => XS.ifYes X139.here hx rfl (pc0 := 244) (pc' := 251) rfl (hb hby at_244) rfl ((if0 _ _).trans (teq hc227).1) (by decide) (by decide)) ?_
        show Go p.tables e below P (T139.setTop (mkF m 251 #[.val (.int p0), .val (.int p1), .val (.ref b1), .val (.int hh), .val (.ref b17), .val (.ref b31), .val (.ref b38), .val (.ref b75), .val (.ref b127), .unset, .unset] [(.int (2 : Int32)), (.ref b127)]))
        refine Go.st (fun _ => XS.iconst X139.here hx rfl (hb hby at_251)) ?_
        show Go p.tables e below P (T139.setTop (mkF m 252 #[.val (.int p0), .val (.int p1), .val (.ref b1), .val (.int hh), .val (.ref b17), .val (.ref b31), .val (.ref b38), .val (.ref b75), .val (.ref b127), .unset, .unset] [(.int (0 : Int32)), (.int (2 : Int32)), (.ref b127)]))
        exact J140 (0 : Int32) (by decide)
      · skip
        refine Go.st (fun _ => XS.ifNo X139.here hx rfl (hb hby at_244) rfl ((if0 _ _).trans (feq hc227).1)) ?_
        show Go p.tables e below P (T139.setTop (mkF m 247 #[.val (.int p0), .val (.int p1), .val (.ref b1), .val (.int hh), .val (.ref b17), .val (.ref b31), .val (.ref b38), .val (.ref b75), .val (.ref b127), .unset, .unset] [(.int (2 : Int32)), (.ref b127)]))
        refine Go.st (fun _ => XS.iconst X139.here hx rfl (hb hby at_247)) ?_
        show Go p.tables e below P (T139.setTop (mkF m 248 #[.val (.int p0), .val (.int p1), .val (.ref b1), .val (.int hh), .val (.ref b17), .val (.ref b31), .val (.ref b38), .val (.ref b75), .val (.ref b127), .unset, .unset] [(.int (1 : Int32)), (.int (2 : Int32)), (.ref b127)]))
        refine Go.st (fun _ => XS.goto X139.here hx rfl (pc0 := 248) (pc' := 252) rfl (hb hby at_248) (by decide) (by decide)) ?_
        show Go p.tables e below P (T139.setTop (mkF m 252 #[.val (.int p0), .val (.int p1), .val (.ref b1), .val (.int hh), .val (.ref b17), .val (.ref b31), .val (.ref b38), .val (.ref b75), .val (.ref b127), .unset, .unset] [(.int (1 : Int32)), (.int (2 : Int32)), (.ref b127)]))
        exact J140 (1 : Int32) (by decide)
    by_cases hc228 : (((p1.toUInt32 >>> ((1 : Int32) &&& 31).toUInt32).toInt32) &&& (1 : Int32)) = (0 : Int32)
    · skip
      refine Go.st (fun _ => XS.ifYes X137.here hx rfl (pc0 := 227) (pc' := 234) rfl (hb hby at_227) rfl ((if0 _ _).trans (teq hc228).1) (by decide) (by decide)) ?_
      show Go p.tables e below P (T137.setTop (mkF m 234 #[.val (.int p0), .val (.int p1), .val (.ref b1), .val (.int hh), .val (.ref b17), .val (.ref b31), .val (.ref b38), .val (.ref b75), .val (.ref b127), .unset, .unset] [(.int (1 : Int32)), (.ref b127)]))
      refine Go.st (fun _ => XS.iconst X137.here hx rfl (hb hby at_234)) ?_
      show Go p.tables e below P (T137.setTop (mkF m 235 #[.val (.int p0), .val (.int p1), .val (.ref b1), .val (.int hh), .val (.ref b17), .val (.ref b31), .val (.ref b38), .val (.ref b75), .val (.ref b127), .unset, .unset] [(.int (0 : Int32)), (.int (1 : Int32)), (.ref b127)]))
      exact J138 (0 : Int32) (by decide)
    · skip
      refine Go.st (fun _ => XS.ifNo X137.here hx rfl (hb hby at_227) rfl ((if0 _ _).trans (feq hc228).1)) ?_
      show Go p.tables e below P (T137.setTop (mkF m 230 #[.val (.int p0), .val (.int p1), .val (.ref b1), .val (.int hh), .val (.ref b17), .val (.ref b31), .val (.ref b38), .val (.ref b75), .val (.ref b127), .unset, .unset] [(.int (1 : Int32)), (.ref b127)]))
      refine Go.st (fun _ => XS.iconst X137.here hx rfl (hb hby at_230)) ?_
      show Go p.tables e below P (T137.setTop (mkF m 231 #[.val (.int p0), .val (.int p1), .val (.ref b1), .val (.int hh), .val (.ref b17), .val (.ref b31), .val (.ref b38), .val (.ref b75), .val (.ref b127), .unset, .unset] [(.int (1 : Int32)), (.int (1 : Int32)), (.ref b127)]))
      refine Go.st (fun _ => XS.goto X137.here hx rfl (pc0 := 231) (pc' := 235) rfl (hb hby at_231) (by decide) (by decide)) ?_
      show Go p.tables e below P (T137.setTop (mkF m 235 #[.val (.int p0), .val (.int p1), .val (.ref b1), .val (.int hh), .val (.ref b17), .val (.ref b31), .val (.ref b38), .val (.ref b75), .val (.ref b127), .unset, .unset] [(.int (1 : Int32)), (.int (1 : Int32)), (.ref b127)]))
      exact J138 (1 : Int32) (by decide)
  by_cases hc229 : (p1 &&& (1 : Int32)) = (0 : Int32)
  · skip
    refine Go.st (fun _ => XS.ifYes X127.here hx rfl (pc0 := 210) (pc' := 217) rfl (hb hby at_210) rfl ((if0 _ _).trans (teq hc229).1) (by decide) (by decide)) ?_
    show Go p.tables e below P (T127.setTop (mkF m 217 #[.val (.int p0), .val (.int p1), .val (.ref b1), .val (.int hh), .val (.ref b17), .val (.ref b31), .val (.ref b38), .val (.ref b75), .val (.ref b127), .unset, .unset] [(.int (0 : Int32)), (.ref b127)]))
    refine Go.st (fun _ => XS.iconst X127.here hx rfl (hb hby at_217)) ?_
    show Go p.tables e below P (T127.setTop (mkF m 218 #[.val (.int p0), .val (.int p1), .val (.ref b1), .val (.int hh), .val (.ref b17), .val (.ref b31), .val (.ref b38), .val (.ref b75), .val (.ref b127), .unset, .unset] [(.int (0 : Int32)), (.int (0 : Int32)), (.ref b127)]))
    exact J136 (0 : Int32) (by decide)
  · skip
    refine Go.st (fun _ => XS.ifNo X127.here hx rfl (hb hby at_210) rfl ((if0 _ _).trans (feq hc229).1)) ?_
    show Go p.tables e below P (T127.setTop (mkF m 213 #[.val (.int p0), .val (.int p1), .val (.ref b1), .val (.int hh), .val (.ref b17), .val (.ref b31), .val (.ref b38), .val (.ref b75), .val (.ref b127), .unset, .unset] [(.int (0 : Int32)), (.ref b127)]))
    refine Go.st (fun _ => XS.iconst X127.here hx rfl (hb hby at_213)) ?_
    show Go p.tables e below P (T127.setTop (mkF m 214 #[.val (.int p0), .val (.int p1), .val (.ref b1), .val (.int hh), .val (.ref b17), .val (.ref b31), .val (.ref b38), .val (.ref b75), .val (.ref b127), .unset, .unset] [(.int (1 : Int32)), (.int (0 : Int32)), (.ref b127)]))
    refine Go.st (fun _ => XS.goto X127.here hx rfl (pc0 := 214) (pc' := 218) rfl (hb hby at_214) (by decide) (by decide)) ?_
    show Go p.tables e below P (T127.setTop (mkF m 218 #[.val (.int p0), .val (.int p1), .val (.ref b1), .val (.int hh), .val (.ref b17), .val (.ref b31), .val (.ref b38), .val (.ref b75), .val (.ref b127), .unset, .unset] [(.int (1 : Int32)), (.int (0 : Int32)), (.ref b127)]))
    exact J136 (1 : Int32) (by decide)
set_option maxRecDepth 65536 in
set_option maxHeartbeats 40000000 in
theorem comes_1 {Post : Tables → Env → Array Value → State → Outcome → State → Prop} (hpost : ∀ tb e args s v u, (limb_1_1.after args s (.returned v) u = true ∧ limb_1_2.after args s (.returned v) u = true ∧ True) → FrameEnd s (.returned v) u (Jvm.fieldLocs frame_1_writes args s ++ Jvm.arrayLocs frame_1_arrays args s ++ Jvm.staticLocs frame_1_statics s) 48 320 → Post tb e args s (.returned v) u) :
    ArmFor flags0 classFile x code maxLocals ret World_1 tables_1 room_1 Calls_1 rest_1 Pre_1 Post := by
  intro l hfl _ _ p e ha hc hk s m args below hf hA hF happ hP
  obtain ⟨hcalls, hrest, hpre⟩ := hP
  obtain ⟨-, -, -, hnamed, -, -, -, hat⟩ := (Spec.applies_iff hf).mp happ
  obtain ⟨hg, hn⟩ := and_e (Cond.before_iff.mp (show (Jvm.Cond.and given_1 narrow_1).before args s = true from hpre))
  obtain ⟨hc_1, hc_2⟩ := and_e hg
  obtain ⟨hc_3, hc_4⟩ := and_e hc_2
  obtain ⟨w0, w1, rfl⟩ : ∃ w0 w1 : Value, args = #[w0, w1] := by
    have hs : args.size = 2 := by simpa [Cond.value, given_1] using hc_1
    obtain ⟨L⟩ := args
    match L, hs with
    | [w0, w1], _ => exact ⟨w0, w1, rfl⟩
  have hw := fun d (hd : d ∈ tables_1) => atoms_spec (ws := Jvm.Cond.code x code maxLocals ret :: tables_1) hat d (List.mem_cons_of_mem _ hd)
  have hfit : Fit s := fun {y c} hc i hi => by
    obtain ⟨ha, rfl⟩ := Array.getElem?_eq_some_iff.mp hc
    have q := List.all_eq_true.mp ((Array.all_eq_true_iff_forall_mem.mp hF) _ (Array.getElem_mem ha)) i (List.mem_range.mpr hi)
    simpa [Array.getElem?_eq_getElem hi] using q
  obtain ⟨hsets, hown0⟩ := atoms_of _ (rest_1_c_eq ▸ (show rest_1_c.before _ s = true from hrest))
  obtain ⟨i0, ea0⟩ := is_v hc_3
  obtain rfl : w0 = (.int i0) := Option.some.inj ea0
  obtain ⟨i1, ea1⟩ := is_v hc_4
  obtain rfl : w1 = (.int i1) := Option.some.inj ea1
  obtain ⟨w_EM, ev_EM⟩ := exa_v (Cond.before_iff.mp (hsets _ (List.mem_of_getElem? (i := 2) rfl)))
  have S_EM := Sta.start ev_EM (Or.inl (hsets _ (List.mem_of_getElem? (i := 1) rfl)))
  have X_EM := Exa.start ev_EM (Cond.before_iff.mp (hsets _ (List.mem_of_getElem? (i := 2) rfl)))
  obtain ⟨n, o, h1, h2, h3, _, L, rfl, ⟨rfl, N, _⟩, hq⟩ := rm_law l s _ hw tables_1 w_EM S_EM X_EM i0 i1 s.heap s.heap.size (Old.start s) p e ha hc hk s m _ below hf ((Spec.applies_iff_loose hf).mp happ).1 ⟨rfl, State.Warmed39.refl s, rfl⟩ trivial
  refine ⟨n, _, h1, h2, h3, hpost _ _ _ _ _ _ ⟨Cond.after_iff.mpr rfl, Cond.after_iff.mpr (eq_i res_at (Term.int_eval (1)) rfl), trivial⟩ ⟨hq.1, hq.2.1, (hq.2.2.sift fun y hy => Or.inr (N y hy)).mono (by decide) (by decide)⟩⟩
theorem main_1_1 : Claimed_1_1 := comes_1 fun _ _ _ _ _ _ h hF => ⟨h.1, hF⟩
theorem main_1_2 : Claimed_1_2 := comes_1 fun _ _ _ _ _ _ h hF => ⟨h.2.1, hF⟩
end Jvm.Pilot.@@N@@
namespace Jvm.Pilot.@@N@@
open Jvm Jvm.ClassFile Sem Op Lib Jvm.Free Jvm.Stand Jvm.Pilot.@@N@@.Jvm.D
/-! MADE BY PROGRAM (witnessworld.py) out of the Statement's table words and the real class files: 21 classes; the members and pool entries that the words name. The judged class is class 1, her method 2. -/
namespace start1
open Jvm.ClassFile
def u (s : String) : CpInfo := .utf8 (stringToUtf16 s)
/-- a pool by its gaps: so many unusable entries, then the entry; so many at the end -/
def gap : Nat → List CpInfo → List CpInfo
  | 0, r => r
  | n + 1, r => .unusable :: gap n r
def poolList (es : List (Nat × CpInfo)) (last : Nat) : List CpInfo := es.foldr (fun e r => gap e.1 (e.2 :: r)) (gap last [])
def pool (es : List (Nat × CpInfo)) (last : Nat) : Array CpInfo := ⟨poolList es last⟩
def fileOf (pool : Array CpInfo) (this : Nat) (attrs : Array Attribute := #[]) (ms : Array MethodInfo := #[]) (fl : Nat := 33) (sup : Nat := 0) (ifs : Array Nat := #[]) (fds : Array FieldInfo := #[]) : ClassFile where
  minorVersion := 0
  majorVersion := 65
  constantPool := pool
  accessFlags := fl
  thisClass := this
  superClass := sup
  interfaces := ifs
  fields := fds
  methods := ms
  attributes := attrs
def plain (name : String) (sup : Option ClassId) : Class where
  name := name
  kind := .ordinary
  loader := none
  accessFlags := 33
  super := sup
  interfaces := #[]
  cf := none
  fields := #[]
  methods := #[]
  instanceTypes := #[]
  staticTypes := #[]
  resolved := #[]
  callSites := []
  init := .initialized
  statics := none
  mirror := none

def pool0 : Array CpInfo := pool [(5, u "<init>"), (0, u "()V"), (1, .class_ 10), (1, u "java/lang/Object")] 113

def k0c0 : Code := { maxStack := 0, maxLocals := 1, code := object_method_1_code, exceptionTable := #[], attributes := #[] }
def k0m0 : Method := { name := "<init>", desc := "()V", sig := { parameters := [], returnType := none }, accessFlags := 1, code := some k0c0 }
/-- java/lang/Object -/
def k0 : Class := { plain "java/lang/Object" none with
  accessFlags := 33
  interfaces := #[]
  cf := some (fileOf pool0 8 #[] #[{ accessFlags := 1, nameIndex := 5, descriptorIndex := 6, attributes := #[] }] 33 0 #[] #[])
  fields := #[]
  methods := #[k0m0]
  instanceTypes := #[]
  staticTypes := #[]
  resolved := Array.replicate 124 none
  statics := none }

def pool1 : Array CpInfo := pool [(2, .class_ 4), (1, u "java/lang/Object"), (0, u "<init>"), (0, u "()V"), (0, .methodref 8 9), (0, .class_ 10), (0, .nameAndType 11 12), (0, u "java/lang/Math"), (0, u "max"), (0, u "(II)I"), (0, .methodref 14 15), (0, .class_ 16), (0, .nameAndType 17 18), (0, u "com/example/parametree/parametree/MeanTreeAttachPinLaw"), (0, u "parentOf"), (0, u "([II)I"), (0, .class_ 20), (0, u "com/example/parametree/parametree/Tree"), (0, .interfaceMethodref 22 23), (0, .class_ 24), (0, .nameAndType 25 26), (0, u "java/util/Map"), (0, u "of"), (0, u "()Ljava/util/Map;"), (0, .methodref 19 28), (0, .nameAndType 5 29), (0, u "(Lcom/example/parametree/parametree/Ids;[II[I[I[I[IILjava/util/Map;)V"), (0, .class_ 31), (0, u "com/example/parametree/parametree/MeanTree"), (0, .methodref 30 33), (0, .nameAndType 5 34), (0, u "(Lcom/example/parametree/parametree/Tree;[D[D)V"), (0, .methodref 30 36), (0, .nameAndType 37 38), (0, u "attach"), (0, u "([Z)[Z"), (3, u "law"), (0, u "(II)Z")] 6

def k1m0 : Method := { name := "<init>", desc := "()V", sig := { parameters := [], returnType := none }, accessFlags := 1, code := none }
def k1c1 : Code := { maxStack := 2, maxLocals := 3, code := method_2_code, exceptionTable := #[], attributes := #[] }
def k1m1 : Method := { name := "parentOf", desc := "([II)I", sig := { parameters := [(.array .int), .int], returnType := some .int }, accessFlags := 10, code := some k1c1 }
def k1c2 : Code := { maxStack := 11, maxLocals := 11, code := code, exceptionTable := #[], attributes := #[] }
def k1m2 : Method := { name := "law", desc := "(II)Z", sig := { parameters := [.int, .int], returnType := some .boolean }, accessFlags := 9, code := some k1c2 }
/-- com/example/parametree/parametree/MeanTreeAttachPinLaw -/
def k1 : Class := { plain "com/example/parametree/parametree/MeanTreeAttachPinLaw" (some 0) with
  accessFlags := 49
  interfaces := #[]
  cf := some (fileOf pool1 14 #[] #[{ accessFlags := 1, nameIndex := 5, descriptorIndex := 6, attributes := #[] }, { accessFlags := 10, nameIndex := 17, descriptorIndex := 18, attributes := #[] }, { accessFlags := 9, nameIndex := 42, descriptorIndex := 43, attributes := #[] }] 49 2 #[] #[])
  fields := #[]
  methods := #[k1m0, k1m1, k1m2]
  instanceTypes := #[]
  staticTypes := #[]
  resolved := Array.replicate 50 none
  statics := none }

def pool2 : Array CpInfo := pool [(1, .class_ 2), (0, u "java/lang/Math"), (1, .class_ 6), (1, u "java/lang/Object"), (0, u "<init>"), (0, u "()V"), (89, .class_ 100), (1, u "java/lang/Math$RandomNumberGeneratorHolder"), (71, u "negativeZeroFloatBits"), (0, u "J"), (2, u "negativeZeroDoubleBits"), (21, u "max"), (46, u "$assertionsDisabled"), (0, u "Z"), (88, u "(II)I"), (2, u "twoToTheDoubleScaleDown"), (0, u "D"), (4, u "twoToTheDoubleScaleUp"), (9, u "E"), (3, u "PI"), (2, u "TAU"), (2, u "DEGREES_TO_RADIANS"), (0, u "RADIANS_TO_DEGREES")] 94

def k2m0 : Method := { name := "<init>", desc := "()V", sig := { parameters := [], returnType := none }, accessFlags := 2, code := none }
def k2c1 : Code := { maxStack := 2, maxLocals := 2, code := jdk_29_method_65_code, exceptionTable := #[], attributes := #[] }
def k2m1 : Method := { name := "max", desc := "(II)I", sig := { parameters := [.int, .int], returnType := some .int }, accessFlags := 9, code := some k2c1 }
/-- java/lang/Math -/
def k2 : Class := { plain "java/lang/Math" (some 0) with
  accessFlags := 49
  interfaces := #[]
  cf := some (fileOf pool2 1 #[.nestMembers #[98]] #[{ accessFlags := 2, nameIndex := 7, descriptorIndex := 8, attributes := #[] }, { accessFlags := 9, nameIndex := 198, descriptorIndex := 335, attributes := #[] }] 49 4 #[] #[{ accessFlags := 25, nameIndex := 354, descriptorIndex := 339, attributes := #[] }, { accessFlags := 25, nameIndex := 358, descriptorIndex := 339, attributes := #[] }, { accessFlags := 25, nameIndex := 361, descriptorIndex := 339, attributes := #[] }, { accessFlags := 26, nameIndex := 364, descriptorIndex := 339, attributes := #[] }, { accessFlags := 26, nameIndex := 365, descriptorIndex := 339, attributes := #[] }, { accessFlags := 26, nameIndex := 172, descriptorIndex := 173, attributes := #[] }, { accessFlags := 26, nameIndex := 176, descriptorIndex := 173, attributes := #[] }, { accessFlags := 8, nameIndex := 344, descriptorIndex := 339, attributes := #[] }, { accessFlags := 8, nameIndex := 338, descriptorIndex := 339, attributes := #[] }, { accessFlags := 4120, nameIndex := 245, descriptorIndex := 246, attributes := #[] }])
  fields := #[{ name := "E", type := .double, accessFlags := 25, slot := 0, constantValue := 0 }, { name := "PI", type := .double, accessFlags := 25, slot := 1, constantValue := 0 }, { name := "TAU", type := .double, accessFlags := 25, slot := 2, constantValue := 0 }, { name := "DEGREES_TO_RADIANS", type := .double, accessFlags := 26, slot := 3, constantValue := 0 }, { name := "RADIANS_TO_DEGREES", type := .double, accessFlags := 26, slot := 4, constantValue := 0 }, { name := "negativeZeroFloatBits", type := .long, accessFlags := 26, slot := 5, constantValue := 0 }, { name := "negativeZeroDoubleBits", type := .long, accessFlags := 26, slot := 6, constantValue := 0 }, { name := "twoToTheDoubleScaleUp", type := .double, accessFlags := 8, slot := 7, constantValue := 0 }, { name := "twoToTheDoubleScaleDown", type := .double, accessFlags := 8, slot := 8, constantValue := 0 }, { name := "$assertionsDisabled", type := .boolean, accessFlags := 4120, slot := 9, constantValue := 0 }]
  methods := #[k2m0, k2m1]
  instanceTypes := #[]
  staticTypes := #[.double, .double, .double, .double, .double, .long, .long, .double, .double, .boolean]
  resolved := Array.replicate 460 none
  statics := none }

def pool3 : Array CpInfo := pool [(1, .methodref 2 3), (0, .class_ 4), (0, .nameAndType 5 6), (0, u "java/lang/Object"), (0, u "<init>"), (0, u "()V"), (0, .fieldref 8 9), (0, .class_ 10), (0, .nameAndType 11 12), (0, u "com/example/parametree/parametree/Tree"), (0, u "ids"), (0, u "Lcom/example/parametree/parametree/Ids;"), (0, .fieldref 8 14), (0, .nameAndType 15 16), (0, u "parents"), (0, u "[I"), (0, .fieldref 8 18), (0, .nameAndType 19 20), (0, u "root"), (0, u "I"), (0, .fieldref 8 22), (0, .nameAndType 23 16), (0, u "childStart"), (0, .fieldref 8 25), (0, .nameAndType 26 16), (0, u "children"), (0, .fieldref 8 28), (0, .nameAndType 29 16), (0, u "preorder"), (0, .fieldref 8 31), (0, .nameAndType 32 16), (0, u "depths"), (0, .fieldref 8 34), (0, .nameAndType 35 20), (0, u "height"), (0, .interfaceMethodref 37 38), (0, .class_ 39), (0, .nameAndType 40 41), (0, u "java/util/Map"), (0, u "copyOf"), (0, u "(Ljava/util/Map;)Ljava/util/Map;"), (0, .fieldref 8 43), (0, .nameAndType 44 45), (0, u "columns"), (0, u "Ljava/util/Map;"), (2, u "size"), (0, u "()I"), (42, u "(Lcom/example/parametree/parametree/Ids;[II[I[I[I[IILjava/util/Map;)V"), (6, u "()[I"), (0, u "sharedPreorder")] 19

def k3c0 : Code := { maxStack := 2, maxLocals := 10, code := prog_64_method_1_code, exceptionTable := #[], attributes := #[] }
def k3m0 : Method := { name := "<init>", desc := "(Lcom/example/parametree/parametree/Ids;[II[I[I[I[IILjava/util/Map;)V", sig := { parameters := [(.object "com/example/parametree/parametree/Ids"), (.array .int), .int, (.array .int), (.array .int), (.array .int), (.array .int), .int, (.object "java/util/Map")], returnType := none }, accessFlags := 0, code := some k3c0 }
def k3c1 : Code := { maxStack := 1, maxLocals := 1, code := prog_64_method_2_code, exceptionTable := #[], attributes := #[] }
def k3m1 : Method := { name := "size", desc := "()I", sig := { parameters := [], returnType := some .int }, accessFlags := 1, code := some k3c1 }
def k3c2 : Code := { maxStack := 1, maxLocals := 1, code := prog_64_method_9_code, exceptionTable := #[], attributes := #[] }
def k3m2 : Method := { name := "sharedPreorder", desc := "()[I", sig := { parameters := [], returnType := some (.array .int) }, accessFlags := 0, code := some k3c2 }
def k3c3 : Code := { maxStack := 1, maxLocals := 1, code := prog_64_method_10_code, exceptionTable := #[], attributes := #[] }
def k3m3 : Method := { name := "depths", desc := "()[I", sig := { parameters := [], returnType := some (.array .int) }, accessFlags := 0, code := some k3c3 }
def k3c4 : Code := { maxStack := 1, maxLocals := 1, code := prog_64_method_11_code, exceptionTable := #[], attributes := #[] }
def k3m4 : Method := { name := "height", desc := "()I", sig := { parameters := [], returnType := some .int }, accessFlags := 0, code := some k3c4 }
/-- com/example/parametree/parametree/Tree -/
def k3 : Class := { plain "com/example/parametree/parametree/Tree" (some 0) with
  accessFlags := 49
  interfaces := #[]
  cf := some (fileOf pool3 8 #[] #[{ accessFlags := 0, nameIndex := 5, descriptorIndex := 92, attributes := #[] }, { accessFlags := 1, nameIndex := 48, descriptorIndex := 49, attributes := #[] }, { accessFlags := 0, nameIndex := 100, descriptorIndex := 99, attributes := #[] }, { accessFlags := 0, nameIndex := 32, descriptorIndex := 99, attributes := #[] }, { accessFlags := 0, nameIndex := 35, descriptorIndex := 49, attributes := #[] }] 49 2 #[] #[{ accessFlags := 18, nameIndex := 11, descriptorIndex := 12, attributes := #[] }, { accessFlags := 18, nameIndex := 15, descriptorIndex := 16, attributes := #[] }, { accessFlags := 18, nameIndex := 19, descriptorIndex := 20, attributes := #[] }, { accessFlags := 18, nameIndex := 23, descriptorIndex := 16, attributes := #[] }, { accessFlags := 18, nameIndex := 26, descriptorIndex := 16, attributes := #[] }, { accessFlags := 18, nameIndex := 29, descriptorIndex := 16, attributes := #[] }, { accessFlags := 18, nameIndex := 32, descriptorIndex := 16, attributes := #[] }, { accessFlags := 18, nameIndex := 35, descriptorIndex := 20, attributes := #[] }, { accessFlags := 18, nameIndex := 44, descriptorIndex := 45, attributes := #[] }])
  fields := #[{ name := "ids", type := (.object "com/example/parametree/parametree/Ids"), accessFlags := 18, slot := 0, constantValue := 0 }, { name := "parents", type := (.array .int), accessFlags := 18, slot := 1, constantValue := 0 }, { name := "root", type := .int, accessFlags := 18, slot := 2, constantValue := 0 }, { name := "childStart", type := (.array .int), accessFlags := 18, slot := 3, constantValue := 0 }, { name := "children", type := (.array .int), accessFlags := 18, slot := 4, constantValue := 0 }, { name := "preorder", type := (.array .int), accessFlags := 18, slot := 5, constantValue := 0 }, { name := "depths", type := (.array .int), accessFlags := 18, slot := 6, constantValue := 0 }, { name := "height", type := .int, accessFlags := 18, slot := 7, constantValue := 0 }, { name := "columns", type := (.object "java/util/Map"), accessFlags := 18, slot := 8, constantValue := 0 }]
  methods := #[k3m0, k3m1, k3m2, k3m3, k3m4]
  instanceTypes := #[(.object "com/example/parametree/parametree/Ids"), (.array .int), .int, (.array .int), (.array .int), (.array .int), (.array .int), .int, (.object "java/util/Map")]
  staticTypes := #[]
  resolved := Array.replicate 120 none
  statics := none }

def pool4 : Array CpInfo := pool [(2, .class_ 4), (1, u "java/util/Map"), (31, .class_ 37), (0, u "java/util/Map$Entry"), (43, .fieldref 82 83), (0, .class_ 84), (0, .nameAndType 85 86), (0, u "java/util/ImmutableCollections"), (0, u "EMPTY_MAP"), (0, u "Ljava/util/ImmutableCollections$MapN;"), (6, .class_ 94), (0, u "java/lang/Object"), (6, .class_ 102), (0, u "java/util/ImmutableCollections$AbstractImmutableMap"), (5, u "of"), (0, u "()Ljava/util/Map;"), (140, u "copyOf"), (0, u "(Ljava/util/Map;)Ljava/util/Map;")] 11

def k4c0 : Code := { maxStack := 1, maxLocals := 0, code := jdk_72_method_26_code, exceptionTable := #[], attributes := #[] }
def k4m0 : Method := { name := "of", desc := "()Ljava/util/Map;", sig := { parameters := [], returnType := some (.object "java/util/Map") }, accessFlags := 9, code := some k4c0 }
def k4c1 : Code := { maxStack := 2, maxLocals := 1, code := jdk_72_method_39_code, exceptionTable := #[], attributes := #[] }
def k4m1 : Method := { name := "copyOf", desc := "(Ljava/util/Map;)Ljava/util/Map;", sig := { parameters := [(.object "java/util/Map")], returnType := some (.object "java/util/Map") }, accessFlags := 9, code := some k4c1 }
/-- java/util/Map -/
def k4 : Class := { plain "java/util/Map" (some 0) with
  accessFlags := 1537
  interfaces := #[]
  cf := some (fileOf pool4 2 #[.nestMembers #[36]] #[{ accessFlags := 9, nameIndex := 108, descriptorIndex := 109, attributes := #[] }, { accessFlags := 9, nameIndex := 250, descriptorIndex := 251, attributes := #[] }] 1537 93 #[] #[])
  fields := #[]
  methods := #[k4m0, k4m1]
  instanceTypes := #[]
  staticTypes := #[]
  resolved := Array.replicate 263 none
  statics := none }

def pool5 : Array CpInfo := pool [(2, .class_ 4), (1, u "java/lang/Object"), (0, u "<init>"), (0, u "()V"), (3, .class_ 11), (0, u "java/util/ImmutableCollections$List12"), (0, .class_ 13), (0, u "java/util/ImmutableCollections$ListN"), (3, u "Z"), (29, .class_ 49), (1, u "java/util/ImmutableCollections"), (0, u "$assertionsDisabled"), (5, u "[Ljava/lang/Object;"), (5, u "EMPTY_LIST"), (0, u "Ljava/util/ImmutableCollections$ListN;"), (8, u "EMPTY_LIST_NULLS"), (22, u "SALT32L"), (0, u "J"), (2, u "REVERSE"), (6, u "archivedObjects"), (2, u "EMPTY"), (0, u "Ljava/lang/Object;"), (0, .class_ 112), (0, u "java/util/ImmutableCollections$SetN"), (5, u "EMPTY_SET"), (0, u "Ljava/util/ImmutableCollections$SetN;"), (0, .class_ 121), (0, u "java/util/ImmutableCollections$MapN"), (3, u "EMPTY_MAP"), (0, u "Ljava/util/ImmutableCollections$MapN;"), (4, u "EXPAND_FACTOR"), (0, u "I"), (36, .class_ 170), (0, u "java/util/ImmutableCollections$MapN$MapNIterator"), (0, .class_ 172), (0, u "java/util/ImmutableCollections$MapN$1"), (0, .class_ 174), (0, u "java/util/ImmutableCollections$Map1"), (0, .class_ 176), (0, u "java/util/ImmutableCollections$AbstractImmutableMap"), (0, .class_ 178), (0, u "java/util/ImmutableCollections$SetN$SetNIterator"), (0, .class_ 180), (0, u "java/util/ImmutableCollections$Set12"), (0, .class_ 182), (0, u "java/util/ImmutableCollections$Set12$1"), (0, .class_ 184), (0, u "java/util/ImmutableCollections$AbstractImmutableSet"), (0, .class_ 186), (0, u "java/util/ImmutableCollections$SubList"), (0, .class_ 188), (0, u "java/util/ImmutableCollections$ListItr"), (0, .class_ 190), (0, u "java/util/ImmutableCollections$AbstractImmutableList"), (0, .class_ 192), (0, u "java/util/ImmutableCollections$AbstractImmutableCollection"), (0, .class_ 194), (0, u "java/util/ImmutableCollections$Access"), (0, .class_ 196), (0, u "java/util/ImmutableCollections$Access$1")] 16

def k5m0 : Method := { name := "<init>", desc := "()V", sig := { parameters := [], returnType := none }, accessFlags := 2, code := none }
/-- java/util/ImmutableCollections -/
def k5 : Class := { plain "java/util/ImmutableCollections" (some 0) with
  accessFlags := 32
  interfaces := #[]
  cf := some (fileOf pool5 47 #[.nestMembers #[120, 169, 171, 173, 175, 111, 177, 179, 181, 183, 12, 10, 185, 187, 189, 191, 193, 195]] #[{ accessFlags := 2, nameIndex := 5, descriptorIndex := 6, attributes := #[] }] 32 2 #[] #[{ accessFlags := 26, nameIndex := 95, descriptorIndex := 96, attributes := #[] }, { accessFlags := 26, nameIndex := 99, descriptorIndex := 17, attributes := #[] }, { accessFlags := 10, nameIndex := 106, descriptorIndex := 56, attributes := #[] }, { accessFlags := 26, nameIndex := 109, descriptorIndex := 110, attributes := #[] }, { accessFlags := 24, nameIndex := 62, descriptorIndex := 63, attributes := #[] }, { accessFlags := 24, nameIndex := 72, descriptorIndex := 63, attributes := #[] }, { accessFlags := 24, nameIndex := 118, descriptorIndex := 119, attributes := #[] }, { accessFlags := 24, nameIndex := 125, descriptorIndex := 126, attributes := #[] }, { accessFlags := 24, nameIndex := 131, descriptorIndex := 132, attributes := #[] }, { accessFlags := 4120, nameIndex := 50, descriptorIndex := 17, attributes := #[] }])
  fields := #[{ name := "SALT32L", type := .long, accessFlags := 26, slot := 0, constantValue := 0 }, { name := "REVERSE", type := .boolean, accessFlags := 26, slot := 1, constantValue := 0 }, { name := "archivedObjects", type := (.array (.object "java/lang/Object")), accessFlags := 10, slot := 2, constantValue := 0 }, { name := "EMPTY", type := (.object "java/lang/Object"), accessFlags := 26, slot := 3, constantValue := 0 }, { name := "EMPTY_LIST", type := (.object "java/util/ImmutableCollections$ListN"), accessFlags := 24, slot := 4, constantValue := 0 }, { name := "EMPTY_LIST_NULLS", type := (.object "java/util/ImmutableCollections$ListN"), accessFlags := 24, slot := 5, constantValue := 0 }, { name := "EMPTY_SET", type := (.object "java/util/ImmutableCollections$SetN"), accessFlags := 24, slot := 6, constantValue := 0 }, { name := "EMPTY_MAP", type := (.object "java/util/ImmutableCollections$MapN"), accessFlags := 24, slot := 7, constantValue := 0 }, { name := "EXPAND_FACTOR", type := .int, accessFlags := 24, slot := 8, constantValue := 0 }, { name := "$assertionsDisabled", type := .boolean, accessFlags := 4120, slot := 9, constantValue := 0 }]
  methods := #[k5m0]
  instanceTypes := #[]
  staticTypes := #[.long, .boolean, (.array (.object "java/lang/Object")), (.object "java/lang/Object"), (.object "java/util/ImmutableCollections$ListN"), (.object "java/util/ImmutableCollections$ListN"), (.object "java/util/ImmutableCollections$SetN"), (.object "java/util/ImmutableCollections$MapN"), .int, .boolean]
  resolved := Array.replicate 213 none
  statics := some 0 }

def pool6 : Array CpInfo := pool [(2, .class_ 4), (1, u "java/lang/Object"), (0, u "<init>"), (0, u "()V"), (1, .class_ 10), (1, u "java/util/AbstractMap"), (42, .class_ 54), (0, u "java/util/Map"), (9, u "keySet"), (0, u "Ljava/util/Set;"), (0, .class_ 67), (0, u "java/util/AbstractMap$1"), (5, u "values"), (0, u "Ljava/util/Collection;"), (0, .class_ 76), (0, u "java/util/AbstractMap$2"), (104, .class_ 182), (0, u "java/util/AbstractMap$ViewCollection"), (0, .class_ 184), (0, u "java/util/AbstractMap$SimpleImmutableEntry"), (0, .class_ 186), (0, u "java/util/AbstractMap$SimpleEntry"), (0, .class_ 188), (0, u "java/util/AbstractMap$2$1"), (0, .class_ 190), (0, u "java/util/AbstractMap$1$1")] 5

def k6m0 : Method := { name := "<init>", desc := "()V", sig := { parameters := [], returnType := none }, accessFlags := 4, code := none }
/-- java/util/AbstractMap -/
def k6 : Class := { plain "java/util/AbstractMap" (some 0) with
  accessFlags := 1057
  interfaces := #[4]
  cf := some (fileOf pool6 8 #[.nestMembers #[181, 183, 185, 75, 187, 66, 189]] #[{ accessFlags := 4, nameIndex := 5, descriptorIndex := 6, attributes := #[] }] 1057 2 #[53] #[{ accessFlags := 128, nameIndex := 64, descriptorIndex := 65, attributes := #[] }, { accessFlags := 128, nameIndex := 73, descriptorIndex := 74, attributes := #[] }])
  fields := #[{ name := "keySet", type := (.object "java/util/Set"), accessFlags := 128, slot := 0, constantValue := 0 }, { name := "values", type := (.object "java/util/Collection"), accessFlags := 128, slot := 1, constantValue := 0 }]
  methods := #[k6m0]
  instanceTypes := #[(.object "java/util/Set"), (.object "java/util/Collection")]
  staticTypes := #[]
  resolved := Array.replicate 196 none
  statics := none }

def pool7 : Array CpInfo := pool [(1, .class_ 2), (0, u "java/io/Serializable"), (0, .class_ 4), (0, u "java/lang/Object")] 2

/-- java/io/Serializable -/
def k7 : Class := { plain "java/io/Serializable" (some 0) with
  accessFlags := 1537
  interfaces := #[]
  cf := some (fileOf pool7 1 #[] #[] 1537 3 #[] #[])
  fields := #[]
  methods := #[]
  instanceTypes := #[]
  staticTypes := #[]
  resolved := Array.replicate 7 none
  statics := none }

def pool8 : Array CpInfo := pool [(2, .class_ 4), (1, u "java/util/AbstractMap"), (0, u "<init>"), (0, u "()V"), (1, .class_ 10), (1, u "java/util/ImmutableCollections"), (3, .class_ 16), (1, u "java/util/ImmutableCollections$AbstractImmutableMap"), (2, .class_ 20), (0, u "java/io/Serializable")] 66

def k8m0 : Method := { name := "<init>", desc := "()V", sig := { parameters := [], returnType := none }, accessFlags := 0, code := none }
/-- java/util/ImmutableCollections$AbstractImmutableMap -/
def k8 : Class := { plain "java/util/ImmutableCollections$AbstractImmutableMap" (some 6) with
  accessFlags := 1056
  interfaces := #[7]
  cf := some (fileOf pool8 14 #[.nestHost 8] #[{ accessFlags := 0, nameIndex := 5, descriptorIndex := 6, attributes := #[] }] 1056 2 #[19] #[])
  fields := #[]
  methods := #[k8m0]
  instanceTypes := #[(.object "java/util/Set"), (.object "java/util/Collection")]
  staticTypes := #[]
  resolved := Array.replicate 87 none
  statics := none }

def pool9 : Array CpInfo := pool [(1, .class_ 2), (0, u "java/util/ImmutableCollections"), (1, .class_ 6), (1, u "java/util/ImmutableCollections$AbstractImmutableMap"), (10, .class_ 19), (1, u "java/util/ImmutableCollections$MapN"), (0, u "size"), (0, u "I"), (4, u "table"), (0, u "[Ljava/lang/Object;")] 121

/-- java/util/ImmutableCollections$MapN -/
def k9 : Class := { plain "java/util/ImmutableCollections$MapN" (some 8) with
  accessFlags := 48
  interfaces := #[]
  cf := some (fileOf pool9 17 #[.nestHost 1] #[] 48 4 #[] #[{ accessFlags := 16, nameIndex := 26, descriptorIndex := 27, attributes := #[] }, { accessFlags := 16, nameIndex := 20, descriptorIndex := 21, attributes := #[] }])
  fields := #[{ name := "table", type := (.array (.object "java/lang/Object")), accessFlags := 16, slot := 2, constantValue := 0 }, { name := "size", type := .int, accessFlags := 16, slot := 3, constantValue := 0 }]
  methods := #[]
  instanceTypes := #[(.object "java/util/Set"), (.object "java/util/Collection"), (.array (.object "java/lang/Object")), .int]
  staticTypes := #[]
  resolved := Array.replicate 149 none
  statics := none }

def pool10 : Array CpInfo := pool [(1, .methodref 2 3), (0, .class_ 4), (0, .nameAndType 5 6), (0, u "java/lang/Object"), (0, u "<init>"), (0, u "()V"), (0, .methodref 8 9), (0, .class_ 10), (0, .nameAndType 11 12), (0, u "com/example/parametree/parametree/Tree"), (0, u "size"), (0, u "()I"), (0, .fieldref 14 15), (0, .class_ 16), (0, .nameAndType 11 17), (0, u "com/example/parametree/parametree/MeanTree"), (0, u "I"), (0, .methodref 8 19), (0, .nameAndType 20 21), (0, u "sharedPreorder"), (0, u "()[I"), (0, .fieldref 14 23), (0, .nameAndType 24 25), (0, u "node"), (0, u "[I"), (0, .methodref 8 27), (0, .nameAndType 28 21), (0, u "depths"), (0, .fieldref 14 30), (0, .nameAndType 31 25), (0, u "depth"), (0, .fieldref 14 33), (0, .nameAndType 34 35), (0, u "profit"), (0, u "[D"), (0, .fieldref 14 37), (0, .nameAndType 38 35), (0, u "cost"), (0, .fieldref 14 40), (0, .nameAndType 41 42), (0, u "kept"), (0, u "[Z"), (0, .methodref 8 44), (0, .nameAndType 45 12), (0, u "height"), (0, .fieldref 14 47), (0, .nameAndType 48 17), (0, u "slots"), (0, .fieldref 14 50), (0, .nameAndType 51 35), (0, u "profitSlots"), (0, .fieldref 14 53), (0, .nameAndType 54 35), (0, u "costSlots"), (17, u "attach"), (0, u "([Z)[Z"), (0, u "(Lcom/example/parametree/parametree/Tree;[D[D)V")] 14

def k10c0 : Code := { maxStack := 5, maxLocals := 7, code := prog_43_method_1_code, exceptionTable := #[], attributes := #[] }
def k10m0 : Method := { name := "<init>", desc := "(Lcom/example/parametree/parametree/Tree;[D[D)V", sig := { parameters := [(.object "com/example/parametree/parametree/Tree"), (.array .double), (.array .double)], returnType := none }, accessFlags := 0, code := some k10c0 }
def k10c1 : Code := { maxStack := 5, maxLocals := 5, code := prog_43_method_6_code, exceptionTable := #[], attributes := #[] }
def k10m1 : Method := { name := "attach", desc := "([Z)[Z", sig := { parameters := [(.array .boolean)], returnType := some (.array .boolean) }, accessFlags := 0, code := some k10c1 }
/-- com/example/parametree/parametree/MeanTree -/
def k10 : Class := { plain "com/example/parametree/parametree/MeanTree" (some 0) with
  accessFlags := 48
  interfaces := #[]
  cf := some (fileOf pool10 14 #[] #[{ accessFlags := 0, nameIndex := 5, descriptorIndex := 74, attributes := #[] }, { accessFlags := 0, nameIndex := 72, descriptorIndex := 73, attributes := #[] }] 48 2 #[] #[{ accessFlags := 0, nameIndex := 11, descriptorIndex := 17, attributes := #[] }, { accessFlags := 16, nameIndex := 31, descriptorIndex := 25, attributes := #[] }, { accessFlags := 16, nameIndex := 34, descriptorIndex := 35, attributes := #[] }, { accessFlags := 16, nameIndex := 38, descriptorIndex := 35, attributes := #[] }, { accessFlags := 16, nameIndex := 24, descriptorIndex := 25, attributes := #[] }, { accessFlags := 16, nameIndex := 41, descriptorIndex := 42, attributes := #[] }, { accessFlags := 16, nameIndex := 48, descriptorIndex := 17, attributes := #[] }, { accessFlags := 18, nameIndex := 51, descriptorIndex := 35, attributes := #[] }, { accessFlags := 18, nameIndex := 54, descriptorIndex := 35, attributes := #[] }])
  fields := #[{ name := "size", type := .int, accessFlags := 0, slot := 0, constantValue := 0 }, { name := "depth", type := (.array .int), accessFlags := 16, slot := 1, constantValue := 0 }, { name := "profit", type := (.array .double), accessFlags := 16, slot := 2, constantValue := 0 }, { name := "cost", type := (.array .double), accessFlags := 16, slot := 3, constantValue := 0 }, { name := "node", type := (.array .int), accessFlags := 16, slot := 4, constantValue := 0 }, { name := "kept", type := (.array .boolean), accessFlags := 16, slot := 5, constantValue := 0 }, { name := "slots", type := .int, accessFlags := 16, slot := 6, constantValue := 0 }, { name := "profitSlots", type := (.array .double), accessFlags := 18, slot := 7, constantValue := 0 }, { name := "costSlots", type := (.array .double), accessFlags := 18, slot := 8, constantValue := 0 }]
  methods := #[k10m0, k10m1]
  instanceTypes := #[.int, (.array .int), (.array .double), (.array .double), (.array .int), (.array .boolean), .int, (.array .double), (.array .double)]
  staticTypes := #[]
  resolved := Array.replicate 89 none
  statics := none }

def pool11 : Array CpInfo := pool [(1, u "java/lang/Cloneable"), (0, .class_ 1), (0, u "java/lang/Object"), (0, .class_ 3)] 3

/-- java/lang/Cloneable -/
def k11 : Class := { plain "java/lang/Cloneable" (some 0) with
  accessFlags := 1537
  interfaces := #[]
  cf := some (fileOf pool11 2 #[] #[] 1537 4 #[] #[])
  fields := #[]
  methods := #[]
  instanceTypes := #[]
  staticTypes := #[]
  resolved := Array.replicate 8 none
  statics := none }

/-- the primitive boolean -/
def k12 : Class := { plain "boolean" none with kind := .primitive 'Z', accessFlags := 0x411 }
/-- [Z -/
def k13 : Class := { plain "[Z" (some 0) with kind := .array 12 .boolean, interfaces := #[11, 7], accessFlags := 1041 }

/-- the primitive byte -/
def k14 : Class := { plain "byte" none with kind := .primitive 'B', accessFlags := 0x411 }
/-- [B -/
def k15 : Class := { plain "[B" (some 0) with kind := .array 14 .byte, interfaces := #[11, 7], accessFlags := 1041 }

/-- the primitive double -/
def k16 : Class := { plain "double" none with kind := .primitive 'D', accessFlags := 0x411 }
/-- [D -/
def k17 : Class := { plain "[D" (some 0) with kind := .array 16 .double, interfaces := #[11, 7], accessFlags := 1041 }

/-- the primitive int -/
def k18 : Class := { plain "int" none with kind := .primitive 'I', accessFlags := 0x411 }
/-- [I -/
def k19 : Class := { plain "[I" (some 0) with kind := .array 18 .int, interfaces := #[11, 7], accessFlags := 1041 }

/-- [Ljava/lang/Object; -/
def k20 : Class := { plain "[Ljava/lang/Object;" (some 0) with kind := .array 0 (.object "java/lang/Object"), interfaces := #[11, 7], accessFlags := 1041 }

def heap : Heap := #[{ cls := 5, slots := #[.long 0, .int 0, .null, .null, .null, .null, .null, .ref 2, .int 0, .int 0], vm := .statics 5 },
  { cls := 20, slots := #[], vm := .none },
  { cls := 9, slots := #[.null, .null, .ref 1, .int 0], vm := .none }]
def classes : Array Class := #[k0, k1, k2, k3, k4, k5, k6, k7, k8, k9, k10, k11, k12, k13, k14, k15, k16, k17, k18, k19, k20]
def interned : List (Array UInt16 × Addr) := []
def slotsUsed : Nat := 14
def theMethod : MethodId := ⟨1, 2⟩
def args0 : Array Value := #[.int 5, .int 6]
def aboutOver (below : List Frame) : State where
  vm := { classes := classes, interned := interned.toArray }
  heap := heap
  slotsUsed := slotsUsed
  threads := #[{ frames := .invoking theMethod args0 :: below }]
def below0 : List Frame := [.native { method := ⟨0, 0⟩, args := #[] }]
def about1 : State := aboutOver below0
def p0 : Program := .bare "" "" ""
def e0 : Env := launch0.env 0 0 0
theorem w_frames : about1.frames = Frame.invoking theMethod args0 :: below0 := rfl
set_option maxRecDepth 65536 in
theorem w_args : argsFit about1.vm theMethod args0 = true := by decide +kernel
set_option maxRecDepth 65536 in
theorem w_heap : heapFits about1 = true := by decide +kernel
set_option maxRecDepth 65536 in
theorem w_runnable : about1.curStatus? = some .runnable := by decide +kernel
set_option maxRecDepth 65536 in
theorem w_alone : about1.alone = true := by decide +kernel
set_option maxRecDepth 65536 in
theorem w_named : about1.methodNamed? x = some theMethod := by decide +kernel
set_option maxRecDepth 65536 in
theorem w_hears : about1.hears theMethod below0 = true := by decide +kernel
set_option maxRecDepth 65536 in
theorem w_ripe : about1.ripe theMethod args0 below0 = true := by decide +kernel
theorem w_running : about1.status = .running := rfl
set_option maxRecDepth 65536 in
theorem w_room : about1.hasRoom e0.platform room_1 = true :=
  launch0.hasRoom_least _ room_1 (by decide +kernel) (by decide +kernel) (by decide +kernel) (by decide +kernel) (by decide +kernel) (by decide +kernel)
theorem allAtoms_all (ts : List Jvm.Cond) (a : Array Jvm.Value) (st : Jvm.State) : (allAtoms ts).before a st = ts.all (fun c => c.before a st) := by
  induction ts with
  | nil => rfl
  | cons c t ih =>
    show (Jvm.Cond.and c (allAtoms t)).before a st = _
    rw [Jvm.Cond.before_and, ih, List.all_cons]
def words1 : List Jvm.Cond := Jvm.Cond.code x code maxLocals ret :: tables_1
/-- a 'code' word, met by the world's own term for the bytes: nothing is compared byte by byte -/
theorem code_word {y : MethodName} {bytes : ByteArray} {mx : Nat} {rt : Option FieldType} {a : Array Value} {s : State} {m : MethodId} {meth : Method} {c : Code} (h1 : s.methodNamed? y = some m) (h2 : s.vm.method? m = some meth) (h3 : meth.code = some c) (h4 : c.code = bytes)
    (h5 : (c.maxLocals == mx && c.exceptionTable.isEmpty && decide (c.maxStack ≤ mostOperands) && decide (meth.sig.returnType = rt) && !meth.locks && decide (parseMethodDescriptor y.desc = some meth.sig)) = true) : (Jvm.Cond.code y bytes mx rt).before a s = true := by
  simp only [Bool.and_eq_true, beq_iff_eq, Bool.not_eq_true', decide_eq_true_eq] at h5
  obtain ⟨⟨⟨⟨⟨g1, g2⟩, g3⟩, g4⟩, g5⟩, g6⟩ := h5
  simp [Cond.before, Cond.holds, Cond.value, h1, h2, h3, h4, g1, g2, g3, g4, g5, g6]
def isCode : Jvm.Cond → Bool
  | .code _ _ _ _ => true
  | _ => false
theorem all_split {L : List Jvm.Cond} {P : Jvm.Cond → Bool} (h1 : L.all (fun c => isCode c || P c) = true) (h2 : ∀ c ∈ L.filter isCode, P c = true) : L.all P = true := by
  refine List.all_eq_true.mpr fun c hc => ?_
  have h := List.all_eq_true.mp h1 c hc
  rcases Bool.eq_false_or_eq_true (isCode c) with hi | hi
  · exact h2 c (List.mem_filter.mpr ⟨hc, hi⟩)
  · simpa [hi] using h
set_option maxRecDepth 65536 in
theorem w_c0 : (Jvm.Cond.code x code maxLocals ret).before args0 about1 = true := code_word (m := ⟨1, 2⟩) (meth := k1m2) (c := k1c2) (by decide +kernel) rfl rfl rfl (by decide +kernel)
set_option maxRecDepth 65536 in
theorem w_c1 : (Jvm.Cond.code ({ cls := "java/lang/Math", name := "max", desc := "(II)I" } : Jvm.MethodName) jdk_29_method_65_code (2 : Nat) (Option.some Jvm.ClassFile.FieldType.int)).before args0 about1 = true := code_word (m := ⟨2, 1⟩) (meth := k2m1) (c := k2c1) (by decide +kernel) rfl rfl rfl (by decide +kernel)
set_option maxRecDepth 65536 in
theorem w_c2 : (Jvm.Cond.code ({ cls := "com/example/parametree/parametree/MeanTreeAttachPinLaw", name := "parentOf", desc := "([II)I" } : Jvm.MethodName) method_2_code (3 : Nat) (Option.some Jvm.ClassFile.FieldType.int)).before args0 about1 = true := code_word (m := ⟨1, 1⟩) (meth := k1m1) (c := k1c1) (by decide +kernel) rfl rfl rfl (by decide +kernel)
set_option maxRecDepth 65536 in
theorem w_c3 : (Jvm.Cond.code ({ cls := "java/util/Map", name := "of", desc := "()Ljava/util/Map;" } : Jvm.MethodName) jdk_72_method_26_code (0 : Nat) (Option.some (Jvm.ClassFile.FieldType.object "java/util/Map"))).before args0 about1 = true := code_word (m := ⟨4, 0⟩) (meth := k4m0) (c := k4c0) (by decide +kernel) rfl rfl rfl (by decide +kernel)
set_option maxRecDepth 65536 in
theorem w_c4 : (Jvm.Cond.code ({ cls := "com/example/parametree/parametree/Tree", name := "<init>", desc := "(Lcom/example/parametree/parametree/Ids;[II[I[I[I[IILjava/util/Map;)V" } : Jvm.MethodName) prog_64_method_1_code (10 : Nat) (Option.none : Option Jvm.ClassFile.FieldType)).before args0 about1 = true := code_word (m := ⟨3, 0⟩) (meth := k3m0) (c := k3c0) (by decide +kernel) rfl rfl rfl (by decide +kernel)
set_option maxRecDepth 65536 in
theorem w_c5 : (Jvm.Cond.code ({ cls := "java/lang/Object", name := "<init>", desc := "()V" } : Jvm.MethodName) object_method_1_code (1 : Nat) (Option.none : Option Jvm.ClassFile.FieldType)).before args0 about1 = true := code_word (m := ⟨0, 0⟩) (meth := k0m0) (c := k0c0) (by decide +kernel) rfl rfl rfl (by decide +kernel)
set_option maxRecDepth 65536 in
theorem w_c6 : (Jvm.Cond.code ({ cls := "java/util/Map", name := "copyOf", desc := "(Ljava/util/Map;)Ljava/util/Map;" } : Jvm.MethodName) jdk_72_method_39_code (1 : Nat) (Option.some (Jvm.ClassFile.FieldType.object "java/util/Map"))).before args0 about1 = true := code_word (m := ⟨4, 1⟩) (meth := k4m1) (c := k4c1) (by decide +kernel) rfl rfl rfl (by decide +kernel)
set_option maxRecDepth 65536 in
theorem w_c7 : (Jvm.Cond.code ({ cls := "com/example/parametree/parametree/MeanTree", name := "<init>", desc := "(Lcom/example/parametree/parametree/Tree;[D[D)V" } : Jvm.MethodName) prog_43_method_1_code (7 : Nat) (Option.none : Option Jvm.ClassFile.FieldType)).before args0 about1 = true := code_word (m := ⟨10, 0⟩) (meth := k10m0) (c := k10c0) (by decide +kernel) rfl rfl rfl (by decide +kernel)
set_option maxRecDepth 65536 in
theorem w_c8 : (Jvm.Cond.code ({ cls := "com/example/parametree/parametree/Tree", name := "size", desc := "()I" } : Jvm.MethodName) prog_64_method_2_code (1 : Nat) (Option.some Jvm.ClassFile.FieldType.int)).before args0 about1 = true := code_word (m := ⟨3, 1⟩) (meth := k3m1) (c := k3c1) (by decide +kernel) rfl rfl rfl (by decide +kernel)
set_option maxRecDepth 65536 in
theorem w_c9 : (Jvm.Cond.code ({ cls := "com/example/parametree/parametree/Tree", name := "sharedPreorder", desc := "()[I" } : Jvm.MethodName) prog_64_method_9_code (1 : Nat) (Option.some (Jvm.ClassFile.FieldType.array Jvm.ClassFile.FieldType.int))).before args0 about1 = true := code_word (m := ⟨3, 2⟩) (meth := k3m2) (c := k3c2) (by decide +kernel) rfl rfl rfl (by decide +kernel)
set_option maxRecDepth 65536 in
theorem w_c10 : (Jvm.Cond.code ({ cls := "com/example/parametree/parametree/Tree", name := "depths", desc := "()[I" } : Jvm.MethodName) prog_64_method_10_code (1 : Nat) (Option.some (Jvm.ClassFile.FieldType.array Jvm.ClassFile.FieldType.int))).before args0 about1 = true := code_word (m := ⟨3, 3⟩) (meth := k3m3) (c := k3c3) (by decide +kernel) rfl rfl rfl (by decide +kernel)
set_option maxRecDepth 65536 in
theorem w_c11 : (Jvm.Cond.code ({ cls := "com/example/parametree/parametree/Tree", name := "height", desc := "()I" } : Jvm.MethodName) prog_64_method_11_code (1 : Nat) (Option.some Jvm.ClassFile.FieldType.int)).before args0 about1 = true := code_word (m := ⟨3, 4⟩) (meth := k3m4) (c := k3c4) (by decide +kernel) rfl rfl rfl (by decide +kernel)
set_option maxRecDepth 65536 in
theorem w_c12 : (Jvm.Cond.code ({ cls := "com/example/parametree/parametree/MeanTree", name := "attach", desc := "([Z)[Z" } : Jvm.MethodName) prog_43_method_6_code (5 : Nat) (Option.some (Jvm.ClassFile.FieldType.array Jvm.ClassFile.FieldType.boolean))).before args0 about1 = true := code_word (m := ⟨10, 1⟩) (meth := k10m1) (c := k10c1) (by decide +kernel) rfl rfl rfl (by decide +kernel)
def codes1 : List Jvm.Cond := [Jvm.Cond.code x code maxLocals ret, Jvm.Cond.code ({ cls := "java/lang/Math", name := "max", desc := "(II)I" } : Jvm.MethodName) jdk_29_method_65_code (2 : Nat) (Option.some Jvm.ClassFile.FieldType.int), Jvm.Cond.code ({ cls := "com/example/parametree/parametree/MeanTreeAttachPinLaw", name := "parentOf", desc := "([II)I" } : Jvm.MethodName) method_2_code (3 : Nat) (Option.some Jvm.ClassFile.FieldType.int), Jvm.Cond.code ({ cls := "java/util/Map", name := "of", desc := "()Ljava/util/Map;" } : Jvm.MethodName) jdk_72_method_26_code (0 : Nat) (Option.some (Jvm.ClassFile.FieldType.object "java/util/Map")), Jvm.Cond.code ({ cls := "com/example/parametree/parametree/Tree", name := "<init>", desc := "(Lcom/example/parametree/parametree/Ids;[II[I[I[I[IILjava/util/Map;)V" } : Jvm.MethodName) prog_64_method_1_code (10 : Nat) (Option.none : Option Jvm.ClassFile.FieldType), Jvm.Cond.code ({ cls := "java/lang/Object", name := "<init>", desc := "()V" } : Jvm.MethodName) object_method_1_code (1 : Nat) (Option.none : Option Jvm.ClassFile.FieldType), Jvm.Cond.code ({ cls := "java/util/Map", name := "copyOf", desc := "(Ljava/util/Map;)Ljava/util/Map;" } : Jvm.MethodName) jdk_72_method_39_code (1 : Nat) (Option.some (Jvm.ClassFile.FieldType.object "java/util/Map")), Jvm.Cond.code ({ cls := "com/example/parametree/parametree/MeanTree", name := "<init>", desc := "(Lcom/example/parametree/parametree/Tree;[D[D)V" } : Jvm.MethodName) prog_43_method_1_code (7 : Nat) (Option.none : Option Jvm.ClassFile.FieldType), Jvm.Cond.code ({ cls := "com/example/parametree/parametree/Tree", name := "size", desc := "()I" } : Jvm.MethodName) prog_64_method_2_code (1 : Nat) (Option.some Jvm.ClassFile.FieldType.int), Jvm.Cond.code ({ cls := "com/example/parametree/parametree/Tree", name := "sharedPreorder", desc := "()[I" } : Jvm.MethodName) prog_64_method_9_code (1 : Nat) (Option.some (Jvm.ClassFile.FieldType.array Jvm.ClassFile.FieldType.int)), Jvm.Cond.code ({ cls := "com/example/parametree/parametree/Tree", name := "depths", desc := "()[I" } : Jvm.MethodName) prog_64_method_10_code (1 : Nat) (Option.some (Jvm.ClassFile.FieldType.array Jvm.ClassFile.FieldType.int)), Jvm.Cond.code ({ cls := "com/example/parametree/parametree/Tree", name := "height", desc := "()I" } : Jvm.MethodName) prog_64_method_11_code (1 : Nat) (Option.some Jvm.ClassFile.FieldType.int), Jvm.Cond.code ({ cls := "com/example/parametree/parametree/MeanTree", name := "attach", desc := "([Z)[Z" } : Jvm.MethodName) prog_43_method_6_code (5 : Nat) (Option.some (Jvm.ClassFile.FieldType.array Jvm.ClassFile.FieldType.boolean))]
set_option maxRecDepth 65536 in
theorem codes_eq : words1.filter isCode = codes1 := rfl
theorem w_codes : ∀ c ∈ words1.filter isCode, c.before args0 about1 = true := by
  rw [codes_eq]
  intro c hc
  simp only [codes1, List.mem_cons, List.not_mem_nil, or_false] at hc
  rcases hc with rfl | rfl | rfl | rfl | rfl | rfl | rfl | rfl | rfl | rfl | rfl | rfl | rfl
  · exact w_c0
  · exact w_c1
  · exact w_c2
  · exact w_c3
  · exact w_c4
  · exact w_c5
  · exact w_c6
  · exact w_c7
  · exact w_c8
  · exact w_c9
  · exact w_c10
  · exact w_c11
  · exact w_c12
set_option maxRecDepth 65536 in
theorem w_t1 : (words1.take 24).all (fun c => isCode c || c.before args0 about1) = true := by decide +kernel
set_option maxRecDepth 65536 in
theorem w_t2 : ((words1.drop 24).take 24).all (fun c => isCode c || c.before args0 about1) = true := by decide +kernel
set_option maxRecDepth 65536 in
theorem w_t3 : (((words1.drop 24).drop 24).take 24).all (fun c => isCode c || c.before args0 about1) = true := by decide +kernel
set_option maxRecDepth 65536 in
theorem w_t4 : ((((words1.drop 24).drop 24).drop 24).take 24).all (fun c => isCode c || c.before args0 about1) = true := by decide +kernel
set_option maxRecDepth 65536 in
theorem w_t5 : ((((words1.drop 24).drop 24).drop 24).drop 24).all (fun c => isCode c || c.before args0 about1) = true := by decide +kernel
theorem w_tables : (allAtoms (Jvm.Cond.code x code maxLocals ret :: tables_1)).before args0 about1 = true := by
  rw [allAtoms_all]
  show words1.all (fun c => c.before args0 about1) = true
  refine all_split ?_ w_codes
  rw [← List.take_append_drop 24 words1, List.all_append, w_t1, ← List.take_append_drop 24 (words1.drop 24), List.all_append, w_t2, ← List.take_append_drop 24 ((words1.drop 24).drop 24), List.all_append, w_t3, ← List.take_append_drop 24 (((words1.drop 24).drop 24).drop 24), List.all_append, w_t4, w_t5]
  rfl
set_option maxRecDepth 65536 in
theorem w_rest : rest_1_c.before args0 about1 = true := by decide +kernel
set_option maxRecDepth 65536 in
theorem w_case : (Jvm.Cond.and given_1 narrow_1).before args0 about1 = true := by decide +kernel
theorem w_applies : (headSpec (Jvm.Cond.code x code maxLocals ret :: tables_1) room_1).applies x e0.platform about1 = true :=
  (Spec.applies_iff w_frames).mpr ⟨w_running, w_runnable, w_alone, w_named, w_hears, w_ripe, w_room, w_tables⟩
theorem atStart : AtStart classFile x code maxLocals ret World_1 tables_1 room_1 Calls_1 rest_1 Pre_1 launch0 p0 e0 about1 theMethod args0 below0 :=
  ⟨lists_1, trivial, launch0.admits_env _ _ _, launch0.least_env, fairChoices_fair.cas, fairChoices_fair.clock, w_frames, w_args, w_heap, w_applies, trivial, w_rest, w_case⟩
end start1
theorem witness_1 : WitnessClaimed_1 := ⟨start1.p0, start1.e0, start1.about1, start1.theMethod, start1.args0, start1.below0, start1.atStart⟩
end Jvm.Pilot.@@N@@
