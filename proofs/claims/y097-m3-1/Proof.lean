import JvmDerived
import JvmDerived.Pilot.@@N@@Statement
import JvmDerived.Pilot.@@N@@Code
set_option linter.unusedVariables false
set_option linter.unusedSimpArgs false
namespace Jvm.Pilot.@@N@@
open Jvm Jvm.ClassFile Sem Op Lib Jvm.Free Jvm.Stand Jvm.LawKit Jvm.RoadKit Bundle Jvm.Pilot.@@N@@.Jvm.D
/-! 0. own tools: the goal that a walk carries; an array's store and load by what is known of it -/
def Go (tb : Tables) (e : Env) (below : List Frame) (P : State → Prop) (s : State) : Prop := ∃ s₂, Steps tb e below s s₂ ∧ P s₂
section OwnTools
variable {tb : Tables} {e : Env} {below : List Frame} {P : State → Prop} {A B : State}
theorem Go.st (h : ∀ t, Steps tb e below A t → Steps tb e below B t) (g : Go tb e below P A) : Go tb e below P B := by
  obtain ⟨s₂, h1, h2⟩ := g
  exact ⟨s₂, h _ h1, h2⟩
theorem Go.tr (h : Steps tb e below B A) (g : Go tb e below P A) : Go tb e below P B := by
  obtain ⟨s₂, h1, h2⟩ := g
  exact ⟨s₂, h.trans h1, h2⟩
theorem Go.start {Q : Outcome → State → Prop} (h : ∀ P : State → Prop, (∀ s₂ o, s₂.status = .running → Ended s₂ below o → Q o s₂ → P s₂) → Go tb e below P A) : ∃ s₂ o, Steps tb e below A s₂ ∧ s₂.status = .running ∧ Ended s₂ below o ∧ Q o s₂ := by
  obtain ⟨s₂, h1, o, h2, h3, h4⟩ := h (fun s₂ => ∃ o, s₂.status = .running ∧ Ended s₂ below o ∧ Q o s₂) (fun s₂ o a b c => ⟨o, a, b, c⟩)
  exact ⟨s₂, o, h1, h2, h3, h4⟩
theorem own_oldsz {Z : State} {n0 : Nat} {h : Heap} (X : Old Z n0 h) : n0 ≤ h.size := by have := X.1; have := X.2.1; omega
theorem own_cat {v : Value} (h : v.isRef = true) : v.category = 1 := by cases v <;> first | rfl | simp [Value.isRef] at h
theorem own_refcase {v : Value} (h : v.isRef = true) : v = .null ∨ ∃ a, v = .ref a := by cases v <;> first | (left; rfl) | (right; exact ⟨_, rfl⟩) | (simp [Value.isRef] at h)
theorem own_nar_ref {v : Value} {t : FieldType} (h : v.isRef = true) : narrow t v = v := by cases v <;> first | (simp [Value.isRef] at h; done) | (cases t <;> rfl)
theorem own_fits_ref {v : Value} {t : FieldType} (h : v.isRef = true) (ht : t.isReference = true := by rfl) : fits t v = true := by cases v <;> first | (simp [Value.isRef] at h; done) | (cases t <;> first | rfl | (simp [FieldType.isReference] at ht))
theorem own_eq_ref {args : Array Value} {first s : State} {o : Option Outcome} {idx : List Nat} {a b : Term} {w : Addr} (hb : b.eval args first o idx s = some (.ref w)) (h : (Cond.eq a b).value args first o s idx = some true) : a.eval args first o idx s = some (.ref w) := by
  cases ha : a.eval args first o idx s with
  | none => simp [Cond.value, ha] at h
  | some x => cases x <;> simp [Cond.value, ha, hb] at h ⊢; exact h
theorem own_len_start {args : Array Value} {s : State} {t : Term} {n : Int32} {a : Addr} {cl : Cell} (h : (Term.length t).eval args s none [] s = some (.int n)) (ht : t.eval args s none [] s = some (.ref a)) (hc : s.heap[a]? = some cl) : cl.slots.size < 2 ^ 31 ∧ cl.slots.size.toInt32 = n := by
  simp only [Term.eval, ht, Option.bind_eq_bind, Option.bind_some] at h
  cases hq : s.arrayAt? a with
  | none => simp [hq] at h
  | some c2 =>
    have e := (State.arrayAt?_spec hq).1
    cases hc.symm.trans e
    simp only [hq, Option.bind_some] at h
    split at h
    · rename_i hlt; exact ⟨hlt, by simpa using h⟩
    · cases h
theorem own_since (s : State) : s.Since s.vm 0 := (State.WarmedH.refl s).since 0
theorem own_and255 (x : Int32) : ¬ (x &&& 255) < 0 ∧ ¬ (255 : Int32) < (x &&& 255) := by
  have h := c_and x 255 (by decide)
  have e0 : (0 : Int32).toInt = 0 := rfl
  have e1 : (255 : Int32).toInt = 255 := rfl
  rw [Int32.lt_iff_toInt_lt, Int32.lt_iff_toInt_lt]
  omega
theorem own_nar_i2c (x : Int32) : nar .char (x.toUInt32.toUInt16.toUInt32.toInt32) = x.toUInt32.toUInt16.toUInt32.toInt32 := by
  show (x.toUInt32.toUInt16.toUInt32.toInt32).toUInt32.toUInt16.toUInt32.toInt32 = _
  rw [UInt32.toUInt32_toInt32, UInt16.toUInt16_toUInt32]
theorem own_nar_i2b (x : Int32) : nar .byte (x.toInt8.toInt32) = x.toInt8.toInt32 := by
  show (x.toInt8.toInt32).toInt8.toInt32 = _
  simp
theorem own_narZ {x : Int32} (h : x = 0 ∨ x = 1) : nar .boolean x = x := by rcases h with rfl | rfl <;> rfl
theorem own_up (cs : List Int32) (h : ∀ c ∈ cs, ¬ c < 0 ∧ ¬ (255 : Int32) < c) : ∀ c ∈ cs, ¬ c < 0 ∧ ¬ (65535 : Int32) < c := fun c hc => ⟨(h c hc).1, fun q => (h c hc).2 (by rw [Int32.lt_iff_toInt_lt] at q ⊢; have e1 : (65535 : Int32).toInt = 65535 := rfl; have e2 : (255 : Int32).toInt = 255 := rfl; omega)⟩
theorem own_narC {x : Int32} (h : ¬ x < 0 ∧ ¬ (255 : Int32) < x) : nar .char x = x := by
  have e0 : (0 : Int32).toInt = 0 := rfl
  have e1 : (255 : Int32).toInt = 255 := rfl
  have a := h.1
  have b := h.2
  rw [Int32.lt_iff_toInt_lt, e0] at a
  rw [Int32.lt_iff_toInt_lt, e1] at b
  have c := c_i2c x
  exact Int32.toInt_inj.mp (show x.toUInt32.toUInt16.toUInt32.toInt32.toInt = x.toInt by omega)
theorem own_int {r : Int32} {k : Int} (h : r.toInt = k) {q : Int32} (hq : q.toInt = k) : r = q := Int32.toInt_inj.mp (by rw [h, hq])
end OwnTools
section OwnArrays
variable {p : Program} {l : Launch} {e : Env} {R : Room} {s : State} {m : MethodId} {args : Array Value} {below : List Frame} {meth : Method} {c : Code} {T : State} {locs : List Loc} {cells slots : Nat} {Z : State} {h : Heap} {a : Addr} {k : ClassId} {z : Int32} {vs : List Value} {dv : Value}
theorem own_stC (X : Stand p l e R s m args below meth c T locs cells slots) (hx : p.tables.exec = Jvm.exec) (hZ : Z.Warmed39 s.vm) (eT : T.heap = h) (V : Arv Z h a k .char z vs dv) {j x : Int32} {i : Nat} (hj : ¬ j < 0 ∧ j < z) (hji : j.toNatClampNeg = i) (hi : i < vs.length) {g : JFrame} (hg : g.method = m) {rest : List Value} (hs : g.stack = .int x :: .int j :: .ref a :: rest) (hd : decode c.code g.pc = .ok (.castore, 1)) :
    ∃ T' h', Stand p l e R s m args below meth c T' (locs ++ [⟨a, j.toNatClampNeg⟩]) cells slots ∧ T'.heap = h' ∧ Wr h h' a j.toNatClampNeg (.int (nar .char x)) ∧ Arv Z h' a k .char z (vs.set i (.int (nar .char x))) dv ∧ ∀ target, Steps p.tables e below (T'.setTop { g with pc := g.pc + 1, stack := rest }) target → Steps p.tables e below (T.setTop g) target := by
  obtain ⟨cl, A, q1, S, q3, H, G⟩ := V
  obtain ⟨T', h', X', e', W, st⟩ := stC X hx hZ eT A (inb_of S hj) hg hs hd
  exact ⟨T', h', X', e', W, Arv.set A q1 S q3 H G (fits_nar_char x) W i hji hi, st⟩
theorem own_stI (X : Stand p l e R s m args below meth c T locs cells slots) (hx : p.tables.exec = Jvm.exec) (hZ : Z.Warmed39 s.vm) (eT : T.heap = h) (V : Arv Z h a k .int z vs dv) {j x : Int32} {i : Nat} (hj : ¬ j < 0 ∧ j < z) (hji : j.toNatClampNeg = i) (hi : i < vs.length) {g : JFrame} (hg : g.method = m) {rest : List Value} (hs : g.stack = .int x :: .int j :: .ref a :: rest) (hd : decode c.code g.pc = .ok (.iastore, 1)) :
    ∃ T' h', Stand p l e R s m args below meth c T' (locs ++ [⟨a, j.toNatClampNeg⟩]) cells slots ∧ T'.heap = h' ∧ Wr h h' a j.toNatClampNeg (.int x) ∧ Arv Z h' a k .int z (vs.set i (.int x)) dv ∧ ∀ target, Steps p.tables e below (T'.setTop { g with pc := g.pc + 1, stack := rest }) target → Steps p.tables e below (T.setTop g) target := by
  obtain ⟨cl, A, q1, S, q3, H, G⟩ := V
  obtain ⟨T', h', X', e', W, st⟩ := stI X hx hZ eT A (inb_of S hj) hg hs hd
  exact ⟨T', h', X', e', W, Arv.set A q1 S q3 H G rfl W i hji hi, st⟩
theorem own_stZ (X : Stand p l e R s m args below meth c T locs cells slots) (hx : p.tables.exec = Jvm.exec) (hZ : Z.Warmed39 s.vm) (eT : T.heap = h) (V : Arv Z h a k .boolean z vs dv) {j x : Int32} {i : Nat} (hj : ¬ j < 0 ∧ j < z) (hji : j.toNatClampNeg = i) (hi : i < vs.length) {g : JFrame} (hg : g.method = m) {rest : List Value} (hs : g.stack = .int x :: .int j :: .ref a :: rest) (hd : decode c.code g.pc = .ok (.bastore, 1)) :
    ∃ T' h', Stand p l e R s m args below meth c T' (locs ++ [⟨a, j.toNatClampNeg⟩]) cells slots ∧ T'.heap = h' ∧ Wr h h' a j.toNatClampNeg (.int (nar .boolean x)) ∧ Arv Z h' a k .boolean z (vs.set i (.int (nar .boolean x))) dv ∧ ∀ target, Steps p.tables e below (T'.setTop { g with pc := g.pc + 1, stack := rest }) target → Steps p.tables e below (T.setTop g) target := by
  obtain ⟨cl, A, q1, S, q3, H, G⟩ := V
  obtain ⟨T', h', X', e', W, st⟩ := stZ X hx hZ eT A (inb_of S hj) hg hs hd
  exact ⟨T', h', X', e', W, Arv.set A q1 S q3 H G (fits_nar_bool x) W i hji hi, st⟩
theorem own_stB (X : Stand p l e R s m args below meth c T locs cells slots) (hx : p.tables.exec = Jvm.exec) (hZ : Z.Warmed39 s.vm) (eT : T.heap = h) (V : Arv Z h a k .byte z vs dv) {j x : Int32} {i : Nat} (hj : ¬ j < 0 ∧ j < z) (hji : j.toNatClampNeg = i) (hi : i < vs.length) {g : JFrame} (hg : g.method = m) {rest : List Value} (hs : g.stack = .int x :: .int j :: .ref a :: rest) (hd : decode c.code g.pc = .ok (.bastore, 1)) :
    ∃ T' h', Stand p l e R s m args below meth c T' (locs ++ [⟨a, j.toNatClampNeg⟩]) cells slots ∧ T'.heap = h' ∧ Wr h h' a j.toNatClampNeg (.int (nar .byte x)) ∧ Arv Z h' a k .byte z (vs.set i (.int (nar .byte x))) dv ∧ ∀ target, Steps p.tables e below (T'.setTop { g with pc := g.pc + 1, stack := rest }) target → Steps p.tables e below (T.setTop g) target := by
  obtain ⟨cl, A, q1, S, q3, H, G⟩ := V
  obtain ⟨T', h', X', e', W, st⟩ := stB X hx hZ eT A (inb_of S hj) hg hs hd
  exact ⟨T', h', X', e', W, Arv.set A q1 S q3 H G (fits_nar_byte x) W i hji hi, st⟩
theorem own_stD (X : Stand p l e R s m args below meth c T locs cells slots) (hx : p.tables.exec = Jvm.exec) (hZ : Z.Warmed39 s.vm) (eT : T.heap = h) (V : Arv Z h a k .double z vs dv) {j : Int32} {x : UInt64} {i : Nat} (hj : ¬ j < 0 ∧ j < z) (hji : j.toNatClampNeg = i) (hi : i < vs.length) {g : JFrame} (hg : g.method = m) {rest : List Value} (hs : g.stack = .double x :: .int j :: .ref a :: rest) (hd : decode c.code g.pc = .ok (.dastore, 1)) :
    ∃ T' h', Stand p l e R s m args below meth c T' (locs ++ [⟨a, j.toNatClampNeg⟩]) cells slots ∧ T'.heap = h' ∧ Wr h h' a j.toNatClampNeg (.double x) ∧ Arv Z h' a k .double z (vs.set i (.double x)) dv ∧ ∀ target, Steps p.tables e below (T'.setTop { g with pc := g.pc + 1, stack := rest }) target → Steps p.tables e below (T.setTop g) target := by
  obtain ⟨cl, A, q1, S, q3, H, G⟩ := V
  obtain ⟨T', h', X', e', W, st⟩ := stD X hx hZ eT A (inb_of S hj) hg hs hd
  exact ⟨T', h', X', e', W, Arv.set A q1 S q3 H G rfl W i hji hi, st⟩
theorem own_at {ty : FieldType} (V : Arv Z h a k ty z vs dv) {j : Int32} {i : Nat} {v : Value} (hj : ¬ j < 0 ∧ j < z) (hji : j.toNatClampNeg = i) (hv : vs.getD i dv = v) : ∃ cl : Cell, Arr Z h a cl ty ∧ ¬ (j < 0 ∨ cl.slots.size ≤ j.toNatClampNeg) ∧ cl.slots[j.toNatClampNeg]? = some v := by
  obtain ⟨cl, A, q1, S, q3, H, G⟩ := V
  exact ⟨cl, A, inb_of S hj, Has.at H (inb_of S hj) (by rw [hji]; exact hv)⟩
theorem own_ldI (X : Stand p l e R s m args below meth c T locs cells slots) (hx : p.tables.exec = Jvm.exec) (hZ : Z.Warmed39 s.vm) (eT : T.heap = h) (V : Arv Z h a k .int z vs dv) {j : Int32} {i : Nat} {v : Value} (hj : ¬ j < 0 ∧ j < z) (hji : j.toNatClampNeg = i) (hv : vs.getD i dv = v) {g : JFrame} (hg : g.method = m) {rest : List Value} (hs : g.stack = .int j :: .ref a :: rest) (hd : decode c.code g.pc = .ok (.iaload, 1)) (target : State) :
    Steps p.tables e below (T.setTop { g with pc := g.pc + 1, stack := v :: rest }) target → Steps p.tables e below (T.setTop g) target := by
  obtain ⟨cl, A, hin, hat⟩ := own_at V hj hji hv
  exact X.iaload hx (by rw [eT]; exact A.1) (State.isArrayOf_alike hZ.alike A.2.1) A.2.2 hin hat hg hs hd target
theorem own_ldC (X : Stand p l e R s m args below meth c T locs cells slots) (hx : p.tables.exec = Jvm.exec) (hZ : Z.Warmed39 s.vm) (eT : T.heap = h) (V : Arv Z h a k .char z vs dv) {j : Int32} {i : Nat} {v : Value} (hj : ¬ j < 0 ∧ j < z) (hji : j.toNatClampNeg = i) (hv : vs.getD i dv = v) {g : JFrame} (hg : g.method = m) {rest : List Value} (hs : g.stack = .int j :: .ref a :: rest) (hd : decode c.code g.pc = .ok (.caload, 1)) (target : State) :
    Steps p.tables e below (T.setTop { g with pc := g.pc + 1, stack := v :: rest }) target → Steps p.tables e below (T.setTop g) target := by
  obtain ⟨cl, A, hin, hat⟩ := own_at V hj hji hv
  exact X.caload hx (by rw [eT]; exact A.1) (State.isArrayOf_alike hZ.alike A.2.1) A.2.2 hin hat hg hs hd target
theorem own_ldZ (X : Stand p l e R s m args below meth c T locs cells slots) (hx : p.tables.exec = Jvm.exec) (hZ : Z.Warmed39 s.vm) (eT : T.heap = h) (V : Arv Z h a k .boolean z vs dv) {j : Int32} {i : Nat} {v : Value} (hj : ¬ j < 0 ∧ j < z) (hji : j.toNatClampNeg = i) (hv : vs.getD i dv = v) {g : JFrame} (hg : g.method = m) {rest : List Value} (hs : g.stack = .int j :: .ref a :: rest) (hd : decode c.code g.pc = .ok (.baload, 1)) (target : State) :
    Steps p.tables e below (T.setTop { g with pc := g.pc + 1, stack := v :: rest }) target → Steps p.tables e below (T.setTop g) target := by
  obtain ⟨cl, A, hin, hat⟩ := own_at V hj hji hv
  exact X.baloadBooleans hx (by rw [eT]; exact A.1) (State.isArrayOf_alike hZ.alike A.2.1) A.2.2 hin hat hg hs hd target
theorem own_ldB (X : Stand p l e R s m args below meth c T locs cells slots) (hx : p.tables.exec = Jvm.exec) (hZ : Z.Warmed39 s.vm) (eT : T.heap = h) (V : Arv Z h a k .byte z vs dv) {j : Int32} {i : Nat} {v : Value} (hj : ¬ j < 0 ∧ j < z) (hji : j.toNatClampNeg = i) (hv : vs.getD i dv = v) {g : JFrame} (hg : g.method = m) {rest : List Value} (hs : g.stack = .int j :: .ref a :: rest) (hd : decode c.code g.pc = .ok (.baload, 1)) (target : State) :
    Steps p.tables e below (T.setTop { g with pc := g.pc + 1, stack := v :: rest }) target → Steps p.tables e below (T.setTop g) target := by
  obtain ⟨cl, A, hin, hat⟩ := own_at V hj hji hv
  exact X.baloadBytes hx (by rw [eT]; exact A.1) (State.isArrayOf_alike hZ.alike A.2.1) A.2.2 hin hat hg hs hd target
theorem own_ldD (X : Stand p l e R s m args below meth c T locs cells slots) (hx : p.tables.exec = Jvm.exec) (hZ : Z.Warmed39 s.vm) (eT : T.heap = h) (V : Arv Z h a k .double z vs dv) {j : Int32} {i : Nat} {v : Value} (hj : ¬ j < 0 ∧ j < z) (hji : j.toNatClampNeg = i) (hv : vs.getD i dv = v) {g : JFrame} (hg : g.method = m) {rest : List Value} (hs : g.stack = .int j :: .ref a :: rest) (hd : decode c.code g.pc = .ok (.daload, 1)) (target : State) :
    Steps p.tables e below (T.setTop { g with pc := g.pc + 1, stack := v :: rest }) target → Steps p.tables e below (T.setTop g) target := by
  obtain ⟨cl, A, hin, hat⟩ := own_at V hj hji hv
  exact X.daload hx (by rw [eT]; exact A.1) (State.isArrayOf_alike hZ.alike A.2.1) A.2.2 hin hat hg hs hd target
theorem own_ldR {C : String} (X : Stand p l e R s m args below meth c T locs cells slots) (hx : p.tables.exec = Jvm.exec) (hZ : Z.Warmed39 s.vm) (eT : T.heap = h) (V : Arv Z h a k (.object C) z vs dv) {j : Int32} {i : Nat} {v : Value} (hj : ¬ j < 0 ∧ j < z) (hji : j.toNatClampNeg = i) (hv : vs.getD i dv = v) {g : JFrame} (hg : g.method = m) {rest : List Value} (hs : g.stack = .int j :: .ref a :: rest) (hd : decode c.code g.pc = .ok (.aaload, 1)) (target : State) :
    Steps p.tables e below (T.setTop { g with pc := g.pc + 1, stack := v :: rest }) target → Steps p.tables e below (T.setTop g) target := by
  obtain ⟨cl, A, hin, hat⟩ := own_at V hj hji hv
  exact X.aaload hx (by rw [eT]; exact A.1) (State.isArrayOf_alike hZ.alike A.2.1) rfl A.2.2 hin hat hg hs hd target
theorem own_len {ty : FieldType} (X : Stand p l e R s m args below meth c T locs cells slots) (hx : p.tables.exec = Jvm.exec) (hZ : Z.Warmed39 s.vm) (eT : T.heap = h) (V : Arv Z h a k ty z vs dv) {g : JFrame} (hg : g.method = m) {rest : List Value} (hs : g.stack = .ref a :: rest) (hd : decode c.code g.pc = .ok (.arraylength, 1)) (target : State) :
    Steps p.tables e below (T.setTop { g with pc := g.pc + 1, stack := .int z :: rest }) target → Steps p.tables e below (T.setTop g) target := by
  obtain ⟨cl, A, q1, S, q3, H, G⟩ := V
  have q := X.arraylength hx (by rw [eT]; exact A.1) (State.isArrayOf_alike hZ.alike A.2.1) hg hs hd target
  rw [len_of S q3] at q
  exact q
theorem own_getD_int (xs : List Int32) (i : Nat) : (xs.map Value.int).getD i (.int 0) = .int (xs.getD i 0) := by
  simp only [List.getD_eq_getElem?_getD, List.getElem?_map]
  cases xs[i]? <;> rfl
theorem own_arv_set {ty : FieldType} {xs : List Int32} {i : Nat} {v : Int32} (V : Arv Z h a k ty z ((xs.map Value.int).set i (.int v)) dv) : Arv Z h a k ty z ((xs.set i v).map Value.int) dv := by rw [List.map_set]; exact V
end OwnArrays

def own_part (a : Int64) (z : Int32) : UInt64 := if a = 0 ∧ ¬ z = 0 then FP.dneg (FP.l2d a) else FP.l2d a
def own_cmp (x1 x2 y1 y2 : UInt64) : Int32 :=
  if ¬ cmpValue (FP.dcmp x1 y1) .l = 0 then (if cmpValue (FP.dcmp x1 y1) .g < 0 then -1 else 1)
  else if ¬ cmpValue (FP.dcmp x2 y2) .l = 0 then (if cmpValue (FP.dcmp x2 y2) .g < 0 then -1 else 1) else 0
def own_sign (d : Int64) : Int32 := if lcmpW d 0 < 0 then -1 else if 0 < lcmpW d 0 then 1 else 0
theorem own_nz : FP.Core.decode FP.Core.b64 9223372036854775808 = .fin true 0 (-1074) := by decide +kernel
theorem own_z : FP.Core.decode FP.Core.b64 0 = .fin false 0 (-1074) := by decide +kernel
theorem own_dneg0 : FP.dneg (FP.l2d 0) = 9223372036854775808 := by decide +kernel
theorem own_l2d0 : FP.l2d 0 = 0 := by decide +kernel
theorem own_negz_l (y : UInt64) : FP.dcmp 9223372036854775808 y = FP.dcmp 0 y := by
  show FP.Core.order (FP.Core.decode FP.Core.b64 9223372036854775808) (FP.Core.decode FP.Core.b64 y.toNat) = FP.Core.order (FP.Core.decode FP.Core.b64 0) (FP.Core.decode FP.Core.b64 y.toNat)
  rw [own_nz, own_z]
  cases FP.Core.decode FP.Core.b64 y.toNat <;> simp [FP.Core.order, FP.Core.signed, FP.Core.inUnits]
theorem own_negz_r (y : UInt64) : FP.dcmp y 9223372036854775808 = FP.dcmp y 0 := by
  show FP.Core.order (FP.Core.decode FP.Core.b64 y.toNat) (FP.Core.decode FP.Core.b64 9223372036854775808) = FP.Core.order (FP.Core.decode FP.Core.b64 y.toNat) (FP.Core.decode FP.Core.b64 0)
  rw [own_nz, own_z]
  cases FP.Core.decode FP.Core.b64 y.toNat <;> simp [FP.Core.order, FP.Core.signed, FP.Core.inUnits]
theorem own_part_l (a : Int64) (z : Int32) (y : UInt64) : FP.dcmp (own_part a z) y = FP.dcmp (FP.l2d a) y := by
  unfold own_part
  split
  · rename_i h; rw [h.1, own_dneg0, own_l2d0, own_negz_l]
  · rfl
theorem own_part_r (a : Int64) (z : Int32) (y : UInt64) : FP.dcmp y (own_part a z) = FP.dcmp y (FP.l2d a) := by
  unfold own_part
  split
  · rename_i h; rw [h.1, own_dneg0, own_l2d0, own_negz_r]
  · rfl
theorem own_dcmp_part {a b : Int64} {z w : Int32} (ha : B53 a) (hb : B53 b) (o : CmpOp) : cmpValue (FP.dcmp (own_part a z) (own_part b w)) o = lcmpW a b := by rw [own_part_l, own_part_r]; exact dcmpV_w ha hb o
theorem own_lw (x y : Int64) : lcmpW x y = if x.toInt < y.toInt then -1 else if x.toInt = y.toInt then 0 else 1 := by
  have h := c_lcmp x y
  split
  · exact own_int (h.1 (by assumption)) rfl
  · split
    · exact own_int (h.2.1 (by assumption)) rfl
    · exact own_int (h.2.2 (by omega)) rfl
theorem own_six (h : Int32) : ((16 : Int64) * h.toInt64).toInt = 16 * h.toInt := by
  have a := c_lmul 16 h.toInt64
  have b := c_i2l h
  have c := rng32 h
  have d := rng64 ((16 : Int64) * h.toInt64)
  have e : (16 : Int64).toInt = 16 := rfl
  rw [e] at a
  omega
theorem own_val (h l : Int32) (hl : -8 < l.toInt ∧ l.toInt < 8) : ((16 : Int64) * h.toInt64 + l.toInt64).toInt = 16 * h.toInt + l.toInt := by
  have a := c_ladd ((16 : Int64) * h.toInt64) l.toInt64
  have b := c_i2l l
  have c := rng32 h
  have d := rng64 ((16 : Int64) * h.toInt64 + l.toInt64)
  have e := own_six h
  omega
theorem own_dif (h l h' l' : Int32) (hl : -8 < l.toInt ∧ l.toInt < 8) (hl' : -8 < l'.toInt ∧ l'.toInt < 8) : (((16 : Int64) * h.toInt64 + l.toInt64) - ((16 : Int64) * h'.toInt64 + l'.toInt64)).toInt = (16 * h.toInt + l.toInt) - (16 * h'.toInt + l'.toInt) := by
  have a := c_lsub ((16 : Int64) * h.toInt64 + l.toInt64) ((16 : Int64) * h'.toInt64 + l'.toInt64)
  have b := own_val h l hl
  have b' := own_val h' l' hl'
  have c := rng32 h
  have c' := rng32 h'
  have d := rng64 (((16 : Int64) * h.toInt64 + l.toInt64) - ((16 : Int64) * h'.toInt64 + l'.toInt64))
  omega
theorem own_law {h l h' l' z1 z2 z3 z4 : Int32} (hl : -8 < l.toInt ∧ l.toInt < 8) (hl' : -8 < l'.toInt ∧ l'.toInt < 8) : own_cmp (own_part ((16 : Int64) * h.toInt64) z1) (own_part l.toInt64 z2) (own_part ((16 : Int64) * h'.toInt64) z3) (own_part l'.toInt64 z4) = own_sign (((16 : Int64) * h.toInt64 + l.toInt64) - ((16 : Int64) * h'.toInt64 + l'.toInt64)) := by
  have b1 : B53 ((16 : Int64) * h.toInt64) := by have := own_six h; have := rng32 h; constructor <;> omega
  have b2 : B53 ((16 : Int64) * h'.toInt64) := by have := own_six h'; have := rng32 h'; constructor <;> omega
  have b3 : B53 l.toInt64 := by have := c_i2l l; constructor <;> omega
  have b4 : B53 l'.toInt64 := by have := c_i2l l'; constructor <;> omega
  have d0 : (0 : Int64).toInt = 0 := rfl
  unfold own_cmp own_sign
  simp only [own_dcmp_part b1 b2, own_dcmp_part b3 b4, own_lw, own_six, c_i2l, own_dif h l h' l' hl hl', d0]
  repeat' split
  all_goals first | rfl | omega | (exfalso; simp_all; done) | (exfalso; simp_all; omega)
theorem own_sign_neg {h l h' l' : Int32} (hl : -8 < l.toInt ∧ l.toInt < 8) (hl' : -8 < l'.toInt ∧ l'.toInt < 8) : own_sign (((16 : Int64) * h'.toInt64 + l'.toInt64) - ((16 : Int64) * h.toInt64 + l.toInt64)) = - own_sign (((16 : Int64) * h.toInt64 + l.toInt64) - ((16 : Int64) * h'.toInt64 + l'.toInt64)) := by
  have d0 : (0 : Int64).toInt = 0 := rfl
  unfold own_sign
  simp only [own_lw, own_dif h l h' l' hl hl', own_dif h' l' h l hl' hl, d0]
  repeat' split
  all_goals first | rfl | omega | (exfalso; simp_all; done) | (exfalso; simp_all; omega)
theorem own_rem8 (x : Int32) : -8 < (x % 8).toInt ∧ (x % 8).toInt < 8 := by
  have h := c_irem x 8 8 (by decide)
  by_cases q : 0 ≤ x.toInt
  · have := h.1 q; omega
  · have := h.2 (by omega); omega
theorem own_p1 {a : Int64} {z : Int32} (h : ¬ lcmpW a 0 = 0) : FP.l2d a = own_part a z := by
  have : ¬ a = 0 := fun e => h ((lw_eq a 0).mpr e)
  simp [own_part, this]
theorem own_p2 {a : Int64} {z : Int32} (h : z = 0) : FP.l2d a = own_part a z := by simp [own_part, h]
theorem own_p3 {a : Int64} {z : Int32} (h : lcmpW a 0 = 0) (h2 : ¬ z = 0) : FP.dneg (FP.l2d a) = own_part a z := by
  have : a = 0 := (lw_eq a 0).mp h
  simp [own_part, this, h2]
theorem own_ef_rm_part (m : MethodId) (x0 : Int64) (x1 : Int32) : entryFrame m #[(.long x0), (.int x1)] 5 = mkF m 0 #[.val (.long x0), .second, .val (.int x1), .unset, .unset] [] := by first | (simp [entryFrame, mkF, argsToLocals, Value.category]; done) | rfl
theorem own_pn0 : plainName "com/example/parametree/parametree/CompensatedSumComparePinLaw" = true := by first | (simp [plainName, overriddenIn]; done) | decide +kernel
theorem own_d_method_2_code_0 : decode method_2_code 0 = .ok (.lload_n 0, 1) := by decide +kernel
theorem own_d_method_2_code_1 : decode method_2_code 1 = .ok (.l2d, 1) := by decide +kernel
theorem own_d_method_2_code_2 : decode method_2_code 2 = .ok (.dstore_n 3, 1) := by decide +kernel
theorem own_d_method_2_code_3 : decode method_2_code 3 = .ok (.lload_n 0, 1) := by decide +kernel
theorem own_d_method_2_code_4 : decode method_2_code 4 = .ok (.lconst 0, 1) := by decide +kernel
theorem own_d_method_2_code_5 : decode method_2_code 5 = .ok (.lcmp, 1) := by decide +kernel
theorem own_d_method_2_code_6 : decode method_2_code 6 = .ok (.ifCond .ne 10, 3) := by decide +kernel
theorem own_d_method_2_code_9 : decode method_2_code 9 = .ok (.iload_n 2, 1) := by decide +kernel
theorem own_d_method_2_code_10 : decode method_2_code 10 = .ok (.ifCond .eq 6, 3) := by decide +kernel
theorem own_d_method_2_code_16 : decode method_2_code 16 = .ok (.dload_n 3, 1) := by decide +kernel
theorem own_d_method_2_code_17 : decode method_2_code 17 = .ok (.dreturn, 1) := by decide +kernel
theorem own_d_method_2_code_13 : decode method_2_code 13 = .ok (.dload_n 3, 1) := by decide +kernel
theorem own_d_method_2_code_14 : decode method_2_code 14 = .ok (.dneg, 1) := by decide +kernel
theorem own_d_method_2_code_15 : decode method_2_code 15 = .ok (.dstore_n 3, 1) := by decide +kernel
def Q_rm_part (Z : State) (p0 : Int64) (p1 : Int32) (h0 : Heap) (n0 : Nat) (v : Option Value) (h : Heap) (L : List Loc) : Prop := v = some (.double (own_part p0 p1)) ∧ Fr n0 L ∧ h = h0
set_option maxRecDepth 65536 in
set_option maxHeartbeats 40000000 in
theorem rm_part (l : Launch) (Z : State) (a0 : Array Value) (hw : ∀ d ∈ tables_1, d.before a0 Z = true) (ws : List Jvm.Cond) (p0 : Int64) (p1 : Int32) (h0 : Heap) (n0 : Nat) (X00 : Old Z n0 h0)  :
    MetFree l (⟨"com/example/parametree/parametree/CompensatedSumComparePinLaw", "part", "(JZ)D"⟩ : MethodName) (head1 (Jvm.Cond.code (⟨"com/example/parametree/parametree/CompensatedSumComparePinLaw", "part", "(JZ)D"⟩ : MethodName) method_2_code 5 (some .double) :: ws) ({ frames := 0, cells := 0, slots := 0, locals := 0 } : Room)) (fun a U => a = #[(.long p0), (.int p1)] ∧ Z.Warmed39 U.vm ∧ U.heap = h0) (fun _ _ _ _ _ => True) (fun _ U o U' => ∃ v L, o = .returned v ∧ Q_rm_part Z p0 p1 h0 n0 v U'.heap L ∧ FrameEnd U o U' L ({ frames := 0, cells := 0, slots := 0, locals := 0 } : Room).cells ({ frames := 0, cells := 0, slots := 0, locals := 0 } : Room).slots) := by
  refine MetFree.of_bodySF (plainFor_of_name own_pn0) hisR ?_
  intro p e s m args below meth c s₁ Bd hml0 hP hK
  obtain ⟨rfl, hZ, hh⟩ := hP
  have hx := Bd.exec
  have hby := Bd.bytes
  have hml : c.maxLocals = 5 := hml0
  have hown : s.vm.findClass "com/example/parametree/parametree/CompensatedSumComparePinLaw" = some m.cls := findClass_of_methodNamed Bd.named
  have hnm := (name_of_methodNamed Bd.named Bd.method).1
  have X0 : Stand p l e ({ frames := 0, cells := 0, slots := 0, locals := 0 } : Room) s m #[(.long p0), (.int p1)] below meth c s₁ [] 0 0 := Stand.of_body Bd
  have e0 : s₁.heap = h0 := by rw [← hh, Bd.state]; rfl
  have N0 := Fr.nil n0
  refine Go.start fun P hPend => ?_
  refine Go.st (fun _ k => castTop (own_ef_rm_part m p0 p1) k) ?_
  show Go p.tables e below P (s₁.setTop (mkF m 0 #[.val (.long p0), .second, .val (.int p1), .unset, .unset] []))
  refine Go.st (fun _ => XS.lloadN X0.here hx rfl (hb hby own_d_method_2_code_0) rfl) ?_
  show Go p.tables e below P (s₁.setTop (mkF m 1 #[.val (.long p0), .second, .val (.int p1), .unset, .unset] [(.long p0)]))
  refine Go.st (fun _ => XS.l2dS X0.here hx rfl (hb hby own_d_method_2_code_1) rfl rfl) ?_
  show Go p.tables e below P (s₁.setTop (mkF m 2 #[.val (.long p0), .second, .val (.int p1), .unset, .unset] [(.double (FP.l2d p0))]))
  refine Go.st (fun _ => XS.dstoreN X0.here hx rfl (hb hby own_d_method_2_code_2) rfl (l' := #[.val (.long p0), .second, .val (.int p1), .val (.double (FP.l2d p0)), .second]) rfl) ?_
  show Go p.tables e below P (s₁.setTop (mkF m 3 #[.val (.long p0), .second, .val (.int p1), .val (.double (FP.l2d p0)), .second] []))
  refine Go.st (fun _ => XS.lloadN X0.here hx rfl (hb hby own_d_method_2_code_3) rfl) ?_
  show Go p.tables e below P (s₁.setTop (mkF m 4 #[.val (.long p0), .second, .val (.int p1), .val (.double (FP.l2d p0)), .second] [(.long p0)]))
  refine Go.st (fun _ => XS.lconst X0.here hx rfl (hb hby own_d_method_2_code_4)) ?_
  show Go p.tables e below P (s₁.setTop (mkF m 5 #[.val (.long p0), .second, .val (.int p1), .val (.double (FP.l2d p0)), .second] [(.long (0 : Int64)), (.long p0)]))
  refine Go.st (fun _ => XS.lcmp X0.here hx rfl (hb hby own_d_method_2_code_5) rfl) ?_
  show Go p.tables e below P (s₁.setTop (mkF m 6 #[.val (.long p0), .second, .val (.int p1), .val (.double (FP.l2d p0)), .second] [(.int (lcmpW p0 (0 : Int64)))]))
  by_cases hc1 : (lcmpW p0 (0 : Int64)) = (0 : Int32)
  · skip
    refine Go.st (fun _ => XS.ifNo X0.here hx rfl (hb hby own_d_method_2_code_6) rfl ((if0 _ _).trans (teq hc1).2)) ?_
    show Go p.tables e below P (s₁.setTop (mkF m 9 #[.val (.long p0), .second, .val (.int p1), .val (.double (FP.l2d p0)), .second] []))
    refine Go.st (fun _ => XS.iloadN X0.here hx rfl (hb hby own_d_method_2_code_9) rfl) ?_
    show Go p.tables e below P (s₁.setTop (mkF m 10 #[.val (.long p0), .second, .val (.int p1), .val (.double (FP.l2d p0)), .second] [(.int p1)]))
    by_cases hc2 : p1 = (0 : Int32)
    · skip
      refine Go.st (fun _ => XS.ifYes X0.here hx rfl (pc0 := 10) (pc' := 16) rfl (hb hby own_d_method_2_code_10) rfl ((if0 _ _).trans (teq hc2).1) (by decide) (by decide)) ?_
      show Go p.tables e below P (s₁.setTop (mkF m 16 #[.val (.long p0), .second, .val (.int p1), .val (.double (FP.l2d p0)), .second] []))
      refine Go.st (fun _ => XS.dloadN X0.here hx rfl (hb hby own_d_method_2_code_16) rfl) ?_
      show Go p.tables e below P (s₁.setTop (mkF m 17 #[.val (.long p0), .second, .val (.int p1), .val (.double (FP.l2d p0)), .second] [(.double (FP.l2d p0))]))
      obtain ⟨fs, hr, hrun, hended, hW, hsame⟩ := X0.leave (v := some (.double (FP.l2d p0))) (fun h => by rw [Bd.returns] at h; cases h)
      refine ⟨_, ?_, hPend _ _ hrun hended ⟨_, _, rfl, ?_, ⟨_, rfl⟩, hW, hsame.mono (by decide) (by decide)⟩⟩
      · exact retOut X0 hx (t := .double) Bd.returns rfl (Or.inr (Or.inr (Or.inl ⟨rfl, rfl, _, rfl⟩))) (hb hby own_d_method_2_code_17) hr
      · show Q_rm_part Z _ _ h0 n0 _ s₁.heap _
        rw [e0]
        exact ⟨(congrArg (fun z => some (Value.double z)) (own_p2 (by assumption))), N0, rfl⟩
    · skip
      refine Go.st (fun _ => XS.ifNo X0.here hx rfl (hb hby own_d_method_2_code_10) rfl ((if0 _ _).trans (feq hc2).1)) ?_
      show Go p.tables e below P (s₁.setTop (mkF m 13 #[.val (.long p0), .second, .val (.int p1), .val (.double (FP.l2d p0)), .second] []))
      refine Go.st (fun _ => XS.dloadN X0.here hx rfl (hb hby own_d_method_2_code_13) rfl) ?_
      show Go p.tables e below P (s₁.setTop (mkF m 14 #[.val (.long p0), .second, .val (.int p1), .val (.double (FP.l2d p0)), .second] [(.double (FP.l2d p0))]))
      refine Go.st (fun _ => XS.dnegS X0.here hx rfl (hb hby own_d_method_2_code_14) rfl rfl) ?_
      show Go p.tables e below P (s₁.setTop (mkF m 15 #[.val (.long p0), .second, .val (.int p1), .val (.double (FP.l2d p0)), .second] [(.double (FP.dneg (FP.l2d p0)))]))
      refine Go.st (fun _ => XS.dstoreN X0.here hx rfl (hb hby own_d_method_2_code_15) rfl (l' := #[.val (.long p0), .second, .val (.int p1), .val (.double (FP.dneg (FP.l2d p0))), .second]) rfl) ?_
      show Go p.tables e below P (s₁.setTop (mkF m 16 #[.val (.long p0), .second, .val (.int p1), .val (.double (FP.dneg (FP.l2d p0))), .second] []))
      refine Go.st (fun _ => XS.dloadN X0.here hx rfl (hb hby own_d_method_2_code_16) rfl) ?_
      show Go p.tables e below P (s₁.setTop (mkF m 17 #[.val (.long p0), .second, .val (.int p1), .val (.double (FP.dneg (FP.l2d p0))), .second] [(.double (FP.dneg (FP.l2d p0)))]))
      obtain ⟨fs, hr, hrun, hended, hW, hsame⟩ := X0.leave (v := some (.double (FP.dneg (FP.l2d p0)))) (fun h => by rw [Bd.returns] at h; cases h)
      refine ⟨_, ?_, hPend _ _ hrun hended ⟨_, _, rfl, ?_, ⟨_, rfl⟩, hW, hsame.mono (by decide) (by decide)⟩⟩
      · exact retOut X0 hx (t := .double) Bd.returns rfl (Or.inr (Or.inr (Or.inl ⟨rfl, rfl, _, rfl⟩))) (hb hby own_d_method_2_code_17) hr
      · show Q_rm_part Z _ _ h0 n0 _ s₁.heap _
        rw [e0]
        exact ⟨(congrArg (fun z => some (Value.double z)) (own_p3 (by assumption) (by assumption))), N0, rfl⟩
  · skip
    refine Go.st (fun _ => XS.ifYes X0.here hx rfl (pc0 := 6) (pc' := 16) rfl (hb hby own_d_method_2_code_6) rfl ((if0 _ _).trans (feq hc1).2) (by decide) (by decide)) ?_
    show Go p.tables e below P (s₁.setTop (mkF m 16 #[.val (.long p0), .second, .val (.int p1), .val (.double (FP.l2d p0)), .second] []))
    refine Go.st (fun _ => XS.dloadN X0.here hx rfl (hb hby own_d_method_2_code_16) rfl) ?_
    show Go p.tables e below P (s₁.setTop (mkF m 17 #[.val (.long p0), .second, .val (.int p1), .val (.double (FP.l2d p0)), .second] [(.double (FP.l2d p0))]))
    obtain ⟨fs, hr, hrun, hended, hW, hsame⟩ := X0.leave (v := some (.double (FP.l2d p0))) (fun h => by rw [Bd.returns] at h; cases h)
    refine ⟨_, ?_, hPend _ _ hrun hended ⟨_, _, rfl, ?_, ⟨_, rfl⟩, hW, hsame.mono (by decide) (by decide)⟩⟩
    · exact retOut X0 hx (t := .double) Bd.returns rfl (Or.inr (Or.inr (Or.inl ⟨rfl, rfl, _, rfl⟩))) (hb hby own_d_method_2_code_17) hr
    · show Q_rm_part Z _ _ h0 n0 _ s₁.heap _
      rw [e0]
      exact ⟨(congrArg (fun z => some (Value.double z)) (own_p1 (by assumption))), N0, rfl⟩
theorem own_ef_rm_cmp (m : MethodId) (x0 : UInt64) (x1 : UInt64) (x2 : UInt64) (x3 : UInt64) : entryFrame m #[(.double x0), (.double x1), (.double x2), (.double x3)] 9 = mkF m 0 #[.val (.double x0), .second, .val (.double x1), .second, .val (.double x2), .second, .val (.double x3), .second, .unset] [] := by first | (simp [entryFrame, mkF, argsToLocals, Value.category]; done) | rfl
theorem own_pn1 : plainName "com/example/parametree/parametree/CompensatedSum" = true := by first | (simp [plainName, overriddenIn]; done) | decide +kernel
theorem own_d_prog_16_method_13_code_0 : decode prog_16_method_13_code 0 = .ok (.dload_n 0, 1) := by decide +kernel
theorem own_d_prog_16_method_13_code_1 : decode prog_16_method_13_code 1 = .ok (.dload 4, 2) := by decide +kernel
theorem own_d_prog_16_method_13_code_3 : decode prog_16_method_13_code 3 = .ok (.dcmp .l, 1) := by decide +kernel
theorem own_d_prog_16_method_13_code_4 : decode prog_16_method_13_code 4 = .ok (.ifCond .eq 20, 3) := by decide +kernel
theorem own_d_prog_16_method_13_code_24 : decode prog_16_method_13_code 24 = .ok (.dload_n 2, 1) := by decide +kernel
theorem own_d_prog_16_method_13_code_25 : decode prog_16_method_13_code 25 = .ok (.dload 6, 2) := by decide +kernel
theorem own_d_prog_16_method_13_code_27 : decode prog_16_method_13_code 27 = .ok (.dcmp .l, 1) := by decide +kernel
theorem own_d_prog_16_method_13_code_28 : decode prog_16_method_13_code 28 = .ok (.ifCond .eq 20, 3) := by decide +kernel
theorem own_d_prog_16_method_13_code_48 : decode prog_16_method_13_code 48 = .ok (.iconst 0, 1) := by decide +kernel
theorem own_d_prog_16_method_13_code_49 : decode prog_16_method_13_code 49 = .ok (.istore 8, 2) := by decide +kernel
theorem own_d_prog_16_method_13_code_51 : decode prog_16_method_13_code 51 = .ok (.iload 8, 2) := by decide +kernel
theorem own_d_prog_16_method_13_code_53 : decode prog_16_method_13_code 53 = .ok (.ireturn, 1) := by decide +kernel
theorem own_d_prog_16_method_13_code_31 : decode prog_16_method_13_code 31 = .ok (.dload_n 2, 1) := by decide +kernel
theorem own_d_prog_16_method_13_code_32 : decode prog_16_method_13_code 32 = .ok (.dload 6, 2) := by decide +kernel
theorem own_d_prog_16_method_13_code_34 : decode prog_16_method_13_code 34 = .ok (.dcmp .g, 1) := by decide +kernel
theorem own_d_prog_16_method_13_code_35 : decode prog_16_method_13_code 35 = .ok (.ifCond .ge 7, 3) := by decide +kernel
theorem own_d_prog_16_method_13_code_38 : decode prog_16_method_13_code 38 = .ok (.iconst (-1), 1) := by decide +kernel
theorem own_d_prog_16_method_13_code_39 : decode prog_16_method_13_code 39 = .ok (.goto 4, 3) := by decide +kernel
theorem own_d_prog_16_method_13_code_43 : decode prog_16_method_13_code 43 = .ok (.istore 8, 2) := by decide +kernel
theorem own_d_prog_16_method_13_code_45 : decode prog_16_method_13_code 45 = .ok (.goto 6, 3) := by decide +kernel
theorem own_d_prog_16_method_13_code_42 : decode prog_16_method_13_code 42 = .ok (.iconst 1, 1) := by decide +kernel
theorem own_d_prog_16_method_13_code_7 : decode prog_16_method_13_code 7 = .ok (.dload_n 0, 1) := by decide +kernel
theorem own_d_prog_16_method_13_code_8 : decode prog_16_method_13_code 8 = .ok (.dload 4, 2) := by decide +kernel
theorem own_d_prog_16_method_13_code_10 : decode prog_16_method_13_code 10 = .ok (.dcmp .g, 1) := by decide +kernel
theorem own_d_prog_16_method_13_code_11 : decode prog_16_method_13_code 11 = .ok (.ifCond .ge 7, 3) := by decide +kernel
theorem own_d_prog_16_method_13_code_14 : decode prog_16_method_13_code 14 = .ok (.iconst (-1), 1) := by decide +kernel
theorem own_d_prog_16_method_13_code_15 : decode prog_16_method_13_code 15 = .ok (.goto 4, 3) := by decide +kernel
theorem own_d_prog_16_method_13_code_19 : decode prog_16_method_13_code 19 = .ok (.istore 8, 2) := by decide +kernel
theorem own_d_prog_16_method_13_code_21 : decode prog_16_method_13_code 21 = .ok (.goto 30, 3) := by decide +kernel
theorem own_d_prog_16_method_13_code_18 : decode prog_16_method_13_code 18 = .ok (.iconst 1, 1) := by decide +kernel
def Q_rm_cmp (Z : State) (p0 : UInt64) (p1 : UInt64) (p2 : UInt64) (p3 : UInt64) (h0 : Heap) (n0 : Nat) (v : Option Value) (h : Heap) (L : List Loc) : Prop := v = some (.int (own_cmp p0 p1 p2 p3)) ∧ Fr n0 L ∧ h = h0
set_option maxRecDepth 65536 in
set_option maxHeartbeats 40000000 in
theorem rm_cmp (l : Launch) (Z : State) (a0 : Array Value) (hw : ∀ d ∈ tables_1, d.before a0 Z = true) (ws : List Jvm.Cond) (p0 : UInt64) (p1 : UInt64) (p2 : UInt64) (p3 : UInt64) (h0 : Heap) (n0 : Nat) (X00 : Old Z n0 h0)  :
    MetFree l (⟨"com/example/parametree/parametree/CompensatedSum", "compare", "(DDDD)I"⟩ : MethodName) (head1 (Jvm.Cond.code (⟨"com/example/parametree/parametree/CompensatedSum", "compare", "(DDDD)I"⟩ : MethodName) prog_16_method_13_code 9 (some .int) :: ws) ({ frames := 0, cells := 0, slots := 0, locals := 0 } : Room)) (fun a U => a = #[(.double p0), (.double p1), (.double p2), (.double p3)] ∧ Z.Warmed39 U.vm ∧ U.heap = h0) (fun _ _ _ _ _ => True) (fun _ U o U' => ∃ v L, o = .returned v ∧ Q_rm_cmp Z p0 p1 p2 p3 h0 n0 v U'.heap L ∧ FrameEnd U o U' L ({ frames := 0, cells := 0, slots := 0, locals := 0 } : Room).cells ({ frames := 0, cells := 0, slots := 0, locals := 0 } : Room).slots) := by
  refine MetFree.of_bodySF (plainFor_of_name own_pn1) hisR ?_
  intro p e s m args below meth c s₁ Bd hml0 hP hK
  obtain ⟨rfl, hZ, hh⟩ := hP
  have hx := Bd.exec
  have hby := Bd.bytes
  have hml : c.maxLocals = 9 := hml0
  have hown : s.vm.findClass "com/example/parametree/parametree/CompensatedSum" = some m.cls := findClass_of_methodNamed Bd.named
  have hnm := (name_of_methodNamed Bd.named Bd.method).1
  have X0 : Stand p l e ({ frames := 0, cells := 0, slots := 0, locals := 0 } : Room) s m #[(.double p0), (.double p1), (.double p2), (.double p3)] below meth c s₁ [] 0 0 := Stand.of_body Bd
  have e0 : s₁.heap = h0 := by rw [← hh, Bd.state]; rfl
  have N0 := Fr.nil n0
  refine Go.start fun P hPend => ?_
  refine Go.st (fun _ k => castTop (own_ef_rm_cmp m p0 p1 p2 p3) k) ?_
  show Go p.tables e below P (s₁.setTop (mkF m 0 #[.val (.double p0), .second, .val (.double p1), .second, .val (.double p2), .second, .val (.double p3), .second, .unset] []))
  refine Go.st (fun _ => XS.dloadN X0.here hx rfl (hb hby own_d_prog_16_method_13_code_0) rfl) ?_
  show Go p.tables e below P (s₁.setTop (mkF m 1 #[.val (.double p0), .second, .val (.double p1), .second, .val (.double p2), .second, .val (.double p3), .second, .unset] [(.double p0)]))
  refine Go.st (fun _ => XS.dload X0.here hx rfl (hb hby own_d_prog_16_method_13_code_1) rfl) ?_
  show Go p.tables e below P (s₁.setTop (mkF m 3 #[.val (.double p0), .second, .val (.double p1), .second, .val (.double p2), .second, .val (.double p3), .second, .unset] [(.double p2), (.double p0)]))
  refine Go.st (fun _ => XS.dcmpS X0.here hx rfl (hb hby own_d_prog_16_method_13_code_3) rfl rfl) ?_
  show Go p.tables e below P (s₁.setTop (mkF m 4 #[.val (.double p0), .second, .val (.double p1), .second, .val (.double p2), .second, .val (.double p3), .second, .unset] [(.int (cmpValue (FP.dcmp p0 p2) .l))]))
  by_cases hc1 : (cmpValue (FP.dcmp p0 p2) .l) = (0 : Int32)
  · skip
    refine Go.st (fun _ => XS.ifYes X0.here hx rfl (pc0 := 4) (pc' := 24) rfl (hb hby own_d_prog_16_method_13_code_4) rfl ((if0 _ _).trans (teq hc1).1) (by decide) (by decide)) ?_
    show Go p.tables e below P (s₁.setTop (mkF m 24 #[.val (.double p0), .second, .val (.double p1), .second, .val (.double p2), .second, .val (.double p3), .second, .unset] []))
    refine Go.st (fun _ => XS.dloadN X0.here hx rfl (hb hby own_d_prog_16_method_13_code_24) rfl) ?_
    show Go p.tables e below P (s₁.setTop (mkF m 25 #[.val (.double p0), .second, .val (.double p1), .second, .val (.double p2), .second, .val (.double p3), .second, .unset] [(.double p1)]))
    refine Go.st (fun _ => XS.dload X0.here hx rfl (hb hby own_d_prog_16_method_13_code_25) rfl) ?_
    show Go p.tables e below P (s₁.setTop (mkF m 27 #[.val (.double p0), .second, .val (.double p1), .second, .val (.double p2), .second, .val (.double p3), .second, .unset] [(.double p3), (.double p1)]))
    refine Go.st (fun _ => XS.dcmpS X0.here hx rfl (hb hby own_d_prog_16_method_13_code_27) rfl rfl) ?_
    show Go p.tables e below P (s₁.setTop (mkF m 28 #[.val (.double p0), .second, .val (.double p1), .second, .val (.double p2), .second, .val (.double p3), .second, .unset] [(.int (cmpValue (FP.dcmp p1 p3) .l))]))
    by_cases hc2 : (cmpValue (FP.dcmp p1 p3) .l) = (0 : Int32)
    · skip
      refine Go.st (fun _ => XS.ifYes X0.here hx rfl (pc0 := 28) (pc' := 48) rfl (hb hby own_d_prog_16_method_13_code_28) rfl ((if0 _ _).trans (teq hc2).1) (by decide) (by decide)) ?_
      show Go p.tables e below P (s₁.setTop (mkF m 48 #[.val (.double p0), .second, .val (.double p1), .second, .val (.double p2), .second, .val (.double p3), .second, .unset] []))
      refine Go.st (fun _ => XS.iconst X0.here hx rfl (hb hby own_d_prog_16_method_13_code_48)) ?_
      show Go p.tables e below P (s₁.setTop (mkF m 49 #[.val (.double p0), .second, .val (.double p1), .second, .val (.double p2), .second, .val (.double p3), .second, .unset] [(.int (0 : Int32))]))
      refine Go.st (fun _ => XS.istore X0.here hx rfl (hb hby own_d_prog_16_method_13_code_49) rfl (l' := #[.val (.double p0), .second, .val (.double p1), .second, .val (.double p2), .second, .val (.double p3), .second, .val (.int (0 : Int32))]) rfl) ?_
      show Go p.tables e below P (s₁.setTop (mkF m 51 #[.val (.double p0), .second, .val (.double p1), .second, .val (.double p2), .second, .val (.double p3), .second, .val (.int (0 : Int32))] []))
      refine Go.st (fun _ => XS.iload X0.here hx rfl (hb hby own_d_prog_16_method_13_code_51) rfl) ?_
      show Go p.tables e below P (s₁.setTop (mkF m 53 #[.val (.double p0), .second, .val (.double p1), .second, .val (.double p2), .second, .val (.double p3), .second, .val (.int (0 : Int32))] [(.int (0 : Int32))]))
      obtain ⟨fs, hr, hrun, hended, hW, hsame⟩ := X0.leave (v := some (.int (0 : Int32))) (fun h => by rw [Bd.returns] at h; cases h)
      refine ⟨_, ?_, hPend _ _ hrun hended ⟨_, _, rfl, ?_, ⟨_, rfl⟩, hW, hsame.mono (by decide) (by decide)⟩⟩
      · exact retOut X0 hx (t := .int) Bd.returns rfl (Or.inl ⟨rfl, Or.inl rfl, _, rfl⟩) (hb hby own_d_prog_16_method_13_code_53) hr
      · show Q_rm_cmp Z _ _ _ _ h0 n0 _ s₁.heap _
        rw [e0]
        exact ⟨(congrArg (fun z => some (Value.int z)) (by simp only [own_cmp]; simp_all)), N0, rfl⟩
    · skip
      refine Go.st (fun _ => XS.ifNo X0.here hx rfl (hb hby own_d_prog_16_method_13_code_28) rfl ((if0 _ _).trans (feq hc2).1)) ?_
      show Go p.tables e below P (s₁.setTop (mkF m 31 #[.val (.double p0), .second, .val (.double p1), .second, .val (.double p2), .second, .val (.double p3), .second, .unset] []))
      refine Go.st (fun _ => XS.dloadN X0.here hx rfl (hb hby own_d_prog_16_method_13_code_31) rfl) ?_
      show Go p.tables e below P (s₁.setTop (mkF m 32 #[.val (.double p0), .second, .val (.double p1), .second, .val (.double p2), .second, .val (.double p3), .second, .unset] [(.double p1)]))
      refine Go.st (fun _ => XS.dload X0.here hx rfl (hb hby own_d_prog_16_method_13_code_32) rfl) ?_
      show Go p.tables e below P (s₁.setTop (mkF m 34 #[.val (.double p0), .second, .val (.double p1), .second, .val (.double p2), .second, .val (.double p3), .second, .unset] [(.double p3), (.double p1)]))
      refine Go.st (fun _ => XS.dcmpS X0.here hx rfl (hb hby own_d_prog_16_method_13_code_34) rfl rfl) ?_
      show Go p.tables e below P (s₁.setTop (mkF m 35 #[.val (.double p0), .second, .val (.double p1), .second, .val (.double p2), .second, .val (.double p3), .second, .unset] [(.int (cmpValue (FP.dcmp p1 p3) .g))]))
      by_cases hc3 : (cmpValue (FP.dcmp p1 p3) .g) < (0 : Int32)
      · skip
        refine Go.st (fun _ => XS.ifNo X0.here hx rfl (hb hby own_d_prog_16_method_13_code_35) rfl ((if0 _ _).trans (tlt hc3).2.1)) ?_
        show Go p.tables e below P (s₁.setTop (mkF m 38 #[.val (.double p0), .second, .val (.double p1), .second, .val (.double p2), .second, .val (.double p3), .second, .unset] []))
        refine Go.st (fun _ => XS.iconst X0.here hx rfl (hb hby own_d_prog_16_method_13_code_38)) ?_
        show Go p.tables e below P (s₁.setTop (mkF m 39 #[.val (.double p0), .second, .val (.double p1), .second, .val (.double p2), .second, .val (.double p3), .second, .unset] [(.int (-1 : Int32))]))
        refine Go.st (fun _ => XS.goto X0.here hx rfl (pc0 := 39) (pc' := 43) rfl (hb hby own_d_prog_16_method_13_code_39) (by decide) (by decide)) ?_
        show Go p.tables e below P (s₁.setTop (mkF m 43 #[.val (.double p0), .second, .val (.double p1), .second, .val (.double p2), .second, .val (.double p3), .second, .unset] [(.int (-1 : Int32))]))
        refine Go.st (fun _ => XS.istore X0.here hx rfl (hb hby own_d_prog_16_method_13_code_43) rfl (l' := #[.val (.double p0), .second, .val (.double p1), .second, .val (.double p2), .second, .val (.double p3), .second, .val (.int (-1 : Int32))]) rfl) ?_
        show Go p.tables e below P (s₁.setTop (mkF m 45 #[.val (.double p0), .second, .val (.double p1), .second, .val (.double p2), .second, .val (.double p3), .second, .val (.int (-1 : Int32))] []))
        refine Go.st (fun _ => XS.goto X0.here hx rfl (pc0 := 45) (pc' := 51) rfl (hb hby own_d_prog_16_method_13_code_45) (by decide) (by decide)) ?_
        show Go p.tables e below P (s₁.setTop (mkF m 51 #[.val (.double p0), .second, .val (.double p1), .second, .val (.double p2), .second, .val (.double p3), .second, .val (.int (-1 : Int32))] []))
        refine Go.st (fun _ => XS.iload X0.here hx rfl (hb hby own_d_prog_16_method_13_code_51) rfl) ?_
        show Go p.tables e below P (s₁.setTop (mkF m 53 #[.val (.double p0), .second, .val (.double p1), .second, .val (.double p2), .second, .val (.double p3), .second, .val (.int (-1 : Int32))] [(.int (-1 : Int32))]))
        obtain ⟨fs, hr, hrun, hended, hW, hsame⟩ := X0.leave (v := some (.int (-1 : Int32))) (fun h => by rw [Bd.returns] at h; cases h)
        refine ⟨_, ?_, hPend _ _ hrun hended ⟨_, _, rfl, ?_, ⟨_, rfl⟩, hW, hsame.mono (by decide) (by decide)⟩⟩
        · exact retOut X0 hx (t := .int) Bd.returns rfl (Or.inl ⟨rfl, Or.inl rfl, _, rfl⟩) (hb hby own_d_prog_16_method_13_code_53) hr
        · show Q_rm_cmp Z _ _ _ _ h0 n0 _ s₁.heap _
          rw [e0]
          exact ⟨(congrArg (fun z => some (Value.int z)) (by simp only [own_cmp]; simp_all)), N0, rfl⟩
      · skip
        refine Go.st (fun _ => XS.ifYes X0.here hx rfl (pc0 := 35) (pc' := 42) rfl (hb hby own_d_prog_16_method_13_code_35) rfl ((if0 _ _).trans (flt hc3).2.1) (by decide) (by decide)) ?_
        show Go p.tables e below P (s₁.setTop (mkF m 42 #[.val (.double p0), .second, .val (.double p1), .second, .val (.double p2), .second, .val (.double p3), .second, .unset] []))
        refine Go.st (fun _ => XS.iconst X0.here hx rfl (hb hby own_d_prog_16_method_13_code_42)) ?_
        show Go p.tables e below P (s₁.setTop (mkF m 43 #[.val (.double p0), .second, .val (.double p1), .second, .val (.double p2), .second, .val (.double p3), .second, .unset] [(.int (1 : Int32))]))
        refine Go.st (fun _ => XS.istore X0.here hx rfl (hb hby own_d_prog_16_method_13_code_43) rfl (l' := #[.val (.double p0), .second, .val (.double p1), .second, .val (.double p2), .second, .val (.double p3), .second, .val (.int (1 : Int32))]) rfl) ?_
        show Go p.tables e below P (s₁.setTop (mkF m 45 #[.val (.double p0), .second, .val (.double p1), .second, .val (.double p2), .second, .val (.double p3), .second, .val (.int (1 : Int32))] []))
        refine Go.st (fun _ => XS.goto X0.here hx rfl (pc0 := 45) (pc' := 51) rfl (hb hby own_d_prog_16_method_13_code_45) (by decide) (by decide)) ?_
        show Go p.tables e below P (s₁.setTop (mkF m 51 #[.val (.double p0), .second, .val (.double p1), .second, .val (.double p2), .second, .val (.double p3), .second, .val (.int (1 : Int32))] []))
        refine Go.st (fun _ => XS.iload X0.here hx rfl (hb hby own_d_prog_16_method_13_code_51) rfl) ?_
        show Go p.tables e below P (s₁.setTop (mkF m 53 #[.val (.double p0), .second, .val (.double p1), .second, .val (.double p2), .second, .val (.double p3), .second, .val (.int (1 : Int32))] [(.int (1 : Int32))]))
        obtain ⟨fs, hr, hrun, hended, hW, hsame⟩ := X0.leave (v := some (.int (1 : Int32))) (fun h => by rw [Bd.returns] at h; cases h)
        refine ⟨_, ?_, hPend _ _ hrun hended ⟨_, _, rfl, ?_, ⟨_, rfl⟩, hW, hsame.mono (by decide) (by decide)⟩⟩
        · exact retOut X0 hx (t := .int) Bd.returns rfl (Or.inl ⟨rfl, Or.inl rfl, _, rfl⟩) (hb hby own_d_prog_16_method_13_code_53) hr
        · show Q_rm_cmp Z _ _ _ _ h0 n0 _ s₁.heap _
          rw [e0]
          exact ⟨(congrArg (fun z => some (Value.int z)) (by simp only [own_cmp]; simp_all)), N0, rfl⟩
  · skip
    refine Go.st (fun _ => XS.ifNo X0.here hx rfl (hb hby own_d_prog_16_method_13_code_4) rfl ((if0 _ _).trans (feq hc1).1)) ?_
    show Go p.tables e below P (s₁.setTop (mkF m 7 #[.val (.double p0), .second, .val (.double p1), .second, .val (.double p2), .second, .val (.double p3), .second, .unset] []))
    refine Go.st (fun _ => XS.dloadN X0.here hx rfl (hb hby own_d_prog_16_method_13_code_7) rfl) ?_
    show Go p.tables e below P (s₁.setTop (mkF m 8 #[.val (.double p0), .second, .val (.double p1), .second, .val (.double p2), .second, .val (.double p3), .second, .unset] [(.double p0)]))
    refine Go.st (fun _ => XS.dload X0.here hx rfl (hb hby own_d_prog_16_method_13_code_8) rfl) ?_
    show Go p.tables e below P (s₁.setTop (mkF m 10 #[.val (.double p0), .second, .val (.double p1), .second, .val (.double p2), .second, .val (.double p3), .second, .unset] [(.double p2), (.double p0)]))
    refine Go.st (fun _ => XS.dcmpS X0.here hx rfl (hb hby own_d_prog_16_method_13_code_10) rfl rfl) ?_
    show Go p.tables e below P (s₁.setTop (mkF m 11 #[.val (.double p0), .second, .val (.double p1), .second, .val (.double p2), .second, .val (.double p3), .second, .unset] [(.int (cmpValue (FP.dcmp p0 p2) .g))]))
    by_cases hc4 : (cmpValue (FP.dcmp p0 p2) .g) < (0 : Int32)
    · skip
      refine Go.st (fun _ => XS.ifNo X0.here hx rfl (hb hby own_d_prog_16_method_13_code_11) rfl ((if0 _ _).trans (tlt hc4).2.1)) ?_
      show Go p.tables e below P (s₁.setTop (mkF m 14 #[.val (.double p0), .second, .val (.double p1), .second, .val (.double p2), .second, .val (.double p3), .second, .unset] []))
      refine Go.st (fun _ => XS.iconst X0.here hx rfl (hb hby own_d_prog_16_method_13_code_14)) ?_
      show Go p.tables e below P (s₁.setTop (mkF m 15 #[.val (.double p0), .second, .val (.double p1), .second, .val (.double p2), .second, .val (.double p3), .second, .unset] [(.int (-1 : Int32))]))
      refine Go.st (fun _ => XS.goto X0.here hx rfl (pc0 := 15) (pc' := 19) rfl (hb hby own_d_prog_16_method_13_code_15) (by decide) (by decide)) ?_
      show Go p.tables e below P (s₁.setTop (mkF m 19 #[.val (.double p0), .second, .val (.double p1), .second, .val (.double p2), .second, .val (.double p3), .second, .unset] [(.int (-1 : Int32))]))
      refine Go.st (fun _ => XS.istore X0.here hx rfl (hb hby own_d_prog_16_method_13_code_19) rfl (l' := #[.val (.double p0), .second, .val (.double p1), .second, .val (.double p2), .second, .val (.double p3), .second, .val (.int (-1 : Int32))]) rfl) ?_
      show Go p.tables e below P (s₁.setTop (mkF m 21 #[.val (.double p0), .second, .val (.double p1), .second, .val (.double p2), .second, .val (.double p3), .second, .val (.int (-1 : Int32))] []))
      refine Go.st (fun _ => XS.goto X0.here hx rfl (pc0 := 21) (pc' := 51) rfl (hb hby own_d_prog_16_method_13_code_21) (by decide) (by decide)) ?_
      show Go p.tables e below P (s₁.setTop (mkF m 51 #[.val (.double p0), .second, .val (.double p1), .second, .val (.double p2), .second, .val (.double p3), .second, .val (.int (-1 : Int32))] []))
      refine Go.st (fun _ => XS.iload X0.here hx rfl (hb hby own_d_prog_16_method_13_code_51) rfl) ?_
      show Go p.tables e below P (s₁.setTop (mkF m 53 #[.val (.double p0), .second, .val (.double p1), .second, .val (.double p2), .second, .val (.double p3), .second, .val (.int (-1 : Int32))] [(.int (-1 : Int32))]))
      obtain ⟨fs, hr, hrun, hended, hW, hsame⟩ := X0.leave (v := some (.int (-1 : Int32))) (fun h => by rw [Bd.returns] at h; cases h)
      refine ⟨_, ?_, hPend _ _ hrun hended ⟨_, _, rfl, ?_, ⟨_, rfl⟩, hW, hsame.mono (by decide) (by decide)⟩⟩
      · exact retOut X0 hx (t := .int) Bd.returns rfl (Or.inl ⟨rfl, Or.inl rfl, _, rfl⟩) (hb hby own_d_prog_16_method_13_code_53) hr
      · show Q_rm_cmp Z _ _ _ _ h0 n0 _ s₁.heap _
        rw [e0]
        exact ⟨(congrArg (fun z => some (Value.int z)) (by simp only [own_cmp]; simp_all)), N0, rfl⟩
    · skip
      refine Go.st (fun _ => XS.ifYes X0.here hx rfl (pc0 := 11) (pc' := 18) rfl (hb hby own_d_prog_16_method_13_code_11) rfl ((if0 _ _).trans (flt hc4).2.1) (by decide) (by decide)) ?_
      show Go p.tables e below P (s₁.setTop (mkF m 18 #[.val (.double p0), .second, .val (.double p1), .second, .val (.double p2), .second, .val (.double p3), .second, .unset] []))
      refine Go.st (fun _ => XS.iconst X0.here hx rfl (hb hby own_d_prog_16_method_13_code_18)) ?_
      show Go p.tables e below P (s₁.setTop (mkF m 19 #[.val (.double p0), .second, .val (.double p1), .second, .val (.double p2), .second, .val (.double p3), .second, .unset] [(.int (1 : Int32))]))
      refine Go.st (fun _ => XS.istore X0.here hx rfl (hb hby own_d_prog_16_method_13_code_19) rfl (l' := #[.val (.double p0), .second, .val (.double p1), .second, .val (.double p2), .second, .val (.double p3), .second, .val (.int (1 : Int32))]) rfl) ?_
      show Go p.tables e below P (s₁.setTop (mkF m 21 #[.val (.double p0), .second, .val (.double p1), .second, .val (.double p2), .second, .val (.double p3), .second, .val (.int (1 : Int32))] []))
      refine Go.st (fun _ => XS.goto X0.here hx rfl (pc0 := 21) (pc' := 51) rfl (hb hby own_d_prog_16_method_13_code_21) (by decide) (by decide)) ?_
      show Go p.tables e below P (s₁.setTop (mkF m 51 #[.val (.double p0), .second, .val (.double p1), .second, .val (.double p2), .second, .val (.double p3), .second, .val (.int (1 : Int32))] []))
      refine Go.st (fun _ => XS.iload X0.here hx rfl (hb hby own_d_prog_16_method_13_code_51) rfl) ?_
      show Go p.tables e below P (s₁.setTop (mkF m 53 #[.val (.double p0), .second, .val (.double p1), .second, .val (.double p2), .second, .val (.double p3), .second, .val (.int (1 : Int32))] [(.int (1 : Int32))]))
      obtain ⟨fs, hr, hrun, hended, hW, hsame⟩ := X0.leave (v := some (.int (1 : Int32))) (fun h => by rw [Bd.returns] at h; cases h)
      refine ⟨_, ?_, hPend _ _ hrun hended ⟨_, _, rfl, ?_, ⟨_, rfl⟩, hW, hsame.mono (by decide) (by decide)⟩⟩
      · exact retOut X0 hx (t := .int) Bd.returns rfl (Or.inl ⟨rfl, Or.inl rfl, _, rfl⟩) (hb hby own_d_prog_16_method_13_code_53) hr
      · show Q_rm_cmp Z _ _ _ _ h0 n0 _ s₁.heap _
        rw [e0]
        exact ⟨(congrArg (fun z => some (Value.int z)) (by simp only [own_cmp]; simp_all)), N0, rfl⟩
theorem own_ef_rm_law (m : MethodId) (x0 : Int32) (x1 : Int32) (x2 : Int32) (x3 : Int32) (x4 : Int32) : entryFrame m #[(.int x0), (.int x1), (.int x2), (.int x3), (.int x4)] maxLocals = mkF m 0 #[.val (.int x0), .val (.int x1), .val (.int x2), .val (.int x3), .val (.int x4), .unset, .unset, .unset, .unset, .unset, .unset, .unset, .unset, .unset, .unset, .unset, .unset, .unset, .unset, .unset, .unset, .unset, .unset, .unset, .unset, .unset] [] := by first | (simp [entryFrame, mkF, argsToLocals, Value.category, maxLocals]; done) | rfl
theorem own_pd0 : parseMethodDescriptor "(JZ)D" = some ⟨[.long, .boolean], some .double⟩ := by decide +kernel
theorem own_pd1 : parseMethodDescriptor "(DDDD)I" = some ⟨[.double, .double, .double, .double], some .int⟩ := by decide +kernel
def Q_rm_law (Z : State) (p0 : Int32) (p1 : Int32) (p2 : Int32) (p3 : Int32) (p4 : Int32) (h0 : Heap) (n0 : Nat) (v : Option Value) (h : Heap) (L : List Loc) : Prop := v = some (.int (1 : Int32)) ∧ Fr n0 L ∧ h = h0
set_option maxRecDepth 65536 in
set_option maxHeartbeats 40000000 in
theorem rm_law (l : Launch) (Z : State) (a0 : Array Value) (hw : ∀ d ∈ tables_1, d.before a0 Z = true) (ws : List Jvm.Cond) (p0 : Int32) (p1 : Int32) (p2 : Int32) (p3 : Int32) (p4 : Int32) (h0 : Heap) (n0 : Nat) (X00 : Old Z n0 h0)  :
    MetFree l x (head1 (Jvm.Cond.code x code maxLocals ret :: ws) room_1) (fun a U => a = #[(.int p0), (.int p1), (.int p2), (.int p3), (.int p4)] ∧ Z.Warmed39 U.vm ∧ U.heap = h0) (fun _ _ _ _ _ => True) (fun _ U o U' => ∃ v L, o = .returned v ∧ Q_rm_law Z p0 p1 p2 p3 p4 h0 n0 v U'.heap L ∧ FrameEnd U o U' L 0 0) := by
  refine MetFree.of_bodySF (plainFor_of_name own_pn0) hisR ?_
  intro p e s m args below meth c s₁ Bd hml0 hP hK
  obtain ⟨rfl, hZ, hh⟩ := hP
  have hx := Bd.exec
  have hby := Bd.bytes
  have hml : c.maxLocals = 26 := hml0
  have hown : s.vm.findClass "com/example/parametree/parametree/CompensatedSumComparePinLaw" = some m.cls := findClass_of_methodNamed Bd.named
  have hnm := (name_of_methodNamed Bd.named Bd.method).1
  have X0 : Stand p l e room_1 s m #[(.int p0), (.int p1), (.int p2), (.int p3), (.int p4)] below meth c s₁ [] 0 0 := Stand.of_body Bd
  have e0 : s₁.heap = h0 := by rw [← hh, Bd.state]; rfl
  have N0 := Fr.nil n0
  refine Go.start fun P hPend => ?_
  refine Go.st (fun _ k => castTop (own_ef_rm_law m p0 p1 p2 p3 p4) k) ?_
  show Go p.tables e below P (s₁.setTop (mkF m 0 #[.val (.int p0), .val (.int p1), .val (.int p2), .val (.int p3), .val (.int p4), .unset, .unset, .unset, .unset, .unset, .unset, .unset, .unset, .unset, .unset, .unset, .unset, .unset, .unset, .unset, .unset, .unset, .unset, .unset, .unset, .unset] []))
  refine Go.st (fun _ => XS.iloadN X0.here hx rfl (hb hby at_0) rfl) ?_
  show Go p.tables e below P (s₁.setTop (mkF m 1 #[.val (.int p0), .val (.int p1), .val (.int p2), .val (.int p3), .val (.int p4), .unset, .unset, .unset, .unset, .unset, .unset, .unset, .unset, .unset, .unset, .unset, .unset, .unset, .unset, .unset, .unset, .unset, .unset, .unset, .unset, .unset] [(.int p0)]))
  refine Go.st (fun _ => XS.istore X0.here hx rfl (hb hby at_1) rfl (l' := #[.val (.int p0), .val (.int p1), .val (.int p2), .val (.int p3), .val (.int p4), .val (.int p0), .unset, .unset, .unset, .unset, .unset, .unset, .unset, .unset, .unset, .unset, .unset, .unset, .unset, .unset, .unset, .unset, .unset, .unset, .unset, .unset]) rfl) ?_
  show Go p.tables e below P (s₁.setTop (mkF m 3 #[.val (.int p0), .val (.int p1), .val (.int p2), .val (.int p3), .val (.int p4), .val (.int p0), .unset, .unset, .unset, .unset, .unset, .unset, .unset, .unset, .unset, .unset, .unset, .unset, .unset, .unset, .unset, .unset, .unset, .unset, .unset, .unset] []))
  refine Go.st (fun _ => XS.iload X0.here hx rfl (hb hby at_3) rfl) ?_
  show Go p.tables e below P (s₁.setTop (mkF m 5 #[.val (.int p0), .val (.int p1), .val (.int p2), .val (.int p3), .val (.int p4), .val (.int p0), .unset, .unset, .unset, .unset, .unset, .unset, .unset, .unset, .unset, .unset, .unset, .unset, .unset, .unset, .unset, .unset, .unset, .unset, .unset, .unset] [(.int p4)]))
  refine Go.st (fun _ => XS.iconst X0.here hx rfl (hb hby at_5)) ?_
  show Go p.tables e below P (s₁.setTop (mkF m 6 #[.val (.int p0), .val (.int p1), .val (.int p2), .val (.int p3), .val (.int p4), .val (.int p0), .unset, .unset, .unset, .unset, .unset, .unset, .unset, .unset, .unset, .unset, .unset, .unset, .unset, .unset, .unset, .unset, .unset, .unset, .unset, .unset] [(.int (1 : Int32)), (.int p4)]))
  refine Go.st (fun _ => XS.iand X0.here hx rfl (hb hby at_6) rfl) ?_
  show Go p.tables e below P (s₁.setTop (mkF m 7 #[.val (.int p0), .val (.int p1), .val (.int p2), .val (.int p3), .val (.int p4), .val (.int p0), .unset, .unset, .unset, .unset, .unset, .unset, .unset, .unset, .unset, .unset, .unset, .unset, .unset, .unset, .unset, .unset, .unset, .unset, .unset, .unset] [(.int (p4 &&& (1 : Int32)))]))
  have J1 : ∀ (jh2 : Int32), True → Go p.tables e below P (s₁.setTop (mkF m 15 #[.val (.int p0), .val (.int p1), .val (.int p2), .val (.int p3), .val (.int p4), .val (.int p0), .unset, .unset, .unset, .unset, .unset, .unset, .unset, .unset, .unset, .unset, .unset, .unset, .unset, .unset, .unset, .unset, .unset, .unset, .unset, .unset] [(.int jh2)])) := by
    intro jh2 hjJ1
    show Go p.tables e below P (s₁.setTop (mkF m 15 #[.val (.int p0), .val (.int p1), .val (.int p2), .val (.int p3), .val (.int p4), .val (.int p0), .unset, .unset, .unset, .unset, .unset, .unset, .unset, .unset, .unset, .unset, .unset, .unset, .unset, .unset, .unset, .unset, .unset, .unset, .unset, .unset] [(.int jh2)]))
    refine Go.st (fun _ => XS.istore X0.here hx rfl (hb hby at_15) rfl (l' := #[.val (.int p0), .val (.int p1), .val (.int p2), .val (.int p3), .val (.int p4), .val (.int p0), .val (.int jh2), .unset, .unset, .unset, .unset, .unset, .unset, .unset, .unset, .unset, .unset, .unset, .unset, .unset, .unset, .unset, .unset, .unset, .unset, .unset]) rfl) ?_
    show Go p.tables e below P (s₁.setTop (mkF m 17 #[.val (.int p0), .val (.int p1), .val (.int p2), .val (.int p3), .val (.int p4), .val (.int p0), .val (.int jh2), .unset, .unset, .unset, .unset, .unset, .unset, .unset, .unset, .unset, .unset, .unset, .unset, .unset, .unset, .unset, .unset, .unset, .unset, .unset] []))
    refine Go.st (fun _ => XS.iloadN X0.here hx rfl (hb hby at_17) rfl) ?_
    show Go p.tables e below P (s₁.setTop (mkF m 18 #[.val (.int p0), .val (.int p1), .val (.int p2), .val (.int p3), .val (.int p4), .val (.int p0), .val (.int jh2), .unset, .unset, .unset, .unset, .unset, .unset, .unset, .unset, .unset, .unset, .unset, .unset, .unset, .unset, .unset, .unset, .unset, .unset, .unset] [(.int p1)]))
    refine Go.st (fun _ => XS.bipush X0.here hx rfl (hb hby at_18)) ?_
    show Go p.tables e below P (s₁.setTop (mkF m 20 #[.val (.int p0), .val (.int p1), .val (.int p2), .val (.int p3), .val (.int p4), .val (.int p0), .val (.int jh2), .unset, .unset, .unset, .unset, .unset, .unset, .unset, .unset, .unset, .unset, .unset, .unset, .unset, .unset, .unset, .unset, .unset, .unset, .unset] [(.int (8 : Int32)), (.int p1)]))
    refine Go.st (fun _ => iremM (g := (mkF m 20 #[.val (.int p0), .val (.int p1), .val (.int p2), .val (.int p3), .val (.int p4), .val (.int p0), .val (.int jh2), .unset, .unset, .unset, .unset, .unset, .unset, .unset, .unset, .unset, .unset, .unset, .unset, .unset, .unset, .unset, .unset, .unset, .unset, .unset] [(.int (8 : Int32)), (.int p1)])) X0 hx rfl (hb hby at_20) rfl (by decide)) ?_
    show Go p.tables e below P (s₁.setTop (mkF m 21 #[.val (.int p0), .val (.int p1), .val (.int p2), .val (.int p3), .val (.int p4), .val (.int p0), .val (.int jh2), .unset, .unset, .unset, .unset, .unset, .unset, .unset, .unset, .unset, .unset, .unset, .unset, .unset, .unset, .unset, .unset, .unset, .unset, .unset] [(.int (p1 % (8 : Int32)))]))
    refine Go.st (fun _ => XS.istore X0.here hx rfl (hb hby at_21) rfl (l' := #[.val (.int p0), .val (.int p1), .val (.int p2), .val (.int p3), .val (.int p4), .val (.int p0), .val (.int jh2), .val (.int (p1 % (8 : Int32))), .unset, .unset, .unset, .unset, .unset, .unset, .unset, .unset, .unset, .unset, .unset, .unset, .unset, .unset, .unset, .unset, .unset, .unset]) rfl) ?_
    show Go p.tables e below P (s₁.setTop (mkF m 23 #[.val (.int p0), .val (.int p1), .val (.int p2), .val (.int p3), .val (.int p4), .val (.int p0), .val (.int jh2), .val (.int (p1 % (8 : Int32))), .unset, .unset, .unset, .unset, .unset, .unset, .unset, .unset, .unset, .unset, .unset, .unset, .unset, .unset, .unset, .unset, .unset, .unset] []))
    refine Go.st (fun _ => XS.iload X0.here hx rfl (hb hby at_23) rfl) ?_
    show Go p.tables e below P (s₁.setTop (mkF m 25 #[.val (.int p0), .val (.int p1), .val (.int p2), .val (.int p3), .val (.int p4), .val (.int p0), .val (.int jh2), .val (.int (p1 % (8 : Int32))), .unset, .unset, .unset, .unset, .unset, .unset, .unset, .unset, .unset, .unset, .unset, .unset, .unset, .unset, .unset, .unset, .unset, .unset] [(.int p4)]))
    refine Go.st (fun _ => XS.iconst X0.here hx rfl (hb hby at_25)) ?_
    show Go p.tables e below P (s₁.setTop (mkF m 26 #[.val (.int p0), .val (.int p1), .val (.int p2), .val (.int p3), .val (.int p4), .val (.int p0), .val (.int jh2), .val (.int (p1 % (8 : Int32))), .unset, .unset, .unset, .unset, .unset, .unset, .unset, .unset, .unset, .unset, .unset, .unset, .unset, .unset, .unset, .unset, .unset, .unset] [(.int (2 : Int32)), (.int p4)]))
    refine Go.st (fun _ => XS.iand X0.here hx rfl (hb hby at_26) rfl) ?_
    show Go p.tables e below P (s₁.setTop (mkF m 27 #[.val (.int p0), .val (.int p1), .val (.int p2), .val (.int p3), .val (.int p4), .val (.int p0), .val (.int jh2), .val (.int (p1 % (8 : Int32))), .unset, .unset, .unset, .unset, .unset, .unset, .unset, .unset, .unset, .unset, .unset, .unset, .unset, .unset, .unset, .unset, .unset, .unset] [(.int (p4 &&& (2 : Int32)))]))
    have J2 : ∀ (jl2 : Int32), (-8 < jl2.toInt ∧ jl2.toInt < 8) → Go p.tables e below P (s₁.setTop (mkF m 39 #[.val (.int p0), .val (.int p1), .val (.int p2), .val (.int p3), .val (.int p4), .val (.int p0), .val (.int jh2), .val (.int (p1 % (8 : Int32))), .unset, .unset, .unset, .unset, .unset, .unset, .unset, .unset, .unset, .unset, .unset, .unset, .unset, .unset, .unset, .unset, .unset, .unset] [(.int jl2)])) := by
      intro jl2 hjJ2
      show Go p.tables e below P (s₁.setTop (mkF m 39 #[.val (.int p0), .val (.int p1), .val (.int p2), .val (.int p3), .val (.int p4), .val (.int p0), .val (.int jh2), .val (.int (p1 % (8 : Int32))), .unset, .unset, .unset, .unset, .unset, .unset, .unset, .unset, .unset, .unset, .unset, .unset, .unset, .unset, .unset, .unset, .unset, .unset] [(.int jl2)]))
      have hl2 := hjJ2
      refine Go.st (fun _ => XS.istore X0.here hx rfl (hb hby at_39) rfl (l' := #[.val (.int p0), .val (.int p1), .val (.int p2), .val (.int p3), .val (.int p4), .val (.int p0), .val (.int jh2), .val (.int (p1 % (8 : Int32))), .val (.int jl2), .unset, .unset, .unset, .unset, .unset, .unset, .unset, .unset, .unset, .unset, .unset, .unset, .unset, .unset, .unset, .unset, .unset]) rfl) ?_
      show Go p.tables e below P (s₁.setTop (mkF m 41 #[.val (.int p0), .val (.int p1), .val (.int p2), .val (.int p3), .val (.int p4), .val (.int p0), .val (.int jh2), .val (.int (p1 % (8 : Int32))), .val (.int jl2), .unset, .unset, .unset, .unset, .unset, .unset, .unset, .unset, .unset, .unset, .unset, .unset, .unset, .unset, .unset, .unset, .unset] []))
      refine Go.st (fun _ => X0.ldc2Long hx hown (mvT hZ (hw _ (List.mem_of_getElem? (i := 0) rfl))) (g := (mkF m 41 #[.val (.int p0), .val (.int p1), .val (.int p2), .val (.int p3), .val (.int p4), .val (.int p0), .val (.int jh2), .val (.int (p1 % (8 : Int32))), .val (.int jl2), .unset, .unset, .unset, .unset, .unset, .unset, .unset, .unset, .unset, .unset, .unset, .unset, .unset, .unset, .unset, .unset, .unset] [])) rfl (hb hby at_41) _) ?_
      show Go p.tables e below P (s₁.setTop (mkF m 44 #[.val (.int p0), .val (.int p1), .val (.int p2), .val (.int p3), .val (.int p4), .val (.int p0), .val (.int jh2), .val (.int (p1 % (8 : Int32))), .val (.int jl2), .unset, .unset, .unset, .unset, .unset, .unset, .unset, .unset, .unset, .unset, .unset, .unset, .unset, .unset, .unset, .unset, .unset] [(.long (16 : Int64))]))
      refine Go.st (fun _ => XS.iload X0.here hx rfl (hb hby at_44) rfl) ?_
      show Go p.tables e below P (s₁.setTop (mkF m 46 #[.val (.int p0), .val (.int p1), .val (.int p2), .val (.int p3), .val (.int p4), .val (.int p0), .val (.int jh2), .val (.int (p1 % (8 : Int32))), .val (.int jl2), .unset, .unset, .unset, .unset, .unset, .unset, .unset, .unset, .unset, .unset, .unset, .unset, .unset, .unset, .unset, .unset, .unset] [(.int p0), (.long (16 : Int64))]))
      refine Go.st (fun _ => XS.i2l X0.here hx rfl (hb hby at_46) rfl) ?_
      show Go p.tables e below P (s₁.setTop (mkF m 47 #[.val (.int p0), .val (.int p1), .val (.int p2), .val (.int p3), .val (.int p4), .val (.int p0), .val (.int jh2), .val (.int (p1 % (8 : Int32))), .val (.int jl2), .unset, .unset, .unset, .unset, .unset, .unset, .unset, .unset, .unset, .unset, .unset, .unset, .unset, .unset, .unset, .unset, .unset] [(.long (p0.toInt64)), (.long (16 : Int64))]))
      refine Go.st (fun _ => XS.lmul X0.here hx rfl (hb hby at_47) rfl) ?_
      show Go p.tables e below P (s₁.setTop (mkF m 48 #[.val (.int p0), .val (.int p1), .val (.int p2), .val (.int p3), .val (.int p4), .val (.int p0), .val (.int jh2), .val (.int (p1 % (8 : Int32))), .val (.int jl2), .unset, .unset, .unset, .unset, .unset, .unset, .unset, .unset, .unset, .unset, .unset, .unset, .unset, .unset, .unset, .unset, .unset] [(.long ((16 : Int64) * (p0.toInt64)))]))
      refine Go.st (fun _ => XS.iload X0.here hx rfl (hb hby at_48) rfl) ?_
      show Go p.tables e below P (s₁.setTop (mkF m 50 #[.val (.int p0), .val (.int p1), .val (.int p2), .val (.int p3), .val (.int p4), .val (.int p0), .val (.int jh2), .val (.int (p1 % (8 : Int32))), .val (.int jl2), .unset, .unset, .unset, .unset, .unset, .unset, .unset, .unset, .unset, .unset, .unset, .unset, .unset, .unset, .unset, .unset, .unset] [(.int p4), (.long ((16 : Int64) * (p0.toInt64)))]))
      refine Go.st (fun _ => XS.iconst X0.here hx rfl (hb hby at_50)) ?_
      show Go p.tables e below P (s₁.setTop (mkF m 51 #[.val (.int p0), .val (.int p1), .val (.int p2), .val (.int p3), .val (.int p4), .val (.int p0), .val (.int jh2), .val (.int (p1 % (8 : Int32))), .val (.int jl2), .unset, .unset, .unset, .unset, .unset, .unset, .unset, .unset, .unset, .unset, .unset, .unset, .unset, .unset, .unset, .unset, .unset] [(.int (4 : Int32)), (.int p4), (.long ((16 : Int64) * (p0.toInt64)))]))
      refine Go.st (fun _ => XS.iand X0.here hx rfl (hb hby at_51) rfl) ?_
      show Go p.tables e below P (s₁.setTop (mkF m 52 #[.val (.int p0), .val (.int p1), .val (.int p2), .val (.int p3), .val (.int p4), .val (.int p0), .val (.int jh2), .val (.int (p1 % (8 : Int32))), .val (.int jl2), .unset, .unset, .unset, .unset, .unset, .unset, .unset, .unset, .unset, .unset, .unset, .unset, .unset, .unset, .unset, .unset, .unset] [(.int (p4 &&& (4 : Int32))), (.long ((16 : Int64) * (p0.toInt64)))]))
      have J3 : ∀ (jb1 : Int32), True → Go p.tables e below P (s₁.setTop (mkF m 60 #[.val (.int p0), .val (.int p1), .val (.int p2), .val (.int p3), .val (.int p4), .val (.int p0), .val (.int jh2), .val (.int (p1 % (8 : Int32))), .val (.int jl2), .unset, .unset, .unset, .unset, .unset, .unset, .unset, .unset, .unset, .unset, .unset, .unset, .unset, .unset, .unset, .unset, .unset] [(.int jb1), (.long ((16 : Int64) * (p0.toInt64)))])) := by
        intro jb1 hjJ3
        show Go p.tables e below P (s₁.setTop (mkF m 60 #[.val (.int p0), .val (.int p1), .val (.int p2), .val (.int p3), .val (.int p4), .val (.int p0), .val (.int jh2), .val (.int (p1 % (8 : Int32))), .val (.int jl2), .unset, .unset, .unset, .unset, .unset, .unset, .unset, .unset, .unset, .unset, .unset, .unset, .unset, .unset, .unset, .unset, .unset] [(.int jb1), (.long ((16 : Int64) * (p0.toInt64)))]))
        obtain ⟨_, _, ⟨T4, L4, k4, n4⟩, -, X4, ⟨Lc4, hQ4, l4, y4, z4⟩, st4⟩ := Jvm.LawKit.callS X0 hx (y := (⟨"com/example/parametree/parametree/CompensatedSumComparePinLaw", "part", "(JZ)D"⟩ : MethodName)) hown (mvT hZ (hw _ (List.mem_of_getElem? (i := 1) rfl))) (mvT hZ (hw _ (List.mem_of_getElem? (i := 2) rfl))) (mvT hZ (hw _ (List.mem_of_getElem? (i := 3) rfl))) (mvT hZ (hw _ (List.mem_of_getElem? (i := 4) rfl))) (by decide) (backOf (W := 0) (rm_part l Z a0 hw [] ((16 : Int64) * (p0.toInt64)) jb1 h0 n0 X00 ) hZ (hw _ (List.mem_of_getElem? (i := 4) rfl)) (hw _ (List.mem_of_getElem? (i := 3) rfl)) (by decide) (by decide)) (g := (mkF m 60 #[.val (.int p0), .val (.int p1), .val (.int p2), .val (.int p3), .val (.int p4), .val (.int p0), .val (.int jh2), .val (.int (p1 % (8 : Int32))), .val (.int jl2), .unset, .unset, .unset, .unset, .unset, .unset, .unset, .unset, .unset, .unset, .unset, .unset, .unset, .unset, .unset, .unset, .unset] [(.int jb1), (.long ((16 : Int64) * (p0.toInt64)))])) rfl (by rw [hml]; rfl) (argsL := [(.long ((16 : Int64) * (p0.toInt64))), (.int jb1)]) (rest := []) (lenOf own_pd0 rfl) rfl (by show 2 * 0 + _ ≤ _; exact Nat.le_of_eq rfl) (hb hby at_60) (fun _ _ => ⟨rfl, e0, (by decide : 0 + 0 ≤ _), (by decide : 0 + 0 ≤ _)⟩)
        dsimp only [Pt.U, Pt.locs, Pt.cells, Pt.slots] at X4 l4 y4 z4 st4 hQ4
        subst l4 y4 z4
        refine Go.st st4 ?_
        obtain ⟨R4, N4q, e4⟩ := hQ4
        have N4 := Fr.app N0 N4q
        subst R4
        show Go p.tables e below P (T4.setTop (mkF m 63 #[.val (.int p0), .val (.int p1), .val (.int p2), .val (.int p3), .val (.int p4), .val (.int p0), .val (.int jh2), .val (.int (p1 % (8 : Int32))), .val (.int jl2), .unset, .unset, .unset, .unset, .unset, .unset, .unset, .unset, .unset, .unset, .unset, .unset, .unset, .unset, .unset, .unset, .unset] [(.double (own_part ((16 : Int64) * (p0.toInt64)) jb1))]))
        refine Go.st (fun _ => XS.dstore X4.here hx rfl (hb hby at_63) rfl (l' := #[.val (.int p0), .val (.int p1), .val (.int p2), .val (.int p3), .val (.int p4), .val (.int p0), .val (.int jh2), .val (.int (p1 % (8 : Int32))), .val (.int jl2), .val (.double (own_part ((16 : Int64) * (p0.toInt64)) jb1)), .second, .unset, .unset, .unset, .unset, .unset, .unset, .unset, .unset, .unset, .unset, .unset, .unset, .unset, .unset, .unset]) rfl) ?_
        show Go p.tables e below P (T4.setTop (mkF m 65 #[.val (.int p0), .val (.int p1), .val (.int p2), .val (.int p3), .val (.int p4), .val (.int p0), .val (.int jh2), .val (.int (p1 % (8 : Int32))), .val (.int jl2), .val (.double (own_part ((16 : Int64) * (p0.toInt64)) jb1)), .second, .unset, .unset, .unset, .unset, .unset, .unset, .unset, .unset, .unset, .unset, .unset, .unset, .unset, .unset, .unset] []))
        refine Go.st (fun _ => XS.iload X4.here hx rfl (hb hby at_65) rfl) ?_
        show Go p.tables e below P (T4.setTop (mkF m 67 #[.val (.int p0), .val (.int p1), .val (.int p2), .val (.int p3), .val (.int p4), .val (.int p0), .val (.int jh2), .val (.int (p1 % (8 : Int32))), .val (.int jl2), .val (.double (own_part ((16 : Int64) * (p0.toInt64)) jb1)), .second, .unset, .unset, .unset, .unset, .unset, .unset, .unset, .unset, .unset, .unset, .unset, .unset, .unset, .unset, .unset] [(.int (p1 % (8 : Int32)))]))
        refine Go.st (fun _ => XS.i2l X4.here hx rfl (hb hby at_67) rfl) ?_
        show Go p.tables e below P (T4.setTop (mkF m 68 #[.val (.int p0), .val (.int p1), .val (.int p2), .val (.int p3), .val (.int p4), .val (.int p0), .val (.int jh2), .val (.int (p1 % (8 : Int32))), .val (.int jl2), .val (.double (own_part ((16 : Int64) * (p0.toInt64)) jb1)), .second, .unset, .unset, .unset, .unset, .unset, .unset, .unset, .unset, .unset, .unset, .unset, .unset, .unset, .unset, .unset] [(.long ((p1 % (8 : Int32)).toInt64))]))
        refine Go.st (fun _ => XS.iload X4.here hx rfl (hb hby at_68) rfl) ?_
        show Go p.tables e below P (T4.setTop (mkF m 70 #[.val (.int p0), .val (.int p1), .val (.int p2), .val (.int p3), .val (.int p4), .val (.int p0), .val (.int jh2), .val (.int (p1 % (8 : Int32))), .val (.int jl2), .val (.double (own_part ((16 : Int64) * (p0.toInt64)) jb1)), .second, .unset, .unset, .unset, .unset, .unset, .unset, .unset, .unset, .unset, .unset, .unset, .unset, .unset, .unset, .unset] [(.int p4), (.long ((p1 % (8 : Int32)).toInt64))]))
        refine Go.st (fun _ => XS.bipush X4.here hx rfl (hb hby at_70)) ?_
        show Go p.tables e below P (T4.setTop (mkF m 72 #[.val (.int p0), .val (.int p1), .val (.int p2), .val (.int p3), .val (.int p4), .val (.int p0), .val (.int jh2), .val (.int (p1 % (8 : Int32))), .val (.int jl2), .val (.double (own_part ((16 : Int64) * (p0.toInt64)) jb1)), .second, .unset, .unset, .unset, .unset, .unset, .unset, .unset, .unset, .unset, .unset, .unset, .unset, .unset, .unset, .unset] [(.int (8 : Int32)), (.int p4), (.long ((p1 % (8 : Int32)).toInt64))]))
        refine Go.st (fun _ => XS.iand X4.here hx rfl (hb hby at_72) rfl) ?_
        show Go p.tables e below P (T4.setTop (mkF m 73 #[.val (.int p0), .val (.int p1), .val (.int p2), .val (.int p3), .val (.int p4), .val (.int p0), .val (.int jh2), .val (.int (p1 % (8 : Int32))), .val (.int jl2), .val (.double (own_part ((16 : Int64) * (p0.toInt64)) jb1)), .second, .unset, .unset, .unset, .unset, .unset, .unset, .unset, .unset, .unset, .unset, .unset, .unset, .unset, .unset, .unset] [(.int (p4 &&& (8 : Int32))), (.long ((p1 % (8 : Int32)).toInt64))]))
        have J5 : ∀ (jb2 : Int32), True → Go p.tables e below P (T4.setTop (mkF m 81 #[.val (.int p0), .val (.int p1), .val (.int p2), .val (.int p3), .val (.int p4), .val (.int p0), .val (.int jh2), .val (.int (p1 % (8 : Int32))), .val (.int jl2), .val (.double (own_part ((16 : Int64) * (p0.toInt64)) jb1)), .second, .unset, .unset, .unset, .unset, .unset, .unset, .unset, .unset, .unset, .unset, .unset, .unset, .unset, .unset, .unset] [(.int jb2), (.long ((p1 % (8 : Int32)).toInt64))])) := by
          intro jb2 hjJ5
          show Go p.tables e below P (T4.setTop (mkF m 81 #[.val (.int p0), .val (.int p1), .val (.int p2), .val (.int p3), .val (.int p4), .val (.int p0), .val (.int jh2), .val (.int (p1 % (8 : Int32))), .val (.int jl2), .val (.double (own_part ((16 : Int64) * (p0.toInt64)) jb1)), .second, .unset, .unset, .unset, .unset, .unset, .unset, .unset, .unset, .unset, .unset, .unset, .unset, .unset, .unset, .unset] [(.int jb2), (.long ((p1 % (8 : Int32)).toInt64))]))
          obtain ⟨_, _, ⟨T6, L6, k6, n6⟩, -, X6, ⟨Lc6, hQ6, l6, y6, z6⟩, st6⟩ := Jvm.LawKit.callS X4 hx (y := (⟨"com/example/parametree/parametree/CompensatedSumComparePinLaw", "part", "(JZ)D"⟩ : MethodName)) hown (mvT hZ (hw _ (List.mem_of_getElem? (i := 1) rfl))) (mvT hZ (hw _ (List.mem_of_getElem? (i := 2) rfl))) (mvT hZ (hw _ (List.mem_of_getElem? (i := 3) rfl))) (mvT hZ (hw _ (List.mem_of_getElem? (i := 4) rfl))) (by decide) (backOf (W := 0) (rm_part l Z a0 hw [] ((p1 % (8 : Int32)).toInt64) jb2 h0 n0 X00 ) hZ (hw _ (List.mem_of_getElem? (i := 4) rfl)) (hw _ (List.mem_of_getElem? (i := 3) rfl)) (by decide) (by decide)) (g := (mkF m 81 #[.val (.int p0), .val (.int p1), .val (.int p2), .val (.int p3), .val (.int p4), .val (.int p0), .val (.int jh2), .val (.int (p1 % (8 : Int32))), .val (.int jl2), .val (.double (own_part ((16 : Int64) * (p0.toInt64)) jb1)), .second, .unset, .unset, .unset, .unset, .unset, .unset, .unset, .unset, .unset, .unset, .unset, .unset, .unset, .unset, .unset] [(.int jb2), (.long ((p1 % (8 : Int32)).toInt64))])) rfl (by rw [hml]; rfl) (argsL := [(.long ((p1 % (8 : Int32)).toInt64)), (.int jb2)]) (rest := []) (lenOf own_pd0 rfl) rfl (by show 2 * 0 + _ ≤ _; exact Nat.le_of_eq rfl) (hb hby at_81) (fun _ _ => ⟨rfl, e4, (by decide : 0 + 0 ≤ _), (by decide : 0 + 0 ≤ _)⟩)
          dsimp only [Pt.U, Pt.locs, Pt.cells, Pt.slots] at X6 l6 y6 z6 st6 hQ6
          subst l6 y6 z6
          refine Go.st st6 ?_
          obtain ⟨R6, N6q, e6⟩ := hQ6
          have N6 := Fr.app N4 N6q
          subst R6
          show Go p.tables e below P (T6.setTop (mkF m 84 #[.val (.int p0), .val (.int p1), .val (.int p2), .val (.int p3), .val (.int p4), .val (.int p0), .val (.int jh2), .val (.int (p1 % (8 : Int32))), .val (.int jl2), .val (.double (own_part ((16 : Int64) * (p0.toInt64)) jb1)), .second, .unset, .unset, .unset, .unset, .unset, .unset, .unset, .unset, .unset, .unset, .unset, .unset, .unset, .unset, .unset] [(.double (own_part ((p1 % (8 : Int32)).toInt64) jb2))]))
          refine Go.st (fun _ => XS.dstore X6.here hx rfl (hb hby at_84) rfl (l' := #[.val (.int p0), .val (.int p1), .val (.int p2), .val (.int p3), .val (.int p4), .val (.int p0), .val (.int jh2), .val (.int (p1 % (8 : Int32))), .val (.int jl2), .val (.double (own_part ((16 : Int64) * (p0.toInt64)) jb1)), .second, .val (.double (own_part ((p1 % (8 : Int32)).toInt64) jb2)), .second, .unset, .unset, .unset, .unset, .unset, .unset, .unset, .unset, .unset, .unset, .unset, .unset, .unset]) rfl) ?_
          show Go p.tables e below P (T6.setTop (mkF m 86 #[.val (.int p0), .val (.int p1), .val (.int p2), .val (.int p3), .val (.int p4), .val (.int p0), .val (.int jh2), .val (.int (p1 % (8 : Int32))), .val (.int jl2), .val (.double (own_part ((16 : Int64) * (p0.toInt64)) jb1)), .second, .val (.double (own_part ((p1 % (8 : Int32)).toInt64) jb2)), .second, .unset, .unset, .unset, .unset, .unset, .unset, .unset, .unset, .unset, .unset, .unset, .unset, .unset] []))
          refine Go.st (fun _ => X6.ldc2Long hx hown (mvT hZ (hw _ (List.mem_of_getElem? (i := 0) rfl))) (g := (mkF m 86 #[.val (.int p0), .val (.int p1), .val (.int p2), .val (.int p3), .val (.int p4), .val (.int p0), .val (.int jh2), .val (.int (p1 % (8 : Int32))), .val (.int jl2), .val (.double (own_part ((16 : Int64) * (p0.toInt64)) jb1)), .second, .val (.double (own_part ((p1 % (8 : Int32)).toInt64) jb2)), .second, .unset, .unset, .unset, .unset, .unset, .unset, .unset, .unset, .unset, .unset, .unset, .unset, .unset] [])) rfl (hb hby at_86) _) ?_
          show Go p.tables e below P (T6.setTop (mkF m 89 #[.val (.int p0), .val (.int p1), .val (.int p2), .val (.int p3), .val (.int p4), .val (.int p0), .val (.int jh2), .val (.int (p1 % (8 : Int32))), .val (.int jl2), .val (.double (own_part ((16 : Int64) * (p0.toInt64)) jb1)), .second, .val (.double (own_part ((p1 % (8 : Int32)).toInt64) jb2)), .second, .unset, .unset, .unset, .unset, .unset, .unset, .unset, .unset, .unset, .unset, .unset, .unset, .unset] [(.long (16 : Int64))]))
          refine Go.st (fun _ => XS.iload X6.here hx rfl (hb hby at_89) rfl) ?_
          show Go p.tables e below P (T6.setTop (mkF m 91 #[.val (.int p0), .val (.int p1), .val (.int p2), .val (.int p3), .val (.int p4), .val (.int p0), .val (.int jh2), .val (.int (p1 % (8 : Int32))), .val (.int jl2), .val (.double (own_part ((16 : Int64) * (p0.toInt64)) jb1)), .second, .val (.double (own_part ((p1 % (8 : Int32)).toInt64) jb2)), .second, .unset, .unset, .unset, .unset, .unset, .unset, .unset, .unset, .unset, .unset, .unset, .unset, .unset] [(.int jh2), (.long (16 : Int64))]))
          refine Go.st (fun _ => XS.i2l X6.here hx rfl (hb hby at_91) rfl) ?_
          show Go p.tables e below P (T6.setTop (mkF m 92 #[.val (.int p0), .val (.int p1), .val (.int p2), .val (.int p3), .val (.int p4), .val (.int p0), .val (.int jh2), .val (.int (p1 % (8 : Int32))), .val (.int jl2), .val (.double (own_part ((16 : Int64) * (p0.toInt64)) jb1)), .second, .val (.double (own_part ((p1 % (8 : Int32)).toInt64) jb2)), .second, .unset, .unset, .unset, .unset, .unset, .unset, .unset, .unset, .unset, .unset, .unset, .unset, .unset] [(.long (jh2.toInt64)), (.long (16 : Int64))]))
          refine Go.st (fun _ => XS.lmul X6.here hx rfl (hb hby at_92) rfl) ?_
          show Go p.tables e below P (T6.setTop (mkF m 93 #[.val (.int p0), .val (.int p1), .val (.int p2), .val (.int p3), .val (.int p4), .val (.int p0), .val (.int jh2), .val (.int (p1 % (8 : Int32))), .val (.int jl2), .val (.double (own_part ((16 : Int64) * (p0.toInt64)) jb1)), .second, .val (.double (own_part ((p1 % (8 : Int32)).toInt64) jb2)), .second, .unset, .unset, .unset, .unset, .unset, .unset, .unset, .unset, .unset, .unset, .unset, .unset, .unset] [(.long ((16 : Int64) * (jh2.toInt64)))]))
          refine Go.st (fun _ => XS.iload X6.here hx rfl (hb hby at_93) rfl) ?_
          show Go p.tables e below P (T6.setTop (mkF m 95 #[.val (.int p0), .val (.int p1), .val (.int p2), .val (.int p3), .val (.int p4), .val (.int p0), .val (.int jh2), .val (.int (p1 % (8 : Int32))), .val (.int jl2), .val (.double (own_part ((16 : Int64) * (p0.toInt64)) jb1)), .second, .val (.double (own_part ((p1 % (8 : Int32)).toInt64) jb2)), .second, .unset, .unset, .unset, .unset, .unset, .unset, .unset, .unset, .unset, .unset, .unset, .unset, .unset] [(.int p4), (.long ((16 : Int64) * (jh2.toInt64)))]))
          refine Go.st (fun _ => XS.bipush X6.here hx rfl (hb hby at_95)) ?_
          show Go p.tables e below P (T6.setTop (mkF m 97 #[.val (.int p0), .val (.int p1), .val (.int p2), .val (.int p3), .val (.int p4), .val (.int p0), .val (.int jh2), .val (.int (p1 % (8 : Int32))), .val (.int jl2), .val (.double (own_part ((16 : Int64) * (p0.toInt64)) jb1)), .second, .val (.double (own_part ((p1 % (8 : Int32)).toInt64) jb2)), .second, .unset, .unset, .unset, .unset, .unset, .unset, .unset, .unset, .unset, .unset, .unset, .unset, .unset] [(.int (16 : Int32)), (.int p4), (.long ((16 : Int64) * (jh2.toInt64)))]))
          refine Go.st (fun _ => XS.iand X6.here hx rfl (hb hby at_97) rfl) ?_
          show Go p.tables e below P (T6.setTop (mkF m 98 #[.val (.int p0), .val (.int p1), .val (.int p2), .val (.int p3), .val (.int p4), .val (.int p0), .val (.int jh2), .val (.int (p1 % (8 : Int32))), .val (.int jl2), .val (.double (own_part ((16 : Int64) * (p0.toInt64)) jb1)), .second, .val (.double (own_part ((p1 % (8 : Int32)).toInt64) jb2)), .second, .unset, .unset, .unset, .unset, .unset, .unset, .unset, .unset, .unset, .unset, .unset, .unset, .unset] [(.int (p4 &&& (16 : Int32))), (.long ((16 : Int64) * (jh2.toInt64)))]))
          have J7 : ∀ (jb3 : Int32), True → Go p.tables e below P (T6.setTop (mkF m 106 #[.val (.int p0), .val (.int p1), .val (.int p2), .val (.int p3), .val (.int p4), .val (.int p0), .val (.int jh2), .val (.int (p1 % (8 : Int32))), .val (.int jl2), .val (.double (own_part ((16 : Int64) * (p0.toInt64)) jb1)), .second, .val (.double (own_part ((p1 % (8 : Int32)).toInt64) jb2)), .second, .unset, .unset, .unset, .unset, .unset, .unset, .unset, .unset, .unset, .unset, .unset, .unset, .unset] [(.int jb3), (.long ((16 : Int64) * (jh2.toInt64)))])) := by
            intro jb3 hjJ7
            show Go p.tables e below P (T6.setTop (mkF m 106 #[.val (.int p0), .val (.int p1), .val (.int p2), .val (.int p3), .val (.int p4), .val (.int p0), .val (.int jh2), .val (.int (p1 % (8 : Int32))), .val (.int jl2), .val (.double (own_part ((16 : Int64) * (p0.toInt64)) jb1)), .second, .val (.double (own_part ((p1 % (8 : Int32)).toInt64) jb2)), .second, .unset, .unset, .unset, .unset, .unset, .unset, .unset, .unset, .unset, .unset, .unset, .unset, .unset] [(.int jb3), (.long ((16 : Int64) * (jh2.toInt64)))]))
            obtain ⟨_, _, ⟨T8, L8, k8, n8⟩, -, X8, ⟨Lc8, hQ8, l8, y8, z8⟩, st8⟩ := Jvm.LawKit.callS X6 hx (y := (⟨"com/example/parametree/parametree/CompensatedSumComparePinLaw", "part", "(JZ)D"⟩ : MethodName)) hown (mvT hZ (hw _ (List.mem_of_getElem? (i := 1) rfl))) (mvT hZ (hw _ (List.mem_of_getElem? (i := 2) rfl))) (mvT hZ (hw _ (List.mem_of_getElem? (i := 3) rfl))) (mvT hZ (hw _ (List.mem_of_getElem? (i := 4) rfl))) (by decide) (backOf (W := 0) (rm_part l Z a0 hw [] ((16 : Int64) * (jh2.toInt64)) jb3 h0 n0 X00 ) hZ (hw _ (List.mem_of_getElem? (i := 4) rfl)) (hw _ (List.mem_of_getElem? (i := 3) rfl)) (by decide) (by decide)) (g := (mkF m 106 #[.val (.int p0), .val (.int p1), .val (.int p2), .val (.int p3), .val (.int p4), .val (.int p0), .val (.int jh2), .val (.int (p1 % (8 : Int32))), .val (.int jl2), .val (.double (own_part ((16 : Int64) * (p0.toInt64)) jb1)), .second, .val (.double (own_part ((p1 % (8 : Int32)).toInt64) jb2)), .second, .unset, .unset, .unset, .unset, .unset, .unset, .unset, .unset, .unset, .unset, .unset, .unset, .unset] [(.int jb3), (.long ((16 : Int64) * (jh2.toInt64)))])) rfl (by rw [hml]; rfl) (argsL := [(.long ((16 : Int64) * (jh2.toInt64))), (.int jb3)]) (rest := []) (lenOf own_pd0 rfl) rfl (by show 2 * 0 + _ ≤ _; exact Nat.le_of_eq rfl) (hb hby at_106) (fun _ _ => ⟨rfl, e6, (by decide : 0 + 0 ≤ _), (by decide : 0 + 0 ≤ _)⟩)
            dsimp only [Pt.U, Pt.locs, Pt.cells, Pt.slots] at X8 l8 y8 z8 st8 hQ8
            subst l8 y8 z8
            refine Go.st st8 ?_
            obtain ⟨R8, N8q, e8⟩ := hQ8
            have N8 := Fr.app N6 N8q
            subst R8
            show Go p.tables e below P (T8.setTop (mkF m 109 #[.val (.int p0), .val (.int p1), .val (.int p2), .val (.int p3), .val (.int p4), .val (.int p0), .val (.int jh2), .val (.int (p1 % (8 : Int32))), .val (.int jl2), .val (.double (own_part ((16 : Int64) * (p0.toInt64)) jb1)), .second, .val (.double (own_part ((p1 % (8 : Int32)).toInt64) jb2)), .second, .unset, .unset, .unset, .unset, .unset, .unset, .unset, .unset, .unset, .unset, .unset, .unset, .unset] [(.double (own_part ((16 : Int64) * (jh2.toInt64)) jb3))]))
            refine Go.st (fun _ => XS.dstore X8.here hx rfl (hb hby at_109) rfl (l' := #[.val (.int p0), .val (.int p1), .val (.int p2), .val (.int p3), .val (.int p4), .val (.int p0), .val (.int jh2), .val (.int (p1 % (8 : Int32))), .val (.int jl2), .val (.double (own_part ((16 : Int64) * (p0.toInt64)) jb1)), .second, .val (.double (own_part ((p1 % (8 : Int32)).toInt64) jb2)), .second, .val (.double (own_part ((16 : Int64) * (jh2.toInt64)) jb3)), .second, .unset, .unset, .unset, .unset, .unset, .unset, .unset, .unset, .unset, .unset, .unset]) rfl) ?_
            show Go p.tables e below P (T8.setTop (mkF m 111 #[.val (.int p0), .val (.int p1), .val (.int p2), .val (.int p3), .val (.int p4), .val (.int p0), .val (.int jh2), .val (.int (p1 % (8 : Int32))), .val (.int jl2), .val (.double (own_part ((16 : Int64) * (p0.toInt64)) jb1)), .second, .val (.double (own_part ((p1 % (8 : Int32)).toInt64) jb2)), .second, .val (.double (own_part ((16 : Int64) * (jh2.toInt64)) jb3)), .second, .unset, .unset, .unset, .unset, .unset, .unset, .unset, .unset, .unset, .unset, .unset] []))
            refine Go.st (fun _ => XS.iload X8.here hx rfl (hb hby at_111) rfl) ?_
            show Go p.tables e below P (T8.setTop (mkF m 113 #[.val (.int p0), .val (.int p1), .val (.int p2), .val (.int p3), .val (.int p4), .val (.int p0), .val (.int jh2), .val (.int (p1 % (8 : Int32))), .val (.int jl2), .val (.double (own_part ((16 : Int64) * (p0.toInt64)) jb1)), .second, .val (.double (own_part ((p1 % (8 : Int32)).toInt64) jb2)), .second, .val (.double (own_part ((16 : Int64) * (jh2.toInt64)) jb3)), .second, .unset, .unset, .unset, .unset, .unset, .unset, .unset, .unset, .unset, .unset, .unset] [(.int jl2)]))
            refine Go.st (fun _ => XS.i2l X8.here hx rfl (hb hby at_113) rfl) ?_
            show Go p.tables e below P (T8.setTop (mkF m 114 #[.val (.int p0), .val (.int p1), .val (.int p2), .val (.int p3), .val (.int p4), .val (.int p0), .val (.int jh2), .val (.int (p1 % (8 : Int32))), .val (.int jl2), .val (.double (own_part ((16 : Int64) * (p0.toInt64)) jb1)), .second, .val (.double (own_part ((p1 % (8 : Int32)).toInt64) jb2)), .second, .val (.double (own_part ((16 : Int64) * (jh2.toInt64)) jb3)), .second, .unset, .unset, .unset, .unset, .unset, .unset, .unset, .unset, .unset, .unset, .unset] [(.long (jl2.toInt64))]))
            refine Go.st (fun _ => XS.iload X8.here hx rfl (hb hby at_114) rfl) ?_
            show Go p.tables e below P (T8.setTop (mkF m 116 #[.val (.int p0), .val (.int p1), .val (.int p2), .val (.int p3), .val (.int p4), .val (.int p0), .val (.int jh2), .val (.int (p1 % (8 : Int32))), .val (.int jl2), .val (.double (own_part ((16 : Int64) * (p0.toInt64)) jb1)), .second, .val (.double (own_part ((p1 % (8 : Int32)).toInt64) jb2)), .second, .val (.double (own_part ((16 : Int64) * (jh2.toInt64)) jb3)), .second, .unset, .unset, .unset, .unset, .unset, .unset, .unset, .unset, .unset, .unset, .unset] [(.int p4), (.long (jl2.toInt64))]))
            refine Go.st (fun _ => XS.bipush X8.here hx rfl (hb hby at_116)) ?_
            show Go p.tables e below P (T8.setTop (mkF m 118 #[.val (.int p0), .val (.int p1), .val (.int p2), .val (.int p3), .val (.int p4), .val (.int p0), .val (.int jh2), .val (.int (p1 % (8 : Int32))), .val (.int jl2), .val (.double (own_part ((16 : Int64) * (p0.toInt64)) jb1)), .second, .val (.double (own_part ((p1 % (8 : Int32)).toInt64) jb2)), .second, .val (.double (own_part ((16 : Int64) * (jh2.toInt64)) jb3)), .second, .unset, .unset, .unset, .unset, .unset, .unset, .unset, .unset, .unset, .unset, .unset] [(.int (32 : Int32)), (.int p4), (.long (jl2.toInt64))]))
            refine Go.st (fun _ => XS.iand X8.here hx rfl (hb hby at_118) rfl) ?_
            show Go p.tables e below P (T8.setTop (mkF m 119 #[.val (.int p0), .val (.int p1), .val (.int p2), .val (.int p3), .val (.int p4), .val (.int p0), .val (.int jh2), .val (.int (p1 % (8 : Int32))), .val (.int jl2), .val (.double (own_part ((16 : Int64) * (p0.toInt64)) jb1)), .second, .val (.double (own_part ((p1 % (8 : Int32)).toInt64) jb2)), .second, .val (.double (own_part ((16 : Int64) * (jh2.toInt64)) jb3)), .second, .unset, .unset, .unset, .unset, .unset, .unset, .unset, .unset, .unset, .unset, .unset] [(.int (p4 &&& (32 : Int32))), (.long (jl2.toInt64))]))
            have J9 : ∀ (jb4 : Int32), True → Go p.tables e below P (T8.setTop (mkF m 127 #[.val (.int p0), .val (.int p1), .val (.int p2), .val (.int p3), .val (.int p4), .val (.int p0), .val (.int jh2), .val (.int (p1 % (8 : Int32))), .val (.int jl2), .val (.double (own_part ((16 : Int64) * (p0.toInt64)) jb1)), .second, .val (.double (own_part ((p1 % (8 : Int32)).toInt64) jb2)), .second, .val (.double (own_part ((16 : Int64) * (jh2.toInt64)) jb3)), .second, .unset, .unset, .unset, .unset, .unset, .unset, .unset, .unset, .unset, .unset, .unset] [(.int jb4), (.long (jl2.toInt64))])) := by
              intro jb4 hjJ9
              show Go p.tables e below P (T8.setTop (mkF m 127 #[.val (.int p0), .val (.int p1), .val (.int p2), .val (.int p3), .val (.int p4), .val (.int p0), .val (.int jh2), .val (.int (p1 % (8 : Int32))), .val (.int jl2), .val (.double (own_part ((16 : Int64) * (p0.toInt64)) jb1)), .second, .val (.double (own_part ((p1 % (8 : Int32)).toInt64) jb2)), .second, .val (.double (own_part ((16 : Int64) * (jh2.toInt64)) jb3)), .second, .unset, .unset, .unset, .unset, .unset, .unset, .unset, .unset, .unset, .unset, .unset] [(.int jb4), (.long (jl2.toInt64))]))
              obtain ⟨_, _, ⟨T10, L10, k10, n10⟩, -, X10, ⟨Lc10, hQ10, l10, y10, z10⟩, st10⟩ := Jvm.LawKit.callS X8 hx (y := (⟨"com/example/parametree/parametree/CompensatedSumComparePinLaw", "part", "(JZ)D"⟩ : MethodName)) hown (mvT hZ (hw _ (List.mem_of_getElem? (i := 1) rfl))) (mvT hZ (hw _ (List.mem_of_getElem? (i := 2) rfl))) (mvT hZ (hw _ (List.mem_of_getElem? (i := 3) rfl))) (mvT hZ (hw _ (List.mem_of_getElem? (i := 4) rfl))) (by decide) (backOf (W := 0) (rm_part l Z a0 hw [] (jl2.toInt64) jb4 h0 n0 X00 ) hZ (hw _ (List.mem_of_getElem? (i := 4) rfl)) (hw _ (List.mem_of_getElem? (i := 3) rfl)) (by decide) (by decide)) (g := (mkF m 127 #[.val (.int p0), .val (.int p1), .val (.int p2), .val (.int p3), .val (.int p4), .val (.int p0), .val (.int jh2), .val (.int (p1 % (8 : Int32))), .val (.int jl2), .val (.double (own_part ((16 : Int64) * (p0.toInt64)) jb1)), .second, .val (.double (own_part ((p1 % (8 : Int32)).toInt64) jb2)), .second, .val (.double (own_part ((16 : Int64) * (jh2.toInt64)) jb3)), .second, .unset, .unset, .unset, .unset, .unset, .unset, .unset, .unset, .unset, .unset, .unset] [(.int jb4), (.long (jl2.toInt64))])) rfl (by rw [hml]; rfl) (argsL := [(.long (jl2.toInt64)), (.int jb4)]) (rest := []) (lenOf own_pd0 rfl) rfl (by show 2 * 0 + _ ≤ _; exact Nat.le_of_eq rfl) (hb hby at_127) (fun _ _ => ⟨rfl, e8, (by decide : 0 + 0 ≤ _), (by decide : 0 + 0 ≤ _)⟩)
              dsimp only [Pt.U, Pt.locs, Pt.cells, Pt.slots] at X10 l10 y10 z10 st10 hQ10
              subst l10 y10 z10
              refine Go.st st10 ?_
              obtain ⟨R10, N10q, e10⟩ := hQ10
              have N10 := Fr.app N8 N10q
              subst R10
              show Go p.tables e below P (T10.setTop (mkF m 130 #[.val (.int p0), .val (.int p1), .val (.int p2), .val (.int p3), .val (.int p4), .val (.int p0), .val (.int jh2), .val (.int (p1 % (8 : Int32))), .val (.int jl2), .val (.double (own_part ((16 : Int64) * (p0.toInt64)) jb1)), .second, .val (.double (own_part ((p1 % (8 : Int32)).toInt64) jb2)), .second, .val (.double (own_part ((16 : Int64) * (jh2.toInt64)) jb3)), .second, .unset, .unset, .unset, .unset, .unset, .unset, .unset, .unset, .unset, .unset, .unset] [(.double (own_part (jl2.toInt64) jb4))]))
              refine Go.st (fun _ => XS.dstore X10.here hx rfl (hb hby at_130) rfl (l' := #[.val (.int p0), .val (.int p1), .val (.int p2), .val (.int p3), .val (.int p4), .val (.int p0), .val (.int jh2), .val (.int (p1 % (8 : Int32))), .val (.int jl2), .val (.double (own_part ((16 : Int64) * (p0.toInt64)) jb1)), .second, .val (.double (own_part ((p1 % (8 : Int32)).toInt64) jb2)), .second, .val (.double (own_part ((16 : Int64) * (jh2.toInt64)) jb3)), .second, .val (.double (own_part (jl2.toInt64) jb4)), .second, .unset, .unset, .unset, .unset, .unset, .unset, .unset, .unset, .unset]) rfl) ?_
              show Go p.tables e below P (T10.setTop (mkF m 132 #[.val (.int p0), .val (.int p1), .val (.int p2), .val (.int p3), .val (.int p4), .val (.int p0), .val (.int jh2), .val (.int (p1 % (8 : Int32))), .val (.int jl2), .val (.double (own_part ((16 : Int64) * (p0.toInt64)) jb1)), .second, .val (.double (own_part ((p1 % (8 : Int32)).toInt64) jb2)), .second, .val (.double (own_part ((16 : Int64) * (jh2.toInt64)) jb3)), .second, .val (.double (own_part (jl2.toInt64) jb4)), .second, .unset, .unset, .unset, .unset, .unset, .unset, .unset, .unset, .unset] []))
              refine Go.st (fun _ => X10.ldc2Long hx hown (mvT hZ (hw _ (List.mem_of_getElem? (i := 0) rfl))) (g := (mkF m 132 #[.val (.int p0), .val (.int p1), .val (.int p2), .val (.int p3), .val (.int p4), .val (.int p0), .val (.int jh2), .val (.int (p1 % (8 : Int32))), .val (.int jl2), .val (.double (own_part ((16 : Int64) * (p0.toInt64)) jb1)), .second, .val (.double (own_part ((p1 % (8 : Int32)).toInt64) jb2)), .second, .val (.double (own_part ((16 : Int64) * (jh2.toInt64)) jb3)), .second, .val (.double (own_part (jl2.toInt64) jb4)), .second, .unset, .unset, .unset, .unset, .unset, .unset, .unset, .unset, .unset] [])) rfl (hb hby at_132) _) ?_
              show Go p.tables e below P (T10.setTop (mkF m 135 #[.val (.int p0), .val (.int p1), .val (.int p2), .val (.int p3), .val (.int p4), .val (.int p0), .val (.int jh2), .val (.int (p1 % (8 : Int32))), .val (.int jl2), .val (.double (own_part ((16 : Int64) * (p0.toInt64)) jb1)), .second, .val (.double (own_part ((p1 % (8 : Int32)).toInt64) jb2)), .second, .val (.double (own_part ((16 : Int64) * (jh2.toInt64)) jb3)), .second, .val (.double (own_part (jl2.toInt64) jb4)), .second, .unset, .unset, .unset, .unset, .unset, .unset, .unset, .unset, .unset] [(.long (16 : Int64))]))
              refine Go.st (fun _ => XS.iload X10.here hx rfl (hb hby at_135) rfl) ?_
              show Go p.tables e below P (T10.setTop (mkF m 137 #[.val (.int p0), .val (.int p1), .val (.int p2), .val (.int p3), .val (.int p4), .val (.int p0), .val (.int jh2), .val (.int (p1 % (8 : Int32))), .val (.int jl2), .val (.double (own_part ((16 : Int64) * (p0.toInt64)) jb1)), .second, .val (.double (own_part ((p1 % (8 : Int32)).toInt64) jb2)), .second, .val (.double (own_part ((16 : Int64) * (jh2.toInt64)) jb3)), .second, .val (.double (own_part (jl2.toInt64) jb4)), .second, .unset, .unset, .unset, .unset, .unset, .unset, .unset, .unset, .unset] [(.int p0), (.long (16 : Int64))]))
              refine Go.st (fun _ => XS.i2l X10.here hx rfl (hb hby at_137) rfl) ?_
              show Go p.tables e below P (T10.setTop (mkF m 138 #[.val (.int p0), .val (.int p1), .val (.int p2), .val (.int p3), .val (.int p4), .val (.int p0), .val (.int jh2), .val (.int (p1 % (8 : Int32))), .val (.int jl2), .val (.double (own_part ((16 : Int64) * (p0.toInt64)) jb1)), .second, .val (.double (own_part ((p1 % (8 : Int32)).toInt64) jb2)), .second, .val (.double (own_part ((16 : Int64) * (jh2.toInt64)) jb3)), .second, .val (.double (own_part (jl2.toInt64) jb4)), .second, .unset, .unset, .unset, .unset, .unset, .unset, .unset, .unset, .unset] [(.long (p0.toInt64)), (.long (16 : Int64))]))
              refine Go.st (fun _ => XS.lmul X10.here hx rfl (hb hby at_138) rfl) ?_
              show Go p.tables e below P (T10.setTop (mkF m 139 #[.val (.int p0), .val (.int p1), .val (.int p2), .val (.int p3), .val (.int p4), .val (.int p0), .val (.int jh2), .val (.int (p1 % (8 : Int32))), .val (.int jl2), .val (.double (own_part ((16 : Int64) * (p0.toInt64)) jb1)), .second, .val (.double (own_part ((p1 % (8 : Int32)).toInt64) jb2)), .second, .val (.double (own_part ((16 : Int64) * (jh2.toInt64)) jb3)), .second, .val (.double (own_part (jl2.toInt64) jb4)), .second, .unset, .unset, .unset, .unset, .unset, .unset, .unset, .unset, .unset] [(.long ((16 : Int64) * (p0.toInt64)))]))
              refine Go.st (fun _ => XS.iload X10.here hx rfl (hb hby at_139) rfl) ?_
              show Go p.tables e below P (T10.setTop (mkF m 141 #[.val (.int p0), .val (.int p1), .val (.int p2), .val (.int p3), .val (.int p4), .val (.int p0), .val (.int jh2), .val (.int (p1 % (8 : Int32))), .val (.int jl2), .val (.double (own_part ((16 : Int64) * (p0.toInt64)) jb1)), .second, .val (.double (own_part ((p1 % (8 : Int32)).toInt64) jb2)), .second, .val (.double (own_part ((16 : Int64) * (jh2.toInt64)) jb3)), .second, .val (.double (own_part (jl2.toInt64) jb4)), .second, .unset, .unset, .unset, .unset, .unset, .unset, .unset, .unset, .unset] [(.int (p1 % (8 : Int32))), (.long ((16 : Int64) * (p0.toInt64)))]))
              refine Go.st (fun _ => XS.i2l X10.here hx rfl (hb hby at_141) rfl) ?_
              show Go p.tables e below P (T10.setTop (mkF m 142 #[.val (.int p0), .val (.int p1), .val (.int p2), .val (.int p3), .val (.int p4), .val (.int p0), .val (.int jh2), .val (.int (p1 % (8 : Int32))), .val (.int jl2), .val (.double (own_part ((16 : Int64) * (p0.toInt64)) jb1)), .second, .val (.double (own_part ((p1 % (8 : Int32)).toInt64) jb2)), .second, .val (.double (own_part ((16 : Int64) * (jh2.toInt64)) jb3)), .second, .val (.double (own_part (jl2.toInt64) jb4)), .second, .unset, .unset, .unset, .unset, .unset, .unset, .unset, .unset, .unset] [(.long ((p1 % (8 : Int32)).toInt64)), (.long ((16 : Int64) * (p0.toInt64)))]))
              refine Go.st (fun _ => XS.ladd X10.here hx rfl (hb hby at_142) rfl) ?_
              show Go p.tables e below P (T10.setTop (mkF m 143 #[.val (.int p0), .val (.int p1), .val (.int p2), .val (.int p3), .val (.int p4), .val (.int p0), .val (.int jh2), .val (.int (p1 % (8 : Int32))), .val (.int jl2), .val (.double (own_part ((16 : Int64) * (p0.toInt64)) jb1)), .second, .val (.double (own_part ((p1 % (8 : Int32)).toInt64) jb2)), .second, .val (.double (own_part ((16 : Int64) * (jh2.toInt64)) jb3)), .second, .val (.double (own_part (jl2.toInt64) jb4)), .second, .unset, .unset, .unset, .unset, .unset, .unset, .unset, .unset, .unset] [(.long (((16 : Int64) * (p0.toInt64)) + ((p1 % (8 : Int32)).toInt64)))]))
              refine Go.st (fun _ => XS.lstore X10.here hx rfl (hb hby at_143) rfl (l' := #[.val (.int p0), .val (.int p1), .val (.int p2), .val (.int p3), .val (.int p4), .val (.int p0), .val (.int jh2), .val (.int (p1 % (8 : Int32))), .val (.int jl2), .val (.double (own_part ((16 : Int64) * (p0.toInt64)) jb1)), .second, .val (.double (own_part ((p1 % (8 : Int32)).toInt64) jb2)), .second, .val (.double (own_part ((16 : Int64) * (jh2.toInt64)) jb3)), .second, .val (.double (own_part (jl2.toInt64) jb4)), .second, .val (.long (((16 : Int64) * (p0.toInt64)) + ((p1 % (8 : Int32)).toInt64))), .second, .unset, .unset, .unset, .unset, .unset, .unset, .unset]) rfl) ?_
              show Go p.tables e below P (T10.setTop (mkF m 145 #[.val (.int p0), .val (.int p1), .val (.int p2), .val (.int p3), .val (.int p4), .val (.int p0), .val (.int jh2), .val (.int (p1 % (8 : Int32))), .val (.int jl2), .val (.double (own_part ((16 : Int64) * (p0.toInt64)) jb1)), .second, .val (.double (own_part ((p1 % (8 : Int32)).toInt64) jb2)), .second, .val (.double (own_part ((16 : Int64) * (jh2.toInt64)) jb3)), .second, .val (.double (own_part (jl2.toInt64) jb4)), .second, .val (.long (((16 : Int64) * (p0.toInt64)) + ((p1 % (8 : Int32)).toInt64))), .second, .unset, .unset, .unset, .unset, .unset, .unset, .unset] []))
              refine Go.st (fun _ => X10.ldc2Long hx hown (mvT hZ (hw _ (List.mem_of_getElem? (i := 0) rfl))) (g := (mkF m 145 #[.val (.int p0), .val (.int p1), .val (.int p2), .val (.int p3), .val (.int p4), .val (.int p0), .val (.int jh2), .val (.int (p1 % (8 : Int32))), .val (.int jl2), .val (.double (own_part ((16 : Int64) * (p0.toInt64)) jb1)), .second, .val (.double (own_part ((p1 % (8 : Int32)).toInt64) jb2)), .second, .val (.double (own_part ((16 : Int64) * (jh2.toInt64)) jb3)), .second, .val (.double (own_part (jl2.toInt64) jb4)), .second, .val (.long (((16 : Int64) * (p0.toInt64)) + ((p1 % (8 : Int32)).toInt64))), .second, .unset, .unset, .unset, .unset, .unset, .unset, .unset] [])) rfl (hb hby at_145) _) ?_
              show Go p.tables e below P (T10.setTop (mkF m 148 #[.val (.int p0), .val (.int p1), .val (.int p2), .val (.int p3), .val (.int p4), .val (.int p0), .val (.int jh2), .val (.int (p1 % (8 : Int32))), .val (.int jl2), .val (.double (own_part ((16 : Int64) * (p0.toInt64)) jb1)), .second, .val (.double (own_part ((p1 % (8 : Int32)).toInt64) jb2)), .second, .val (.double (own_part ((16 : Int64) * (jh2.toInt64)) jb3)), .second, .val (.double (own_part (jl2.toInt64) jb4)), .second, .val (.long (((16 : Int64) * (p0.toInt64)) + ((p1 % (8 : Int32)).toInt64))), .second, .unset, .unset, .unset, .unset, .unset, .unset, .unset] [(.long (16 : Int64))]))
              refine Go.st (fun _ => XS.iload X10.here hx rfl (hb hby at_148) rfl) ?_
              show Go p.tables e below P (T10.setTop (mkF m 150 #[.val (.int p0), .val (.int p1), .val (.int p2), .val (.int p3), .val (.int p4), .val (.int p0), .val (.int jh2), .val (.int (p1 % (8 : Int32))), .val (.int jl2), .val (.double (own_part ((16 : Int64) * (p0.toInt64)) jb1)), .second, .val (.double (own_part ((p1 % (8 : Int32)).toInt64) jb2)), .second, .val (.double (own_part ((16 : Int64) * (jh2.toInt64)) jb3)), .second, .val (.double (own_part (jl2.toInt64) jb4)), .second, .val (.long (((16 : Int64) * (p0.toInt64)) + ((p1 % (8 : Int32)).toInt64))), .second, .unset, .unset, .unset, .unset, .unset, .unset, .unset] [(.int jh2), (.long (16 : Int64))]))
              refine Go.st (fun _ => XS.i2l X10.here hx rfl (hb hby at_150) rfl) ?_
              show Go p.tables e below P (T10.setTop (mkF m 151 #[.val (.int p0), .val (.int p1), .val (.int p2), .val (.int p3), .val (.int p4), .val (.int p0), .val (.int jh2), .val (.int (p1 % (8 : Int32))), .val (.int jl2), .val (.double (own_part ((16 : Int64) * (p0.toInt64)) jb1)), .second, .val (.double (own_part ((p1 % (8 : Int32)).toInt64) jb2)), .second, .val (.double (own_part ((16 : Int64) * (jh2.toInt64)) jb3)), .second, .val (.double (own_part (jl2.toInt64) jb4)), .second, .val (.long (((16 : Int64) * (p0.toInt64)) + ((p1 % (8 : Int32)).toInt64))), .second, .unset, .unset, .unset, .unset, .unset, .unset, .unset] [(.long (jh2.toInt64)), (.long (16 : Int64))]))
              refine Go.st (fun _ => XS.lmul X10.here hx rfl (hb hby at_151) rfl) ?_
              show Go p.tables e below P (T10.setTop (mkF m 152 #[.val (.int p0), .val (.int p1), .val (.int p2), .val (.int p3), .val (.int p4), .val (.int p0), .val (.int jh2), .val (.int (p1 % (8 : Int32))), .val (.int jl2), .val (.double (own_part ((16 : Int64) * (p0.toInt64)) jb1)), .second, .val (.double (own_part ((p1 % (8 : Int32)).toInt64) jb2)), .second, .val (.double (own_part ((16 : Int64) * (jh2.toInt64)) jb3)), .second, .val (.double (own_part (jl2.toInt64) jb4)), .second, .val (.long (((16 : Int64) * (p0.toInt64)) + ((p1 % (8 : Int32)).toInt64))), .second, .unset, .unset, .unset, .unset, .unset, .unset, .unset] [(.long ((16 : Int64) * (jh2.toInt64)))]))
              refine Go.st (fun _ => XS.iload X10.here hx rfl (hb hby at_152) rfl) ?_
              show Go p.tables e below P (T10.setTop (mkF m 154 #[.val (.int p0), .val (.int p1), .val (.int p2), .val (.int p3), .val (.int p4), .val (.int p0), .val (.int jh2), .val (.int (p1 % (8 : Int32))), .val (.int jl2), .val (.double (own_part ((16 : Int64) * (p0.toInt64)) jb1)), .second, .val (.double (own_part ((p1 % (8 : Int32)).toInt64) jb2)), .second, .val (.double (own_part ((16 : Int64) * (jh2.toInt64)) jb3)), .second, .val (.double (own_part (jl2.toInt64) jb4)), .second, .val (.long (((16 : Int64) * (p0.toInt64)) + ((p1 % (8 : Int32)).toInt64))), .second, .unset, .unset, .unset, .unset, .unset, .unset, .unset] [(.int jl2), (.long ((16 : Int64) * (jh2.toInt64)))]))
              refine Go.st (fun _ => XS.i2l X10.here hx rfl (hb hby at_154) rfl) ?_
              show Go p.tables e below P (T10.setTop (mkF m 155 #[.val (.int p0), .val (.int p1), .val (.int p2), .val (.int p3), .val (.int p4), .val (.int p0), .val (.int jh2), .val (.int (p1 % (8 : Int32))), .val (.int jl2), .val (.double (own_part ((16 : Int64) * (p0.toInt64)) jb1)), .second, .val (.double (own_part ((p1 % (8 : Int32)).toInt64) jb2)), .second, .val (.double (own_part ((16 : Int64) * (jh2.toInt64)) jb3)), .second, .val (.double (own_part (jl2.toInt64) jb4)), .second, .val (.long (((16 : Int64) * (p0.toInt64)) + ((p1 % (8 : Int32)).toInt64))), .second, .unset, .unset, .unset, .unset, .unset, .unset, .unset] [(.long (jl2.toInt64)), (.long ((16 : Int64) * (jh2.toInt64)))]))
              refine Go.st (fun _ => XS.ladd X10.here hx rfl (hb hby at_155) rfl) ?_
              show Go p.tables e below P (T10.setTop (mkF m 156 #[.val (.int p0), .val (.int p1), .val (.int p2), .val (.int p3), .val (.int p4), .val (.int p0), .val (.int jh2), .val (.int (p1 % (8 : Int32))), .val (.int jl2), .val (.double (own_part ((16 : Int64) * (p0.toInt64)) jb1)), .second, .val (.double (own_part ((p1 % (8 : Int32)).toInt64) jb2)), .second, .val (.double (own_part ((16 : Int64) * (jh2.toInt64)) jb3)), .second, .val (.double (own_part (jl2.toInt64) jb4)), .second, .val (.long (((16 : Int64) * (p0.toInt64)) + ((p1 % (8 : Int32)).toInt64))), .second, .unset, .unset, .unset, .unset, .unset, .unset, .unset] [(.long (((16 : Int64) * (jh2.toInt64)) + (jl2.toInt64)))]))
              refine Go.st (fun _ => XS.lstore X10.here hx rfl (hb hby at_156) rfl (l' := #[.val (.int p0), .val (.int p1), .val (.int p2), .val (.int p3), .val (.int p4), .val (.int p0), .val (.int jh2), .val (.int (p1 % (8 : Int32))), .val (.int jl2), .val (.double (own_part ((16 : Int64) * (p0.toInt64)) jb1)), .second, .val (.double (own_part ((p1 % (8 : Int32)).toInt64) jb2)), .second, .val (.double (own_part ((16 : Int64) * (jh2.toInt64)) jb3)), .second, .val (.double (own_part (jl2.toInt64) jb4)), .second, .val (.long (((16 : Int64) * (p0.toInt64)) + ((p1 % (8 : Int32)).toInt64))), .second, .val (.long (((16 : Int64) * (jh2.toInt64)) + (jl2.toInt64))), .second, .unset, .unset, .unset, .unset, .unset]) rfl) ?_
              show Go p.tables e below P (T10.setTop (mkF m 158 #[.val (.int p0), .val (.int p1), .val (.int p2), .val (.int p3), .val (.int p4), .val (.int p0), .val (.int jh2), .val (.int (p1 % (8 : Int32))), .val (.int jl2), .val (.double (own_part ((16 : Int64) * (p0.toInt64)) jb1)), .second, .val (.double (own_part ((p1 % (8 : Int32)).toInt64) jb2)), .second, .val (.double (own_part ((16 : Int64) * (jh2.toInt64)) jb3)), .second, .val (.double (own_part (jl2.toInt64) jb4)), .second, .val (.long (((16 : Int64) * (p0.toInt64)) + ((p1 % (8 : Int32)).toInt64))), .second, .val (.long (((16 : Int64) * (jh2.toInt64)) + (jl2.toInt64))), .second, .unset, .unset, .unset, .unset, .unset] []))
              refine Go.st (fun _ => XS.lload X10.here hx rfl (hb hby at_158) rfl) ?_
              show Go p.tables e below P (T10.setTop (mkF m 160 #[.val (.int p0), .val (.int p1), .val (.int p2), .val (.int p3), .val (.int p4), .val (.int p0), .val (.int jh2), .val (.int (p1 % (8 : Int32))), .val (.int jl2), .val (.double (own_part ((16 : Int64) * (p0.toInt64)) jb1)), .second, .val (.double (own_part ((p1 % (8 : Int32)).toInt64) jb2)), .second, .val (.double (own_part ((16 : Int64) * (jh2.toInt64)) jb3)), .second, .val (.double (own_part (jl2.toInt64) jb4)), .second, .val (.long (((16 : Int64) * (p0.toInt64)) + ((p1 % (8 : Int32)).toInt64))), .second, .val (.long (((16 : Int64) * (jh2.toInt64)) + (jl2.toInt64))), .second, .unset, .unset, .unset, .unset, .unset] [(.long (((16 : Int64) * (p0.toInt64)) + ((p1 % (8 : Int32)).toInt64)))]))
              refine Go.st (fun _ => XS.lload X10.here hx rfl (hb hby at_160) rfl) ?_
              show Go p.tables e below P (T10.setTop (mkF m 162 #[.val (.int p0), .val (.int p1), .val (.int p2), .val (.int p3), .val (.int p4), .val (.int p0), .val (.int jh2), .val (.int (p1 % (8 : Int32))), .val (.int jl2), .val (.double (own_part ((16 : Int64) * (p0.toInt64)) jb1)), .second, .val (.double (own_part ((p1 % (8 : Int32)).toInt64) jb2)), .second, .val (.double (own_part ((16 : Int64) * (jh2.toInt64)) jb3)), .second, .val (.double (own_part (jl2.toInt64) jb4)), .second, .val (.long (((16 : Int64) * (p0.toInt64)) + ((p1 % (8 : Int32)).toInt64))), .second, .val (.long (((16 : Int64) * (jh2.toInt64)) + (jl2.toInt64))), .second, .unset, .unset, .unset, .unset, .unset] [(.long (((16 : Int64) * (jh2.toInt64)) + (jl2.toInt64))), (.long (((16 : Int64) * (p0.toInt64)) + ((p1 % (8 : Int32)).toInt64)))]))
              refine Go.st (fun _ => XS.lsub X10.here hx rfl (hb hby at_162) rfl) ?_
              show Go p.tables e below P (T10.setTop (mkF m 163 #[.val (.int p0), .val (.int p1), .val (.int p2), .val (.int p3), .val (.int p4), .val (.int p0), .val (.int jh2), .val (.int (p1 % (8 : Int32))), .val (.int jl2), .val (.double (own_part ((16 : Int64) * (p0.toInt64)) jb1)), .second, .val (.double (own_part ((p1 % (8 : Int32)).toInt64) jb2)), .second, .val (.double (own_part ((16 : Int64) * (jh2.toInt64)) jb3)), .second, .val (.double (own_part (jl2.toInt64) jb4)), .second, .val (.long (((16 : Int64) * (p0.toInt64)) + ((p1 % (8 : Int32)).toInt64))), .second, .val (.long (((16 : Int64) * (jh2.toInt64)) + (jl2.toInt64))), .second, .unset, .unset, .unset, .unset, .unset] [(.long ((((16 : Int64) * (p0.toInt64)) + ((p1 % (8 : Int32)).toInt64)) - (((16 : Int64) * (jh2.toInt64)) + (jl2.toInt64))))]))
              refine Go.st (fun _ => XS.lstore X10.here hx rfl (hb hby at_163) rfl (l' := #[.val (.int p0), .val (.int p1), .val (.int p2), .val (.int p3), .val (.int p4), .val (.int p0), .val (.int jh2), .val (.int (p1 % (8 : Int32))), .val (.int jl2), .val (.double (own_part ((16 : Int64) * (p0.toInt64)) jb1)), .second, .val (.double (own_part ((p1 % (8 : Int32)).toInt64) jb2)), .second, .val (.double (own_part ((16 : Int64) * (jh2.toInt64)) jb3)), .second, .val (.double (own_part (jl2.toInt64) jb4)), .second, .val (.long (((16 : Int64) * (p0.toInt64)) + ((p1 % (8 : Int32)).toInt64))), .second, .val (.long (((16 : Int64) * (jh2.toInt64)) + (jl2.toInt64))), .second, .val (.long ((((16 : Int64) * (p0.toInt64)) + ((p1 % (8 : Int32)).toInt64)) - (((16 : Int64) * (jh2.toInt64)) + (jl2.toInt64)))), .second, .unset, .unset, .unset]) rfl) ?_
              show Go p.tables e below P (T10.setTop (mkF m 165 #[.val (.int p0), .val (.int p1), .val (.int p2), .val (.int p3), .val (.int p4), .val (.int p0), .val (.int jh2), .val (.int (p1 % (8 : Int32))), .val (.int jl2), .val (.double (own_part ((16 : Int64) * (p0.toInt64)) jb1)), .second, .val (.double (own_part ((p1 % (8 : Int32)).toInt64) jb2)), .second, .val (.double (own_part ((16 : Int64) * (jh2.toInt64)) jb3)), .second, .val (.double (own_part (jl2.toInt64) jb4)), .second, .val (.long (((16 : Int64) * (p0.toInt64)) + ((p1 % (8 : Int32)).toInt64))), .second, .val (.long (((16 : Int64) * (jh2.toInt64)) + (jl2.toInt64))), .second, .val (.long ((((16 : Int64) * (p0.toInt64)) + ((p1 % (8 : Int32)).toInt64)) - (((16 : Int64) * (jh2.toInt64)) + (jl2.toInt64)))), .second, .unset, .unset, .unset] []))
              refine Go.st (fun _ => XS.lload X10.here hx rfl (hb hby at_165) rfl) ?_
              show Go p.tables e below P (T10.setTop (mkF m 167 #[.val (.int p0), .val (.int p1), .val (.int p2), .val (.int p3), .val (.int p4), .val (.int p0), .val (.int jh2), .val (.int (p1 % (8 : Int32))), .val (.int jl2), .val (.double (own_part ((16 : Int64) * (p0.toInt64)) jb1)), .second, .val (.double (own_part ((p1 % (8 : Int32)).toInt64) jb2)), .second, .val (.double (own_part ((16 : Int64) * (jh2.toInt64)) jb3)), .second, .val (.double (own_part (jl2.toInt64) jb4)), .second, .val (.long (((16 : Int64) * (p0.toInt64)) + ((p1 % (8 : Int32)).toInt64))), .second, .val (.long (((16 : Int64) * (jh2.toInt64)) + (jl2.toInt64))), .second, .val (.long ((((16 : Int64) * (p0.toInt64)) + ((p1 % (8 : Int32)).toInt64)) - (((16 : Int64) * (jh2.toInt64)) + (jl2.toInt64)))), .second, .unset, .unset, .unset] [(.long ((((16 : Int64) * (p0.toInt64)) + ((p1 % (8 : Int32)).toInt64)) - (((16 : Int64) * (jh2.toInt64)) + (jl2.toInt64))))]))
              refine Go.st (fun _ => XS.lconst X10.here hx rfl (hb hby at_167)) ?_
              show Go p.tables e below P (T10.setTop (mkF m 168 #[.val (.int p0), .val (.int p1), .val (.int p2), .val (.int p3), .val (.int p4), .val (.int p0), .val (.int jh2), .val (.int (p1 % (8 : Int32))), .val (.int jl2), .val (.double (own_part ((16 : Int64) * (p0.toInt64)) jb1)), .second, .val (.double (own_part ((p1 % (8 : Int32)).toInt64) jb2)), .second, .val (.double (own_part ((16 : Int64) * (jh2.toInt64)) jb3)), .second, .val (.double (own_part (jl2.toInt64) jb4)), .second, .val (.long (((16 : Int64) * (p0.toInt64)) + ((p1 % (8 : Int32)).toInt64))), .second, .val (.long (((16 : Int64) * (jh2.toInt64)) + (jl2.toInt64))), .second, .val (.long ((((16 : Int64) * (p0.toInt64)) + ((p1 % (8 : Int32)).toInt64)) - (((16 : Int64) * (jh2.toInt64)) + (jl2.toInt64)))), .second, .unset, .unset, .unset] [(.long (0 : Int64)), (.long ((((16 : Int64) * (p0.toInt64)) + ((p1 % (8 : Int32)).toInt64)) - (((16 : Int64) * (jh2.toInt64)) + (jl2.toInt64))))]))
              refine Go.st (fun _ => XS.lcmp X10.here hx rfl (hb hby at_168) rfl) ?_
              show Go p.tables e below P (T10.setTop (mkF m 169 #[.val (.int p0), .val (.int p1), .val (.int p2), .val (.int p3), .val (.int p4), .val (.int p0), .val (.int jh2), .val (.int (p1 % (8 : Int32))), .val (.int jl2), .val (.double (own_part ((16 : Int64) * (p0.toInt64)) jb1)), .second, .val (.double (own_part ((p1 % (8 : Int32)).toInt64) jb2)), .second, .val (.double (own_part ((16 : Int64) * (jh2.toInt64)) jb3)), .second, .val (.double (own_part (jl2.toInt64) jb4)), .second, .val (.long (((16 : Int64) * (p0.toInt64)) + ((p1 % (8 : Int32)).toInt64))), .second, .val (.long (((16 : Int64) * (jh2.toInt64)) + (jl2.toInt64))), .second, .val (.long ((((16 : Int64) * (p0.toInt64)) + ((p1 % (8 : Int32)).toInt64)) - (((16 : Int64) * (jh2.toInt64)) + (jl2.toInt64)))), .second, .unset, .unset, .unset] [(.int (lcmpW ((((16 : Int64) * (p0.toInt64)) + ((p1 % (8 : Int32)).toInt64)) - (((16 : Int64) * (jh2.toInt64)) + (jl2.toInt64))) (0 : Int64)))]))
              have J11 : ∀ (jex : Int32), jex = own_sign ((((16 : Int64) * (p0.toInt64)) + ((p1 % (8 : Int32)).toInt64)) - (((16 : Int64) * (jh2.toInt64)) + (jl2.toInt64))) → Go p.tables e below P (T10.setTop (mkF m 188 #[.val (.int p0), .val (.int p1), .val (.int p2), .val (.int p3), .val (.int p4), .val (.int p0), .val (.int jh2), .val (.int (p1 % (8 : Int32))), .val (.int jl2), .val (.double (own_part ((16 : Int64) * (p0.toInt64)) jb1)), .second, .val (.double (own_part ((p1 % (8 : Int32)).toInt64) jb2)), .second, .val (.double (own_part ((16 : Int64) * (jh2.toInt64)) jb3)), .second, .val (.double (own_part (jl2.toInt64) jb4)), .second, .val (.long (((16 : Int64) * (p0.toInt64)) + ((p1 % (8 : Int32)).toInt64))), .second, .val (.long (((16 : Int64) * (jh2.toInt64)) + (jl2.toInt64))), .second, .val (.long ((((16 : Int64) * (p0.toInt64)) + ((p1 % (8 : Int32)).toInt64)) - (((16 : Int64) * (jh2.toInt64)) + (jl2.toInt64)))), .second, .unset, .unset, .unset] [(.int jex)])) := by
                intro jex hjJ11
                show Go p.tables e below P (T10.setTop (mkF m 188 #[.val (.int p0), .val (.int p1), .val (.int p2), .val (.int p3), .val (.int p4), .val (.int p0), .val (.int jh2), .val (.int (p1 % (8 : Int32))), .val (.int jl2), .val (.double (own_part ((16 : Int64) * (p0.toInt64)) jb1)), .second, .val (.double (own_part ((p1 % (8 : Int32)).toInt64) jb2)), .second, .val (.double (own_part ((16 : Int64) * (jh2.toInt64)) jb3)), .second, .val (.double (own_part (jl2.toInt64) jb4)), .second, .val (.long (((16 : Int64) * (p0.toInt64)) + ((p1 % (8 : Int32)).toInt64))), .second, .val (.long (((16 : Int64) * (jh2.toInt64)) + (jl2.toInt64))), .second, .val (.long ((((16 : Int64) * (p0.toInt64)) + ((p1 % (8 : Int32)).toInt64)) - (((16 : Int64) * (jh2.toInt64)) + (jl2.toInt64)))), .second, .unset, .unset, .unset] [(.int jex)]))
                have hex := hjJ11
                refine Go.st (fun _ => XS.istore X10.here hx rfl (hb hby at_188) rfl (l' := #[.val (.int p0), .val (.int p1), .val (.int p2), .val (.int p3), .val (.int p4), .val (.int p0), .val (.int jh2), .val (.int (p1 % (8 : Int32))), .val (.int jl2), .val (.double (own_part ((16 : Int64) * (p0.toInt64)) jb1)), .second, .val (.double (own_part ((p1 % (8 : Int32)).toInt64) jb2)), .second, .val (.double (own_part ((16 : Int64) * (jh2.toInt64)) jb3)), .second, .val (.double (own_part (jl2.toInt64) jb4)), .second, .val (.long (((16 : Int64) * (p0.toInt64)) + ((p1 % (8 : Int32)).toInt64))), .second, .val (.long (((16 : Int64) * (jh2.toInt64)) + (jl2.toInt64))), .second, .val (.long ((((16 : Int64) * (p0.toInt64)) + ((p1 % (8 : Int32)).toInt64)) - (((16 : Int64) * (jh2.toInt64)) + (jl2.toInt64)))), .second, .val (.int jex), .unset, .unset]) rfl) ?_
                show Go p.tables e below P (T10.setTop (mkF m 190 #[.val (.int p0), .val (.int p1), .val (.int p2), .val (.int p3), .val (.int p4), .val (.int p0), .val (.int jh2), .val (.int (p1 % (8 : Int32))), .val (.int jl2), .val (.double (own_part ((16 : Int64) * (p0.toInt64)) jb1)), .second, .val (.double (own_part ((p1 % (8 : Int32)).toInt64) jb2)), .second, .val (.double (own_part ((16 : Int64) * (jh2.toInt64)) jb3)), .second, .val (.double (own_part (jl2.toInt64) jb4)), .second, .val (.long (((16 : Int64) * (p0.toInt64)) + ((p1 % (8 : Int32)).toInt64))), .second, .val (.long (((16 : Int64) * (jh2.toInt64)) + (jl2.toInt64))), .second, .val (.long ((((16 : Int64) * (p0.toInt64)) + ((p1 % (8 : Int32)).toInt64)) - (((16 : Int64) * (jh2.toInt64)) + (jl2.toInt64)))), .second, .val (.int jex), .unset, .unset] []))
                refine Go.st (fun _ => XS.dload X10.here hx rfl (hb hby at_190) rfl) ?_
                show Go p.tables e below P (T10.setTop (mkF m 192 #[.val (.int p0), .val (.int p1), .val (.int p2), .val (.int p3), .val (.int p4), .val (.int p0), .val (.int jh2), .val (.int (p1 % (8 : Int32))), .val (.int jl2), .val (.double (own_part ((16 : Int64) * (p0.toInt64)) jb1)), .second, .val (.double (own_part ((p1 % (8 : Int32)).toInt64) jb2)), .second, .val (.double (own_part ((16 : Int64) * (jh2.toInt64)) jb3)), .second, .val (.double (own_part (jl2.toInt64) jb4)), .second, .val (.long (((16 : Int64) * (p0.toInt64)) + ((p1 % (8 : Int32)).toInt64))), .second, .val (.long (((16 : Int64) * (jh2.toInt64)) + (jl2.toInt64))), .second, .val (.long ((((16 : Int64) * (p0.toInt64)) + ((p1 % (8 : Int32)).toInt64)) - (((16 : Int64) * (jh2.toInt64)) + (jl2.toInt64)))), .second, .val (.int jex), .unset, .unset] [(.double (own_part ((16 : Int64) * (p0.toInt64)) jb1))]))
                refine Go.st (fun _ => XS.dload X10.here hx rfl (hb hby at_192) rfl) ?_
                show Go p.tables e below P (T10.setTop (mkF m 194 #[.val (.int p0), .val (.int p1), .val (.int p2), .val (.int p3), .val (.int p4), .val (.int p0), .val (.int jh2), .val (.int (p1 % (8 : Int32))), .val (.int jl2), .val (.double (own_part ((16 : Int64) * (p0.toInt64)) jb1)), .second, .val (.double (own_part ((p1 % (8 : Int32)).toInt64) jb2)), .second, .val (.double (own_part ((16 : Int64) * (jh2.toInt64)) jb3)), .second, .val (.double (own_part (jl2.toInt64) jb4)), .second, .val (.long (((16 : Int64) * (p0.toInt64)) + ((p1 % (8 : Int32)).toInt64))), .second, .val (.long (((16 : Int64) * (jh2.toInt64)) + (jl2.toInt64))), .second, .val (.long ((((16 : Int64) * (p0.toInt64)) + ((p1 % (8 : Int32)).toInt64)) - (((16 : Int64) * (jh2.toInt64)) + (jl2.toInt64)))), .second, .val (.int jex), .unset, .unset] [(.double (own_part ((p1 % (8 : Int32)).toInt64) jb2)), (.double (own_part ((16 : Int64) * (p0.toInt64)) jb1))]))
                refine Go.st (fun _ => XS.dload X10.here hx rfl (hb hby at_194) rfl) ?_
                show Go p.tables e below P (T10.setTop (mkF m 196 #[.val (.int p0), .val (.int p1), .val (.int p2), .val (.int p3), .val (.int p4), .val (.int p0), .val (.int jh2), .val (.int (p1 % (8 : Int32))), .val (.int jl2), .val (.double (own_part ((16 : Int64) * (p0.toInt64)) jb1)), .second, .val (.double (own_part ((p1 % (8 : Int32)).toInt64) jb2)), .second, .val (.double (own_part ((16 : Int64) * (jh2.toInt64)) jb3)), .second, .val (.double (own_part (jl2.toInt64) jb4)), .second, .val (.long (((16 : Int64) * (p0.toInt64)) + ((p1 % (8 : Int32)).toInt64))), .second, .val (.long (((16 : Int64) * (jh2.toInt64)) + (jl2.toInt64))), .second, .val (.long ((((16 : Int64) * (p0.toInt64)) + ((p1 % (8 : Int32)).toInt64)) - (((16 : Int64) * (jh2.toInt64)) + (jl2.toInt64)))), .second, .val (.int jex), .unset, .unset] [(.double (own_part ((16 : Int64) * (jh2.toInt64)) jb3)), (.double (own_part ((p1 % (8 : Int32)).toInt64) jb2)), (.double (own_part ((16 : Int64) * (p0.toInt64)) jb1))]))
                refine Go.st (fun _ => XS.dload X10.here hx rfl (hb hby at_196) rfl) ?_
                show Go p.tables e below P (T10.setTop (mkF m 198 #[.val (.int p0), .val (.int p1), .val (.int p2), .val (.int p3), .val (.int p4), .val (.int p0), .val (.int jh2), .val (.int (p1 % (8 : Int32))), .val (.int jl2), .val (.double (own_part ((16 : Int64) * (p0.toInt64)) jb1)), .second, .val (.double (own_part ((p1 % (8 : Int32)).toInt64) jb2)), .second, .val (.double (own_part ((16 : Int64) * (jh2.toInt64)) jb3)), .second, .val (.double (own_part (jl2.toInt64) jb4)), .second, .val (.long (((16 : Int64) * (p0.toInt64)) + ((p1 % (8 : Int32)).toInt64))), .second, .val (.long (((16 : Int64) * (jh2.toInt64)) + (jl2.toInt64))), .second, .val (.long ((((16 : Int64) * (p0.toInt64)) + ((p1 % (8 : Int32)).toInt64)) - (((16 : Int64) * (jh2.toInt64)) + (jl2.toInt64)))), .second, .val (.int jex), .unset, .unset] [(.double (own_part (jl2.toInt64) jb4)), (.double (own_part ((16 : Int64) * (jh2.toInt64)) jb3)), (.double (own_part ((p1 % (8 : Int32)).toInt64) jb2)), (.double (own_part ((16 : Int64) * (p0.toInt64)) jb1))]))
                obtain ⟨_, _, ⟨T12, L12, k12, n12⟩, -, X12, ⟨Lc12, hQ12, l12, y12, z12⟩, st12⟩ := Jvm.LawKit.callS X10 hx (y := (⟨"com/example/parametree/parametree/CompensatedSum", "compare", "(DDDD)I"⟩ : MethodName)) hown (mvT hZ (hw _ (List.mem_of_getElem? (i := 5) rfl))) (mvT hZ (hw _ (List.mem_of_getElem? (i := 6) rfl))) (mvT hZ (hw _ (List.mem_of_getElem? (i := 7) rfl))) (mvT hZ (hw _ (List.mem_of_getElem? (i := 8) rfl))) (by decide) (backOf (W := 0) (rm_cmp l Z a0 hw [] (own_part ((16 : Int64) * (p0.toInt64)) jb1) (own_part ((p1 % (8 : Int32)).toInt64) jb2) (own_part ((16 : Int64) * (jh2.toInt64)) jb3) (own_part (jl2.toInt64) jb4) h0 n0 X00 ) hZ (hw _ (List.mem_of_getElem? (i := 8) rfl)) (hw _ (List.mem_of_getElem? (i := 7) rfl)) (by decide) (by decide)) (g := (mkF m 198 #[.val (.int p0), .val (.int p1), .val (.int p2), .val (.int p3), .val (.int p4), .val (.int p0), .val (.int jh2), .val (.int (p1 % (8 : Int32))), .val (.int jl2), .val (.double (own_part ((16 : Int64) * (p0.toInt64)) jb1)), .second, .val (.double (own_part ((p1 % (8 : Int32)).toInt64) jb2)), .second, .val (.double (own_part ((16 : Int64) * (jh2.toInt64)) jb3)), .second, .val (.double (own_part (jl2.toInt64) jb4)), .second, .val (.long (((16 : Int64) * (p0.toInt64)) + ((p1 % (8 : Int32)).toInt64))), .second, .val (.long (((16 : Int64) * (jh2.toInt64)) + (jl2.toInt64))), .second, .val (.long ((((16 : Int64) * (p0.toInt64)) + ((p1 % (8 : Int32)).toInt64)) - (((16 : Int64) * (jh2.toInt64)) + (jl2.toInt64)))), .second, .val (.int jex), .unset, .unset] [(.double (own_part (jl2.toInt64) jb4)), (.double (own_part ((16 : Int64) * (jh2.toInt64)) jb3)), (.double (own_part ((p1 % (8 : Int32)).toInt64) jb2)), (.double (own_part ((16 : Int64) * (p0.toInt64)) jb1))])) rfl (by rw [hml]; rfl) (argsL := [(.double (own_part ((16 : Int64) * (p0.toInt64)) jb1)), (.double (own_part ((p1 % (8 : Int32)).toInt64) jb2)), (.double (own_part ((16 : Int64) * (jh2.toInt64)) jb3)), (.double (own_part (jl2.toInt64) jb4))]) (rest := []) (lenOf own_pd1 rfl) rfl (by show 2 * 0 + _ ≤ _; exact Nat.le_of_eq rfl) (hb hby at_198) (fun _ _ => ⟨rfl, e10, (by decide : 0 + 0 ≤ _), (by decide : 0 + 0 ≤ _)⟩)
                dsimp only [Pt.U, Pt.locs, Pt.cells, Pt.slots] at X12 l12 y12 z12 st12 hQ12
                subst l12 y12 z12
                refine Go.st st12 ?_
                obtain ⟨R12, N12q, e12⟩ := hQ12
                have N12 := Fr.app N10 N12q
                subst R12
                show Go p.tables e below P (T12.setTop (mkF m 201 #[.val (.int p0), .val (.int p1), .val (.int p2), .val (.int p3), .val (.int p4), .val (.int p0), .val (.int jh2), .val (.int (p1 % (8 : Int32))), .val (.int jl2), .val (.double (own_part ((16 : Int64) * (p0.toInt64)) jb1)), .second, .val (.double (own_part ((p1 % (8 : Int32)).toInt64) jb2)), .second, .val (.double (own_part ((16 : Int64) * (jh2.toInt64)) jb3)), .second, .val (.double (own_part (jl2.toInt64) jb4)), .second, .val (.long (((16 : Int64) * (p0.toInt64)) + ((p1 % (8 : Int32)).toInt64))), .second, .val (.long (((16 : Int64) * (jh2.toInt64)) + (jl2.toInt64))), .second, .val (.long ((((16 : Int64) * (p0.toInt64)) + ((p1 % (8 : Int32)).toInt64)) - (((16 : Int64) * (jh2.toInt64)) + (jl2.toInt64)))), .second, .val (.int jex), .unset, .unset] [(.int (own_cmp (own_part ((16 : Int64) * (p0.toInt64)) jb1) (own_part ((p1 % (8 : Int32)).toInt64) jb2) (own_part ((16 : Int64) * (jh2.toInt64)) jb3) (own_part (jl2.toInt64) jb4)))]))
                refine Go.st (fun _ => XS.istore X12.here hx rfl (hb hby at_201) rfl (l' := #[.val (.int p0), .val (.int p1), .val (.int p2), .val (.int p3), .val (.int p4), .val (.int p0), .val (.int jh2), .val (.int (p1 % (8 : Int32))), .val (.int jl2), .val (.double (own_part ((16 : Int64) * (p0.toInt64)) jb1)), .second, .val (.double (own_part ((p1 % (8 : Int32)).toInt64) jb2)), .second, .val (.double (own_part ((16 : Int64) * (jh2.toInt64)) jb3)), .second, .val (.double (own_part (jl2.toInt64) jb4)), .second, .val (.long (((16 : Int64) * (p0.toInt64)) + ((p1 % (8 : Int32)).toInt64))), .second, .val (.long (((16 : Int64) * (jh2.toInt64)) + (jl2.toInt64))), .second, .val (.long ((((16 : Int64) * (p0.toInt64)) + ((p1 % (8 : Int32)).toInt64)) - (((16 : Int64) * (jh2.toInt64)) + (jl2.toInt64)))), .second, .val (.int jex), .val (.int (own_cmp (own_part ((16 : Int64) * (p0.toInt64)) jb1) (own_part ((p1 % (8 : Int32)).toInt64) jb2) (own_part ((16 : Int64) * (jh2.toInt64)) jb3) (own_part (jl2.toInt64) jb4))), .unset]) rfl) ?_
                show Go p.tables e below P (T12.setTop (mkF m 203 #[.val (.int p0), .val (.int p1), .val (.int p2), .val (.int p3), .val (.int p4), .val (.int p0), .val (.int jh2), .val (.int (p1 % (8 : Int32))), .val (.int jl2), .val (.double (own_part ((16 : Int64) * (p0.toInt64)) jb1)), .second, .val (.double (own_part ((p1 % (8 : Int32)).toInt64) jb2)), .second, .val (.double (own_part ((16 : Int64) * (jh2.toInt64)) jb3)), .second, .val (.double (own_part (jl2.toInt64) jb4)), .second, .val (.long (((16 : Int64) * (p0.toInt64)) + ((p1 % (8 : Int32)).toInt64))), .second, .val (.long (((16 : Int64) * (jh2.toInt64)) + (jl2.toInt64))), .second, .val (.long ((((16 : Int64) * (p0.toInt64)) + ((p1 % (8 : Int32)).toInt64)) - (((16 : Int64) * (jh2.toInt64)) + (jl2.toInt64)))), .second, .val (.int jex), .val (.int (own_cmp (own_part ((16 : Int64) * (p0.toInt64)) jb1) (own_part ((p1 % (8 : Int32)).toInt64) jb2) (own_part ((16 : Int64) * (jh2.toInt64)) jb3) (own_part (jl2.toInt64) jb4))), .unset] []))
                refine Go.st (fun _ => XS.dload X12.here hx rfl (hb hby at_203) rfl) ?_
                show Go p.tables e below P (T12.setTop (mkF m 205 #[.val (.int p0), .val (.int p1), .val (.int p2), .val (.int p3), .val (.int p4), .val (.int p0), .val (.int jh2), .val (.int (p1 % (8 : Int32))), .val (.int jl2), .val (.double (own_part ((16 : Int64) * (p0.toInt64)) jb1)), .second, .val (.double (own_part ((p1 % (8 : Int32)).toInt64) jb2)), .second, .val (.double (own_part ((16 : Int64) * (jh2.toInt64)) jb3)), .second, .val (.double (own_part (jl2.toInt64) jb4)), .second, .val (.long (((16 : Int64) * (p0.toInt64)) + ((p1 % (8 : Int32)).toInt64))), .second, .val (.long (((16 : Int64) * (jh2.toInt64)) + (jl2.toInt64))), .second, .val (.long ((((16 : Int64) * (p0.toInt64)) + ((p1 % (8 : Int32)).toInt64)) - (((16 : Int64) * (jh2.toInt64)) + (jl2.toInt64)))), .second, .val (.int jex), .val (.int (own_cmp (own_part ((16 : Int64) * (p0.toInt64)) jb1) (own_part ((p1 % (8 : Int32)).toInt64) jb2) (own_part ((16 : Int64) * (jh2.toInt64)) jb3) (own_part (jl2.toInt64) jb4))), .unset] [(.double (own_part ((16 : Int64) * (jh2.toInt64)) jb3))]))
                refine Go.st (fun _ => XS.dload X12.here hx rfl (hb hby at_205) rfl) ?_
                show Go p.tables e below P (T12.setTop (mkF m 207 #[.val (.int p0), .val (.int p1), .val (.int p2), .val (.int p3), .val (.int p4), .val (.int p0), .val (.int jh2), .val (.int (p1 % (8 : Int32))), .val (.int jl2), .val (.double (own_part ((16 : Int64) * (p0.toInt64)) jb1)), .second, .val (.double (own_part ((p1 % (8 : Int32)).toInt64) jb2)), .second, .val (.double (own_part ((16 : Int64) * (jh2.toInt64)) jb3)), .second, .val (.double (own_part (jl2.toInt64) jb4)), .second, .val (.long (((16 : Int64) * (p0.toInt64)) + ((p1 % (8 : Int32)).toInt64))), .second, .val (.long (((16 : Int64) * (jh2.toInt64)) + (jl2.toInt64))), .second, .val (.long ((((16 : Int64) * (p0.toInt64)) + ((p1 % (8 : Int32)).toInt64)) - (((16 : Int64) * (jh2.toInt64)) + (jl2.toInt64)))), .second, .val (.int jex), .val (.int (own_cmp (own_part ((16 : Int64) * (p0.toInt64)) jb1) (own_part ((p1 % (8 : Int32)).toInt64) jb2) (own_part ((16 : Int64) * (jh2.toInt64)) jb3) (own_part (jl2.toInt64) jb4))), .unset] [(.double (own_part (jl2.toInt64) jb4)), (.double (own_part ((16 : Int64) * (jh2.toInt64)) jb3))]))
                refine Go.st (fun _ => XS.dload X12.here hx rfl (hb hby at_207) rfl) ?_
                show Go p.tables e below P (T12.setTop (mkF m 209 #[.val (.int p0), .val (.int p1), .val (.int p2), .val (.int p3), .val (.int p4), .val (.int p0), .val (.int jh2), .val (.int (p1 % (8 : Int32))), .val (.int jl2), .val (.double (own_part ((16 : Int64) * (p0.toInt64)) jb1)), .second, .val (.double (own_part ((p1 % (8 : Int32)).toInt64) jb2)), .second, .val (.double (own_part ((16 : Int64) * (jh2.toInt64)) jb3)), .second, .val (.double (own_part (jl2.toInt64) jb4)), .second, .val (.long (((16 : Int64) * (p0.toInt64)) + ((p1 % (8 : Int32)).toInt64))), .second, .val (.long (((16 : Int64) * (jh2.toInt64)) + (jl2.toInt64))), .second, .val (.long ((((16 : Int64) * (p0.toInt64)) + ((p1 % (8 : Int32)).toInt64)) - (((16 : Int64) * (jh2.toInt64)) + (jl2.toInt64)))), .second, .val (.int jex), .val (.int (own_cmp (own_part ((16 : Int64) * (p0.toInt64)) jb1) (own_part ((p1 % (8 : Int32)).toInt64) jb2) (own_part ((16 : Int64) * (jh2.toInt64)) jb3) (own_part (jl2.toInt64) jb4))), .unset] [(.double (own_part ((16 : Int64) * (p0.toInt64)) jb1)), (.double (own_part (jl2.toInt64) jb4)), (.double (own_part ((16 : Int64) * (jh2.toInt64)) jb3))]))
                refine Go.st (fun _ => XS.dload X12.here hx rfl (hb hby at_209) rfl) ?_
                show Go p.tables e below P (T12.setTop (mkF m 211 #[.val (.int p0), .val (.int p1), .val (.int p2), .val (.int p3), .val (.int p4), .val (.int p0), .val (.int jh2), .val (.int (p1 % (8 : Int32))), .val (.int jl2), .val (.double (own_part ((16 : Int64) * (p0.toInt64)) jb1)), .second, .val (.double (own_part ((p1 % (8 : Int32)).toInt64) jb2)), .second, .val (.double (own_part ((16 : Int64) * (jh2.toInt64)) jb3)), .second, .val (.double (own_part (jl2.toInt64) jb4)), .second, .val (.long (((16 : Int64) * (p0.toInt64)) + ((p1 % (8 : Int32)).toInt64))), .second, .val (.long (((16 : Int64) * (jh2.toInt64)) + (jl2.toInt64))), .second, .val (.long ((((16 : Int64) * (p0.toInt64)) + ((p1 % (8 : Int32)).toInt64)) - (((16 : Int64) * (jh2.toInt64)) + (jl2.toInt64)))), .second, .val (.int jex), .val (.int (own_cmp (own_part ((16 : Int64) * (p0.toInt64)) jb1) (own_part ((p1 % (8 : Int32)).toInt64) jb2) (own_part ((16 : Int64) * (jh2.toInt64)) jb3) (own_part (jl2.toInt64) jb4))), .unset] [(.double (own_part ((p1 % (8 : Int32)).toInt64) jb2)), (.double (own_part ((16 : Int64) * (p0.toInt64)) jb1)), (.double (own_part (jl2.toInt64) jb4)), (.double (own_part ((16 : Int64) * (jh2.toInt64)) jb3))]))
                obtain ⟨_, _, ⟨T13, L13, k13, n13⟩, -, X13, ⟨Lc13, hQ13, l13, y13, z13⟩, st13⟩ := Jvm.LawKit.callS X12 hx (y := (⟨"com/example/parametree/parametree/CompensatedSum", "compare", "(DDDD)I"⟩ : MethodName)) hown (mvT hZ (hw _ (List.mem_of_getElem? (i := 5) rfl))) (mvT hZ (hw _ (List.mem_of_getElem? (i := 6) rfl))) (mvT hZ (hw _ (List.mem_of_getElem? (i := 7) rfl))) (mvT hZ (hw _ (List.mem_of_getElem? (i := 8) rfl))) (by decide) (backOf (W := 0) (rm_cmp l Z a0 hw [] (own_part ((16 : Int64) * (jh2.toInt64)) jb3) (own_part (jl2.toInt64) jb4) (own_part ((16 : Int64) * (p0.toInt64)) jb1) (own_part ((p1 % (8 : Int32)).toInt64) jb2) h0 n0 X00 ) hZ (hw _ (List.mem_of_getElem? (i := 8) rfl)) (hw _ (List.mem_of_getElem? (i := 7) rfl)) (by decide) (by decide)) (g := (mkF m 211 #[.val (.int p0), .val (.int p1), .val (.int p2), .val (.int p3), .val (.int p4), .val (.int p0), .val (.int jh2), .val (.int (p1 % (8 : Int32))), .val (.int jl2), .val (.double (own_part ((16 : Int64) * (p0.toInt64)) jb1)), .second, .val (.double (own_part ((p1 % (8 : Int32)).toInt64) jb2)), .second, .val (.double (own_part ((16 : Int64) * (jh2.toInt64)) jb3)), .second, .val (.double (own_part (jl2.toInt64) jb4)), .second, .val (.long (((16 : Int64) * (p0.toInt64)) + ((p1 % (8 : Int32)).toInt64))), .second, .val (.long (((16 : Int64) * (jh2.toInt64)) + (jl2.toInt64))), .second, .val (.long ((((16 : Int64) * (p0.toInt64)) + ((p1 % (8 : Int32)).toInt64)) - (((16 : Int64) * (jh2.toInt64)) + (jl2.toInt64)))), .second, .val (.int jex), .val (.int (own_cmp (own_part ((16 : Int64) * (p0.toInt64)) jb1) (own_part ((p1 % (8 : Int32)).toInt64) jb2) (own_part ((16 : Int64) * (jh2.toInt64)) jb3) (own_part (jl2.toInt64) jb4))), .unset] [(.double (own_part ((p1 % (8 : Int32)).toInt64) jb2)), (.double (own_part ((16 : Int64) * (p0.toInt64)) jb1)), (.double (own_part (jl2.toInt64) jb4)), (.double (own_part ((16 : Int64) * (jh2.toInt64)) jb3))])) rfl (by rw [hml]; rfl) (argsL := [(.double (own_part ((16 : Int64) * (jh2.toInt64)) jb3)), (.double (own_part (jl2.toInt64) jb4)), (.double (own_part ((16 : Int64) * (p0.toInt64)) jb1)), (.double (own_part ((p1 % (8 : Int32)).toInt64) jb2))]) (rest := []) (lenOf own_pd1 rfl) rfl (by show 2 * 0 + _ ≤ _; exact Nat.le_of_eq rfl) (hb hby at_211) (fun _ _ => ⟨rfl, e12, (by decide : 0 + 0 ≤ _), (by decide : 0 + 0 ≤ _)⟩)
                dsimp only [Pt.U, Pt.locs, Pt.cells, Pt.slots] at X13 l13 y13 z13 st13 hQ13
                subst l13 y13 z13
                refine Go.st st13 ?_
                obtain ⟨R13, N13q, e13⟩ := hQ13
                have N13 := Fr.app N12 N13q
                subst R13
                show Go p.tables e below P (T13.setTop (mkF m 214 #[.val (.int p0), .val (.int p1), .val (.int p2), .val (.int p3), .val (.int p4), .val (.int p0), .val (.int jh2), .val (.int (p1 % (8 : Int32))), .val (.int jl2), .val (.double (own_part ((16 : Int64) * (p0.toInt64)) jb1)), .second, .val (.double (own_part ((p1 % (8 : Int32)).toInt64) jb2)), .second, .val (.double (own_part ((16 : Int64) * (jh2.toInt64)) jb3)), .second, .val (.double (own_part (jl2.toInt64) jb4)), .second, .val (.long (((16 : Int64) * (p0.toInt64)) + ((p1 % (8 : Int32)).toInt64))), .second, .val (.long (((16 : Int64) * (jh2.toInt64)) + (jl2.toInt64))), .second, .val (.long ((((16 : Int64) * (p0.toInt64)) + ((p1 % (8 : Int32)).toInt64)) - (((16 : Int64) * (jh2.toInt64)) + (jl2.toInt64)))), .second, .val (.int jex), .val (.int (own_cmp (own_part ((16 : Int64) * (p0.toInt64)) jb1) (own_part ((p1 % (8 : Int32)).toInt64) jb2) (own_part ((16 : Int64) * (jh2.toInt64)) jb3) (own_part (jl2.toInt64) jb4))), .unset] [(.int (own_cmp (own_part ((16 : Int64) * (jh2.toInt64)) jb3) (own_part (jl2.toInt64) jb4) (own_part ((16 : Int64) * (p0.toInt64)) jb1) (own_part ((p1 % (8 : Int32)).toInt64) jb2)))]))
                refine Go.st (fun _ => XS.istore X13.here hx rfl (hb hby at_214) rfl (l' := #[.val (.int p0), .val (.int p1), .val (.int p2), .val (.int p3), .val (.int p4), .val (.int p0), .val (.int jh2), .val (.int (p1 % (8 : Int32))), .val (.int jl2), .val (.double (own_part ((16 : Int64) * (p0.toInt64)) jb1)), .second, .val (.double (own_part ((p1 % (8 : Int32)).toInt64) jb2)), .second, .val (.double (own_part ((16 : Int64) * (jh2.toInt64)) jb3)), .second, .val (.double (own_part (jl2.toInt64) jb4)), .second, .val (.long (((16 : Int64) * (p0.toInt64)) + ((p1 % (8 : Int32)).toInt64))), .second, .val (.long (((16 : Int64) * (jh2.toInt64)) + (jl2.toInt64))), .second, .val (.long ((((16 : Int64) * (p0.toInt64)) + ((p1 % (8 : Int32)).toInt64)) - (((16 : Int64) * (jh2.toInt64)) + (jl2.toInt64)))), .second, .val (.int jex), .val (.int (own_cmp (own_part ((16 : Int64) * (p0.toInt64)) jb1) (own_part ((p1 % (8 : Int32)).toInt64) jb2) (own_part ((16 : Int64) * (jh2.toInt64)) jb3) (own_part (jl2.toInt64) jb4))), .val (.int (own_cmp (own_part ((16 : Int64) * (jh2.toInt64)) jb3) (own_part (jl2.toInt64) jb4) (own_part ((16 : Int64) * (p0.toInt64)) jb1) (own_part ((p1 % (8 : Int32)).toInt64) jb2)))]) rfl) ?_
                show Go p.tables e below P (T13.setTop (mkF m 216 #[.val (.int p0), .val (.int p1), .val (.int p2), .val (.int p3), .val (.int p4), .val (.int p0), .val (.int jh2), .val (.int (p1 % (8 : Int32))), .val (.int jl2), .val (.double (own_part ((16 : Int64) * (p0.toInt64)) jb1)), .second, .val (.double (own_part ((p1 % (8 : Int32)).toInt64) jb2)), .second, .val (.double (own_part ((16 : Int64) * (jh2.toInt64)) jb3)), .second, .val (.double (own_part (jl2.toInt64) jb4)), .second, .val (.long (((16 : Int64) * (p0.toInt64)) + ((p1 % (8 : Int32)).toInt64))), .second, .val (.long (((16 : Int64) * (jh2.toInt64)) + (jl2.toInt64))), .second, .val (.long ((((16 : Int64) * (p0.toInt64)) + ((p1 % (8 : Int32)).toInt64)) - (((16 : Int64) * (jh2.toInt64)) + (jl2.toInt64)))), .second, .val (.int jex), .val (.int (own_cmp (own_part ((16 : Int64) * (p0.toInt64)) jb1) (own_part ((p1 % (8 : Int32)).toInt64) jb2) (own_part ((16 : Int64) * (jh2.toInt64)) jb3) (own_part (jl2.toInt64) jb4))), .val (.int (own_cmp (own_part ((16 : Int64) * (jh2.toInt64)) jb3) (own_part (jl2.toInt64) jb4) (own_part ((16 : Int64) * (p0.toInt64)) jb1) (own_part ((p1 % (8 : Int32)).toInt64) jb2)))] []))
                refine Go.st (fun _ => XS.iload X13.here hx rfl (hb hby at_216) rfl) ?_
                show Go p.tables e below P (T13.setTop (mkF m 218 #[.val (.int p0), .val (.int p1), .val (.int p2), .val (.int p3), .val (.int p4), .val (.int p0), .val (.int jh2), .val (.int (p1 % (8 : Int32))), .val (.int jl2), .val (.double (own_part ((16 : Int64) * (p0.toInt64)) jb1)), .second, .val (.double (own_part ((p1 % (8 : Int32)).toInt64) jb2)), .second, .val (.double (own_part ((16 : Int64) * (jh2.toInt64)) jb3)), .second, .val (.double (own_part (jl2.toInt64) jb4)), .second, .val (.long (((16 : Int64) * (p0.toInt64)) + ((p1 % (8 : Int32)).toInt64))), .second, .val (.long (((16 : Int64) * (jh2.toInt64)) + (jl2.toInt64))), .second, .val (.long ((((16 : Int64) * (p0.toInt64)) + ((p1 % (8 : Int32)).toInt64)) - (((16 : Int64) * (jh2.toInt64)) + (jl2.toInt64)))), .second, .val (.int jex), .val (.int (own_cmp (own_part ((16 : Int64) * (p0.toInt64)) jb1) (own_part ((p1 % (8 : Int32)).toInt64) jb2) (own_part ((16 : Int64) * (jh2.toInt64)) jb3) (own_part (jl2.toInt64) jb4))), .val (.int (own_cmp (own_part ((16 : Int64) * (jh2.toInt64)) jb3) (own_part (jl2.toInt64) jb4) (own_part ((16 : Int64) * (p0.toInt64)) jb1) (own_part ((p1 % (8 : Int32)).toInt64) jb2)))] [(.int (own_cmp (own_part ((16 : Int64) * (p0.toInt64)) jb1) (own_part ((p1 % (8 : Int32)).toInt64) jb2) (own_part ((16 : Int64) * (jh2.toInt64)) jb3) (own_part (jl2.toInt64) jb4)))]))
                refine Go.st (fun _ => XS.iload X13.here hx rfl (hb hby at_218) rfl) ?_
                show Go p.tables e below P (T13.setTop (mkF m 220 #[.val (.int p0), .val (.int p1), .val (.int p2), .val (.int p3), .val (.int p4), .val (.int p0), .val (.int jh2), .val (.int (p1 % (8 : Int32))), .val (.int jl2), .val (.double (own_part ((16 : Int64) * (p0.toInt64)) jb1)), .second, .val (.double (own_part ((p1 % (8 : Int32)).toInt64) jb2)), .second, .val (.double (own_part ((16 : Int64) * (jh2.toInt64)) jb3)), .second, .val (.double (own_part (jl2.toInt64) jb4)), .second, .val (.long (((16 : Int64) * (p0.toInt64)) + ((p1 % (8 : Int32)).toInt64))), .second, .val (.long (((16 : Int64) * (jh2.toInt64)) + (jl2.toInt64))), .second, .val (.long ((((16 : Int64) * (p0.toInt64)) + ((p1 % (8 : Int32)).toInt64)) - (((16 : Int64) * (jh2.toInt64)) + (jl2.toInt64)))), .second, .val (.int jex), .val (.int (own_cmp (own_part ((16 : Int64) * (p0.toInt64)) jb1) (own_part ((p1 % (8 : Int32)).toInt64) jb2) (own_part ((16 : Int64) * (jh2.toInt64)) jb3) (own_part (jl2.toInt64) jb4))), .val (.int (own_cmp (own_part ((16 : Int64) * (jh2.toInt64)) jb3) (own_part (jl2.toInt64) jb4) (own_part ((16 : Int64) * (p0.toInt64)) jb1) (own_part ((p1 % (8 : Int32)).toInt64) jb2)))] [(.int jex), (.int (own_cmp (own_part ((16 : Int64) * (p0.toInt64)) jb1) (own_part ((p1 % (8 : Int32)).toInt64) jb2) (own_part ((16 : Int64) * (jh2.toInt64)) jb3) (own_part (jl2.toInt64) jb4)))]))
                have hb14 : (own_cmp (own_part ((16 : Int64) * (p0.toInt64)) jb1) (own_part ((p1 % (8 : Int32)).toInt64) jb2) (own_part ((16 : Int64) * (jh2.toInt64)) jb3) (own_part (jl2.toInt64) jb4)) = jex := by rw [hex]; exact own_law (own_rem8 _) hl2
                refine Go.st (fun _ => XS.icmpNo X13.here hx rfl (hb hby at_220) rfl (teq hb14).2) ?_
                show Go p.tables e below P (T13.setTop (mkF m 223 #[.val (.int p0), .val (.int p1), .val (.int p2), .val (.int p3), .val (.int p4), .val (.int p0), .val (.int jh2), .val (.int (p1 % (8 : Int32))), .val (.int jl2), .val (.double (own_part ((16 : Int64) * (p0.toInt64)) jb1)), .second, .val (.double (own_part ((p1 % (8 : Int32)).toInt64) jb2)), .second, .val (.double (own_part ((16 : Int64) * (jh2.toInt64)) jb3)), .second, .val (.double (own_part (jl2.toInt64) jb4)), .second, .val (.long (((16 : Int64) * (p0.toInt64)) + ((p1 % (8 : Int32)).toInt64))), .second, .val (.long (((16 : Int64) * (jh2.toInt64)) + (jl2.toInt64))), .second, .val (.long ((((16 : Int64) * (p0.toInt64)) + ((p1 % (8 : Int32)).toInt64)) - (((16 : Int64) * (jh2.toInt64)) + (jl2.toInt64)))), .second, .val (.int jex), .val (.int (own_cmp (own_part ((16 : Int64) * (p0.toInt64)) jb1) (own_part ((p1 % (8 : Int32)).toInt64) jb2) (own_part ((16 : Int64) * (jh2.toInt64)) jb3) (own_part (jl2.toInt64) jb4))), .val (.int (own_cmp (own_part ((16 : Int64) * (jh2.toInt64)) jb3) (own_part (jl2.toInt64) jb4) (own_part ((16 : Int64) * (p0.toInt64)) jb1) (own_part ((p1 % (8 : Int32)).toInt64) jb2)))] []))
                refine Go.st (fun _ => XS.iload X13.here hx rfl (hb hby at_223) rfl) ?_
                show Go p.tables e below P (T13.setTop (mkF m 225 #[.val (.int p0), .val (.int p1), .val (.int p2), .val (.int p3), .val (.int p4), .val (.int p0), .val (.int jh2), .val (.int (p1 % (8 : Int32))), .val (.int jl2), .val (.double (own_part ((16 : Int64) * (p0.toInt64)) jb1)), .second, .val (.double (own_part ((p1 % (8 : Int32)).toInt64) jb2)), .second, .val (.double (own_part ((16 : Int64) * (jh2.toInt64)) jb3)), .second, .val (.double (own_part (jl2.toInt64) jb4)), .second, .val (.long (((16 : Int64) * (p0.toInt64)) + ((p1 % (8 : Int32)).toInt64))), .second, .val (.long (((16 : Int64) * (jh2.toInt64)) + (jl2.toInt64))), .second, .val (.long ((((16 : Int64) * (p0.toInt64)) + ((p1 % (8 : Int32)).toInt64)) - (((16 : Int64) * (jh2.toInt64)) + (jl2.toInt64)))), .second, .val (.int jex), .val (.int (own_cmp (own_part ((16 : Int64) * (p0.toInt64)) jb1) (own_part ((p1 % (8 : Int32)).toInt64) jb2) (own_part ((16 : Int64) * (jh2.toInt64)) jb3) (own_part (jl2.toInt64) jb4))), .val (.int (own_cmp (own_part ((16 : Int64) * (jh2.toInt64)) jb3) (own_part (jl2.toInt64) jb4) (own_part ((16 : Int64) * (p0.toInt64)) jb1) (own_part ((p1 % (8 : Int32)).toInt64) jb2)))] [(.int (own_cmp (own_part ((16 : Int64) * (jh2.toInt64)) jb3) (own_part (jl2.toInt64) jb4) (own_part ((16 : Int64) * (p0.toInt64)) jb1) (own_part ((p1 % (8 : Int32)).toInt64) jb2)))]))
                refine Go.st (fun _ => XS.iload X13.here hx rfl (hb hby at_225) rfl) ?_
                show Go p.tables e below P (T13.setTop (mkF m 227 #[.val (.int p0), .val (.int p1), .val (.int p2), .val (.int p3), .val (.int p4), .val (.int p0), .val (.int jh2), .val (.int (p1 % (8 : Int32))), .val (.int jl2), .val (.double (own_part ((16 : Int64) * (p0.toInt64)) jb1)), .second, .val (.double (own_part ((p1 % (8 : Int32)).toInt64) jb2)), .second, .val (.double (own_part ((16 : Int64) * (jh2.toInt64)) jb3)), .second, .val (.double (own_part (jl2.toInt64) jb4)), .second, .val (.long (((16 : Int64) * (p0.toInt64)) + ((p1 % (8 : Int32)).toInt64))), .second, .val (.long (((16 : Int64) * (jh2.toInt64)) + (jl2.toInt64))), .second, .val (.long ((((16 : Int64) * (p0.toInt64)) + ((p1 % (8 : Int32)).toInt64)) - (((16 : Int64) * (jh2.toInt64)) + (jl2.toInt64)))), .second, .val (.int jex), .val (.int (own_cmp (own_part ((16 : Int64) * (p0.toInt64)) jb1) (own_part ((p1 % (8 : Int32)).toInt64) jb2) (own_part ((16 : Int64) * (jh2.toInt64)) jb3) (own_part (jl2.toInt64) jb4))), .val (.int (own_cmp (own_part ((16 : Int64) * (jh2.toInt64)) jb3) (own_part (jl2.toInt64) jb4) (own_part ((16 : Int64) * (p0.toInt64)) jb1) (own_part ((p1 % (8 : Int32)).toInt64) jb2)))] [(.int jex), (.int (own_cmp (own_part ((16 : Int64) * (jh2.toInt64)) jb3) (own_part (jl2.toInt64) jb4) (own_part ((16 : Int64) * (p0.toInt64)) jb1) (own_part ((p1 % (8 : Int32)).toInt64) jb2)))]))
                refine Go.st (fun _ => XS.ineg X13.here hx rfl (hb hby at_227) rfl) ?_
                show Go p.tables e below P (T13.setTop (mkF m 228 #[.val (.int p0), .val (.int p1), .val (.int p2), .val (.int p3), .val (.int p4), .val (.int p0), .val (.int jh2), .val (.int (p1 % (8 : Int32))), .val (.int jl2), .val (.double (own_part ((16 : Int64) * (p0.toInt64)) jb1)), .second, .val (.double (own_part ((p1 % (8 : Int32)).toInt64) jb2)), .second, .val (.double (own_part ((16 : Int64) * (jh2.toInt64)) jb3)), .second, .val (.double (own_part (jl2.toInt64) jb4)), .second, .val (.long (((16 : Int64) * (p0.toInt64)) + ((p1 % (8 : Int32)).toInt64))), .second, .val (.long (((16 : Int64) * (jh2.toInt64)) + (jl2.toInt64))), .second, .val (.long ((((16 : Int64) * (p0.toInt64)) + ((p1 % (8 : Int32)).toInt64)) - (((16 : Int64) * (jh2.toInt64)) + (jl2.toInt64)))), .second, .val (.int jex), .val (.int (own_cmp (own_part ((16 : Int64) * (p0.toInt64)) jb1) (own_part ((p1 % (8 : Int32)).toInt64) jb2) (own_part ((16 : Int64) * (jh2.toInt64)) jb3) (own_part (jl2.toInt64) jb4))), .val (.int (own_cmp (own_part ((16 : Int64) * (jh2.toInt64)) jb3) (own_part (jl2.toInt64) jb4) (own_part ((16 : Int64) * (p0.toInt64)) jb1) (own_part ((p1 % (8 : Int32)).toInt64) jb2)))] [(.int (-jex)), (.int (own_cmp (own_part ((16 : Int64) * (jh2.toInt64)) jb3) (own_part (jl2.toInt64) jb4) (own_part ((16 : Int64) * (p0.toInt64)) jb1) (own_part ((p1 % (8 : Int32)).toInt64) jb2)))]))
                have hb15 : (own_cmp (own_part ((16 : Int64) * (jh2.toInt64)) jb3) (own_part (jl2.toInt64) jb4) (own_part ((16 : Int64) * (p0.toInt64)) jb1) (own_part ((p1 % (8 : Int32)).toInt64) jb2)) = (-jex) := by rw [hex, ← own_sign_neg (own_rem8 _) hl2]; exact own_law hl2 (own_rem8 _)
                refine Go.st (fun _ => XS.icmpNo X13.here hx rfl (hb hby at_228) rfl (teq hb15).2) ?_
                show Go p.tables e below P (T13.setTop (mkF m 231 #[.val (.int p0), .val (.int p1), .val (.int p2), .val (.int p3), .val (.int p4), .val (.int p0), .val (.int jh2), .val (.int (p1 % (8 : Int32))), .val (.int jl2), .val (.double (own_part ((16 : Int64) * (p0.toInt64)) jb1)), .second, .val (.double (own_part ((p1 % (8 : Int32)).toInt64) jb2)), .second, .val (.double (own_part ((16 : Int64) * (jh2.toInt64)) jb3)), .second, .val (.double (own_part (jl2.toInt64) jb4)), .second, .val (.long (((16 : Int64) * (p0.toInt64)) + ((p1 % (8 : Int32)).toInt64))), .second, .val (.long (((16 : Int64) * (jh2.toInt64)) + (jl2.toInt64))), .second, .val (.long ((((16 : Int64) * (p0.toInt64)) + ((p1 % (8 : Int32)).toInt64)) - (((16 : Int64) * (jh2.toInt64)) + (jl2.toInt64)))), .second, .val (.int jex), .val (.int (own_cmp (own_part ((16 : Int64) * (p0.toInt64)) jb1) (own_part ((p1 % (8 : Int32)).toInt64) jb2) (own_part ((16 : Int64) * (jh2.toInt64)) jb3) (own_part (jl2.toInt64) jb4))), .val (.int (own_cmp (own_part ((16 : Int64) * (jh2.toInt64)) jb3) (own_part (jl2.toInt64) jb4) (own_part ((16 : Int64) * (p0.toInt64)) jb1) (own_part ((p1 % (8 : Int32)).toInt64) jb2)))] []))
                refine Go.st (fun _ => XS.iconst X13.here hx rfl (hb hby at_231)) ?_
                show Go p.tables e below P (T13.setTop (mkF m 232 #[.val (.int p0), .val (.int p1), .val (.int p2), .val (.int p3), .val (.int p4), .val (.int p0), .val (.int jh2), .val (.int (p1 % (8 : Int32))), .val (.int jl2), .val (.double (own_part ((16 : Int64) * (p0.toInt64)) jb1)), .second, .val (.double (own_part ((p1 % (8 : Int32)).toInt64) jb2)), .second, .val (.double (own_part ((16 : Int64) * (jh2.toInt64)) jb3)), .second, .val (.double (own_part (jl2.toInt64) jb4)), .second, .val (.long (((16 : Int64) * (p0.toInt64)) + ((p1 % (8 : Int32)).toInt64))), .second, .val (.long (((16 : Int64) * (jh2.toInt64)) + (jl2.toInt64))), .second, .val (.long ((((16 : Int64) * (p0.toInt64)) + ((p1 % (8 : Int32)).toInt64)) - (((16 : Int64) * (jh2.toInt64)) + (jl2.toInt64)))), .second, .val (.int jex), .val (.int (own_cmp (own_part ((16 : Int64) * (p0.toInt64)) jb1) (own_part ((p1 % (8 : Int32)).toInt64) jb2) (own_part ((16 : Int64) * (jh2.toInt64)) jb3) (own_part (jl2.toInt64) jb4))), .val (.int (own_cmp (own_part ((16 : Int64) * (jh2.toInt64)) jb3) (own_part (jl2.toInt64) jb4) (own_part ((16 : Int64) * (p0.toInt64)) jb1) (own_part ((p1 % (8 : Int32)).toInt64) jb2)))] [(.int (1 : Int32))]))
                refine Go.st (fun _ => XS.goto X13.here hx rfl (pc0 := 232) (pc' := 236) rfl (hb hby at_232) (by decide) (by decide)) ?_
                show Go p.tables e below P (T13.setTop (mkF m 236 #[.val (.int p0), .val (.int p1), .val (.int p2), .val (.int p3), .val (.int p4), .val (.int p0), .val (.int jh2), .val (.int (p1 % (8 : Int32))), .val (.int jl2), .val (.double (own_part ((16 : Int64) * (p0.toInt64)) jb1)), .second, .val (.double (own_part ((p1 % (8 : Int32)).toInt64) jb2)), .second, .val (.double (own_part ((16 : Int64) * (jh2.toInt64)) jb3)), .second, .val (.double (own_part (jl2.toInt64) jb4)), .second, .val (.long (((16 : Int64) * (p0.toInt64)) + ((p1 % (8 : Int32)).toInt64))), .second, .val (.long (((16 : Int64) * (jh2.toInt64)) + (jl2.toInt64))), .second, .val (.long ((((16 : Int64) * (p0.toInt64)) + ((p1 % (8 : Int32)).toInt64)) - (((16 : Int64) * (jh2.toInt64)) + (jl2.toInt64)))), .second, .val (.int jex), .val (.int (own_cmp (own_part ((16 : Int64) * (p0.toInt64)) jb1) (own_part ((p1 % (8 : Int32)).toInt64) jb2) (own_part ((16 : Int64) * (jh2.toInt64)) jb3) (own_part (jl2.toInt64) jb4))), .val (.int (own_cmp (own_part ((16 : Int64) * (jh2.toInt64)) jb3) (own_part (jl2.toInt64) jb4) (own_part ((16 : Int64) * (p0.toInt64)) jb1) (own_part ((p1 % (8 : Int32)).toInt64) jb2)))] [(.int (1 : Int32))]))
                obtain ⟨fs, hr, hrun, hended, hW, hsame⟩ := X13.leave (v := some (.int (1 : Int32))) (fun h => by rw [Bd.returns] at h; cases h)
                refine ⟨_, ?_, hPend _ _ hrun hended ⟨_, _, rfl, ?_, ⟨_, rfl⟩, hW, hsame.mono (by decide) (by decide)⟩⟩
                · exact retN X13 hx (t := .boolean) Bd.returns (by simp) (hb hby at_236) hr
                · show Q_rm_law Z _ _ _ _ _ h0 n0 _ T13.heap _
                  rw [e13]
                  exact ⟨rfl, N13, rfl⟩
              by_cases hc16 : (lcmpW ((((16 : Int64) * (p0.toInt64)) + ((p1 % (8 : Int32)).toInt64)) - (((16 : Int64) * (jh2.toInt64)) + (jl2.toInt64))) (0 : Int64)) < (0 : Int32)
              · skip
                refine Go.st (fun _ => XS.ifNo X10.here hx rfl (hb hby at_169) rfl ((if0 _ _).trans (tlt hc16).2.1)) ?_
                show Go p.tables e below P (T10.setTop (mkF m 172 #[.val (.int p0), .val (.int p1), .val (.int p2), .val (.int p3), .val (.int p4), .val (.int p0), .val (.int jh2), .val (.int (p1 % (8 : Int32))), .val (.int jl2), .val (.double (own_part ((16 : Int64) * (p0.toInt64)) jb1)), .second, .val (.double (own_part ((p1 % (8 : Int32)).toInt64) jb2)), .second, .val (.double (own_part ((16 : Int64) * (jh2.toInt64)) jb3)), .second, .val (.double (own_part (jl2.toInt64) jb4)), .second, .val (.long (((16 : Int64) * (p0.toInt64)) + ((p1 % (8 : Int32)).toInt64))), .second, .val (.long (((16 : Int64) * (jh2.toInt64)) + (jl2.toInt64))), .second, .val (.long ((((16 : Int64) * (p0.toInt64)) + ((p1 % (8 : Int32)).toInt64)) - (((16 : Int64) * (jh2.toInt64)) + (jl2.toInt64)))), .second, .unset, .unset, .unset] []))
                refine Go.st (fun _ => XS.iconst X10.here hx rfl (hb hby at_172)) ?_
                show Go p.tables e below P (T10.setTop (mkF m 173 #[.val (.int p0), .val (.int p1), .val (.int p2), .val (.int p3), .val (.int p4), .val (.int p0), .val (.int jh2), .val (.int (p1 % (8 : Int32))), .val (.int jl2), .val (.double (own_part ((16 : Int64) * (p0.toInt64)) jb1)), .second, .val (.double (own_part ((p1 % (8 : Int32)).toInt64) jb2)), .second, .val (.double (own_part ((16 : Int64) * (jh2.toInt64)) jb3)), .second, .val (.double (own_part (jl2.toInt64) jb4)), .second, .val (.long (((16 : Int64) * (p0.toInt64)) + ((p1 % (8 : Int32)).toInt64))), .second, .val (.long (((16 : Int64) * (jh2.toInt64)) + (jl2.toInt64))), .second, .val (.long ((((16 : Int64) * (p0.toInt64)) + ((p1 % (8 : Int32)).toInt64)) - (((16 : Int64) * (jh2.toInt64)) + (jl2.toInt64)))), .second, .unset, .unset, .unset] [(.int (-1 : Int32))]))
                refine Go.st (fun _ => XS.goto X10.here hx rfl (pc0 := 173) (pc' := 188) rfl (hb hby at_173) (by decide) (by decide)) ?_
                show Go p.tables e below P (T10.setTop (mkF m 188 #[.val (.int p0), .val (.int p1), .val (.int p2), .val (.int p3), .val (.int p4), .val (.int p0), .val (.int jh2), .val (.int (p1 % (8 : Int32))), .val (.int jl2), .val (.double (own_part ((16 : Int64) * (p0.toInt64)) jb1)), .second, .val (.double (own_part ((p1 % (8 : Int32)).toInt64) jb2)), .second, .val (.double (own_part ((16 : Int64) * (jh2.toInt64)) jb3)), .second, .val (.double (own_part (jl2.toInt64) jb4)), .second, .val (.long (((16 : Int64) * (p0.toInt64)) + ((p1 % (8 : Int32)).toInt64))), .second, .val (.long (((16 : Int64) * (jh2.toInt64)) + (jl2.toInt64))), .second, .val (.long ((((16 : Int64) * (p0.toInt64)) + ((p1 % (8 : Int32)).toInt64)) - (((16 : Int64) * (jh2.toInt64)) + (jl2.toInt64)))), .second, .unset, .unset, .unset] [(.int (-1 : Int32))]))
                exact J11 (-1 : Int32) (by simp only [own_sign]; first | (rw [if_pos (by assumption)]) | (rw [if_neg (by assumption), if_pos (by assumption)]) | (rw [if_neg (by assumption), if_neg (by assumption)]))
              · skip
                refine Go.st (fun _ => XS.ifYes X10.here hx rfl (pc0 := 169) (pc' := 176) rfl (hb hby at_169) rfl ((if0 _ _).trans (flt hc16).2.1) (by decide) (by decide)) ?_
                show Go p.tables e below P (T10.setTop (mkF m 176 #[.val (.int p0), .val (.int p1), .val (.int p2), .val (.int p3), .val (.int p4), .val (.int p0), .val (.int jh2), .val (.int (p1 % (8 : Int32))), .val (.int jl2), .val (.double (own_part ((16 : Int64) * (p0.toInt64)) jb1)), .second, .val (.double (own_part ((p1 % (8 : Int32)).toInt64) jb2)), .second, .val (.double (own_part ((16 : Int64) * (jh2.toInt64)) jb3)), .second, .val (.double (own_part (jl2.toInt64) jb4)), .second, .val (.long (((16 : Int64) * (p0.toInt64)) + ((p1 % (8 : Int32)).toInt64))), .second, .val (.long (((16 : Int64) * (jh2.toInt64)) + (jl2.toInt64))), .second, .val (.long ((((16 : Int64) * (p0.toInt64)) + ((p1 % (8 : Int32)).toInt64)) - (((16 : Int64) * (jh2.toInt64)) + (jl2.toInt64)))), .second, .unset, .unset, .unset] []))
                refine Go.st (fun _ => XS.lload X10.here hx rfl (hb hby at_176) rfl) ?_
                show Go p.tables e below P (T10.setTop (mkF m 178 #[.val (.int p0), .val (.int p1), .val (.int p2), .val (.int p3), .val (.int p4), .val (.int p0), .val (.int jh2), .val (.int (p1 % (8 : Int32))), .val (.int jl2), .val (.double (own_part ((16 : Int64) * (p0.toInt64)) jb1)), .second, .val (.double (own_part ((p1 % (8 : Int32)).toInt64) jb2)), .second, .val (.double (own_part ((16 : Int64) * (jh2.toInt64)) jb3)), .second, .val (.double (own_part (jl2.toInt64) jb4)), .second, .val (.long (((16 : Int64) * (p0.toInt64)) + ((p1 % (8 : Int32)).toInt64))), .second, .val (.long (((16 : Int64) * (jh2.toInt64)) + (jl2.toInt64))), .second, .val (.long ((((16 : Int64) * (p0.toInt64)) + ((p1 % (8 : Int32)).toInt64)) - (((16 : Int64) * (jh2.toInt64)) + (jl2.toInt64)))), .second, .unset, .unset, .unset] [(.long ((((16 : Int64) * (p0.toInt64)) + ((p1 % (8 : Int32)).toInt64)) - (((16 : Int64) * (jh2.toInt64)) + (jl2.toInt64))))]))
                refine Go.st (fun _ => XS.lconst X10.here hx rfl (hb hby at_178)) ?_
                show Go p.tables e below P (T10.setTop (mkF m 179 #[.val (.int p0), .val (.int p1), .val (.int p2), .val (.int p3), .val (.int p4), .val (.int p0), .val (.int jh2), .val (.int (p1 % (8 : Int32))), .val (.int jl2), .val (.double (own_part ((16 : Int64) * (p0.toInt64)) jb1)), .second, .val (.double (own_part ((p1 % (8 : Int32)).toInt64) jb2)), .second, .val (.double (own_part ((16 : Int64) * (jh2.toInt64)) jb3)), .second, .val (.double (own_part (jl2.toInt64) jb4)), .second, .val (.long (((16 : Int64) * (p0.toInt64)) + ((p1 % (8 : Int32)).toInt64))), .second, .val (.long (((16 : Int64) * (jh2.toInt64)) + (jl2.toInt64))), .second, .val (.long ((((16 : Int64) * (p0.toInt64)) + ((p1 % (8 : Int32)).toInt64)) - (((16 : Int64) * (jh2.toInt64)) + (jl2.toInt64)))), .second, .unset, .unset, .unset] [(.long (0 : Int64)), (.long ((((16 : Int64) * (p0.toInt64)) + ((p1 % (8 : Int32)).toInt64)) - (((16 : Int64) * (jh2.toInt64)) + (jl2.toInt64))))]))
                refine Go.st (fun _ => XS.lcmp X10.here hx rfl (hb hby at_179) rfl) ?_
                show Go p.tables e below P (T10.setTop (mkF m 180 #[.val (.int p0), .val (.int p1), .val (.int p2), .val (.int p3), .val (.int p4), .val (.int p0), .val (.int jh2), .val (.int (p1 % (8 : Int32))), .val (.int jl2), .val (.double (own_part ((16 : Int64) * (p0.toInt64)) jb1)), .second, .val (.double (own_part ((p1 % (8 : Int32)).toInt64) jb2)), .second, .val (.double (own_part ((16 : Int64) * (jh2.toInt64)) jb3)), .second, .val (.double (own_part (jl2.toInt64) jb4)), .second, .val (.long (((16 : Int64) * (p0.toInt64)) + ((p1 % (8 : Int32)).toInt64))), .second, .val (.long (((16 : Int64) * (jh2.toInt64)) + (jl2.toInt64))), .second, .val (.long ((((16 : Int64) * (p0.toInt64)) + ((p1 % (8 : Int32)).toInt64)) - (((16 : Int64) * (jh2.toInt64)) + (jl2.toInt64)))), .second, .unset, .unset, .unset] [(.int (lcmpW ((((16 : Int64) * (p0.toInt64)) + ((p1 % (8 : Int32)).toInt64)) - (((16 : Int64) * (jh2.toInt64)) + (jl2.toInt64))) (0 : Int64)))]))
                by_cases hc17 : (0 : Int32) < (lcmpW ((((16 : Int64) * (p0.toInt64)) + ((p1 % (8 : Int32)).toInt64)) - (((16 : Int64) * (jh2.toInt64)) + (jl2.toInt64))) (0 : Int64))
                · skip
                  refine Go.st (fun _ => XS.ifNo X10.here hx rfl (hb hby at_180) rfl ((if0 _ _).trans (tlt hc17).2.2.2)) ?_
                  show Go p.tables e below P (T10.setTop (mkF m 183 #[.val (.int p0), .val (.int p1), .val (.int p2), .val (.int p3), .val (.int p4), .val (.int p0), .val (.int jh2), .val (.int (p1 % (8 : Int32))), .val (.int jl2), .val (.double (own_part ((16 : Int64) * (p0.toInt64)) jb1)), .second, .val (.double (own_part ((p1 % (8 : Int32)).toInt64) jb2)), .second, .val (.double (own_part ((16 : Int64) * (jh2.toInt64)) jb3)), .second, .val (.double (own_part (jl2.toInt64) jb4)), .second, .val (.long (((16 : Int64) * (p0.toInt64)) + ((p1 % (8 : Int32)).toInt64))), .second, .val (.long (((16 : Int64) * (jh2.toInt64)) + (jl2.toInt64))), .second, .val (.long ((((16 : Int64) * (p0.toInt64)) + ((p1 % (8 : Int32)).toInt64)) - (((16 : Int64) * (jh2.toInt64)) + (jl2.toInt64)))), .second, .unset, .unset, .unset] []))
                  refine Go.st (fun _ => XS.iconst X10.here hx rfl (hb hby at_183)) ?_
                  show Go p.tables e below P (T10.setTop (mkF m 184 #[.val (.int p0), .val (.int p1), .val (.int p2), .val (.int p3), .val (.int p4), .val (.int p0), .val (.int jh2), .val (.int (p1 % (8 : Int32))), .val (.int jl2), .val (.double (own_part ((16 : Int64) * (p0.toInt64)) jb1)), .second, .val (.double (own_part ((p1 % (8 : Int32)).toInt64) jb2)), .second, .val (.double (own_part ((16 : Int64) * (jh2.toInt64)) jb3)), .second, .val (.double (own_part (jl2.toInt64) jb4)), .second, .val (.long (((16 : Int64) * (p0.toInt64)) + ((p1 % (8 : Int32)).toInt64))), .second, .val (.long (((16 : Int64) * (jh2.toInt64)) + (jl2.toInt64))), .second, .val (.long ((((16 : Int64) * (p0.toInt64)) + ((p1 % (8 : Int32)).toInt64)) - (((16 : Int64) * (jh2.toInt64)) + (jl2.toInt64)))), .second, .unset, .unset, .unset] [(.int (1 : Int32))]))
                  refine Go.st (fun _ => XS.goto X10.here hx rfl (pc0 := 184) (pc' := 188) rfl (hb hby at_184) (by decide) (by decide)) ?_
                  show Go p.tables e below P (T10.setTop (mkF m 188 #[.val (.int p0), .val (.int p1), .val (.int p2), .val (.int p3), .val (.int p4), .val (.int p0), .val (.int jh2), .val (.int (p1 % (8 : Int32))), .val (.int jl2), .val (.double (own_part ((16 : Int64) * (p0.toInt64)) jb1)), .second, .val (.double (own_part ((p1 % (8 : Int32)).toInt64) jb2)), .second, .val (.double (own_part ((16 : Int64) * (jh2.toInt64)) jb3)), .second, .val (.double (own_part (jl2.toInt64) jb4)), .second, .val (.long (((16 : Int64) * (p0.toInt64)) + ((p1 % (8 : Int32)).toInt64))), .second, .val (.long (((16 : Int64) * (jh2.toInt64)) + (jl2.toInt64))), .second, .val (.long ((((16 : Int64) * (p0.toInt64)) + ((p1 % (8 : Int32)).toInt64)) - (((16 : Int64) * (jh2.toInt64)) + (jl2.toInt64)))), .second, .unset, .unset, .unset] [(.int (1 : Int32))]))
                  exact J11 (1 : Int32) (by simp only [own_sign]; first | (rw [if_pos (by assumption)]) | (rw [if_neg (by assumption), if_pos (by assumption)]) | (rw [if_neg (by assumption), if_neg (by assumption)]))
                · skip
                  refine Go.st (fun _ => XS.ifYes X10.here hx rfl (pc0 := 180) (pc' := 187) rfl (hb hby at_180) rfl ((if0 _ _).trans (flt hc17).2.2.2) (by decide) (by decide)) ?_
                  show Go p.tables e below P (T10.setTop (mkF m 187 #[.val (.int p0), .val (.int p1), .val (.int p2), .val (.int p3), .val (.int p4), .val (.int p0), .val (.int jh2), .val (.int (p1 % (8 : Int32))), .val (.int jl2), .val (.double (own_part ((16 : Int64) * (p0.toInt64)) jb1)), .second, .val (.double (own_part ((p1 % (8 : Int32)).toInt64) jb2)), .second, .val (.double (own_part ((16 : Int64) * (jh2.toInt64)) jb3)), .second, .val (.double (own_part (jl2.toInt64) jb4)), .second, .val (.long (((16 : Int64) * (p0.toInt64)) + ((p1 % (8 : Int32)).toInt64))), .second, .val (.long (((16 : Int64) * (jh2.toInt64)) + (jl2.toInt64))), .second, .val (.long ((((16 : Int64) * (p0.toInt64)) + ((p1 % (8 : Int32)).toInt64)) - (((16 : Int64) * (jh2.toInt64)) + (jl2.toInt64)))), .second, .unset, .unset, .unset] []))
                  refine Go.st (fun _ => XS.iconst X10.here hx rfl (hb hby at_187)) ?_
                  show Go p.tables e below P (T10.setTop (mkF m 188 #[.val (.int p0), .val (.int p1), .val (.int p2), .val (.int p3), .val (.int p4), .val (.int p0), .val (.int jh2), .val (.int (p1 % (8 : Int32))), .val (.int jl2), .val (.double (own_part ((16 : Int64) * (p0.toInt64)) jb1)), .second, .val (.double (own_part ((p1 % (8 : Int32)).toInt64) jb2)), .second, .val (.double (own_part ((16 : Int64) * (jh2.toInt64)) jb3)), .second, .val (.double (own_part (jl2.toInt64) jb4)), .second, .val (.long (((16 : Int64) * (p0.toInt64)) + ((p1 % (8 : Int32)).toInt64))), .second, .val (.long (((16 : Int64) * (jh2.toInt64)) + (jl2.toInt64))), .second, .val (.long ((((16 : Int64) * (p0.toInt64)) + ((p1 % (8 : Int32)).toInt64)) - (((16 : Int64) * (jh2.toInt64)) + (jl2.toInt64)))), .second, .unset, .unset, .unset] [(.int (0 : Int32))]))
                  exact J11 (0 : Int32) (by simp only [own_sign]; first | (rw [if_pos (by assumption)]) | (rw [if_neg (by assumption), if_pos (by assumption)]) | (rw [if_neg (by assumption), if_neg (by assumption)]))
            by_cases hc18 : (p4 &&& (32 : Int32)) = (0 : Int32)
            · skip
              refine Go.st (fun _ => XS.ifYes X8.here hx rfl (pc0 := 119) (pc' := 126) rfl (hb hby at_119) rfl ((if0 _ _).trans (teq hc18).1) (by decide) (by decide)) ?_
              show Go p.tables e below P (T8.setTop (mkF m 126 #[.val (.int p0), .val (.int p1), .val (.int p2), .val (.int p3), .val (.int p4), .val (.int p0), .val (.int jh2), .val (.int (p1 % (8 : Int32))), .val (.int jl2), .val (.double (own_part ((16 : Int64) * (p0.toInt64)) jb1)), .second, .val (.double (own_part ((p1 % (8 : Int32)).toInt64) jb2)), .second, .val (.double (own_part ((16 : Int64) * (jh2.toInt64)) jb3)), .second, .unset, .unset, .unset, .unset, .unset, .unset, .unset, .unset, .unset, .unset, .unset] [(.long (jl2.toInt64))]))
              refine Go.st (fun _ => XS.iconst X8.here hx rfl (hb hby at_126)) ?_
              show Go p.tables e below P (T8.setTop (mkF m 127 #[.val (.int p0), .val (.int p1), .val (.int p2), .val (.int p3), .val (.int p4), .val (.int p0), .val (.int jh2), .val (.int (p1 % (8 : Int32))), .val (.int jl2), .val (.double (own_part ((16 : Int64) * (p0.toInt64)) jb1)), .second, .val (.double (own_part ((p1 % (8 : Int32)).toInt64) jb2)), .second, .val (.double (own_part ((16 : Int64) * (jh2.toInt64)) jb3)), .second, .unset, .unset, .unset, .unset, .unset, .unset, .unset, .unset, .unset, .unset, .unset] [(.int (0 : Int32)), (.long (jl2.toInt64))]))
              exact J9 (0 : Int32) trivial
            · skip
              refine Go.st (fun _ => XS.ifNo X8.here hx rfl (hb hby at_119) rfl ((if0 _ _).trans (feq hc18).1)) ?_
              show Go p.tables e below P (T8.setTop (mkF m 122 #[.val (.int p0), .val (.int p1), .val (.int p2), .val (.int p3), .val (.int p4), .val (.int p0), .val (.int jh2), .val (.int (p1 % (8 : Int32))), .val (.int jl2), .val (.double (own_part ((16 : Int64) * (p0.toInt64)) jb1)), .second, .val (.double (own_part ((p1 % (8 : Int32)).toInt64) jb2)), .second, .val (.double (own_part ((16 : Int64) * (jh2.toInt64)) jb3)), .second, .unset, .unset, .unset, .unset, .unset, .unset, .unset, .unset, .unset, .unset, .unset] [(.long (jl2.toInt64))]))
              refine Go.st (fun _ => XS.iconst X8.here hx rfl (hb hby at_122)) ?_
              show Go p.tables e below P (T8.setTop (mkF m 123 #[.val (.int p0), .val (.int p1), .val (.int p2), .val (.int p3), .val (.int p4), .val (.int p0), .val (.int jh2), .val (.int (p1 % (8 : Int32))), .val (.int jl2), .val (.double (own_part ((16 : Int64) * (p0.toInt64)) jb1)), .second, .val (.double (own_part ((p1 % (8 : Int32)).toInt64) jb2)), .second, .val (.double (own_part ((16 : Int64) * (jh2.toInt64)) jb3)), .second, .unset, .unset, .unset, .unset, .unset, .unset, .unset, .unset, .unset, .unset, .unset] [(.int (1 : Int32)), (.long (jl2.toInt64))]))
              refine Go.st (fun _ => XS.goto X8.here hx rfl (pc0 := 123) (pc' := 127) rfl (hb hby at_123) (by decide) (by decide)) ?_
              show Go p.tables e below P (T8.setTop (mkF m 127 #[.val (.int p0), .val (.int p1), .val (.int p2), .val (.int p3), .val (.int p4), .val (.int p0), .val (.int jh2), .val (.int (p1 % (8 : Int32))), .val (.int jl2), .val (.double (own_part ((16 : Int64) * (p0.toInt64)) jb1)), .second, .val (.double (own_part ((p1 % (8 : Int32)).toInt64) jb2)), .second, .val (.double (own_part ((16 : Int64) * (jh2.toInt64)) jb3)), .second, .unset, .unset, .unset, .unset, .unset, .unset, .unset, .unset, .unset, .unset, .unset] [(.int (1 : Int32)), (.long (jl2.toInt64))]))
              exact J9 (1 : Int32) trivial
          by_cases hc19 : (p4 &&& (16 : Int32)) = (0 : Int32)
          · skip
            refine Go.st (fun _ => XS.ifYes X6.here hx rfl (pc0 := 98) (pc' := 105) rfl (hb hby at_98) rfl ((if0 _ _).trans (teq hc19).1) (by decide) (by decide)) ?_
            show Go p.tables e below P (T6.setTop (mkF m 105 #[.val (.int p0), .val (.int p1), .val (.int p2), .val (.int p3), .val (.int p4), .val (.int p0), .val (.int jh2), .val (.int (p1 % (8 : Int32))), .val (.int jl2), .val (.double (own_part ((16 : Int64) * (p0.toInt64)) jb1)), .second, .val (.double (own_part ((p1 % (8 : Int32)).toInt64) jb2)), .second, .unset, .unset, .unset, .unset, .unset, .unset, .unset, .unset, .unset, .unset, .unset, .unset, .unset] [(.long ((16 : Int64) * (jh2.toInt64)))]))
            refine Go.st (fun _ => XS.iconst X6.here hx rfl (hb hby at_105)) ?_
            show Go p.tables e below P (T6.setTop (mkF m 106 #[.val (.int p0), .val (.int p1), .val (.int p2), .val (.int p3), .val (.int p4), .val (.int p0), .val (.int jh2), .val (.int (p1 % (8 : Int32))), .val (.int jl2), .val (.double (own_part ((16 : Int64) * (p0.toInt64)) jb1)), .second, .val (.double (own_part ((p1 % (8 : Int32)).toInt64) jb2)), .second, .unset, .unset, .unset, .unset, .unset, .unset, .unset, .unset, .unset, .unset, .unset, .unset, .unset] [(.int (0 : Int32)), (.long ((16 : Int64) * (jh2.toInt64)))]))
            exact J7 (0 : Int32) trivial
          · skip
            refine Go.st (fun _ => XS.ifNo X6.here hx rfl (hb hby at_98) rfl ((if0 _ _).trans (feq hc19).1)) ?_
            show Go p.tables e below P (T6.setTop (mkF m 101 #[.val (.int p0), .val (.int p1), .val (.int p2), .val (.int p3), .val (.int p4), .val (.int p0), .val (.int jh2), .val (.int (p1 % (8 : Int32))), .val (.int jl2), .val (.double (own_part ((16 : Int64) * (p0.toInt64)) jb1)), .second, .val (.double (own_part ((p1 % (8 : Int32)).toInt64) jb2)), .second, .unset, .unset, .unset, .unset, .unset, .unset, .unset, .unset, .unset, .unset, .unset, .unset, .unset] [(.long ((16 : Int64) * (jh2.toInt64)))]))
            refine Go.st (fun _ => XS.iconst X6.here hx rfl (hb hby at_101)) ?_
            show Go p.tables e below P (T6.setTop (mkF m 102 #[.val (.int p0), .val (.int p1), .val (.int p2), .val (.int p3), .val (.int p4), .val (.int p0), .val (.int jh2), .val (.int (p1 % (8 : Int32))), .val (.int jl2), .val (.double (own_part ((16 : Int64) * (p0.toInt64)) jb1)), .second, .val (.double (own_part ((p1 % (8 : Int32)).toInt64) jb2)), .second, .unset, .unset, .unset, .unset, .unset, .unset, .unset, .unset, .unset, .unset, .unset, .unset, .unset] [(.int (1 : Int32)), (.long ((16 : Int64) * (jh2.toInt64)))]))
            refine Go.st (fun _ => XS.goto X6.here hx rfl (pc0 := 102) (pc' := 106) rfl (hb hby at_102) (by decide) (by decide)) ?_
            show Go p.tables e below P (T6.setTop (mkF m 106 #[.val (.int p0), .val (.int p1), .val (.int p2), .val (.int p3), .val (.int p4), .val (.int p0), .val (.int jh2), .val (.int (p1 % (8 : Int32))), .val (.int jl2), .val (.double (own_part ((16 : Int64) * (p0.toInt64)) jb1)), .second, .val (.double (own_part ((p1 % (8 : Int32)).toInt64) jb2)), .second, .unset, .unset, .unset, .unset, .unset, .unset, .unset, .unset, .unset, .unset, .unset, .unset, .unset] [(.int (1 : Int32)), (.long ((16 : Int64) * (jh2.toInt64)))]))
            exact J7 (1 : Int32) trivial
        by_cases hc20 : (p4 &&& (8 : Int32)) = (0 : Int32)
        · skip
          refine Go.st (fun _ => XS.ifYes X4.here hx rfl (pc0 := 73) (pc' := 80) rfl (hb hby at_73) rfl ((if0 _ _).trans (teq hc20).1) (by decide) (by decide)) ?_
          show Go p.tables e below P (T4.setTop (mkF m 80 #[.val (.int p0), .val (.int p1), .val (.int p2), .val (.int p3), .val (.int p4), .val (.int p0), .val (.int jh2), .val (.int (p1 % (8 : Int32))), .val (.int jl2), .val (.double (own_part ((16 : Int64) * (p0.toInt64)) jb1)), .second, .unset, .unset, .unset, .unset, .unset, .unset, .unset, .unset, .unset, .unset, .unset, .unset, .unset, .unset, .unset] [(.long ((p1 % (8 : Int32)).toInt64))]))
          refine Go.st (fun _ => XS.iconst X4.here hx rfl (hb hby at_80)) ?_
          show Go p.tables e below P (T4.setTop (mkF m 81 #[.val (.int p0), .val (.int p1), .val (.int p2), .val (.int p3), .val (.int p4), .val (.int p0), .val (.int jh2), .val (.int (p1 % (8 : Int32))), .val (.int jl2), .val (.double (own_part ((16 : Int64) * (p0.toInt64)) jb1)), .second, .unset, .unset, .unset, .unset, .unset, .unset, .unset, .unset, .unset, .unset, .unset, .unset, .unset, .unset, .unset] [(.int (0 : Int32)), (.long ((p1 % (8 : Int32)).toInt64))]))
          exact J5 (0 : Int32) trivial
        · skip
          refine Go.st (fun _ => XS.ifNo X4.here hx rfl (hb hby at_73) rfl ((if0 _ _).trans (feq hc20).1)) ?_
          show Go p.tables e below P (T4.setTop (mkF m 76 #[.val (.int p0), .val (.int p1), .val (.int p2), .val (.int p3), .val (.int p4), .val (.int p0), .val (.int jh2), .val (.int (p1 % (8 : Int32))), .val (.int jl2), .val (.double (own_part ((16 : Int64) * (p0.toInt64)) jb1)), .second, .unset, .unset, .unset, .unset, .unset, .unset, .unset, .unset, .unset, .unset, .unset, .unset, .unset, .unset, .unset] [(.long ((p1 % (8 : Int32)).toInt64))]))
          refine Go.st (fun _ => XS.iconst X4.here hx rfl (hb hby at_76)) ?_
          show Go p.tables e below P (T4.setTop (mkF m 77 #[.val (.int p0), .val (.int p1), .val (.int p2), .val (.int p3), .val (.int p4), .val (.int p0), .val (.int jh2), .val (.int (p1 % (8 : Int32))), .val (.int jl2), .val (.double (own_part ((16 : Int64) * (p0.toInt64)) jb1)), .second, .unset, .unset, .unset, .unset, .unset, .unset, .unset, .unset, .unset, .unset, .unset, .unset, .unset, .unset, .unset] [(.int (1 : Int32)), (.long ((p1 % (8 : Int32)).toInt64))]))
          refine Go.st (fun _ => XS.goto X4.here hx rfl (pc0 := 77) (pc' := 81) rfl (hb hby at_77) (by decide) (by decide)) ?_
          show Go p.tables e below P (T4.setTop (mkF m 81 #[.val (.int p0), .val (.int p1), .val (.int p2), .val (.int p3), .val (.int p4), .val (.int p0), .val (.int jh2), .val (.int (p1 % (8 : Int32))), .val (.int jl2), .val (.double (own_part ((16 : Int64) * (p0.toInt64)) jb1)), .second, .unset, .unset, .unset, .unset, .unset, .unset, .unset, .unset, .unset, .unset, .unset, .unset, .unset, .unset, .unset] [(.int (1 : Int32)), (.long ((p1 % (8 : Int32)).toInt64))]))
          exact J5 (1 : Int32) trivial
      by_cases hc21 : (p4 &&& (4 : Int32)) = (0 : Int32)
      · skip
        refine Go.st (fun _ => XS.ifYes X0.here hx rfl (pc0 := 52) (pc' := 59) rfl (hb hby at_52) rfl ((if0 _ _).trans (teq hc21).1) (by decide) (by decide)) ?_
        show Go p.tables e below P (s₁.setTop (mkF m 59 #[.val (.int p0), .val (.int p1), .val (.int p2), .val (.int p3), .val (.int p4), .val (.int p0), .val (.int jh2), .val (.int (p1 % (8 : Int32))), .val (.int jl2), .unset, .unset, .unset, .unset, .unset, .unset, .unset, .unset, .unset, .unset, .unset, .unset, .unset, .unset, .unset, .unset, .unset] [(.long ((16 : Int64) * (p0.toInt64)))]))
        refine Go.st (fun _ => XS.iconst X0.here hx rfl (hb hby at_59)) ?_
        show Go p.tables e below P (s₁.setTop (mkF m 60 #[.val (.int p0), .val (.int p1), .val (.int p2), .val (.int p3), .val (.int p4), .val (.int p0), .val (.int jh2), .val (.int (p1 % (8 : Int32))), .val (.int jl2), .unset, .unset, .unset, .unset, .unset, .unset, .unset, .unset, .unset, .unset, .unset, .unset, .unset, .unset, .unset, .unset, .unset] [(.int (0 : Int32)), (.long ((16 : Int64) * (p0.toInt64)))]))
        exact J3 (0 : Int32) trivial
      · skip
        refine Go.st (fun _ => XS.ifNo X0.here hx rfl (hb hby at_52) rfl ((if0 _ _).trans (feq hc21).1)) ?_
        show Go p.tables e below P (s₁.setTop (mkF m 55 #[.val (.int p0), .val (.int p1), .val (.int p2), .val (.int p3), .val (.int p4), .val (.int p0), .val (.int jh2), .val (.int (p1 % (8 : Int32))), .val (.int jl2), .unset, .unset, .unset, .unset, .unset, .unset, .unset, .unset, .unset, .unset, .unset, .unset, .unset, .unset, .unset, .unset, .unset] [(.long ((16 : Int64) * (p0.toInt64)))]))
        refine Go.st (fun _ => XS.iconst X0.here hx rfl (hb hby at_55)) ?_
        show Go p.tables e below P (s₁.setTop (mkF m 56 #[.val (.int p0), .val (.int p1), .val (.int p2), .val (.int p3), .val (.int p4), .val (.int p0), .val (.int jh2), .val (.int (p1 % (8 : Int32))), .val (.int jl2), .unset, .unset, .unset, .unset, .unset, .unset, .unset, .unset, .unset, .unset, .unset, .unset, .unset, .unset, .unset, .unset, .unset] [(.int (1 : Int32)), (.long ((16 : Int64) * (p0.toInt64)))]))
        refine Go.st (fun _ => XS.goto X0.here hx rfl (pc0 := 56) (pc' := 60) rfl (hb hby at_56) (by decide) (by decide)) ?_
        show Go p.tables e below P (s₁.setTop (mkF m 60 #[.val (.int p0), .val (.int p1), .val (.int p2), .val (.int p3), .val (.int p4), .val (.int p0), .val (.int jh2), .val (.int (p1 % (8 : Int32))), .val (.int jl2), .unset, .unset, .unset, .unset, .unset, .unset, .unset, .unset, .unset, .unset, .unset, .unset, .unset, .unset, .unset, .unset, .unset] [(.int (1 : Int32)), (.long ((16 : Int64) * (p0.toInt64)))]))
        exact J3 (1 : Int32) trivial
    by_cases hc22 : (p4 &&& (2 : Int32)) = (0 : Int32)
    · skip
      refine Go.st (fun _ => XS.ifYes X0.here hx rfl (pc0 := 27) (pc' := 35) rfl (hb hby at_27) rfl ((if0 _ _).trans (teq hc22).1) (by decide) (by decide)) ?_
      show Go p.tables e below P (s₁.setTop (mkF m 35 #[.val (.int p0), .val (.int p1), .val (.int p2), .val (.int p3), .val (.int p4), .val (.int p0), .val (.int jh2), .val (.int (p1 % (8 : Int32))), .unset, .unset, .unset, .unset, .unset, .unset, .unset, .unset, .unset, .unset, .unset, .unset, .unset, .unset, .unset, .unset, .unset, .unset] []))
      refine Go.st (fun _ => XS.iloadN X0.here hx rfl (hb hby at_35) rfl) ?_
      show Go p.tables e below P (s₁.setTop (mkF m 36 #[.val (.int p0), .val (.int p1), .val (.int p2), .val (.int p3), .val (.int p4), .val (.int p0), .val (.int jh2), .val (.int (p1 % (8 : Int32))), .unset, .unset, .unset, .unset, .unset, .unset, .unset, .unset, .unset, .unset, .unset, .unset, .unset, .unset, .unset, .unset, .unset, .unset] [(.int p3)]))
      refine Go.st (fun _ => XS.bipush X0.here hx rfl (hb hby at_36)) ?_
      show Go p.tables e below P (s₁.setTop (mkF m 38 #[.val (.int p0), .val (.int p1), .val (.int p2), .val (.int p3), .val (.int p4), .val (.int p0), .val (.int jh2), .val (.int (p1 % (8 : Int32))), .unset, .unset, .unset, .unset, .unset, .unset, .unset, .unset, .unset, .unset, .unset, .unset, .unset, .unset, .unset, .unset, .unset, .unset] [(.int (8 : Int32)), (.int p3)]))
      refine Go.st (fun _ => iremM (g := (mkF m 38 #[.val (.int p0), .val (.int p1), .val (.int p2), .val (.int p3), .val (.int p4), .val (.int p0), .val (.int jh2), .val (.int (p1 % (8 : Int32))), .unset, .unset, .unset, .unset, .unset, .unset, .unset, .unset, .unset, .unset, .unset, .unset, .unset, .unset, .unset, .unset, .unset, .unset] [(.int (8 : Int32)), (.int p3)])) X0 hx rfl (hb hby at_38) rfl (by decide)) ?_
      show Go p.tables e below P (s₁.setTop (mkF m 39 #[.val (.int p0), .val (.int p1), .val (.int p2), .val (.int p3), .val (.int p4), .val (.int p0), .val (.int jh2), .val (.int (p1 % (8 : Int32))), .unset, .unset, .unset, .unset, .unset, .unset, .unset, .unset, .unset, .unset, .unset, .unset, .unset, .unset, .unset, .unset, .unset, .unset] [(.int (p3 % (8 : Int32)))]))
      exact J2 (p3 % (8 : Int32)) (own_rem8 _)
    · skip
      refine Go.st (fun _ => XS.ifNo X0.here hx rfl (hb hby at_27) rfl ((if0 _ _).trans (feq hc22).1)) ?_
      show Go p.tables e below P (s₁.setTop (mkF m 30 #[.val (.int p0), .val (.int p1), .val (.int p2), .val (.int p3), .val (.int p4), .val (.int p0), .val (.int jh2), .val (.int (p1 % (8 : Int32))), .unset, .unset, .unset, .unset, .unset, .unset, .unset, .unset, .unset, .unset, .unset, .unset, .unset, .unset, .unset, .unset, .unset, .unset] []))
      refine Go.st (fun _ => XS.iload X0.here hx rfl (hb hby at_30) rfl) ?_
      show Go p.tables e below P (s₁.setTop (mkF m 32 #[.val (.int p0), .val (.int p1), .val (.int p2), .val (.int p3), .val (.int p4), .val (.int p0), .val (.int jh2), .val (.int (p1 % (8 : Int32))), .unset, .unset, .unset, .unset, .unset, .unset, .unset, .unset, .unset, .unset, .unset, .unset, .unset, .unset, .unset, .unset, .unset, .unset] [(.int (p1 % (8 : Int32)))]))
      refine Go.st (fun _ => XS.goto X0.here hx rfl (pc0 := 32) (pc' := 39) rfl (hb hby at_32) (by decide) (by decide)) ?_
      show Go p.tables e below P (s₁.setTop (mkF m 39 #[.val (.int p0), .val (.int p1), .val (.int p2), .val (.int p3), .val (.int p4), .val (.int p0), .val (.int jh2), .val (.int (p1 % (8 : Int32))), .unset, .unset, .unset, .unset, .unset, .unset, .unset, .unset, .unset, .unset, .unset, .unset, .unset, .unset, .unset, .unset, .unset, .unset] [(.int (p1 % (8 : Int32)))]))
      exact J2 (p1 % (8 : Int32)) (own_rem8 _)
  by_cases hc23 : (p4 &&& (1 : Int32)) = (0 : Int32)
  · skip
    refine Go.st (fun _ => XS.ifYes X0.here hx rfl (pc0 := 7) (pc' := 14) rfl (hb hby at_7) rfl ((if0 _ _).trans (teq hc23).1) (by decide) (by decide)) ?_
    show Go p.tables e below P (s₁.setTop (mkF m 14 #[.val (.int p0), .val (.int p1), .val (.int p2), .val (.int p3), .val (.int p4), .val (.int p0), .unset, .unset, .unset, .unset, .unset, .unset, .unset, .unset, .unset, .unset, .unset, .unset, .unset, .unset, .unset, .unset, .unset, .unset, .unset, .unset] []))
    refine Go.st (fun _ => XS.iloadN X0.here hx rfl (hb hby at_14) rfl) ?_
    show Go p.tables e below P (s₁.setTop (mkF m 15 #[.val (.int p0), .val (.int p1), .val (.int p2), .val (.int p3), .val (.int p4), .val (.int p0), .unset, .unset, .unset, .unset, .unset, .unset, .unset, .unset, .unset, .unset, .unset, .unset, .unset, .unset, .unset, .unset, .unset, .unset, .unset, .unset] [(.int p2)]))
    exact J1 p2 trivial
  · skip
    refine Go.st (fun _ => XS.ifNo X0.here hx rfl (hb hby at_7) rfl ((if0 _ _).trans (feq hc23).1)) ?_
    show Go p.tables e below P (s₁.setTop (mkF m 10 #[.val (.int p0), .val (.int p1), .val (.int p2), .val (.int p3), .val (.int p4), .val (.int p0), .unset, .unset, .unset, .unset, .unset, .unset, .unset, .unset, .unset, .unset, .unset, .unset, .unset, .unset, .unset, .unset, .unset, .unset, .unset, .unset] []))
    refine Go.st (fun _ => XS.iloadN X0.here hx rfl (hb hby at_10) rfl) ?_
    show Go p.tables e below P (s₁.setTop (mkF m 11 #[.val (.int p0), .val (.int p1), .val (.int p2), .val (.int p3), .val (.int p4), .val (.int p0), .unset, .unset, .unset, .unset, .unset, .unset, .unset, .unset, .unset, .unset, .unset, .unset, .unset, .unset, .unset, .unset, .unset, .unset, .unset, .unset] [(.int p0)]))
    refine Go.st (fun _ => XS.goto X0.here hx rfl (pc0 := 11) (pc' := 15) rfl (hb hby at_11) (by decide) (by decide)) ?_
    show Go p.tables e below P (s₁.setTop (mkF m 15 #[.val (.int p0), .val (.int p1), .val (.int p2), .val (.int p3), .val (.int p4), .val (.int p0), .unset, .unset, .unset, .unset, .unset, .unset, .unset, .unset, .unset, .unset, .unset, .unset, .unset, .unset, .unset, .unset, .unset, .unset, .unset, .unset] [(.int p0)]))
    exact J1 p0 trivial
set_option maxRecDepth 65536 in
set_option maxHeartbeats 40000000 in
theorem comes_1 {Post : Tables → Env → Array Value → State → Outcome → State → Prop} (hpost : ∀ tb e args s v u, (limb_1_1.after args s (.returned v) u = true ∧ limb_1_2.after args s (.returned v) u = true ∧ True) → FrameEnd s (.returned v) u (Jvm.fieldLocs frame_1_writes args s ++ Jvm.arrayLocs frame_1_arrays args s ++ Jvm.staticLocs frame_1_statics s) 0 0 → Post tb e args s (.returned v) u) :
    ArmFor flags0 classFile x code maxLocals ret World_1 tables_1 room_1 Calls_1 rest_1 Pre_1 Post := by
  intro l hfl _ _ p e ha hc hk s m args below hf hA hF happ hP
  obtain ⟨hcalls, hrest, hpre⟩ := hP
  obtain ⟨-, -, -, hnamed, -, -, -, hat⟩ := (Spec.applies_iff hf).mp happ
  obtain ⟨hg, hn⟩ := and_e (Cond.before_iff.mp (show (Jvm.Cond.and given_1 narrow_1).before args s = true from hpre))
  obtain ⟨hc_1, hc_2⟩ := and_e hg
  obtain ⟨hc_3, hc_4⟩ := and_e hc_2
  obtain ⟨hc_5, hc_6⟩ := and_e hc_4
  obtain ⟨hc_7, hc_8⟩ := and_e hc_6
  obtain ⟨hc_9, hc_10⟩ := and_e hc_8
  obtain ⟨w0, w1, w2, w3, w4, rfl⟩ : ∃ w0 w1 w2 w3 w4 : Value, args = #[w0, w1, w2, w3, w4] := by
    have hs : args.size = 5 := by simpa [Cond.value, given_1] using hc_1
    obtain ⟨L⟩ := args
    match L, hs with
    | [w0, w1, w2, w3, w4], _ => exact ⟨w0, w1, w2, w3, w4, rfl⟩
  have hw := fun d (hd : d ∈ tables_1) => atoms_spec (ws := Jvm.Cond.code x code maxLocals ret :: tables_1) hat d (List.mem_cons_of_mem _ hd)
  have hfit : Fit s := fun {y c} hc i hi => by
    obtain ⟨ha, rfl⟩ := Array.getElem?_eq_some_iff.mp hc
    have q := List.all_eq_true.mp ((Array.all_eq_true_iff_forall_mem.mp hF) _ (Array.getElem_mem ha)) i (List.mem_range.mpr hi)
    simpa [Array.getElem?_eq_getElem hi] using q
  obtain ⟨i0, ea0⟩ := is_v hc_3
  obtain rfl : w0 = (.int i0) := Option.some.inj ea0
  obtain ⟨i1, ea1⟩ := is_v hc_5
  obtain rfl : w1 = (.int i1) := Option.some.inj ea1
  obtain ⟨i2, ea2⟩ := is_v hc_7
  obtain rfl : w2 = (.int i2) := Option.some.inj ea2
  obtain ⟨i3, ea3⟩ := is_v hc_9
  obtain rfl : w3 = (.int i3) := Option.some.inj ea3
  obtain ⟨i4, ea4⟩ := is_v hc_10
  obtain rfl : w4 = (.int i4) := Option.some.inj ea4
  obtain ⟨n, o, h1, h2, h3, _, L, rfl, ⟨rfl, N, _⟩, hq⟩ := rm_law l s _ hw tables_1  i0 i1 i2 i3 i4 s.heap s.heap.size (Old.start s) p e ha hc hk s m _ below hf ((Spec.applies_iff_loose hf).mp happ).1 ⟨rfl, State.Warmed39.refl s, rfl⟩ trivial
  refine ⟨n, _, h1, h2, h3, hpost _ _ _ _ _ _ ⟨Cond.after_iff.mpr rfl, Cond.after_iff.mpr (eq_i res_at (Term.int_eval (1)) rfl), trivial⟩ ⟨hq.1, hq.2.1, (hq.2.2.sift fun y hy => Or.inr (N y hy)).mono (by decide) (by decide)⟩⟩
theorem main_1_1 : Claimed_1_1 := comes_1 fun _ _ _ _ _ _ h hF => ⟨h.1, hF⟩
theorem main_1_2 : Claimed_1_2 := comes_1 fun _ _ _ _ _ _ h hF => ⟨h.2.1, hF⟩
end Jvm.Pilot.@@N@@
namespace Jvm.Pilot.@@N@@
open Jvm Jvm.ClassFile Sem Op Lib Jvm.Free Jvm.Stand Jvm.Pilot.@@N@@.Jvm.D
/-! MADE BY PROGRAM (witnessworld.py) out of the Statement's table words and the real class files: 7 classes; the members and pool entries that the words name. The judged class is class 1, her method 2. -/
namespace start1
open Jvm.ClassFile
def u (s : String) : CpInfo := .utf8 (stringToUtf16 s)
/-- a pool by its gaps: so many unusable entries, then the entry; so many at the end -/
def gap : Nat → List CpInfo → List CpInfo
  | 0, r => r
  | n + 1, r => .unusable :: gap n r
def poolList (es : List (Nat × CpInfo)) (last : Nat) : List CpInfo := es.foldr (fun e r => gap e.1 (e.2 :: r)) (gap last [])
def pool (es : List (Nat × CpInfo)) (last : Nat) : Array CpInfo := ⟨poolList es last⟩
def fileOf (pool : Array CpInfo) (this : Nat) (attrs : Array Attribute := #[]) (ms : Array MethodInfo := #[]) (fl : Nat := 33) (sup : Nat := 0) (ifs : Array Nat := #[]) (fds : Array FieldInfo := #[]) : ClassFile where
  minorVersion := 0
  majorVersion := 65
  constantPool := pool
  accessFlags := fl
  thisClass := this
  superClass := sup
  interfaces := ifs
  fields := fds
  methods := ms
  attributes := attrs
def plain (name : String) (sup : Option ClassId) : Class where
  name := name
  kind := .ordinary
  loader := none
  accessFlags := 33
  super := sup
  interfaces := #[]
  cf := none
  fields := #[]
  methods := #[]
  instanceTypes := #[]
  staticTypes := #[]
  resolved := #[]
  callSites := []
  init := .initialized
  statics := none
  mirror := none

def pool0 : Array CpInfo := pool [(5, u "<init>"), (0, u "()V"), (1, .class_ 10), (1, u "java/lang/Object")] 113

def k0m0 : Method := { name := "<init>", desc := "()V", sig := { parameters := [], returnType := none }, accessFlags := 1, code := none }
/-- java/lang/Object -/
def k0 : Class := { plain "java/lang/Object" none with
  accessFlags := 33
  interfaces := #[]
  cf := some (fileOf pool0 8 #[] #[{ accessFlags := 1, nameIndex := 5, descriptorIndex := 6, attributes := #[] }] 33 0 #[] #[])
  fields := #[]
  methods := #[k0m0]
  instanceTypes := #[]
  staticTypes := #[]
  resolved := Array.replicate 124 none
  statics := none }

def pool1 : Array CpInfo := pool [(2, .class_ 4), (1, u "java/lang/Object"), (0, u "<init>"), (0, u "()V"), (0, .long 16), (1, .methodref 10 11), (0, .class_ 12), (0, .nameAndType 13 14), (0, u "com/example/parametree/parametree/CompensatedSumComparePinLaw"), (0, u "part"), (0, u "(JZ)D"), (0, .methodref 16 17), (0, .class_ 18), (0, .nameAndType 19 20), (0, u "com/example/parametree/parametree/CompensatedSum"), (0, u "compare"), (0, u "(DDDD)I"), (3, u "law"), (0, u "(IIIII)Z")] 2

def k1m0 : Method := { name := "<init>", desc := "()V", sig := { parameters := [], returnType := none }, accessFlags := 2, code := none }
def k1c1 : Code := { maxStack := 4, maxLocals := 5, code := method_2_code, exceptionTable := #[], attributes := #[] }
def k1m1 : Method := { name := "part", desc := "(JZ)D", sig := { parameters := [.long, .boolean], returnType := some .double }, accessFlags := 10, code := some k1c1 }
def k1c2 : Code := { maxStack := 8, maxLocals := 26, code := code, exceptionTable := #[], attributes := #[] }
def k1m2 : Method := { name := "law", desc := "(IIIII)Z", sig := { parameters := [.int, .int, .int, .int, .int], returnType := some .boolean }, accessFlags := 9, code := some k1c2 }
/-- com/example/parametree/parametree/CompensatedSumComparePinLaw -/
def k1 : Class := { plain "com/example/parametree/parametree/CompensatedSumComparePinLaw" (some 0) with
  accessFlags := 49
  interfaces := #[]
  cf := some (fileOf pool1 10 #[] #[{ accessFlags := 2, nameIndex := 5, descriptorIndex := 6, attributes := #[] }, { accessFlags := 10, nameIndex := 13, descriptorIndex := 14, attributes := #[] }, { accessFlags := 9, nameIndex := 24, descriptorIndex := 25, attributes := #[] }] 49 2 #[] #[])
  fields := #[]
  methods := #[k1m0, k1m1, k1m2]
  instanceTypes := #[]
  staticTypes := #[]
  resolved := Array.replicate 28 none
  statics := none }

def pool2 : Array CpInfo := pool [(2, .class_ 4), (1, u "java/lang/Object"), (0, u "<init>"), (0, u "()V"), (1, .class_ 10), (1, u "com/example/parametree/parametree/CompensatedSum"), (0, u "hi"), (0, u "D"), (2, u "lo"), (16, u "compare"), (0, u "(DDDD)I")] 54

def k2m0 : Method := { name := "<init>", desc := "()V", sig := { parameters := [], returnType := none }, accessFlags := 0, code := none }
def k2c1 : Code := { maxStack := 4, maxLocals := 9, code := prog_16_method_13_code, exceptionTable := #[], attributes := #[] }
def k2m1 : Method := { name := "compare", desc := "(DDDD)I", sig := { parameters := [.double, .double, .double, .double], returnType := some .int }, accessFlags := 8, code := some k2c1 }
/-- com/example/parametree/parametree/CompensatedSum -/
def k2 : Class := { plain "com/example/parametree/parametree/CompensatedSum" (some 0) with
  accessFlags := 48
  interfaces := #[]
  cf := some (fileOf pool2 8 #[] #[{ accessFlags := 0, nameIndex := 5, descriptorIndex := 6, attributes := #[] }, { accessFlags := 8, nameIndex := 32, descriptorIndex := 33, attributes := #[] }] 48 2 #[] #[{ accessFlags := 2, nameIndex := 11, descriptorIndex := 12, attributes := #[] }, { accessFlags := 2, nameIndex := 15, descriptorIndex := 12, attributes := #[] }])
  fields := #[{ name := "hi", type := .double, accessFlags := 2, slot := 0, constantValue := 0 }, { name := "lo", type := .double, accessFlags := 2, slot := 1, constantValue := 0 }]
  methods := #[k2m0, k2m1]
  instanceTypes := #[.double, .double]
  staticTypes := #[]
  resolved := Array.replicate 88 none
  statics := none }

def pool3 : Array CpInfo := pool [(1, u "java/lang/Cloneable"), (0, .class_ 1), (0, u "java/lang/Object"), (0, .class_ 3)] 3

/-- java/lang/Cloneable -/
def k3 : Class := { plain "java/lang/Cloneable" (some 0) with
  accessFlags := 1537
  interfaces := #[]
  cf := some (fileOf pool3 2 #[] #[] 1537 4 #[] #[])
  fields := #[]
  methods := #[]
  instanceTypes := #[]
  staticTypes := #[]
  resolved := Array.replicate 8 none
  statics := none }

def pool4 : Array CpInfo := pool [(1, u "java/io/Serializable"), (0, .class_ 1), (0, u "java/lang/Object"), (0, .class_ 3)] 3

/-- java/io/Serializable -/
def k4 : Class := { plain "java/io/Serializable" (some 0) with
  accessFlags := 1537
  interfaces := #[]
  cf := some (fileOf pool4 2 #[] #[] 1537 4 #[] #[])
  fields := #[]
  methods := #[]
  instanceTypes := #[]
  staticTypes := #[]
  resolved := Array.replicate 8 none
  statics := none }

/-- the primitive byte -/
def k5 : Class := { plain "byte" none with kind := .primitive 'B', accessFlags := 0x411 }
/-- [B -/
def k6 : Class := { plain "[B" (some 0) with kind := .array 5 .byte, interfaces := #[3, 4], accessFlags := 1041 }

def heap : Heap := #[]
def classes : Array Class := #[k0, k1, k2, k3, k4, k5, k6]
def interned : List (Array UInt16 × Addr) := []
def slotsUsed : Nat := 0
def theMethod : MethodId := ⟨1, 2⟩
def args0 : Array Value := #[.int 5, .int 6, .int 7, .int 9, .int 3]
def aboutOver (below : List Frame) : State where
  vm := { classes := classes, interned := interned.toArray }
  heap := heap
  slotsUsed := slotsUsed
  threads := #[{ frames := .invoking theMethod args0 :: below }]
def below0 : List Frame := [.native { method := ⟨0, 0⟩, args := #[] }]
def about1 : State := aboutOver below0
def p0 : Program := .bare "" "" ""
def e0 : Env := launch0.env 0 0 0
theorem w_frames : about1.frames = Frame.invoking theMethod args0 :: below0 := rfl
set_option maxRecDepth 65536 in
theorem w_args : argsFit about1.vm theMethod args0 = true := by decide +kernel
set_option maxRecDepth 65536 in
theorem w_heap : heapFits about1 = true := by decide +kernel
set_option maxRecDepth 65536 in
theorem w_runnable : about1.curStatus? = some .runnable := by decide +kernel
set_option maxRecDepth 65536 in
theorem w_alone : about1.alone = true := by decide +kernel
set_option maxRecDepth 65536 in
theorem w_named : about1.methodNamed? x = some theMethod := by decide +kernel
set_option maxRecDepth 65536 in
theorem w_hears : about1.hears theMethod below0 = true := by decide +kernel
set_option maxRecDepth 65536 in
theorem w_ripe : about1.ripe theMethod args0 below0 = true := by decide +kernel
theorem w_running : about1.status = .running := rfl
set_option maxRecDepth 65536 in
theorem w_room : about1.hasRoom e0.platform room_1 = true :=
  launch0.hasRoom_least _ room_1 (by decide +kernel) (by decide +kernel) (by decide +kernel) (by decide +kernel) (by decide +kernel) (by decide +kernel)
theorem allAtoms_all (ts : List Jvm.Cond) (a : Array Jvm.Value) (st : Jvm.State) : (allAtoms ts).before a st = ts.all (fun c => c.before a st) := by
  induction ts with
  | nil => rfl
  | cons c t ih =>
    show (Jvm.Cond.and c (allAtoms t)).before a st = _
    rw [Jvm.Cond.before_and, ih, List.all_cons]
def words1 : List Jvm.Cond := Jvm.Cond.code x code maxLocals ret :: tables_1
/-- a 'code' word, met by the world's own term for the bytes: nothing is compared byte by byte -/
theorem code_word {y : MethodName} {bytes : ByteArray} {mx : Nat} {rt : Option FieldType} {a : Array Value} {s : State} {m : MethodId} {meth : Method} {c : Code} (h1 : s.methodNamed? y = some m) (h2 : s.vm.method? m = some meth) (h3 : meth.code = some c) (h4 : c.code = bytes)
    (h5 : (c.maxLocals == mx && c.exceptionTable.isEmpty && decide (c.maxStack ≤ mostOperands) && decide (meth.sig.returnType = rt) && !meth.locks && decide (parseMethodDescriptor y.desc = some meth.sig)) = true) : (Jvm.Cond.code y bytes mx rt).before a s = true := by
  simp only [Bool.and_eq_true, beq_iff_eq, Bool.not_eq_true', decide_eq_true_eq] at h5
  obtain ⟨⟨⟨⟨⟨g1, g2⟩, g3⟩, g4⟩, g5⟩, g6⟩ := h5
  simp [Cond.before, Cond.holds, Cond.value, h1, h2, h3, h4, g1, g2, g3, g4, g5, g6]
def isCode : Jvm.Cond → Bool
  | .code _ _ _ _ => true
  | _ => false
theorem all_split {L : List Jvm.Cond} {P : Jvm.Cond → Bool} (h1 : L.all (fun c => isCode c || P c) = true) (h2 : ∀ c ∈ L.filter isCode, P c = true) : L.all P = true := by
  refine List.all_eq_true.mpr fun c hc => ?_
  have h := List.all_eq_true.mp h1 c hc
  rcases Bool.eq_false_or_eq_true (isCode c) with hi | hi
  · exact h2 c (List.mem_filter.mpr ⟨hc, hi⟩)
  · simpa [hi] using h
set_option maxRecDepth 65536 in
theorem w_c0 : (Jvm.Cond.code x code maxLocals ret).before args0 about1 = true := code_word (m := ⟨1, 2⟩) (meth := k1m2) (c := k1c2) (by decide +kernel) rfl rfl rfl (by decide +kernel)
set_option maxRecDepth 65536 in
theorem w_c1 : (Jvm.Cond.code ({ cls := "com/example/parametree/parametree/CompensatedSumComparePinLaw", name := "part", desc := "(JZ)D" } : Jvm.MethodName) method_2_code (5 : Nat) (Option.some Jvm.ClassFile.FieldType.double)).before args0 about1 = true := code_word (m := ⟨1, 1⟩) (meth := k1m1) (c := k1c1) (by decide +kernel) rfl rfl rfl (by decide +kernel)
set_option maxRecDepth 65536 in
theorem w_c2 : (Jvm.Cond.code ({ cls := "com/example/parametree/parametree/CompensatedSum", name := "compare", desc := "(DDDD)I" } : Jvm.MethodName) prog_16_method_13_code (9 : Nat) (Option.some Jvm.ClassFile.FieldType.int)).before args0 about1 = true := code_word (m := ⟨2, 1⟩) (meth := k2m1) (c := k2c1) (by decide +kernel) rfl rfl rfl (by decide +kernel)
def codes1 : List Jvm.Cond := [Jvm.Cond.code x code maxLocals ret, Jvm.Cond.code ({ cls := "com/example/parametree/parametree/CompensatedSumComparePinLaw", name := "part", desc := "(JZ)D" } : Jvm.MethodName) method_2_code (5 : Nat) (Option.some Jvm.ClassFile.FieldType.double), Jvm.Cond.code ({ cls := "com/example/parametree/parametree/CompensatedSum", name := "compare", desc := "(DDDD)I" } : Jvm.MethodName) prog_16_method_13_code (9 : Nat) (Option.some Jvm.ClassFile.FieldType.int)]
set_option maxRecDepth 65536 in
theorem codes_eq : words1.filter isCode = codes1 := rfl
theorem w_codes : ∀ c ∈ words1.filter isCode, c.before args0 about1 = true := by
  rw [codes_eq]
  intro c hc
  simp only [codes1, List.mem_cons, List.not_mem_nil, or_false] at hc
  rcases hc with rfl | rfl | rfl
  · exact w_c0
  · exact w_c1
  · exact w_c2
set_option maxRecDepth 65536 in
theorem w_t1 : words1.all (fun c => isCode c || c.before args0 about1) = true := by decide +kernel
theorem w_tables : (allAtoms (Jvm.Cond.code x code maxLocals ret :: tables_1)).before args0 about1 = true := by
  rw [allAtoms_all]
  show words1.all (fun c => c.before args0 about1) = true
  refine all_split ?_ w_codes
  rw [w_t1]
set_option maxRecDepth 65536 in
theorem w_case : (Jvm.Cond.and given_1 narrow_1).before args0 about1 = true := by decide +kernel
theorem w_applies : (headSpec (Jvm.Cond.code x code maxLocals ret :: tables_1) room_1).applies x e0.platform about1 = true :=
  (Spec.applies_iff w_frames).mpr ⟨w_running, w_runnable, w_alone, w_named, w_hears, w_ripe, w_room, w_tables⟩
theorem atStart : AtStart classFile x code maxLocals ret World_1 tables_1 room_1 Calls_1 rest_1 Pre_1 launch0 p0 e0 about1 theMethod args0 below0 :=
  ⟨lists_1, trivial, launch0.admits_env _ _ _, launch0.least_env, fairChoices_fair.cas, fairChoices_fair.clock, w_frames, w_args, w_heap, w_applies, trivial, trivial, w_case⟩
end start1
theorem witness_1 : WitnessClaimed_1 := ⟨start1.p0, start1.e0, start1.about1, start1.theMethod, start1.args0, start1.below0, start1.atStart⟩
end Jvm.Pilot.@@N@@
