import JvmDerived
import JvmDerived.Pilot.@@N@@Statement
import JvmDerived.Pilot.@@N@@Code
set_option linter.unusedVariables false
set_option linter.unusedSimpArgs false
namespace Jvm.Pilot.@@N@@
open Jvm Jvm.ClassFile Sem Op Lib Jvm.Free Jvm.Stand Jvm.LawKit Jvm.RoadKit Bundle Jvm.Pilot.@@N@@.Jvm.D
/-! 0. own tools: the goal that a walk carries; an array's store and load by what is known of it -/
def Go (tb : Tables) (e : Env) (below : List Frame) (P : State → Prop) (s : State) : Prop := ∃ s₂, Steps tb e below s s₂ ∧ P s₂
section OwnTools
variable {tb : Tables} {e : Env} {below : List Frame} {P : State → Prop} {A B : State}
theorem Go.st (h : ∀ t, Steps tb e below A t → Steps tb e below B t) (g : Go tb e below P A) : Go tb e below P B := by
  obtain ⟨s₂, h1, h2⟩ := g
  exact ⟨s₂, h _ h1, h2⟩
theorem Go.tr (h : Steps tb e below B A) (g : Go tb e below P A) : Go tb e below P B := by
  obtain ⟨s₂, h1, h2⟩ := g
  exact ⟨s₂, h.trans h1, h2⟩
theorem Go.start {Q : Outcome → State → Prop} (h : ∀ P : State → Prop, (∀ s₂ o, s₂.status = .running → Ended s₂ below o → Q o s₂ → P s₂) → Go tb e below P A) : ∃ s₂ o, Steps tb e below A s₂ ∧ s₂.status = .running ∧ Ended s₂ below o ∧ Q o s₂ := by
  obtain ⟨s₂, h1, o, h2, h3, h4⟩ := h (fun s₂ => ∃ o, s₂.status = .running ∧ Ended s₂ below o ∧ Q o s₂) (fun s₂ o a b c => ⟨o, a, b, c⟩)
  exact ⟨s₂, o, h1, h2, h3, h4⟩
theorem own_oldsz {Z : State} {n0 : Nat} {h : Heap} (X : Old Z n0 h) : n0 ≤ h.size := by have := X.1; have := X.2.1; omega
theorem own_cat {v : Value} (h : v.isRef = true) : v.category = 1 := by cases v <;> first | rfl | simp [Value.isRef] at h
theorem own_refcase {v : Value} (h : v.isRef = true) : v = .null ∨ ∃ a, v = .ref a := by cases v <;> first | (left; rfl) | (right; exact ⟨_, rfl⟩) | (simp [Value.isRef] at h)
theorem own_nar_ref {v : Value} {t : FieldType} (h : v.isRef = true) : narrow t v = v := by cases v <;> first | (simp [Value.isRef] at h; done) | (cases t <;> rfl)
theorem own_fits_ref {v : Value} {t : FieldType} (h : v.isRef = true) (ht : t.isReference = true := by rfl) : fits t v = true := by cases v <;> first | (simp [Value.isRef] at h; done) | (cases t <;> first | rfl | (simp [FieldType.isReference] at ht))
theorem own_eq_ref {args : Array Value} {first s : State} {o : Option Outcome} {idx : List Nat} {a b : Term} {w : Addr} (hb : b.eval args first o idx s = some (.ref w)) (h : (Cond.eq a b).value args first o s idx = some true) : a.eval args first o idx s = some (.ref w) := by
  cases ha : a.eval args first o idx s with
  | none => simp [Cond.value, ha] at h
  | some x => cases x <;> simp [Cond.value, ha, hb] at h ⊢; exact h
theorem own_len_start {args : Array Value} {s : State} {t : Term} {n : Int32} {a : Addr} {cl : Cell} (h : (Term.length t).eval args s none [] s = some (.int n)) (ht : t.eval args s none [] s = some (.ref a)) (hc : s.heap[a]? = some cl) : cl.slots.size < 2 ^ 31 ∧ cl.slots.size.toInt32 = n := by
  simp only [Term.eval, ht, Option.bind_eq_bind, Option.bind_some] at h
  cases hq : s.arrayAt? a with
  | none => simp [hq] at h
  | some c2 =>
    have e := (State.arrayAt?_spec hq).1
    cases hc.symm.trans e
    simp only [hq, Option.bind_some] at h
    split at h
    · rename_i hlt; exact ⟨hlt, by simpa using h⟩
    · cases h
theorem own_since (s : State) : s.Since s.vm 0 := (State.WarmedH.refl s).since 0
theorem own_and255 (x : Int32) : ¬ (x &&& 255) < 0 ∧ ¬ (255 : Int32) < (x &&& 255) := by
  have h := c_and x 255 (by decide)
  have e0 : (0 : Int32).toInt = 0 := rfl
  have e1 : (255 : Int32).toInt = 255 := rfl
  rw [Int32.lt_iff_toInt_lt, Int32.lt_iff_toInt_lt]
  omega
theorem own_nar_i2c (x : Int32) : nar .char (x.toUInt32.toUInt16.toUInt32.toInt32) = x.toUInt32.toUInt16.toUInt32.toInt32 := by
  show (x.toUInt32.toUInt16.toUInt32.toInt32).toUInt32.toUInt16.toUInt32.toInt32 = _
  rw [UInt32.toUInt32_toInt32, UInt16.toUInt16_toUInt32]
theorem own_nar_i2b (x : Int32) : nar .byte (x.toInt8.toInt32) = x.toInt8.toInt32 := by
  show (x.toInt8.toInt32).toInt8.toInt32 = _
  simp
theorem own_narZ {x : Int32} (h : x = 0 ∨ x = 1) : nar .boolean x = x := by rcases h with rfl | rfl <;> rfl
theorem own_up (cs : List Int32) (h : ∀ c ∈ cs, ¬ c < 0 ∧ ¬ (255 : Int32) < c) : ∀ c ∈ cs, ¬ c < 0 ∧ ¬ (65535 : Int32) < c := fun c hc => ⟨(h c hc).1, fun q => (h c hc).2 (by rw [Int32.lt_iff_toInt_lt] at q ⊢; have e1 : (65535 : Int32).toInt = 65535 := rfl; have e2 : (255 : Int32).toInt = 255 := rfl; omega)⟩
theorem own_narC {x : Int32} (h : ¬ x < 0 ∧ ¬ (255 : Int32) < x) : nar .char x = x := by
  have e0 : (0 : Int32).toInt = 0 := rfl
  have e1 : (255 : Int32).toInt = 255 := rfl
  have a := h.1
  have b := h.2
  rw [Int32.lt_iff_toInt_lt, e0] at a
  rw [Int32.lt_iff_toInt_lt, e1] at b
  have c := c_i2c x
  exact Int32.toInt_inj.mp (show x.toUInt32.toUInt16.toUInt32.toInt32.toInt = x.toInt by omega)
theorem own_int {r : Int32} {k : Int} (h : r.toInt = k) {q : Int32} (hq : q.toInt = k) : r = q := Int32.toInt_inj.mp (by rw [h, hq])
end OwnTools
section OwnArrays
variable {p : Program} {l : Launch} {e : Env} {R : Room} {s : State} {m : MethodId} {args : Array Value} {below : List Frame} {meth : Method} {c : Code} {T : State} {locs : List Loc} {cells slots : Nat} {Z : State} {h : Heap} {a : Addr} {k : ClassId} {z : Int32} {vs : List Value} {dv : Value}
theorem own_stC (X : Stand p l e R s m args below meth c T locs cells slots) (hx : p.tables.exec = Jvm.exec) (hZ : Z.Warmed39 s.vm) (eT : T.heap = h) (V : Arv Z h a k .char z vs dv) {j x : Int32} {i : Nat} (hj : ¬ j < 0 ∧ j < z) (hji : j.toNatClampNeg = i) (hi : i < vs.length) {g : JFrame} (hg : g.method = m) {rest : List Value} (hs : g.stack = .int x :: .int j :: .ref a :: rest) (hd : decode c.code g.pc = .ok (.castore, 1)) :
    ∃ T' h', Stand p l e R s m args below meth c T' (locs ++ [⟨a, j.toNatClampNeg⟩]) cells slots ∧ T'.heap = h' ∧ Wr h h' a j.toNatClampNeg (.int (nar .char x)) ∧ Arv Z h' a k .char z (vs.set i (.int (nar .char x))) dv ∧ ∀ target, Steps p.tables e below (T'.setTop { g with pc := g.pc + 1, stack := rest }) target → Steps p.tables e below (T.setTop g) target := by
  obtain ⟨cl, A, q1, S, q3, H, G⟩ := V
  obtain ⟨T', h', X', e', W, st⟩ := stC X hx hZ eT A (inb_of S hj) hg hs hd
  exact ⟨T', h', X', e', W, Arv.set A q1 S q3 H G (fits_nar_char x) W i hji hi, st⟩
theorem own_stI (X : Stand p l e R s m args below meth c T locs cells slots) (hx : p.tables.exec = Jvm.exec) (hZ : Z.Warmed39 s.vm) (eT : T.heap = h) (V : Arv Z h a k .int z vs dv) {j x : Int32} {i : Nat} (hj : ¬ j < 0 ∧ j < z) (hji : j.toNatClampNeg = i) (hi : i < vs.length) {g : JFrame} (hg : g.method = m) {rest : List Value} (hs : g.stack = .int x :: .int j :: .ref a :: rest) (hd : decode c.code g.pc = .ok (.iastore, 1)) :
    ∃ T' h', Stand p l e R s m args below meth c T' (locs ++ [⟨a, j.toNatClampNeg⟩]) cells slots ∧ T'.heap = h' ∧ Wr h h' a j.toNatClampNeg (.int x) ∧ Arv Z h' a k .int z (vs.set i (.int x)) dv ∧ ∀ target, Steps p.tables e below (T'.setTop { g with pc := g.pc + 1, stack := rest }) target → Steps p.tables e below (T.setTop g) target := by
  obtain ⟨cl, A, q1, S, q3, H, G⟩ := V
  obtain ⟨T', h', X', e', W, st⟩ := stI X hx hZ eT A (inb_of S hj) hg hs hd
  exact ⟨T', h', X', e', W, Arv.set A q1 S q3 H G rfl W i hji hi, st⟩
theorem own_stZ (X : Stand p l e R s m args below meth c T locs cells slots) (hx : p.tables.exec = Jvm.exec) (hZ : Z.Warmed39 s.vm) (eT : T.heap = h) (V : Arv Z h a k .boolean z vs dv) {j x : Int32} {i : Nat} (hj : ¬ j < 0 ∧ j < z) (hji : j.toNatClampNeg = i) (hi : i < vs.length) {g : JFrame} (hg : g.method = m) {rest : List Value} (hs : g.stack = .int x :: .int j :: .ref a :: rest) (hd : decode c.code g.pc = .ok (.bastore, 1)) :
    ∃ T' h', Stand p l e R s m args below meth c T' (locs ++ [⟨a, j.toNatClampNeg⟩]) cells slots ∧ T'.heap = h' ∧ Wr h h' a j.toNatClampNeg (.int (nar .boolean x)) ∧ Arv Z h' a k .boolean z (vs.set i (.int (nar .boolean x))) dv ∧ ∀ target, Steps p.tables e below (T'.setTop { g with pc := g.pc + 1, stack := rest }) target → Steps p.tables e below (T.setTop g) target := by
  obtain ⟨cl, A, q1, S, q3, H, G⟩ := V
  obtain ⟨T', h', X', e', W, st⟩ := stZ X hx hZ eT A (inb_of S hj) hg hs hd
  exact ⟨T', h', X', e', W, Arv.set A q1 S q3 H G (fits_nar_bool x) W i hji hi, st⟩
theorem own_stB (X : Stand p l e R s m args below meth c T locs cells slots) (hx : p.tables.exec = Jvm.exec) (hZ : Z.Warmed39 s.vm) (eT : T.heap = h) (V : Arv Z h a k .byte z vs dv) {j x : Int32} {i : Nat} (hj : ¬ j < 0 ∧ j < z) (hji : j.toNatClampNeg = i) (hi : i < vs.length) {g : JFrame} (hg : g.method = m) {rest : List Value} (hs : g.stack = .int x :: .int j :: .ref a :: rest) (hd : decode c.code g.pc = .ok (.bastore, 1)) :
    ∃ T' h', Stand p l e R s m args below meth c T' (locs ++ [⟨a, j.toNatClampNeg⟩]) cells slots ∧ T'.heap = h' ∧ Wr h h' a j.toNatClampNeg (.int (nar .byte x)) ∧ Arv Z h' a k .byte z (vs.set i (.int (nar .byte x))) dv ∧ ∀ target, Steps p.tables e below (T'.setTop { g with pc := g.pc + 1, stack := rest }) target → Steps p.tables e below (T.setTop g) target := by
  obtain ⟨cl, A, q1, S, q3, H, G⟩ := V
  obtain ⟨T', h', X', e', W, st⟩ := stB X hx hZ eT A (inb_of S hj) hg hs hd
  exact ⟨T', h', X', e', W, Arv.set A q1 S q3 H G (fits_nar_byte x) W i hji hi, st⟩
theorem own_stD (X : Stand p l e R s m args below meth c T locs cells slots) (hx : p.tables.exec = Jvm.exec) (hZ : Z.Warmed39 s.vm) (eT : T.heap = h) (V : Arv Z h a k .double z vs dv) {j : Int32} {x : UInt64} {i : Nat} (hj : ¬ j < 0 ∧ j < z) (hji : j.toNatClampNeg = i) (hi : i < vs.length) {g : JFrame} (hg : g.method = m) {rest : List Value} (hs : g.stack = .double x :: .int j :: .ref a :: rest) (hd : decode c.code g.pc = .ok (.dastore, 1)) :
    ∃ T' h', Stand p l e R s m args below meth c T' (locs ++ [⟨a, j.toNatClampNeg⟩]) cells slots ∧ T'.heap = h' ∧ Wr h h' a j.toNatClampNeg (.double x) ∧ Arv Z h' a k .double z (vs.set i (.double x)) dv ∧ ∀ target, Steps p.tables e below (T'.setTop { g with pc := g.pc + 1, stack := rest }) target → Steps p.tables e below (T.setTop g) target := by
  obtain ⟨cl, A, q1, S, q3, H, G⟩ := V
  obtain ⟨T', h', X', e', W, st⟩ := stD X hx hZ eT A (inb_of S hj) hg hs hd
  exact ⟨T', h', X', e', W, Arv.set A q1 S q3 H G rfl W i hji hi, st⟩
theorem own_at {ty : FieldType} (V : Arv Z h a k ty z vs dv) {j : Int32} {i : Nat} {v : Value} (hj : ¬ j < 0 ∧ j < z) (hji : j.toNatClampNeg = i) (hv : vs.getD i dv = v) : ∃ cl : Cell, Arr Z h a cl ty ∧ ¬ (j < 0 ∨ cl.slots.size ≤ j.toNatClampNeg) ∧ cl.slots[j.toNatClampNeg]? = some v := by
  obtain ⟨cl, A, q1, S, q3, H, G⟩ := V
  exact ⟨cl, A, inb_of S hj, Has.at H (inb_of S hj) (by rw [hji]; exact hv)⟩
theorem own_ldI (X : Stand p l e R s m args below meth c T locs cells slots) (hx : p.tables.exec = Jvm.exec) (hZ : Z.Warmed39 s.vm) (eT : T.heap = h) (V : Arv Z h a k .int z vs dv) {j : Int32} {i : Nat} {v : Value} (hj : ¬ j < 0 ∧ j < z) (hji : j.toNatClampNeg = i) (hv : vs.getD i dv = v) {g : JFrame} (hg : g.method = m) {rest : List Value} (hs : g.stack = .int j :: .ref a :: rest) (hd : decode c.code g.pc = .ok (.iaload, 1)) (target : State) :
    Steps p.tables e below (T.setTop { g with pc := g.pc + 1, stack := v :: rest }) target → Steps p.tables e below (T.setTop g) target := by
  obtain ⟨cl, A, hin, hat⟩ := own_at V hj hji hv
  exact X.iaload hx (by rw [eT]; exact A.1) (State.isArrayOf_alike hZ.alike A.2.1) A.2.2 hin hat hg hs hd target
theorem own_ldC (X : Stand p l e R s m args below meth c T locs cells slots) (hx : p.tables.exec = Jvm.exec) (hZ : Z.Warmed39 s.vm) (eT : T.heap = h) (V : Arv Z h a k .char z vs dv) {j : Int32} {i : Nat} {v : Value} (hj : ¬ j < 0 ∧ j < z) (hji : j.toNatClampNeg = i) (hv : vs.getD i dv = v) {g : JFrame} (hg : g.method = m) {rest : List Value} (hs : g.stack = .int j :: .ref a :: rest) (hd : decode c.code g.pc = .ok (.caload, 1)) (target : State) :
    Steps p.tables e below (T.setTop { g with pc := g.pc + 1, stack := v :: rest }) target → Steps p.tables e below (T.setTop g) target := by
  obtain ⟨cl, A, hin, hat⟩ := own_at V hj hji hv
  exact X.caload hx (by rw [eT]; exact A.1) (State.isArrayOf_alike hZ.alike A.2.1) A.2.2 hin hat hg hs hd target
theorem own_ldZ (X : Stand p l e R s m args below meth c T locs cells slots) (hx : p.tables.exec = Jvm.exec) (hZ : Z.Warmed39 s.vm) (eT : T.heap = h) (V : Arv Z h a k .boolean z vs dv) {j : Int32} {i : Nat} {v : Value} (hj : ¬ j < 0 ∧ j < z) (hji : j.toNatClampNeg = i) (hv : vs.getD i dv = v) {g : JFrame} (hg : g.method = m) {rest : List Value} (hs : g.stack = .int j :: .ref a :: rest) (hd : decode c.code g.pc = .ok (.baload, 1)) (target : State) :
    Steps p.tables e below (T.setTop { g with pc := g.pc + 1, stack := v :: rest }) target → Steps p.tables e below (T.setTop g) target := by
  obtain ⟨cl, A, hin, hat⟩ := own_at V hj hji hv
  exact X.baloadBooleans hx (by rw [eT]; exact A.1) (State.isArrayOf_alike hZ.alike A.2.1) A.2.2 hin hat hg hs hd target
theorem own_ldB (X : Stand p l e R s m args below meth c T locs cells slots) (hx : p.tables.exec = Jvm.exec) (hZ : Z.Warmed39 s.vm) (eT : T.heap = h) (V : Arv Z h a k .byte z vs dv) {j : Int32} {i : Nat} {v : Value} (hj : ¬ j < 0 ∧ j < z) (hji : j.toNatClampNeg = i) (hv : vs.getD i dv = v) {g : JFrame} (hg : g.method = m) {rest : List Value} (hs : g.stack = .int j :: .ref a :: rest) (hd : decode c.code g.pc = .ok (.baload, 1)) (target : State) :
    Steps p.tables e below (T.setTop { g with pc := g.pc + 1, stack := v :: rest }) target → Steps p.tables e below (T.setTop g) target := by
  obtain ⟨cl, A, hin, hat⟩ := own_at V hj hji hv
  exact X.baloadBytes hx (by rw [eT]; exact A.1) (State.isArrayOf_alike hZ.alike A.2.1) A.2.2 hin hat hg hs hd target
theorem own_ldD (X : Stand p l e R s m args below meth c T locs cells slots) (hx : p.tables.exec = Jvm.exec) (hZ : Z.Warmed39 s.vm) (eT : T.heap = h) (V : Arv Z h a k .double z vs dv) {j : Int32} {i : Nat} {v : Value} (hj : ¬ j < 0 ∧ j < z) (hji : j.toNatClampNeg = i) (hv : vs.getD i dv = v) {g : JFrame} (hg : g.method = m) {rest : List Value} (hs : g.stack = .int j :: .ref a :: rest) (hd : decode c.code g.pc = .ok (.daload, 1)) (target : State) :
    Steps p.tables e below (T.setTop { g with pc := g.pc + 1, stack := v :: rest }) target → Steps p.tables e below (T.setTop g) target := by
  obtain ⟨cl, A, hin, hat⟩ := own_at V hj hji hv
  exact X.daload hx (by rw [eT]; exact A.1) (State.isArrayOf_alike hZ.alike A.2.1) A.2.2 hin hat hg hs hd target
theorem own_ldR {C : String} (X : Stand p l e R s m args below meth c T locs cells slots) (hx : p.tables.exec = Jvm.exec) (hZ : Z.Warmed39 s.vm) (eT : T.heap = h) (V : Arv Z h a k (.object C) z vs dv) {j : Int32} {i : Nat} {v : Value} (hj : ¬ j < 0 ∧ j < z) (hji : j.toNatClampNeg = i) (hv : vs.getD i dv = v) {g : JFrame} (hg : g.method = m) {rest : List Value} (hs : g.stack = .int j :: .ref a :: rest) (hd : decode c.code g.pc = .ok (.aaload, 1)) (target : State) :
    Steps p.tables e below (T.setTop { g with pc := g.pc + 1, stack := v :: rest }) target → Steps p.tables e below (T.setTop g) target := by
  obtain ⟨cl, A, hin, hat⟩ := own_at V hj hji hv
  exact X.aaload hx (by rw [eT]; exact A.1) (State.isArrayOf_alike hZ.alike A.2.1) rfl A.2.2 hin hat hg hs hd target
theorem own_len {ty : FieldType} (X : Stand p l e R s m args below meth c T locs cells slots) (hx : p.tables.exec = Jvm.exec) (hZ : Z.Warmed39 s.vm) (eT : T.heap = h) (V : Arv Z h a k ty z vs dv) {g : JFrame} (hg : g.method = m) {rest : List Value} (hs : g.stack = .ref a :: rest) (hd : decode c.code g.pc = .ok (.arraylength, 1)) (target : State) :
    Steps p.tables e below (T.setTop { g with pc := g.pc + 1, stack := .int z :: rest }) target → Steps p.tables e below (T.setTop g) target := by
  obtain ⟨cl, A, q1, S, q3, H, G⟩ := V
  have q := X.arraylength hx (by rw [eT]; exact A.1) (State.isArrayOf_alike hZ.alike A.2.1) hg hs hd target
  rw [len_of S q3] at q
  exact q
theorem own_getD_int (xs : List Int32) (i : Nat) : (xs.map Value.int).getD i (.int 0) = .int (xs.getD i 0) := by
  simp only [List.getD_eq_getElem?_getD, List.getElem?_map]
  cases xs[i]? <;> rfl
theorem own_arv_set {ty : FieldType} {xs : List Int32} {i : Nat} {v : Int32} (V : Arv Z h a k ty z ((xs.map Value.int).set i (.int v)) dv) : Arv Z h a k ty z ((xs.set i v).map Value.int) dv := by rw [List.map_set]; exact V
end OwnArrays

def own_kind (a b c : Addr) (x : Int32) : Value := if x = 0 then .ref a else if x = 1 then .ref b else if x = 2 then .ref c else .null
theorem own_kind_ref (a b c : Addr) (x : Int32) : (own_kind a b c x).isRef = true := by unfold own_kind; split <;> (try split) <;> (try split) <;> rfl
theorem own_lt3 {x : Int32} (h0 : ¬ x < 0) (h1 : x < 3) : x = 0 ∨ x = 1 ∨ x = 2 := by
  rw [Int32.lt_iff_toInt_lt] at h0 h1
  have e0 : (0 : Int32).toInt = 0 := rfl
  have e3 : (3 : Int32).toInt = 3 := rfl
  rw [e0] at h0
  rw [e3] at h1
  have h' : x.toInt = 0 ∨ x.toInt = 1 ∨ x.toInt = 2 := by omega
  rcases h' with h | h | h
  · exact Or.inl (own_int h rfl)
  · exact Or.inr (Or.inl (own_int h rfl))
  · exact Or.inr (Or.inr (own_int h rfl))
theorem own_kind_out {a b c : Addr} {x : Int32} (h : ¬ x = 0) (h1 : ¬ x = 1) (h2 : ¬ x = 2) : own_kind a b c x = .null := by simp [own_kind, h, h1, h2]
theorem own_kind_neg {a b c : Addr} {x : Int32} (h : x < 0) : own_kind a b c x = .null := own_kind_out (fun e => by subst e; exact absurd h (by decide)) (fun e => by subst e; exact absurd h (by decide)) (fun e => by subst e; exact absurd h (by decide))
theorem own_kind_big {a b c : Addr} {x : Int32} (h : ¬ x < 3) : own_kind a b c x = .null := own_kind_out (fun e => by subst e; exact absurd (by decide) h) (fun e => by subst e; exact absurd (by decide) h) (fun e => by subst e; exact absurd (by decide) h)
theorem own_ef_rm_of (m : MethodId) (x0 : Int32) : entryFrame m #[(.int x0)] 1 = mkF m 0 #[.val (.int x0)] [] := by first | (simp [entryFrame, mkF, argsToLocals, Value.category]; done) | rfl
theorem own_pn0 : plainName "com/example/otsi/otsi/Descriptions$Kind" = true := by first | (simp [plainName, overriddenIn]; done) | decide +kernel
theorem own_d_prog_6_method_4_code_0 : decode prog_6_method_4_code 0 = .ok (.iload_n 0, 1) := by decide +kernel
theorem own_d_prog_6_method_4_code_1 : decode prog_6_method_4_code 1 = .ok (.ifCond .lt 19, 3) := by decide +kernel
theorem own_d_prog_6_method_4_code_20 : decode prog_6_method_4_code 20 = .ok (.aconst_null, 1) := by decide +kernel
theorem own_d_prog_6_method_4_code_21 : decode prog_6_method_4_code 21 = .ok (.areturn, 1) := by decide +kernel
theorem own_d_prog_6_method_4_code_4 : decode prog_6_method_4_code 4 = .ok (.iload_n 0, 1) := by decide +kernel
theorem own_d_prog_6_method_4_code_5 : decode prog_6_method_4_code 5 = .ok (.getstatic 32, 3) := by decide +kernel
theorem own_d_prog_6_method_4_code_8 : decode prog_6_method_4_code 8 = .ok (.arraylength, 1) := by decide +kernel
theorem own_d_prog_6_method_4_code_9 : decode prog_6_method_4_code 9 = .ok (.if_icmp .ge 11, 3) := by decide +kernel
theorem own_d_prog_6_method_4_code_12 : decode prog_6_method_4_code 12 = .ok (.getstatic 32, 3) := by decide +kernel
theorem own_d_prog_6_method_4_code_15 : decode prog_6_method_4_code 15 = .ok (.iload_n 0, 1) := by decide +kernel
theorem own_d_prog_6_method_4_code_16 : decode prog_6_method_4_code 16 = .ok (.aaload, 1) := by decide +kernel
theorem own_d_prog_6_method_4_code_17 : decode prog_6_method_4_code 17 = .ok (.goto 4, 3) := by decide +kernel
def Q_rm_of (Z : State) (w_A : Addr) (w_B : Addr) (w_C : Addr) (w_ALL : Addr) (k_ALL : ClassId) (p0 : Int32) (h0 : Heap) (n0 : Nat) (v : Option Value) (h : Heap) (L : List Loc) : Prop := v = some (own_kind w_A w_B w_C p0) ∧ Fr n0 L ∧ h = h0
set_option maxRecDepth 65536 in
set_option maxHeartbeats 40000000 in
theorem rm_of (l : Launch) (Z : State) (a0 : Array Value) (hw : ∀ d ∈ tables_1, d.before a0 Z = true) (ws : List Jvm.Cond) (w_A : Addr) (S_A : Sta Z Z.heap "com/example/otsi/otsi/Descriptions$Kind" "IRI" "Lcom/example/otsi/otsi/Descriptions$Kind;" (.ref w_A)) (X_A : Exa Z Z.heap w_A "com/example/otsi/otsi/Descriptions$Kind") (w_B : Addr) (S_B : Sta Z Z.heap "com/example/otsi/otsi/Descriptions$Kind" "BLANK_NODE" "Lcom/example/otsi/otsi/Descriptions$Kind;" (.ref w_B)) (X_B : Exa Z Z.heap w_B "com/example/otsi/otsi/Descriptions$Kind") (w_C : Addr) (S_C : Sta Z Z.heap "com/example/otsi/otsi/Descriptions$Kind" "LITERAL" "Lcom/example/otsi/otsi/Descriptions$Kind;" (.ref w_C)) (X_C : Exa Z Z.heap w_C "com/example/otsi/otsi/Descriptions$Kind") (w_ALL : Addr) (k_ALL : ClassId) (S_ALL : Sta Z Z.heap "com/example/otsi/otsi/Descriptions$Kind" "ALL" "[Lcom/example/otsi/otsi/Descriptions$Kind;" (.ref w_ALL)) (V_ALL : Arv Z Z.heap w_ALL k_ALL (.object "com/example/otsi/otsi/Descriptions$Kind") (3 : Int32) [(.ref w_A), (.ref w_B), (.ref w_C)] .null) (p0 : Int32) (h0 : Heap) (n0 : Nat) (X00 : Old Z n0 h0)  :
    MetFree l (⟨"com/example/otsi/otsi/Descriptions$Kind", "of", "(I)Lcom/example/otsi/otsi/Descriptions$Kind;"⟩ : MethodName) (head1 (Jvm.Cond.code (⟨"com/example/otsi/otsi/Descriptions$Kind", "of", "(I)Lcom/example/otsi/otsi/Descriptions$Kind;"⟩ : MethodName) prog_6_method_4_code 1 (some (.object "com/example/otsi/otsi/Descriptions$Kind")) :: ws) ({ frames := 0, cells := 0, slots := 0, locals := 0 } : Room)) (fun a U => a = #[(.int p0)] ∧ Z.Warmed39 U.vm ∧ U.heap = h0) (fun _ _ _ _ _ => True) (fun _ U o U' => ∃ v L, o = .returned v ∧ Q_rm_of Z w_A w_B w_C w_ALL k_ALL p0 h0 n0 v U'.heap L ∧ FrameEnd U o U' L ({ frames := 0, cells := 0, slots := 0, locals := 0 } : Room).cells ({ frames := 0, cells := 0, slots := 0, locals := 0 } : Room).slots) := by
  refine MetFree.of_bodySF (plainFor_of_name own_pn0) hisR ?_
  intro p e s m args below meth c s₁ Bd hml0 hP hK
  obtain ⟨rfl, hZ, hh⟩ := hP
  have hx := Bd.exec
  have hby := Bd.bytes
  have hml : c.maxLocals = 1 := hml0
  have hown : s.vm.findClass "com/example/otsi/otsi/Descriptions$Kind" = some m.cls := findClass_of_methodNamed Bd.named
  have hnm := (name_of_methodNamed Bd.named Bd.method).1
  have X0 : Stand p l e ({ frames := 0, cells := 0, slots := 0, locals := 0 } : Room) s m #[(.int p0)] below meth c s₁ [] 0 0 := Stand.of_body Bd
  have e0 : s₁.heap = h0 := by rw [← hh, Bd.state]; rfl
  have N0 := Fr.nil n0
  refine Go.start fun P hPend => ?_
  refine Go.st (fun _ k => castTop (own_ef_rm_of m p0) k) ?_
  show Go p.tables e below P (s₁.setTop (mkF m 0 #[.val (.int p0)] []))
  refine Go.st (fun _ => XS.iloadN X0.here hx rfl (hb hby own_d_prog_6_method_4_code_0) rfl) ?_
  show Go p.tables e below P (s₁.setTop (mkF m 1 #[.val (.int p0)] [(.int p0)]))
  by_cases hc1 : p0 < (0 : Int32)
  · skip
    refine Go.st (fun _ => XS.ifYes X0.here hx rfl (pc0 := 1) (pc' := 20) rfl (hb hby own_d_prog_6_method_4_code_1) rfl ((if0 _ _).trans (tlt hc1).1) (by decide) (by decide)) ?_
    show Go p.tables e below P (s₁.setTop (mkF m 20 #[.val (.int p0)] []))
    refine Go.st (fun _ => XS.aconstNull X0.here hx rfl (hb hby own_d_prog_6_method_4_code_20)) ?_
    show Go p.tables e below P (s₁.setTop (mkF m 21 #[.val (.int p0)] [.null]))
    obtain ⟨fs, hr, hrun, hended, hW, hsame⟩ := X0.leave (v := some .null) (fun h => by rw [Bd.returns] at h; cases h)
    refine ⟨_, ?_, hPend _ _ hrun hended ⟨_, _, rfl, ?_, ⟨_, rfl⟩, hW, hsame.mono (by decide) (by decide)⟩⟩
    · exact retOut X0 hx (t := (.object "com/example/otsi/otsi/Descriptions$Kind")) Bd.returns rfl (Or.inr (Or.inr (Or.inr (Or.inr ⟨rfl, rfl, rfl⟩)))) (hb hby own_d_prog_6_method_4_code_21) hr
    · show Q_rm_of Z _ _ _ _ _ _ h0 n0 _ s₁.heap _
      rw [e0]
      exact ⟨(congrArg some (by first | exact (own_kind_neg (by assumption)).symm | exact (own_kind_big (by assumption)).symm | exact (own_kind_out (by assumption) (by assumption) (by assumption)).symm | (subst_vars; rfl) | (simp [own_kind, *]))), N0, rfl⟩
  · skip
    refine Go.st (fun _ => XS.ifNo X0.here hx rfl (hb hby own_d_prog_6_method_4_code_1) rfl ((if0 _ _).trans (flt hc1).1)) ?_
    show Go p.tables e below P (s₁.setTop (mkF m 4 #[.val (.int p0)] []))
    refine Go.st (fun _ => XS.iloadN X0.here hx rfl (hb hby own_d_prog_6_method_4_code_4) rfl) ?_
    show Go p.tables e below P (s₁.setTop (mkF m 5 #[.val (.int p0)] [(.int p0)]))
    obtain ⟨T2, X2, e2, st2⟩ := getS2 X0 hx hZ hown (host := "") (Or.inl (hw _ (List.mem_of_getElem? (i := 4) rfl))) Via.refl e0 (S_ALL.ext X00.2) (g := (mkF m 5 #[.val (.int p0)] [(.int p0)])) rfl (hb hby own_d_prog_6_method_4_code_5)
    refine Go.st st2 ?_
    show Go p.tables e below P (T2.setTop (mkF m 8 #[.val (.int p0)] [(.ref w_ALL), (.int p0)]))
    refine Go.st (fun _ => own_len X2 hx hZ e2 (V_ALL.ext X00.2) (g := (mkF m 8 #[.val (.int p0)] [(.ref w_ALL), (.int p0)])) rfl rfl (hb hby own_d_prog_6_method_4_code_8) _) ?_
    show Go p.tables e below P (T2.setTop (mkF m 9 #[.val (.int p0)] [(.int (3 : Int32)), (.int p0)]))
    by_cases hc3 : p0 < (3 : Int32)
    · skip
      refine Go.st (fun _ => XS.icmpNo X2.here hx rfl (hb hby own_d_prog_6_method_4_code_9) rfl (tlt hc3).2.1) ?_
      show Go p.tables e below P (T2.setTop (mkF m 12 #[.val (.int p0)] []))
      rcases own_lt3 (by assumption) (by assumption) with hq | hq | hq
      · skip
        subst hq
        show Go p.tables e below P (T2.setTop (mkF m 12 #[.val (.int (0 : Int32))] []))
        obtain ⟨T4, X4, e4, st4⟩ := getS2 X2 hx hZ hown (host := "") (Or.inl (hw _ (List.mem_of_getElem? (i := 4) rfl))) Via.refl e2 (S_ALL.ext X00.2) (g := (mkF m 12 #[.val (.int (0 : Int32))] [])) rfl (hb hby own_d_prog_6_method_4_code_12)
        refine Go.st st4 ?_
        show Go p.tables e below P (T4.setTop (mkF m 15 #[.val (.int (0 : Int32))] [(.ref w_ALL)]))
        refine Go.st (fun _ => XS.iloadN X4.here hx rfl (hb hby own_d_prog_6_method_4_code_15) rfl) ?_
        show Go p.tables e below P (T4.setTop (mkF m 16 #[.val (.int (0 : Int32))] [(.int (0 : Int32)), (.ref w_ALL)]))
        refine Go.st (fun _ => own_ldR X4 hx hZ e4 (V_ALL.ext X00.2) (j := (0 : Int32)) (i := 0) (v := (.ref w_A)) (by decide) (by decide) rfl (g := (mkF m 16 #[.val (.int (0 : Int32))] [(.int (0 : Int32)), (.ref w_ALL)])) rfl rfl (hb hby own_d_prog_6_method_4_code_16) _) ?_
        show Go p.tables e below P (T4.setTop (mkF m 17 #[.val (.int (0 : Int32))] [(.ref w_A)]))
        refine Go.st (fun _ => XS.goto X4.here hx rfl (pc0 := 17) (pc' := 21) rfl (hb hby own_d_prog_6_method_4_code_17) (by decide) (by decide)) ?_
        show Go p.tables e below P (T4.setTop (mkF m 21 #[.val (.int (0 : Int32))] [(.ref w_A)]))
        obtain ⟨fs, hr, hrun, hended, hW, hsame⟩ := X4.leave (v := some (.ref w_A)) (fun h => by rw [Bd.returns] at h; cases h)
        refine ⟨_, ?_, hPend _ _ hrun hended ⟨_, _, rfl, ?_, ⟨_, rfl⟩, hW, hsame.mono (by decide) (by decide)⟩⟩
        · exact retOut X4 hx (t := (.object "com/example/otsi/otsi/Descriptions$Kind")) Bd.returns rfl (Or.inr (Or.inr (Or.inr (Or.inr ⟨rfl, rfl, rfl⟩)))) (hb hby own_d_prog_6_method_4_code_21) hr
        · show Q_rm_of Z _ _ _ _ _ _ h0 n0 _ T4.heap _
          rw [e4]
          exact ⟨(congrArg some (by first | exact (own_kind_neg (by assumption)).symm | exact (own_kind_big (by assumption)).symm | exact (own_kind_out (by assumption) (by assumption) (by assumption)).symm | (subst_vars; rfl) | (simp [own_kind, *]))), N0, rfl⟩
      · skip
        subst hq
        show Go p.tables e below P (T2.setTop (mkF m 12 #[.val (.int (1 : Int32))] []))
        obtain ⟨T6, X6, e6, st6⟩ := getS2 X2 hx hZ hown (host := "") (Or.inl (hw _ (List.mem_of_getElem? (i := 4) rfl))) Via.refl e2 (S_ALL.ext X00.2) (g := (mkF m 12 #[.val (.int (1 : Int32))] [])) rfl (hb hby own_d_prog_6_method_4_code_12)
        refine Go.st st6 ?_
        show Go p.tables e below P (T6.setTop (mkF m 15 #[.val (.int (1 : Int32))] [(.ref w_ALL)]))
        refine Go.st (fun _ => XS.iloadN X6.here hx rfl (hb hby own_d_prog_6_method_4_code_15) rfl) ?_
        show Go p.tables e below P (T6.setTop (mkF m 16 #[.val (.int (1 : Int32))] [(.int (1 : Int32)), (.ref w_ALL)]))
        refine Go.st (fun _ => own_ldR X6 hx hZ e6 (V_ALL.ext X00.2) (j := (1 : Int32)) (i := 1) (v := (.ref w_B)) (by decide) (by decide) rfl (g := (mkF m 16 #[.val (.int (1 : Int32))] [(.int (1 : Int32)), (.ref w_ALL)])) rfl rfl (hb hby own_d_prog_6_method_4_code_16) _) ?_
        show Go p.tables e below P (T6.setTop (mkF m 17 #[.val (.int (1 : Int32))] [(.ref w_B)]))
        refine Go.st (fun _ => XS.goto X6.here hx rfl (pc0 := 17) (pc' := 21) rfl (hb hby own_d_prog_6_method_4_code_17) (by decide) (by decide)) ?_
        show Go p.tables e below P (T6.setTop (mkF m 21 #[.val (.int (1 : Int32))] [(.ref w_B)]))
        obtain ⟨fs, hr, hrun, hended, hW, hsame⟩ := X6.leave (v := some (.ref w_B)) (fun h => by rw [Bd.returns] at h; cases h)
        refine ⟨_, ?_, hPend _ _ hrun hended ⟨_, _, rfl, ?_, ⟨_, rfl⟩, hW, hsame.mono (by decide) (by decide)⟩⟩
        · exact retOut X6 hx (t := (.object "com/example/otsi/otsi/Descriptions$Kind")) Bd.returns rfl (Or.inr (Or.inr (Or.inr (Or.inr ⟨rfl, rfl, rfl⟩)))) (hb hby own_d_prog_6_method_4_code_21) hr
        · show Q_rm_of Z _ _ _ _ _ _ h0 n0 _ T6.heap _
          rw [e6]
          exact ⟨(congrArg some (by first | exact (own_kind_neg (by assumption)).symm | exact (own_kind_big (by assumption)).symm | exact (own_kind_out (by assumption) (by assumption) (by assumption)).symm | (subst_vars; rfl) | (simp [own_kind, *]))), N0, rfl⟩
      · skip
        subst hq
        show Go p.tables e below P (T2.setTop (mkF m 12 #[.val (.int (2 : Int32))] []))
        obtain ⟨T8, X8, e8, st8⟩ := getS2 X2 hx hZ hown (host := "") (Or.inl (hw _ (List.mem_of_getElem? (i := 4) rfl))) Via.refl e2 (S_ALL.ext X00.2) (g := (mkF m 12 #[.val (.int (2 : Int32))] [])) rfl (hb hby own_d_prog_6_method_4_code_12)
        refine Go.st st8 ?_
        show Go p.tables e below P (T8.setTop (mkF m 15 #[.val (.int (2 : Int32))] [(.ref w_ALL)]))
        refine Go.st (fun _ => XS.iloadN X8.here hx rfl (hb hby own_d_prog_6_method_4_code_15) rfl) ?_
        show Go p.tables e below P (T8.setTop (mkF m 16 #[.val (.int (2 : Int32))] [(.int (2 : Int32)), (.ref w_ALL)]))
        refine Go.st (fun _ => own_ldR X8 hx hZ e8 (V_ALL.ext X00.2) (j := (2 : Int32)) (i := 2) (v := (.ref w_C)) (by decide) (by decide) rfl (g := (mkF m 16 #[.val (.int (2 : Int32))] [(.int (2 : Int32)), (.ref w_ALL)])) rfl rfl (hb hby own_d_prog_6_method_4_code_16) _) ?_
        show Go p.tables e below P (T8.setTop (mkF m 17 #[.val (.int (2 : Int32))] [(.ref w_C)]))
        refine Go.st (fun _ => XS.goto X8.here hx rfl (pc0 := 17) (pc' := 21) rfl (hb hby own_d_prog_6_method_4_code_17) (by decide) (by decide)) ?_
        show Go p.tables e below P (T8.setTop (mkF m 21 #[.val (.int (2 : Int32))] [(.ref w_C)]))
        obtain ⟨fs, hr, hrun, hended, hW, hsame⟩ := X8.leave (v := some (.ref w_C)) (fun h => by rw [Bd.returns] at h; cases h)
        refine ⟨_, ?_, hPend _ _ hrun hended ⟨_, _, rfl, ?_, ⟨_, rfl⟩, hW, hsame.mono (by decide) (by decide)⟩⟩
        · exact retOut X8 hx (t := (.object "com/example/otsi/otsi/Descriptions$Kind")) Bd.returns rfl (Or.inr (Or.inr (Or.inr (Or.inr ⟨rfl, rfl, rfl⟩)))) (hb hby own_d_prog_6_method_4_code_21) hr
        · show Q_rm_of Z _ _ _ _ _ _ h0 n0 _ T8.heap _
          rw [e8]
          exact ⟨(congrArg some (by first | exact (own_kind_neg (by assumption)).symm | exact (own_kind_big (by assumption)).symm | exact (own_kind_out (by assumption) (by assumption) (by assumption)).symm | (subst_vars; rfl) | (simp [own_kind, *]))), N0, rfl⟩
    · skip
      refine Go.st (fun _ => XS.icmpYes X2.here hx rfl (pc0 := 9) (pc' := 20) rfl (hb hby own_d_prog_6_method_4_code_9) rfl (flt hc3).2.1 (by decide) (by decide)) ?_
      show Go p.tables e below P (T2.setTop (mkF m 20 #[.val (.int p0)] []))
      refine Go.st (fun _ => XS.aconstNull X2.here hx rfl (hb hby own_d_prog_6_method_4_code_20)) ?_
      show Go p.tables e below P (T2.setTop (mkF m 21 #[.val (.int p0)] [.null]))
      obtain ⟨fs, hr, hrun, hended, hW, hsame⟩ := X2.leave (v := some .null) (fun h => by rw [Bd.returns] at h; cases h)
      refine ⟨_, ?_, hPend _ _ hrun hended ⟨_, _, rfl, ?_, ⟨_, rfl⟩, hW, hsame.mono (by decide) (by decide)⟩⟩
      · exact retOut X2 hx (t := (.object "com/example/otsi/otsi/Descriptions$Kind")) Bd.returns rfl (Or.inr (Or.inr (Or.inr (Or.inr ⟨rfl, rfl, rfl⟩)))) (hb hby own_d_prog_6_method_4_code_21) hr
      · show Q_rm_of Z _ _ _ _ _ _ h0 n0 _ T2.heap _
        rw [e2]
        exact ⟨(congrArg some (by first | exact (own_kind_neg (by assumption)).symm | exact (own_kind_big (by assumption)).symm | exact (own_kind_out (by assumption) (by assumption) (by assumption)).symm | (subst_vars; rfl) | (simp [own_kind, *]))), N0, rfl⟩
theorem own_ef_rm_ex (m : MethodId) (x0 : Int32) : entryFrame m #[(.int x0)] 1 = mkF m 0 #[.val (.int x0)] [] := by first | (simp [entryFrame, mkF, argsToLocals, Value.category]; done) | rfl
theorem own_pn1 : plainName "com/example/otsi/otsi/KindOfPinLaw" = true := by first | (simp [plainName, overriddenIn]; done) | decide +kernel
theorem own_d_method_2_code_0 : decode method_2_code 0 = .ok (.iload_n 0, 1) := by decide +kernel
theorem own_d_method_2_code_1 : decode method_2_code 1 = .ok (.ifCond .ne 7, 3) := by decide +kernel
theorem own_d_method_2_code_4 : decode method_2_code 4 = .ok (.getstatic 7, 3) := by decide +kernel
theorem own_d_method_2_code_7 : decode method_2_code 7 = .ok (.areturn, 1) := by decide +kernel
theorem own_d_method_2_code_8 : decode method_2_code 8 = .ok (.iload_n 0, 1) := by decide +kernel
theorem own_d_method_2_code_9 : decode method_2_code 9 = .ok (.iconst 1, 1) := by decide +kernel
theorem own_d_method_2_code_10 : decode method_2_code 10 = .ok (.if_icmp .ne 7, 3) := by decide +kernel
theorem own_d_method_2_code_13 : decode method_2_code 13 = .ok (.getstatic 13, 3) := by decide +kernel
theorem own_d_method_2_code_16 : decode method_2_code 16 = .ok (.areturn, 1) := by decide +kernel
theorem own_d_method_2_code_17 : decode method_2_code 17 = .ok (.iload_n 0, 1) := by decide +kernel
theorem own_d_method_2_code_18 : decode method_2_code 18 = .ok (.iconst 2, 1) := by decide +kernel
theorem own_d_method_2_code_19 : decode method_2_code 19 = .ok (.if_icmp .ne 7, 3) := by decide +kernel
theorem own_d_method_2_code_22 : decode method_2_code 22 = .ok (.getstatic 16, 3) := by decide +kernel
theorem own_d_method_2_code_25 : decode method_2_code 25 = .ok (.areturn, 1) := by decide +kernel
theorem own_d_method_2_code_26 : decode method_2_code 26 = .ok (.aconst_null, 1) := by decide +kernel
theorem own_d_method_2_code_27 : decode method_2_code 27 = .ok (.areturn, 1) := by decide +kernel
def Q_rm_ex (Z : State) (w_A : Addr) (w_B : Addr) (w_C : Addr) (w_ALL : Addr) (k_ALL : ClassId) (p0 : Int32) (h0 : Heap) (n0 : Nat) (v : Option Value) (h : Heap) (L : List Loc) : Prop := v = some (own_kind w_A w_B w_C p0) ∧ Fr n0 L ∧ h = h0
set_option maxRecDepth 65536 in
set_option maxHeartbeats 40000000 in
theorem rm_ex (l : Launch) (Z : State) (a0 : Array Value) (hw : ∀ d ∈ tables_1, d.before a0 Z = true) (ws : List Jvm.Cond) (w_A : Addr) (S_A : Sta Z Z.heap "com/example/otsi/otsi/Descriptions$Kind" "IRI" "Lcom/example/otsi/otsi/Descriptions$Kind;" (.ref w_A)) (X_A : Exa Z Z.heap w_A "com/example/otsi/otsi/Descriptions$Kind") (w_B : Addr) (S_B : Sta Z Z.heap "com/example/otsi/otsi/Descriptions$Kind" "BLANK_NODE" "Lcom/example/otsi/otsi/Descriptions$Kind;" (.ref w_B)) (X_B : Exa Z Z.heap w_B "com/example/otsi/otsi/Descriptions$Kind") (w_C : Addr) (S_C : Sta Z Z.heap "com/example/otsi/otsi/Descriptions$Kind" "LITERAL" "Lcom/example/otsi/otsi/Descriptions$Kind;" (.ref w_C)) (X_C : Exa Z Z.heap w_C "com/example/otsi/otsi/Descriptions$Kind") (w_ALL : Addr) (k_ALL : ClassId) (S_ALL : Sta Z Z.heap "com/example/otsi/otsi/Descriptions$Kind" "ALL" "[Lcom/example/otsi/otsi/Descriptions$Kind;" (.ref w_ALL)) (V_ALL : Arv Z Z.heap w_ALL k_ALL (.object "com/example/otsi/otsi/Descriptions$Kind") (3 : Int32) [(.ref w_A), (.ref w_B), (.ref w_C)] .null) (p0 : Int32) (h0 : Heap) (n0 : Nat) (X00 : Old Z n0 h0)  :
    MetFree l (⟨"com/example/otsi/otsi/KindOfPinLaw", "expected", "(I)Lcom/example/otsi/otsi/Descriptions$Kind;"⟩ : MethodName) (head1 (Jvm.Cond.code (⟨"com/example/otsi/otsi/KindOfPinLaw", "expected", "(I)Lcom/example/otsi/otsi/Descriptions$Kind;"⟩ : MethodName) method_2_code 1 (some (.object "com/example/otsi/otsi/Descriptions$Kind")) :: ws) ({ frames := 0, cells := 0, slots := 0, locals := 0 } : Room)) (fun a U => a = #[(.int p0)] ∧ Z.Warmed39 U.vm ∧ U.heap = h0) (fun _ _ _ _ _ => True) (fun _ U o U' => ∃ v L, o = .returned v ∧ Q_rm_ex Z w_A w_B w_C w_ALL k_ALL p0 h0 n0 v U'.heap L ∧ FrameEnd U o U' L ({ frames := 0, cells := 0, slots := 0, locals := 0 } : Room).cells ({ frames := 0, cells := 0, slots := 0, locals := 0 } : Room).slots) := by
  refine MetFree.of_bodySF (plainFor_of_name own_pn1) hisR ?_
  intro p e s m args below meth c s₁ Bd hml0 hP hK
  obtain ⟨rfl, hZ, hh⟩ := hP
  have hx := Bd.exec
  have hby := Bd.bytes
  have hml : c.maxLocals = 1 := hml0
  have hown : s.vm.findClass "com/example/otsi/otsi/KindOfPinLaw" = some m.cls := findClass_of_methodNamed Bd.named
  have hnm := (name_of_methodNamed Bd.named Bd.method).1
  have X0 : Stand p l e ({ frames := 0, cells := 0, slots := 0, locals := 0 } : Room) s m #[(.int p0)] below meth c s₁ [] 0 0 := Stand.of_body Bd
  have e0 : s₁.heap = h0 := by rw [← hh, Bd.state]; rfl
  have N0 := Fr.nil n0
  refine Go.start fun P hPend => ?_
  refine Go.st (fun _ k => castTop (own_ef_rm_ex m p0) k) ?_
  show Go p.tables e below P (s₁.setTop (mkF m 0 #[.val (.int p0)] []))
  refine Go.st (fun _ => XS.iloadN X0.here hx rfl (hb hby own_d_method_2_code_0) rfl) ?_
  show Go p.tables e below P (s₁.setTop (mkF m 1 #[.val (.int p0)] [(.int p0)]))
  by_cases hc1 : p0 = (0 : Int32)
  · skip
    refine Go.st (fun _ => XS.ifNo X0.here hx rfl (hb hby own_d_method_2_code_1) rfl ((if0 _ _).trans (teq hc1).2)) ?_
    show Go p.tables e below P (s₁.setTop (mkF m 4 #[.val (.int p0)] []))
    obtain ⟨T2, X2, e2, st2⟩ := getS2 X0 hx hZ hown (host := "") (Or.inl (hw _ (List.mem_of_getElem? (i := 11) rfl))) Via.refl e0 (S_A.ext X00.2) (g := (mkF m 4 #[.val (.int p0)] [])) rfl (hb hby own_d_method_2_code_4)
    refine Go.st st2 ?_
    show Go p.tables e below P (T2.setTop (mkF m 7 #[.val (.int p0)] [(.ref w_A)]))
    obtain ⟨fs, hr, hrun, hended, hW, hsame⟩ := X2.leave (v := some (.ref w_A)) (fun h => by rw [Bd.returns] at h; cases h)
    refine ⟨_, ?_, hPend _ _ hrun hended ⟨_, _, rfl, ?_, ⟨_, rfl⟩, hW, hsame.mono (by decide) (by decide)⟩⟩
    · exact retOut X2 hx (t := (.object "com/example/otsi/otsi/Descriptions$Kind")) Bd.returns rfl (Or.inr (Or.inr (Or.inr (Or.inr ⟨rfl, rfl, rfl⟩)))) (hb hby own_d_method_2_code_7) hr
    · show Q_rm_ex Z _ _ _ _ _ _ h0 n0 _ T2.heap _
      rw [e2]
      exact ⟨(congrArg some (by first | exact (own_kind_neg (by assumption)).symm | exact (own_kind_big (by assumption)).symm | exact (own_kind_out (by assumption) (by assumption) (by assumption)).symm | (subst_vars; rfl) | (simp [own_kind, *]))), N0, rfl⟩
  · skip
    refine Go.st (fun _ => XS.ifYes X0.here hx rfl (pc0 := 1) (pc' := 8) rfl (hb hby own_d_method_2_code_1) rfl ((if0 _ _).trans (feq hc1).2) (by decide) (by decide)) ?_
    show Go p.tables e below P (s₁.setTop (mkF m 8 #[.val (.int p0)] []))
    refine Go.st (fun _ => XS.iloadN X0.here hx rfl (hb hby own_d_method_2_code_8) rfl) ?_
    show Go p.tables e below P (s₁.setTop (mkF m 9 #[.val (.int p0)] [(.int p0)]))
    refine Go.st (fun _ => XS.iconst X0.here hx rfl (hb hby own_d_method_2_code_9)) ?_
    show Go p.tables e below P (s₁.setTop (mkF m 10 #[.val (.int p0)] [(.int (1 : Int32)), (.int p0)]))
    by_cases hc3 : p0 = (1 : Int32)
    · skip
      refine Go.st (fun _ => XS.icmpNo X0.here hx rfl (hb hby own_d_method_2_code_10) rfl (teq hc3).2) ?_
      show Go p.tables e below P (s₁.setTop (mkF m 13 #[.val (.int p0)] []))
      obtain ⟨T4, X4, e4, st4⟩ := getS2 X0 hx hZ hown (host := "") (Or.inl (hw _ (List.mem_of_getElem? (i := 13) rfl))) Via.refl e0 (S_B.ext X00.2) (g := (mkF m 13 #[.val (.int p0)] [])) rfl (hb hby own_d_method_2_code_13)
      refine Go.st st4 ?_
      show Go p.tables e below P (T4.setTop (mkF m 16 #[.val (.int p0)] [(.ref w_B)]))
      obtain ⟨fs, hr, hrun, hended, hW, hsame⟩ := X4.leave (v := some (.ref w_B)) (fun h => by rw [Bd.returns] at h; cases h)
      refine ⟨_, ?_, hPend _ _ hrun hended ⟨_, _, rfl, ?_, ⟨_, rfl⟩, hW, hsame.mono (by decide) (by decide)⟩⟩
      · exact retOut X4 hx (t := (.object "com/example/otsi/otsi/Descriptions$Kind")) Bd.returns rfl (Or.inr (Or.inr (Or.inr (Or.inr ⟨rfl, rfl, rfl⟩)))) (hb hby own_d_method_2_code_16) hr
      · show Q_rm_ex Z _ _ _ _ _ _ h0 n0 _ T4.heap _
        rw [e4]
        exact ⟨(congrArg some (by first | exact (own_kind_neg (by assumption)).symm | exact (own_kind_big (by assumption)).symm | exact (own_kind_out (by assumption) (by assumption) (by assumption)).symm | (subst_vars; rfl) | (simp [own_kind, *]))), N0, rfl⟩
    · skip
      refine Go.st (fun _ => XS.icmpYes X0.here hx rfl (pc0 := 10) (pc' := 17) rfl (hb hby own_d_method_2_code_10) rfl (feq hc3).2 (by decide) (by decide)) ?_
      show Go p.tables e below P (s₁.setTop (mkF m 17 #[.val (.int p0)] []))
      refine Go.st (fun _ => XS.iloadN X0.here hx rfl (hb hby own_d_method_2_code_17) rfl) ?_
      show Go p.tables e below P (s₁.setTop (mkF m 18 #[.val (.int p0)] [(.int p0)]))
      refine Go.st (fun _ => XS.iconst X0.here hx rfl (hb hby own_d_method_2_code_18)) ?_
      show Go p.tables e below P (s₁.setTop (mkF m 19 #[.val (.int p0)] [(.int (2 : Int32)), (.int p0)]))
      by_cases hc5 : p0 = (2 : Int32)
      · skip
        refine Go.st (fun _ => XS.icmpNo X0.here hx rfl (hb hby own_d_method_2_code_19) rfl (teq hc5).2) ?_
        show Go p.tables e below P (s₁.setTop (mkF m 22 #[.val (.int p0)] []))
        obtain ⟨T6, X6, e6, st6⟩ := getS2 X0 hx hZ hown (host := "") (Or.inl (hw _ (List.mem_of_getElem? (i := 15) rfl))) Via.refl e0 (S_C.ext X00.2) (g := (mkF m 22 #[.val (.int p0)] [])) rfl (hb hby own_d_method_2_code_22)
        refine Go.st st6 ?_
        show Go p.tables e below P (T6.setTop (mkF m 25 #[.val (.int p0)] [(.ref w_C)]))
        obtain ⟨fs, hr, hrun, hended, hW, hsame⟩ := X6.leave (v := some (.ref w_C)) (fun h => by rw [Bd.returns] at h; cases h)
        refine ⟨_, ?_, hPend _ _ hrun hended ⟨_, _, rfl, ?_, ⟨_, rfl⟩, hW, hsame.mono (by decide) (by decide)⟩⟩
        · exact retOut X6 hx (t := (.object "com/example/otsi/otsi/Descriptions$Kind")) Bd.returns rfl (Or.inr (Or.inr (Or.inr (Or.inr ⟨rfl, rfl, rfl⟩)))) (hb hby own_d_method_2_code_25) hr
        · show Q_rm_ex Z _ _ _ _ _ _ h0 n0 _ T6.heap _
          rw [e6]
          exact ⟨(congrArg some (by first | exact (own_kind_neg (by assumption)).symm | exact (own_kind_big (by assumption)).symm | exact (own_kind_out (by assumption) (by assumption) (by assumption)).symm | (subst_vars; rfl) | (simp [own_kind, *]))), N0, rfl⟩
      · skip
        refine Go.st (fun _ => XS.icmpYes X0.here hx rfl (pc0 := 19) (pc' := 26) rfl (hb hby own_d_method_2_code_19) rfl (feq hc5).2 (by decide) (by decide)) ?_
        show Go p.tables e below P (s₁.setTop (mkF m 26 #[.val (.int p0)] []))
        refine Go.st (fun _ => XS.aconstNull X0.here hx rfl (hb hby own_d_method_2_code_26)) ?_
        show Go p.tables e below P (s₁.setTop (mkF m 27 #[.val (.int p0)] [.null]))
        obtain ⟨fs, hr, hrun, hended, hW, hsame⟩ := X0.leave (v := some .null) (fun h => by rw [Bd.returns] at h; cases h)
        refine ⟨_, ?_, hPend _ _ hrun hended ⟨_, _, rfl, ?_, ⟨_, rfl⟩, hW, hsame.mono (by decide) (by decide)⟩⟩
        · exact retOut X0 hx (t := (.object "com/example/otsi/otsi/Descriptions$Kind")) Bd.returns rfl (Or.inr (Or.inr (Or.inr (Or.inr ⟨rfl, rfl, rfl⟩)))) (hb hby own_d_method_2_code_27) hr
        · show Q_rm_ex Z _ _ _ _ _ _ h0 n0 _ s₁.heap _
          rw [e0]
          exact ⟨(congrArg some (by first | exact (own_kind_neg (by assumption)).symm | exact (own_kind_big (by assumption)).symm | exact (own_kind_out (by assumption) (by assumption) (by assumption)).symm | (subst_vars; rfl) | (simp [own_kind, *]))), N0, rfl⟩
theorem own_ef_rm_law (m : MethodId) (x0 : Int32) (x1 : Int32) : entryFrame m #[(.int x0), (.int x1)] maxLocals = mkF m 0 #[.val (.int x0), .val (.int x1), .unset, .unset, .unset] [] := by first | (simp [entryFrame, mkF, argsToLocals, Value.category, maxLocals]; done) | rfl
theorem own_pd0 : parseMethodDescriptor "(I)Lcom/example/otsi/otsi/Descriptions$Kind;" = some ⟨[.int], some (.object "com/example/otsi/otsi/Descriptions$Kind")⟩ := by decide +kernel
def Q_rm_law (Z : State) (w_A : Addr) (w_B : Addr) (w_C : Addr) (w_ALL : Addr) (k_ALL : ClassId) (p0 : Int32) (p1 : Int32) (h0 : Heap) (n0 : Nat) (v : Option Value) (h : Heap) (L : List Loc) : Prop := v = some (.int (1 : Int32)) ∧ Fr n0 L ∧ h = h0
set_option maxRecDepth 65536 in
set_option maxHeartbeats 40000000 in
theorem rm_law (l : Launch) (Z : State) (a0 : Array Value) (hw : ∀ d ∈ tables_1, d.before a0 Z = true) (ws : List Jvm.Cond) (w_A : Addr) (S_A : Sta Z Z.heap "com/example/otsi/otsi/Descriptions$Kind" "IRI" "Lcom/example/otsi/otsi/Descriptions$Kind;" (.ref w_A)) (X_A : Exa Z Z.heap w_A "com/example/otsi/otsi/Descriptions$Kind") (w_B : Addr) (S_B : Sta Z Z.heap "com/example/otsi/otsi/Descriptions$Kind" "BLANK_NODE" "Lcom/example/otsi/otsi/Descriptions$Kind;" (.ref w_B)) (X_B : Exa Z Z.heap w_B "com/example/otsi/otsi/Descriptions$Kind") (w_C : Addr) (S_C : Sta Z Z.heap "com/example/otsi/otsi/Descriptions$Kind" "LITERAL" "Lcom/example/otsi/otsi/Descriptions$Kind;" (.ref w_C)) (X_C : Exa Z Z.heap w_C "com/example/otsi/otsi/Descriptions$Kind") (w_ALL : Addr) (k_ALL : ClassId) (S_ALL : Sta Z Z.heap "com/example/otsi/otsi/Descriptions$Kind" "ALL" "[Lcom/example/otsi/otsi/Descriptions$Kind;" (.ref w_ALL)) (V_ALL : Arv Z Z.heap w_ALL k_ALL (.object "com/example/otsi/otsi/Descriptions$Kind") (3 : Int32) [(.ref w_A), (.ref w_B), (.ref w_C)] .null) (p0 : Int32) (p1 : Int32) (h0 : Heap) (n0 : Nat) (X00 : Old Z n0 h0)  :
    MetFree l x (head1 (Jvm.Cond.code x code maxLocals ret :: ws) room_1) (fun a U => a = #[(.int p0), (.int p1)] ∧ Z.Warmed39 U.vm ∧ U.heap = h0) (fun _ _ _ _ _ => True) (fun _ U o U' => ∃ v L, o = .returned v ∧ Q_rm_law Z w_A w_B w_C w_ALL k_ALL p0 p1 h0 n0 v U'.heap L ∧ FrameEnd U o U' L 0 0) := by
  refine MetFree.of_bodySF (plainFor_of_name own_pn1) hisR ?_
  intro p e s m args below meth c s₁ Bd hml0 hP hK
  obtain ⟨rfl, hZ, hh⟩ := hP
  have hx := Bd.exec
  have hby := Bd.bytes
  have hml : c.maxLocals = 5 := hml0
  have hown : s.vm.findClass "com/example/otsi/otsi/KindOfPinLaw" = some m.cls := findClass_of_methodNamed Bd.named
  have hnm := (name_of_methodNamed Bd.named Bd.method).1
  have X0 : Stand p l e room_1 s m #[(.int p0), (.int p1)] below meth c s₁ [] 0 0 := Stand.of_body Bd
  have e0 : s₁.heap = h0 := by rw [← hh, Bd.state]; rfl
  have N0 := Fr.nil n0
  refine Go.start fun P hPend => ?_
  refine Go.st (fun _ k => castTop (own_ef_rm_law m p0 p1) k) ?_
  show Go p.tables e below P (s₁.setTop (mkF m 0 #[.val (.int p0), .val (.int p1), .unset, .unset, .unset] []))
  refine Go.st (fun _ => XS.iloadN X0.here hx rfl (hb hby at_0) rfl) ?_
  show Go p.tables e below P (s₁.setTop (mkF m 1 #[.val (.int p0), .val (.int p1), .unset, .unset, .unset] [(.int p1)]))
  refine Go.st (fun _ => XS.bipush X0.here hx rfl (hb hby at_1)) ?_
  show Go p.tables e below P (s₁.setTop (mkF m 3 #[.val (.int p0), .val (.int p1), .unset, .unset, .unset] [(.int (7 : Int32)), (.int p1)]))
  refine Go.st (fun _ => XS.iand X0.here hx rfl (hb hby at_3) rfl) ?_
  show Go p.tables e below P (s₁.setTop (mkF m 4 #[.val (.int p0), .val (.int p1), .unset, .unset, .unset] [(.int (p1 &&& (7 : Int32)))]))
  refine Go.st (fun _ => XS.iconst X0.here hx rfl (hb hby at_4)) ?_
  show Go p.tables e below P (s₁.setTop (mkF m 5 #[.val (.int p0), .val (.int p1), .unset, .unset, .unset] [(.int (3 : Int32)), (.int (p1 &&& (7 : Int32)))]))
  refine Go.st (fun _ => XS.isub X0.here hx rfl (hb hby at_5) rfl) ?_
  show Go p.tables e below P (s₁.setTop (mkF m 6 #[.val (.int p0), .val (.int p1), .unset, .unset, .unset] [(.int ((p1 &&& (7 : Int32)) - (3 : Int32)))]))
  refine Go.st (fun _ => XS.istoreN X0.here hx rfl (hb hby at_6) rfl (l' := #[.val (.int p0), .val (.int p1), .val (.int ((p1 &&& (7 : Int32)) - (3 : Int32))), .unset, .unset]) rfl) ?_
  show Go p.tables e below P (s₁.setTop (mkF m 7 #[.val (.int p0), .val (.int p1), .val (.int ((p1 &&& (7 : Int32)) - (3 : Int32))), .unset, .unset] []))
  refine Go.st (fun _ => XS.iloadN X0.here hx rfl (hb hby at_7) rfl) ?_
  show Go p.tables e below P (s₁.setTop (mkF m 8 #[.val (.int p0), .val (.int p1), .val (.int ((p1 &&& (7 : Int32)) - (3 : Int32))), .unset, .unset] [(.int p0)]))
  obtain ⟨_, _, ⟨T1, L1, k1, n1⟩, -, X1, ⟨Lc1, hQ1, l1, y1, z1⟩, st1⟩ := Jvm.LawKit.callS X0 hx (y := (⟨"com/example/otsi/otsi/Descriptions$Kind", "of", "(I)Lcom/example/otsi/otsi/Descriptions$Kind;"⟩ : MethodName)) hown (mvT hZ (hw _ (List.mem_of_getElem? (i := 0) rfl))) (mvT hZ (hw _ (List.mem_of_getElem? (i := 1) rfl))) (mvT hZ (hw _ (List.mem_of_getElem? (i := 2) rfl))) (mvT hZ (hw _ (List.mem_of_getElem? (i := 3) rfl))) (by decide) (backOf (W := 0) (rm_of l Z a0 hw [] w_A S_A X_A w_B S_B X_B w_C S_C X_C w_ALL k_ALL S_ALL V_ALL p0 h0 n0 X00 ) hZ (hw _ (List.mem_of_getElem? (i := 3) rfl)) (hw _ (List.mem_of_getElem? (i := 2) rfl)) (by decide) (by decide)) (g := (mkF m 8 #[.val (.int p0), .val (.int p1), .val (.int ((p1 &&& (7 : Int32)) - (3 : Int32))), .unset, .unset] [(.int p0)])) rfl (by rw [hml]; rfl) (argsL := [(.int p0)]) (rest := []) (lenOf own_pd0 rfl) rfl (by show 2 * 0 + _ ≤ _; exact Nat.le_of_eq rfl) (hb hby at_8) (fun _ _ => ⟨rfl, e0, (by decide : 0 + 0 ≤ _), (by decide : 0 + 0 ≤ _)⟩)
  dsimp only [Pt.U, Pt.locs, Pt.cells, Pt.slots] at X1 l1 y1 z1 st1 hQ1
  subst l1 y1 z1
  refine Go.st st1 ?_
  obtain ⟨R1, N1q, e1⟩ := hQ1
  have N1 := Fr.app N0 N1q
  subst R1
  show Go p.tables e below P (T1.setTop (mkF m 11 #[.val (.int p0), .val (.int p1), .val (.int ((p1 &&& (7 : Int32)) - (3 : Int32))), .unset, .unset] [(own_kind w_A w_B w_C p0)]))
  refine Go.st (fun _ => XS.astoreN X1.here hx rfl (hb hby at_11) rfl (own_kind_ref _ _ _ _) (l' := #[.val (.int p0), .val (.int p1), .val (.int ((p1 &&& (7 : Int32)) - (3 : Int32))), .val (own_kind w_A w_B w_C p0), .unset]) (by rcases own_refcase (v := (own_kind w_A w_B w_C p0)) (own_kind_ref _ _ _ _) with e0 | ⟨_, e0⟩ <;> rw [e0] <;> rfl)) ?_
  show Go p.tables e below P (T1.setTop (mkF m 12 #[.val (.int p0), .val (.int p1), .val (.int ((p1 &&& (7 : Int32)) - (3 : Int32))), .val (own_kind w_A w_B w_C p0), .unset] []))
  refine Go.st (fun _ => XS.iloadN X1.here hx rfl (hb hby at_12) rfl) ?_
  show Go p.tables e below P (T1.setTop (mkF m 13 #[.val (.int p0), .val (.int p1), .val (.int ((p1 &&& (7 : Int32)) - (3 : Int32))), .val (own_kind w_A w_B w_C p0), .unset] [(.int ((p1 &&& (7 : Int32)) - (3 : Int32)))]))
  obtain ⟨_, _, ⟨T2, L2, k2, n2⟩, -, X2, ⟨Lc2, hQ2, l2, y2, z2⟩, st2⟩ := Jvm.LawKit.callS X1 hx (y := (⟨"com/example/otsi/otsi/Descriptions$Kind", "of", "(I)Lcom/example/otsi/otsi/Descriptions$Kind;"⟩ : MethodName)) hown (mvT hZ (hw _ (List.mem_of_getElem? (i := 0) rfl))) (mvT hZ (hw _ (List.mem_of_getElem? (i := 1) rfl))) (mvT hZ (hw _ (List.mem_of_getElem? (i := 2) rfl))) (mvT hZ (hw _ (List.mem_of_getElem? (i := 3) rfl))) (by decide) (backOf (W := 0) (rm_of l Z a0 hw [] w_A S_A X_A w_B S_B X_B w_C S_C X_C w_ALL k_ALL S_ALL V_ALL ((p1 &&& (7 : Int32)) - (3 : Int32)) h0 n0 X00 ) hZ (hw _ (List.mem_of_getElem? (i := 3) rfl)) (hw _ (List.mem_of_getElem? (i := 2) rfl)) (by decide) (by decide)) (g := (mkF m 13 #[.val (.int p0), .val (.int p1), .val (.int ((p1 &&& (7 : Int32)) - (3 : Int32))), .val (own_kind w_A w_B w_C p0), .unset] [(.int ((p1 &&& (7 : Int32)) - (3 : Int32)))])) rfl (by rw [hml]; rfl) (argsL := [(.int ((p1 &&& (7 : Int32)) - (3 : Int32)))]) (rest := []) (lenOf own_pd0 rfl) rfl (by show 2 * 0 + _ ≤ _; exact Nat.le_of_eq rfl) (hb hby at_13) (fun _ _ => ⟨rfl, e1, (by decide : 0 + 0 ≤ _), (by decide : 0 + 0 ≤ _)⟩)
  dsimp only [Pt.U, Pt.locs, Pt.cells, Pt.slots] at X2 l2 y2 z2 st2 hQ2
  subst l2 y2 z2
  refine Go.st st2 ?_
  obtain ⟨R2, N2q, e2⟩ := hQ2
  have N2 := Fr.app N1 N2q
  subst R2
  show Go p.tables e below P (T2.setTop (mkF m 16 #[.val (.int p0), .val (.int p1), .val (.int ((p1 &&& (7 : Int32)) - (3 : Int32))), .val (own_kind w_A w_B w_C p0), .unset] [(own_kind w_A w_B w_C ((p1 &&& (7 : Int32)) - (3 : Int32)))]))
  refine Go.st (fun _ => XS.astore X2.here hx rfl (hb hby at_16) rfl (own_kind_ref _ _ _ _) (l' := #[.val (.int p0), .val (.int p1), .val (.int ((p1 &&& (7 : Int32)) - (3 : Int32))), .val (own_kind w_A w_B w_C p0), .val (own_kind w_A w_B w_C ((p1 &&& (7 : Int32)) - (3 : Int32)))]) (by rcases own_refcase (v := (own_kind w_A w_B w_C ((p1 &&& (7 : Int32)) - (3 : Int32)))) (own_kind_ref _ _ _ _) with e0 | ⟨_, e0⟩ <;> rw [e0] <;> rfl)) ?_
  show Go p.tables e below P (T2.setTop (mkF m 18 #[.val (.int p0), .val (.int p1), .val (.int ((p1 &&& (7 : Int32)) - (3 : Int32))), .val (own_kind w_A w_B w_C p0), .val (own_kind w_A w_B w_C ((p1 &&& (7 : Int32)) - (3 : Int32)))] []))
  refine Go.st (fun _ => XS.aloadN X2.here hx rfl (hb hby at_18) rfl (own_kind_ref _ _ _ _)) ?_
  show Go p.tables e below P (T2.setTop (mkF m 19 #[.val (.int p0), .val (.int p1), .val (.int ((p1 &&& (7 : Int32)) - (3 : Int32))), .val (own_kind w_A w_B w_C p0), .val (own_kind w_A w_B w_C ((p1 &&& (7 : Int32)) - (3 : Int32)))] [(own_kind w_A w_B w_C p0)]))
  refine Go.st (fun _ => XS.iloadN X2.here hx rfl (hb hby at_19) rfl) ?_
  show Go p.tables e below P (T2.setTop (mkF m 20 #[.val (.int p0), .val (.int p1), .val (.int ((p1 &&& (7 : Int32)) - (3 : Int32))), .val (own_kind w_A w_B w_C p0), .val (own_kind w_A w_B w_C ((p1 &&& (7 : Int32)) - (3 : Int32)))] [(.int p0), (own_kind w_A w_B w_C p0)]))
  obtain ⟨_, _, ⟨T3, L3, k3, n3⟩, -, X3, ⟨Lc3, hQ3, l3, y3, z3⟩, st3⟩ := Jvm.LawKit.callS X2 hx (y := (⟨"com/example/otsi/otsi/KindOfPinLaw", "expected", "(I)Lcom/example/otsi/otsi/Descriptions$Kind;"⟩ : MethodName)) hown (mvT hZ (hw _ (List.mem_of_getElem? (i := 7) rfl))) (mvT hZ (hw _ (List.mem_of_getElem? (i := 8) rfl))) (mvT hZ (hw _ (List.mem_of_getElem? (i := 9) rfl))) (mvT hZ (hw _ (List.mem_of_getElem? (i := 10) rfl))) (by decide) (backOf (W := 1) (rm_ex l Z a0 hw [] w_A S_A X_A w_B S_B X_B w_C S_C X_C w_ALL k_ALL S_ALL V_ALL p0 h0 n0 X00 ) hZ (hw _ (List.mem_of_getElem? (i := 10) rfl)) (hw _ (List.mem_of_getElem? (i := 9) rfl)) (by decide) (by decide)) (g := (mkF m 20 #[.val (.int p0), .val (.int p1), .val (.int ((p1 &&& (7 : Int32)) - (3 : Int32))), .val (own_kind w_A w_B w_C p0), .val (own_kind w_A w_B w_C ((p1 &&& (7 : Int32)) - (3 : Int32)))] [(.int p0), (own_kind w_A w_B w_C p0)])) rfl (by rw [hml]; rfl) (argsL := [(.int p0)]) (rest := [(own_kind w_A w_B w_C p0)]) (lenOf own_pd0 rfl) rfl (by rcases own_refcase (v := (own_kind w_A w_B w_C p0)) (own_kind_ref _ _ _ _) with e0 | ⟨_, e0⟩ <;> rw [e0] <;> (show 2 * 0 + _ ≤ _; exact Nat.le_of_eq rfl)) (hb hby at_20) (fun _ _ => ⟨rfl, e2, (by decide : 0 + 0 ≤ _), (by decide : 0 + 0 ≤ _)⟩)
  dsimp only [Pt.U, Pt.locs, Pt.cells, Pt.slots] at X3 l3 y3 z3 st3 hQ3
  subst l3 y3 z3
  refine Go.st st3 ?_
  obtain ⟨R3, N3q, e3⟩ := hQ3
  have N3 := Fr.app N2 N3q
  subst R3
  show Go p.tables e below P (T3.setTop (mkF m 23 #[.val (.int p0), .val (.int p1), .val (.int ((p1 &&& (7 : Int32)) - (3 : Int32))), .val (own_kind w_A w_B w_C p0), .val (own_kind w_A w_B w_C ((p1 &&& (7 : Int32)) - (3 : Int32)))] [(own_kind w_A w_B w_C p0), (own_kind w_A w_B w_C p0)]))
  refine Go.st (fun _ => Jvm.RoadKit.acmp (g := (mkF m 23 #[.val (.int p0), .val (.int p1), .val (.int ((p1 &&& (7 : Int32)) - (3 : Int32))), .val (own_kind w_A w_B w_C p0), .val (own_kind w_A w_B w_C ((p1 &&& (7 : Int32)) - (3 : Int32)))] [(own_kind w_A w_B w_C p0), (own_kind w_A w_B w_C p0)])) X3 hx rfl (own_kind_ref _ _ _ _) (own_kind_ref _ _ _ _) (pc0 := 23) (pc' := 26) (same := true) rfl (hb hby at_23) rfl (decide_eq_true rfl) (by decide) (by decide)) ?_
  show Go p.tables e below P (T3.setTop (mkF m 26 #[.val (.int p0), .val (.int p1), .val (.int ((p1 &&& (7 : Int32)) - (3 : Int32))), .val (own_kind w_A w_B w_C p0), .val (own_kind w_A w_B w_C ((p1 &&& (7 : Int32)) - (3 : Int32)))] []))
  refine Go.st (fun _ => XS.aload X3.here hx rfl (hb hby at_26) rfl (own_kind_ref _ _ _ _)) ?_
  show Go p.tables e below P (T3.setTop (mkF m 28 #[.val (.int p0), .val (.int p1), .val (.int ((p1 &&& (7 : Int32)) - (3 : Int32))), .val (own_kind w_A w_B w_C p0), .val (own_kind w_A w_B w_C ((p1 &&& (7 : Int32)) - (3 : Int32)))] [(own_kind w_A w_B w_C ((p1 &&& (7 : Int32)) - (3 : Int32)))]))
  refine Go.st (fun _ => XS.iloadN X3.here hx rfl (hb hby at_28) rfl) ?_
  show Go p.tables e below P (T3.setTop (mkF m 29 #[.val (.int p0), .val (.int p1), .val (.int ((p1 &&& (7 : Int32)) - (3 : Int32))), .val (own_kind w_A w_B w_C p0), .val (own_kind w_A w_B w_C ((p1 &&& (7 : Int32)) - (3 : Int32)))] [(.int ((p1 &&& (7 : Int32)) - (3 : Int32))), (own_kind w_A w_B w_C ((p1 &&& (7 : Int32)) - (3 : Int32)))]))
  obtain ⟨_, _, ⟨T4, L4, k4, n4⟩, -, X4, ⟨Lc4, hQ4, l4, y4, z4⟩, st4⟩ := Jvm.LawKit.callS X3 hx (y := (⟨"com/example/otsi/otsi/KindOfPinLaw", "expected", "(I)Lcom/example/otsi/otsi/Descriptions$Kind;"⟩ : MethodName)) hown (mvT hZ (hw _ (List.mem_of_getElem? (i := 7) rfl))) (mvT hZ (hw _ (List.mem_of_getElem? (i := 8) rfl))) (mvT hZ (hw _ (List.mem_of_getElem? (i := 9) rfl))) (mvT hZ (hw _ (List.mem_of_getElem? (i := 10) rfl))) (by decide) (backOf (W := 1) (rm_ex l Z a0 hw [] w_A S_A X_A w_B S_B X_B w_C S_C X_C w_ALL k_ALL S_ALL V_ALL ((p1 &&& (7 : Int32)) - (3 : Int32)) h0 n0 X00 ) hZ (hw _ (List.mem_of_getElem? (i := 10) rfl)) (hw _ (List.mem_of_getElem? (i := 9) rfl)) (by decide) (by decide)) (g := (mkF m 29 #[.val (.int p0), .val (.int p1), .val (.int ((p1 &&& (7 : Int32)) - (3 : Int32))), .val (own_kind w_A w_B w_C p0), .val (own_kind w_A w_B w_C ((p1 &&& (7 : Int32)) - (3 : Int32)))] [(.int ((p1 &&& (7 : Int32)) - (3 : Int32))), (own_kind w_A w_B w_C ((p1 &&& (7 : Int32)) - (3 : Int32)))])) rfl (by rw [hml]; rfl) (argsL := [(.int ((p1 &&& (7 : Int32)) - (3 : Int32)))]) (rest := [(own_kind w_A w_B w_C ((p1 &&& (7 : Int32)) - (3 : Int32)))]) (lenOf own_pd0 rfl) rfl (by rcases own_refcase (v := (own_kind w_A w_B w_C ((p1 &&& (7 : Int32)) - (3 : Int32)))) (own_kind_ref _ _ _ _) with e0 | ⟨_, e0⟩ <;> rw [e0] <;> (show 2 * 0 + _ ≤ _; exact Nat.le_of_eq rfl)) (hb hby at_29) (fun _ _ => ⟨rfl, e3, (by decide : 0 + 0 ≤ _), (by decide : 0 + 0 ≤ _)⟩)
  dsimp only [Pt.U, Pt.locs, Pt.cells, Pt.slots] at X4 l4 y4 z4 st4 hQ4
  subst l4 y4 z4
  refine Go.st st4 ?_
  obtain ⟨R4, N4q, e4⟩ := hQ4
  have N4 := Fr.app N3 N4q
  subst R4
  show Go p.tables e below P (T4.setTop (mkF m 32 #[.val (.int p0), .val (.int p1), .val (.int ((p1 &&& (7 : Int32)) - (3 : Int32))), .val (own_kind w_A w_B w_C p0), .val (own_kind w_A w_B w_C ((p1 &&& (7 : Int32)) - (3 : Int32)))] [(own_kind w_A w_B w_C ((p1 &&& (7 : Int32)) - (3 : Int32))), (own_kind w_A w_B w_C ((p1 &&& (7 : Int32)) - (3 : Int32)))]))
  refine Go.st (fun _ => Jvm.RoadKit.acmp (g := (mkF m 32 #[.val (.int p0), .val (.int p1), .val (.int ((p1 &&& (7 : Int32)) - (3 : Int32))), .val (own_kind w_A w_B w_C p0), .val (own_kind w_A w_B w_C ((p1 &&& (7 : Int32)) - (3 : Int32)))] [(own_kind w_A w_B w_C ((p1 &&& (7 : Int32)) - (3 : Int32))), (own_kind w_A w_B w_C ((p1 &&& (7 : Int32)) - (3 : Int32)))])) X4 hx rfl (own_kind_ref _ _ _ _) (own_kind_ref _ _ _ _) (pc0 := 32) (pc' := 35) (same := true) rfl (hb hby at_32) rfl (decide_eq_true rfl) (by decide) (by decide)) ?_
  show Go p.tables e below P (T4.setTop (mkF m 35 #[.val (.int p0), .val (.int p1), .val (.int ((p1 &&& (7 : Int32)) - (3 : Int32))), .val (own_kind w_A w_B w_C p0), .val (own_kind w_A w_B w_C ((p1 &&& (7 : Int32)) - (3 : Int32)))] []))
  refine Go.st (fun _ => XS.iconst X4.here hx rfl (hb hby at_35)) ?_
  show Go p.tables e below P (T4.setTop (mkF m 36 #[.val (.int p0), .val (.int p1), .val (.int ((p1 &&& (7 : Int32)) - (3 : Int32))), .val (own_kind w_A w_B w_C p0), .val (own_kind w_A w_B w_C ((p1 &&& (7 : Int32)) - (3 : Int32)))] [(.int (1 : Int32))]))
  refine Go.st (fun _ => XS.goto X4.here hx rfl (pc0 := 36) (pc' := 40) rfl (hb hby at_36) (by decide) (by decide)) ?_
  show Go p.tables e below P (T4.setTop (mkF m 40 #[.val (.int p0), .val (.int p1), .val (.int ((p1 &&& (7 : Int32)) - (3 : Int32))), .val (own_kind w_A w_B w_C p0), .val (own_kind w_A w_B w_C ((p1 &&& (7 : Int32)) - (3 : Int32)))] [(.int (1 : Int32))]))
  obtain ⟨fs, hr, hrun, hended, hW, hsame⟩ := X4.leave (v := some (.int (1 : Int32))) (fun h => by rw [Bd.returns] at h; cases h)
  refine ⟨_, ?_, hPend _ _ hrun hended ⟨_, _, rfl, ?_, ⟨_, rfl⟩, hW, hsame.mono (by decide) (by decide)⟩⟩
  · exact retN X4 hx (t := .boolean) Bd.returns (by simp) (hb hby at_40) hr
  · show Q_rm_law Z _ _ _ _ _ _ _ h0 n0 _ T4.heap _
    rw [e4]
    exact ⟨rfl, N4, rfl⟩
set_option maxRecDepth 65536 in
set_option maxHeartbeats 40000000 in
theorem comes_1 {Post : Tables → Env → Array Value → State → Outcome → State → Prop} (hpost : ∀ tb e args s v u, (limb_1_1.after args s (.returned v) u = true ∧ limb_1_2.after args s (.returned v) u = true ∧ True) → FrameEnd s (.returned v) u (Jvm.fieldLocs frame_1_writes args s ++ Jvm.arrayLocs frame_1_arrays args s ++ Jvm.staticLocs frame_1_statics s) 0 0 → Post tb e args s (.returned v) u) :
    ArmFor flags0 classFile x code maxLocals ret World_1 tables_1 room_1 Calls_1 rest_1 Pre_1 Post := by
  intro l hfl _ _ p e ha hc hk s m args below hf hA hF happ hP
  obtain ⟨hcalls, hrest, hpre⟩ := hP
  obtain ⟨-, -, -, hnamed, -, -, -, hat⟩ := (Spec.applies_iff hf).mp happ
  obtain ⟨hg, hn⟩ := and_e (Cond.before_iff.mp (show (Jvm.Cond.and given_1 narrow_1).before args s = true from hpre))
  obtain ⟨hc_1, hc_2⟩ := and_e hg
  obtain ⟨hc_3, hc_4⟩ := and_e hc_2
  obtain ⟨w0, w1, rfl⟩ : ∃ w0 w1 : Value, args = #[w0, w1] := by
    have hs : args.size = 2 := by simpa [Cond.value, given_1] using hc_1
    obtain ⟨L⟩ := args
    match L, hs with
    | [w0, w1], _ => exact ⟨w0, w1, rfl⟩
  have hw := fun d (hd : d ∈ tables_1) => atoms_spec (ws := Jvm.Cond.code x code maxLocals ret :: tables_1) hat d (List.mem_cons_of_mem _ hd)
  have hfit : Fit s := fun {y c} hc i hi => by
    obtain ⟨ha, rfl⟩ := Array.getElem?_eq_some_iff.mp hc
    have q := List.all_eq_true.mp ((Array.all_eq_true_iff_forall_mem.mp hF) _ (Array.getElem_mem ha)) i (List.mem_range.mpr hi)
    simpa [Array.getElem?_eq_getElem hi] using q
  obtain ⟨i0, ea0⟩ := is_v hc_3
  obtain rfl : w0 = (.int i0) := Option.some.inj ea0
  obtain ⟨i1, ea1⟩ := is_v hc_4
  obtain rfl : w1 = (.int i1) := Option.some.inj ea1
  obtain ⟨hc_5, hc_6⟩ := and_e hn
  obtain ⟨hc_7, hc_8⟩ := and_e hc_6
  obtain ⟨hc_9, hc_10⟩ := and_e hc_8
  obtain ⟨hc_11, hc_12⟩ := and_e hc_10
  obtain ⟨hc_13, hc_14⟩ := and_e hc_12
  obtain ⟨hc_15, hc_16⟩ := and_e hc_14
  obtain ⟨hc_17, hc_18⟩ := and_e hc_16
  obtain ⟨w_A, ev_A⟩ := exa_v hc_9
  have S_A := Sta.start ev_A (Or.inr ⟨(hw _ (List.mem_of_getElem? (i := 2) rfl)), (hw _ (List.mem_of_getElem? (i := 6) rfl))⟩)
  have X_A := Exa.start ev_A hc_9
  obtain ⟨w_B, ev_B⟩ := exa_v hc_13
  have S_B := Sta.start ev_B (Or.inr ⟨(hw _ (List.mem_of_getElem? (i := 2) rfl)), (hw _ (List.mem_of_getElem? (i := 12) rfl))⟩)
  have X_B := Exa.start ev_B hc_13
  obtain ⟨w_C, ev_C⟩ := exa_v hc_17
  have S_C := Sta.start ev_C (Or.inr ⟨(hw _ (List.mem_of_getElem? (i := 2) rfl)), (hw _ (List.mem_of_getElem? (i := 14) rfl))⟩)
  have X_C := Exa.start ev_C hc_17
  obtain ⟨w_ALL, ev_ALL⟩ := arr_v hc_5
  have S_ALL := Sta.start ev_ALL (Or.inr ⟨(hw _ (List.mem_of_getElem? (i := 2) rfl)), (hw _ (List.mem_of_getElem? (i := 5) rfl))⟩)
  obtain ⟨cl, A_ALL⟩ := Arr.start ev_ALL hc_5
  obtain ⟨hsz, hln⟩ := own_len_start (eqv_i (Term.int_eval (3)) hc_7) ev_ALL A_ALL.1
  have el0 := (elem_in (own_eq_ref ev_A hc_11) ev_ALL (Term.int_eval (0)) A_ALL.1).2
  have el1 := (elem_in (own_eq_ref ev_B hc_15) ev_ALL (Term.int_eval (1)) A_ALL.1).2
  have el2 := (elem_in (own_eq_ref ev_C hc_18) ev_ALL (Term.int_eval (2)) A_ALL.1).2
  have V_ALL := Arv.start (vs := [(.ref w_A), (.ref w_B), (.ref w_C)]) (dv := .null) hfit A_ALL hsz hln (by decide) rfl ⟨el0, el1, el2, trivial⟩
  obtain ⟨n, o, h1, h2, h3, _, L, rfl, ⟨rfl, N, _⟩, hq⟩ := rm_law l s _ hw tables_1 w_A S_A X_A w_B S_B X_B w_C S_C X_C w_ALL _ S_ALL V_ALL i0 i1 s.heap s.heap.size (Old.start s) p e ha hc hk s m _ below hf ((Spec.applies_iff_loose hf).mp happ).1 ⟨rfl, State.Warmed39.refl s, rfl⟩ trivial
  refine ⟨n, _, h1, h2, h3, hpost _ _ _ _ _ _ ⟨Cond.after_iff.mpr rfl, Cond.after_iff.mpr (eq_i res_at (Term.int_eval (1)) rfl), trivial⟩ ⟨hq.1, hq.2.1, (hq.2.2.sift fun y hy => Or.inr (N y hy)).mono (by decide) (by decide)⟩⟩
theorem main_1_1 : Claimed_1_1 := comes_1 fun _ _ _ _ _ _ h hF => ⟨h.1, hF⟩
theorem main_1_2 : Claimed_1_2 := comes_1 fun _ _ _ _ _ _ h hF => ⟨h.2.1, hF⟩
end Jvm.Pilot.@@N@@
namespace Jvm.Pilot.@@N@@
open Jvm Jvm.ClassFile Sem Op Lib Jvm.Free Jvm.Stand Jvm.Pilot.@@N@@.Jvm.D
/-! MADE BY PROGRAM (witnessworld.py) out of the Statement's table words and the real class files: 11 classes; the members and pool entries that the words name. The judged class is class 1, her method 2. -/
namespace start1
open Jvm.ClassFile
def u (s : String) : CpInfo := .utf8 (stringToUtf16 s)
/-- a pool by its gaps: so many unusable entries, then the entry; so many at the end -/
def gap : Nat → List CpInfo → List CpInfo
  | 0, r => r
  | n + 1, r => .unusable :: gap n r
def poolList (es : List (Nat × CpInfo)) (last : Nat) : List CpInfo := es.foldr (fun e r => gap e.1 (e.2 :: r)) (gap last [])
def pool (es : List (Nat × CpInfo)) (last : Nat) : Array CpInfo := ⟨poolList es last⟩
def fileOf (pool : Array CpInfo) (this : Nat) (attrs : Array Attribute := #[]) (ms : Array MethodInfo := #[]) (fl : Nat := 33) (sup : Nat := 0) (ifs : Array Nat := #[]) (fds : Array FieldInfo := #[]) : ClassFile where
  minorVersion := 0
  majorVersion := 65
  constantPool := pool
  accessFlags := fl
  thisClass := this
  superClass := sup
  interfaces := ifs
  fields := fds
  methods := ms
  attributes := attrs
def plain (name : String) (sup : Option ClassId) : Class where
  name := name
  kind := .ordinary
  loader := none
  accessFlags := 33
  super := sup
  interfaces := #[]
  cf := none
  fields := #[]
  methods := #[]
  instanceTypes := #[]
  staticTypes := #[]
  resolved := #[]
  callSites := []
  init := .initialized
  statics := none
  mirror := none

def pool0 : Array CpInfo := pool [(5, u "<init>"), (0, u "()V"), (1, .class_ 10), (1, u "java/lang/Object")] 113

def k0m0 : Method := { name := "<init>", desc := "()V", sig := { parameters := [], returnType := none }, accessFlags := 1, code := none }
/-- java/lang/Object -/
def k0 : Class := { plain "java/lang/Object" none with
  accessFlags := 33
  interfaces := #[]
  cf := some (fileOf pool0 8 #[] #[{ accessFlags := 1, nameIndex := 5, descriptorIndex := 6, attributes := #[] }] 33 0 #[] #[])
  fields := #[]
  methods := #[k0m0]
  instanceTypes := #[]
  staticTypes := #[]
  resolved := Array.replicate 124 none
  statics := none }

def pool1 : Array CpInfo := pool [(2, .class_ 4), (1, u "java/lang/Object"), (0, u "<init>"), (0, u "()V"), (0, .fieldref 8 9), (0, .class_ 10), (0, .nameAndType 11 12), (0, u "com/example/otsi/otsi/Descriptions$Kind"), (0, u "IRI"), (0, u "Lcom/example/otsi/otsi/Descriptions$Kind;"), (0, .fieldref 8 14), (0, .nameAndType 15 12), (0, u "BLANK_NODE"), (0, .fieldref 8 17), (0, .nameAndType 18 12), (0, u "LITERAL"), (0, .methodref 8 20), (0, .nameAndType 21 22), (0, u "of"), (0, u "(I)Lcom/example/otsi/otsi/Descriptions$Kind;"), (0, .methodref 24 25), (0, .class_ 26), (0, .nameAndType 27 22), (0, u "com/example/otsi/otsi/KindOfPinLaw"), (0, u "expected"), (3, u "law"), (0, u "(II)Z")] 6

def k1m0 : Method := { name := "<init>", desc := "()V", sig := { parameters := [], returnType := none }, accessFlags := 1, code := none }
def k1c1 : Code := { maxStack := 2, maxLocals := 1, code := method_2_code, exceptionTable := #[], attributes := #[] }
def k1m1 : Method := { name := "expected", desc := "(I)Lcom/example/otsi/otsi/Descriptions$Kind;", sig := { parameters := [.int], returnType := some (.object "com/example/otsi/otsi/Descriptions$Kind") }, accessFlags := 10, code := some k1c1 }
def k1c2 : Code := { maxStack := 2, maxLocals := 5, code := code, exceptionTable := #[], attributes := #[] }
def k1m2 : Method := { name := "law", desc := "(II)Z", sig := { parameters := [.int, .int], returnType := some .boolean }, accessFlags := 9, code := some k1c2 }
/-- com/example/otsi/otsi/KindOfPinLaw -/
def k1 : Class := { plain "com/example/otsi/otsi/KindOfPinLaw" (some 0) with
  accessFlags := 49
  interfaces := #[]
  cf := some (fileOf pool1 24 #[] #[{ accessFlags := 1, nameIndex := 5, descriptorIndex := 6, attributes := #[] }, { accessFlags := 10, nameIndex := 27, descriptorIndex := 22, attributes := #[] }, { accessFlags := 9, nameIndex := 31, descriptorIndex := 32, attributes := #[] }] 49 2 #[] #[])
  fields := #[]
  methods := #[k1m0, k1m1, k1m2]
  instanceTypes := #[]
  staticTypes := #[]
  resolved := Array.replicate 39 none
  statics := none }

def pool2 : Array CpInfo := pool [(1, .class_ 2), (0, u "java/lang/constant/Constable"), (0, .class_ 4), (0, u "java/lang/Object")] 6

/-- java/lang/constant/Constable -/
def k2 : Class := { plain "java/lang/constant/Constable" (some 0) with
  accessFlags := 1537
  interfaces := #[]
  cf := some (fileOf pool2 1 #[] #[] 1537 3 #[] #[])
  fields := #[]
  methods := #[]
  instanceTypes := #[]
  staticTypes := #[]
  resolved := Array.replicate 11 none
  statics := none }

def pool3 : Array CpInfo := pool [(1, .class_ 2), (0, u "java/lang/Comparable"), (0, .class_ 4), (0, u "java/lang/Object")] 7

/-- java/lang/Comparable -/
def k3 : Class := { plain "java/lang/Comparable" (some 0) with
  accessFlags := 1537
  interfaces := #[]
  cf := some (fileOf pool3 1 #[] #[] 1537 3 #[] #[])
  fields := #[]
  methods := #[]
  instanceTypes := #[]
  staticTypes := #[]
  resolved := Array.replicate 12 none
  statics := none }

def pool4 : Array CpInfo := pool [(1, .class_ 2), (0, u "java/io/Serializable"), (0, .class_ 4), (0, u "java/lang/Object")] 2

/-- java/io/Serializable -/
def k4 : Class := { plain "java/io/Serializable" (some 0) with
  accessFlags := 1537
  interfaces := #[]
  cf := some (fileOf pool4 1 #[] #[] 1537 3 #[] #[])
  fields := #[]
  methods := #[]
  instanceTypes := #[]
  staticTypes := #[]
  resolved := Array.replicate 7 none
  statics := none }

def pool5 : Array CpInfo := pool [(2, .class_ 4), (1, u "java/lang/Enum"), (0, u "name"), (0, u "Ljava/lang/String;"), (2, u "ordinal"), (0, u "I"), (1, .class_ 14), (1, u "java/lang/Object"), (4, u "hash"), (86, .class_ 108), (1, u "java/lang/Enum$EnumDesc"), (2, .class_ 112), (0, u "java/lang/constant/Constable"), (0, .class_ 114), (0, u "java/lang/Comparable"), (0, .class_ 116), (0, u "java/io/Serializable")] 87

/-- java/lang/Enum -/
def k5 : Class := { plain "java/lang/Enum" (some 0) with
  accessFlags := 1057
  interfaces := #[2, 3, 4]
  cf := some (fileOf pool5 2 #[.nestMembers #[106]] #[] 1057 12 #[111, 113, 115] #[{ accessFlags := 18, nameIndex := 5, descriptorIndex := 6, attributes := #[] }, { accessFlags := 18, nameIndex := 9, descriptorIndex := 10, attributes := #[] }, { accessFlags := 2, nameIndex := 19, descriptorIndex := 10, attributes := #[] }])
  fields := #[{ name := "name", type := (.object "java/lang/String"), accessFlags := 18, slot := 0, constantValue := 0 }, { name := "ordinal", type := .int, accessFlags := 18, slot := 1, constantValue := 0 }, { name := "hash", type := .int, accessFlags := 2, slot := 2, constantValue := 0 }]
  methods := #[]
  instanceTypes := #[(.object "java/lang/String"), .int, .int]
  staticTypes := #[]
  resolved := Array.replicate 204 none
  statics := none }

def pool6 : Array CpInfo := pool [(1, .class_ 2), (0, u "com/example/otsi/otsi/Descriptions$Kind"), (2, u "IRI"), (0, u "Lcom/example/otsi/otsi/Descriptions$Kind;"), (2, u "BLANK_NODE"), (2, u "LITERAL"), (2, u "$VALUES"), (0, u "[Lcom/example/otsi/otsi/Descriptions$Kind;"), (6, .class_ 25), (1, u "java/lang/Enum"), (6, .fieldref 1 33), (0, .nameAndType 34 16), (0, u "ALL"), (17, u "of"), (0, u "(I)Lcom/example/otsi/otsi/Descriptions$Kind;"), (6, .class_ 61), (0, u "com/example/otsi/otsi/Descriptions")] 2

def k6c0 : Code := { maxStack := 2, maxLocals := 1, code := prog_6_method_4_code, exceptionTable := #[], attributes := #[] }
def k6m0 : Method := { name := "of", desc := "(I)Lcom/example/otsi/otsi/Descriptions$Kind;", sig := { parameters := [.int], returnType := some (.object "com/example/otsi/otsi/Descriptions$Kind") }, accessFlags := 8, code := some k6c0 }
/-- com/example/otsi/otsi/Descriptions$Kind -/
def k6 : Class := { plain "com/example/otsi/otsi/Descriptions$Kind" (some 5) with
  accessFlags := 16432
  interfaces := #[]
  cf := some (fileOf pool6 1 #[.nestHost 60] #[{ accessFlags := 8, nameIndex := 52, descriptorIndex := 53, attributes := #[] }] 16432 23 #[] #[{ accessFlags := 16409, nameIndex := 5, descriptorIndex := 6, attributes := #[] }, { accessFlags := 16409, nameIndex := 9, descriptorIndex := 6, attributes := #[] }, { accessFlags := 16409, nameIndex := 12, descriptorIndex := 6, attributes := #[] }, { accessFlags := 26, nameIndex := 34, descriptorIndex := 16, attributes := #[] }, { accessFlags := 4122, nameIndex := 15, descriptorIndex := 16, attributes := #[] }])
  fields := #[{ name := "IRI", type := (.object "com/example/otsi/otsi/Descriptions$Kind"), accessFlags := 16409, slot := 0, constantValue := 0 }, { name := "BLANK_NODE", type := (.object "com/example/otsi/otsi/Descriptions$Kind"), accessFlags := 16409, slot := 1, constantValue := 0 }, { name := "LITERAL", type := (.object "com/example/otsi/otsi/Descriptions$Kind"), accessFlags := 16409, slot := 2, constantValue := 0 }, { name := "ALL", type := (.array (.object "com/example/otsi/otsi/Descriptions$Kind")), accessFlags := 26, slot := 3, constantValue := 0 }, { name := "$VALUES", type := (.array (.object "com/example/otsi/otsi/Descriptions$Kind")), accessFlags := 4122, slot := 4, constantValue := 0 }]
  methods := #[k6m0]
  instanceTypes := #[(.object "java/lang/String"), .int, .int]
  staticTypes := #[(.object "com/example/otsi/otsi/Descriptions$Kind"), (.object "com/example/otsi/otsi/Descriptions$Kind"), (.object "com/example/otsi/otsi/Descriptions$Kind"), (.array (.object "com/example/otsi/otsi/Descriptions$Kind")), (.array (.object "com/example/otsi/otsi/Descriptions$Kind"))]
  resolved := Array.replicate 64 none
  statics := some 0 }

def pool7 : Array CpInfo := pool [(1, u "java/lang/Cloneable"), (0, .class_ 1), (0, u "java/lang/Object"), (0, .class_ 3)] 3

/-- java/lang/Cloneable -/
def k7 : Class := { plain "java/lang/Cloneable" (some 0) with
  accessFlags := 1537
  interfaces := #[]
  cf := some (fileOf pool7 2 #[] #[] 1537 4 #[] #[])
  fields := #[]
  methods := #[]
  instanceTypes := #[]
  staticTypes := #[]
  resolved := Array.replicate 8 none
  statics := none }

/-- the primitive byte -/
def k8 : Class := { plain "byte" none with kind := .primitive 'B', accessFlags := 0x411 }
/-- [B -/
def k9 : Class := { plain "[B" (some 0) with kind := .array 8 .byte, interfaces := #[7, 4], accessFlags := 1041 }

/-- [Lcom/example/otsi/otsi/Descriptions$Kind; -/
def k10 : Class := { plain "[Lcom/example/otsi/otsi/Descriptions$Kind;" (some 0) with kind := .array 6 (.object "com/example/otsi/otsi/Descriptions$Kind"), interfaces := #[7, 4], accessFlags := 1041 }

def heap : Heap := #[{ cls := 6, slots := #[.ref 3, .ref 2, .ref 4, .ref 1, .null], vm := .statics 6 },
  { cls := 10, slots := #[.ref 3, .ref 2, .ref 4], vm := .none },
  { cls := 6, slots := #[.null, .int 0, .int 0], vm := .none },
  { cls := 6, slots := #[.null, .int 0, .int 0], vm := .none },
  { cls := 6, slots := #[.null, .int 0, .int 0], vm := .none }]
def classes : Array Class := #[k0, k1, k2, k3, k4, k5, k6, k7, k8, k9, k10]
def interned : List (Array UInt16 × Addr) := []
def slotsUsed : Nat := 17
def theMethod : MethodId := ⟨1, 2⟩
def args0 : Array Value := #[.int 5, .int 6]
def aboutOver (below : List Frame) : State where
  vm := { classes := classes, interned := interned.toArray }
  heap := heap
  slotsUsed := slotsUsed
  threads := #[{ frames := .invoking theMethod args0 :: below }]
def below0 : List Frame := [.native { method := ⟨0, 0⟩, args := #[] }]
def about1 : State := aboutOver below0
def p0 : Program := .bare "" "" ""
def e0 : Env := launch0.env 0 0 0
theorem w_frames : about1.frames = Frame.invoking theMethod args0 :: below0 := rfl
set_option maxRecDepth 65536 in
theorem w_args : argsFit about1.vm theMethod args0 = true := by decide +kernel
set_option maxRecDepth 65536 in
theorem w_heap : heapFits about1 = true := by decide +kernel
set_option maxRecDepth 65536 in
theorem w_runnable : about1.curStatus? = some .runnable := by decide +kernel
set_option maxRecDepth 65536 in
theorem w_alone : about1.alone = true := by decide +kernel
set_option maxRecDepth 65536 in
theorem w_named : about1.methodNamed? x = some theMethod := by decide +kernel
set_option maxRecDepth 65536 in
theorem w_hears : about1.hears theMethod below0 = true := by decide +kernel
set_option maxRecDepth 65536 in
theorem w_ripe : about1.ripe theMethod args0 below0 = true := by decide +kernel
theorem w_running : about1.status = .running := rfl
set_option maxRecDepth 65536 in
theorem w_room : about1.hasRoom e0.platform room_1 = true :=
  launch0.hasRoom_least _ room_1 (by decide +kernel) (by decide +kernel) (by decide +kernel) (by decide +kernel) (by decide +kernel) (by decide +kernel)
theorem allAtoms_all (ts : List Jvm.Cond) (a : Array Jvm.Value) (st : Jvm.State) : (allAtoms ts).before a st = ts.all (fun c => c.before a st) := by
  induction ts with
  | nil => rfl
  | cons c t ih =>
    show (Jvm.Cond.and c (allAtoms t)).before a st = _
    rw [Jvm.Cond.before_and, ih, List.all_cons]
def words1 : List Jvm.Cond := Jvm.Cond.code x code maxLocals ret :: tables_1
/-- a 'code' word, met by the world's own term for the bytes: nothing is compared byte by byte -/
theorem code_word {y : MethodName} {bytes : ByteArray} {mx : Nat} {rt : Option FieldType} {a : Array Value} {s : State} {m : MethodId} {meth : Method} {c : Code} (h1 : s.methodNamed? y = some m) (h2 : s.vm.method? m = some meth) (h3 : meth.code = some c) (h4 : c.code = bytes)
    (h5 : (c.maxLocals == mx && c.exceptionTable.isEmpty && decide (c.maxStack ≤ mostOperands) && decide (meth.sig.returnType = rt) && !meth.locks && decide (parseMethodDescriptor y.desc = some meth.sig)) = true) : (Jvm.Cond.code y bytes mx rt).before a s = true := by
  simp only [Bool.and_eq_true, beq_iff_eq, Bool.not_eq_true', decide_eq_true_eq] at h5
  obtain ⟨⟨⟨⟨⟨g1, g2⟩, g3⟩, g4⟩, g5⟩, g6⟩ := h5
  simp [Cond.before, Cond.holds, Cond.value, h1, h2, h3, h4, g1, g2, g3, g4, g5, g6]
def isCode : Jvm.Cond → Bool
  | .code _ _ _ _ => true
  | _ => false
theorem all_split {L : List Jvm.Cond} {P : Jvm.Cond → Bool} (h1 : L.all (fun c => isCode c || P c) = true) (h2 : ∀ c ∈ L.filter isCode, P c = true) : L.all P = true := by
  refine List.all_eq_true.mpr fun c hc => ?_
  have h := List.all_eq_true.mp h1 c hc
  rcases Bool.eq_false_or_eq_true (isCode c) with hi | hi
  · exact h2 c (List.mem_filter.mpr ⟨hc, hi⟩)
  · simpa [hi] using h
set_option maxRecDepth 65536 in
theorem w_c0 : (Jvm.Cond.code x code maxLocals ret).before args0 about1 = true := code_word (m := ⟨1, 2⟩) (meth := k1m2) (c := k1c2) (by decide +kernel) rfl rfl rfl (by decide +kernel)
set_option maxRecDepth 65536 in
theorem w_c1 : (Jvm.Cond.code ({ cls := "com/example/otsi/otsi/Descriptions$Kind", name := "of", desc := "(I)Lcom/example/otsi/otsi/Descriptions$Kind;" } : Jvm.MethodName) prog_6_method_4_code (1 : Nat) (Option.some (Jvm.ClassFile.FieldType.object "com/example/otsi/otsi/Descriptions$Kind"))).before args0 about1 = true := code_word (m := ⟨6, 0⟩) (meth := k6m0) (c := k6c0) (by decide +kernel) rfl rfl rfl (by decide +kernel)
set_option maxRecDepth 65536 in
theorem w_c2 : (Jvm.Cond.code ({ cls := "com/example/otsi/otsi/KindOfPinLaw", name := "expected", desc := "(I)Lcom/example/otsi/otsi/Descriptions$Kind;" } : Jvm.MethodName) method_2_code (1 : Nat) (Option.some (Jvm.ClassFile.FieldType.object "com/example/otsi/otsi/Descriptions$Kind"))).before args0 about1 = true := code_word (m := ⟨1, 1⟩) (meth := k1m1) (c := k1c1) (by decide +kernel) rfl rfl rfl (by decide +kernel)
def codes1 : List Jvm.Cond := [Jvm.Cond.code x code maxLocals ret, Jvm.Cond.code ({ cls := "com/example/otsi/otsi/Descriptions$Kind", name := "of", desc := "(I)Lcom/example/otsi/otsi/Descriptions$Kind;" } : Jvm.MethodName) prog_6_method_4_code (1 : Nat) (Option.some (Jvm.ClassFile.FieldType.object "com/example/otsi/otsi/Descriptions$Kind")), Jvm.Cond.code ({ cls := "com/example/otsi/otsi/KindOfPinLaw", name := "expected", desc := "(I)Lcom/example/otsi/otsi/Descriptions$Kind;" } : Jvm.MethodName) method_2_code (1 : Nat) (Option.some (Jvm.ClassFile.FieldType.object "com/example/otsi/otsi/Descriptions$Kind"))]
set_option maxRecDepth 65536 in
theorem codes_eq : words1.filter isCode = codes1 := rfl
theorem w_codes : ∀ c ∈ words1.filter isCode, c.before args0 about1 = true := by
  rw [codes_eq]
  intro c hc
  simp only [codes1, List.mem_cons, List.not_mem_nil, or_false] at hc
  rcases hc with rfl | rfl | rfl
  · exact w_c0
  · exact w_c1
  · exact w_c2
set_option maxRecDepth 65536 in
theorem w_t1 : words1.all (fun c => isCode c || c.before args0 about1) = true := by decide +kernel
theorem w_tables : (allAtoms (Jvm.Cond.code x code maxLocals ret :: tables_1)).before args0 about1 = true := by
  rw [allAtoms_all]
  show words1.all (fun c => c.before args0 about1) = true
  refine all_split ?_ w_codes
  rw [w_t1]
set_option maxRecDepth 65536 in
theorem w_case : (Jvm.Cond.and given_1 narrow_1).before args0 about1 = true := by decide +kernel
theorem w_applies : (headSpec (Jvm.Cond.code x code maxLocals ret :: tables_1) room_1).applies x e0.platform about1 = true :=
  (Spec.applies_iff w_frames).mpr ⟨w_running, w_runnable, w_alone, w_named, w_hears, w_ripe, w_room, w_tables⟩
theorem atStart : AtStart classFile x code maxLocals ret World_1 tables_1 room_1 Calls_1 rest_1 Pre_1 launch0 p0 e0 about1 theMethod args0 below0 :=
  ⟨lists_1, trivial, launch0.admits_env _ _ _, launch0.least_env, fairChoices_fair.cas, fairChoices_fair.clock, w_frames, w_args, w_heap, w_applies, trivial, trivial, w_case⟩
end start1
theorem witness_1 : WitnessClaimed_1 := ⟨start1.p0, start1.e0, start1.about1, start1.theMethod, start1.args0, start1.below0, start1.atStart⟩
end Jvm.Pilot.@@N@@
