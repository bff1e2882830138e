import JvmDerived
import JvmDerived.Pilot.@@N@@Statement
import JvmDerived.Pilot.@@N@@Code
set_option linter.unusedVariables false
set_option linter.unusedSimpArgs false
namespace Jvm.Pilot.@@N@@
open Jvm Jvm.ClassFile Sem Op Lib Jvm.Free Jvm.Stand Jvm.LawKit Jvm.RoadKit Bundle Jvm.Pilot.@@N@@.Jvm.D
section own_walk
variable {p : Program} {l : Launch} {e : Env} {R : Room} {s : State} {m : MethodId} {args : Array Value} {below : List Frame} {meth : Method} {c : Code} {T : State} {locs : List Loc} {cells slots : Nat} {Z : State} {h h' : Heap}
def own_Fin (p : Program) (e : Env) (below : List Frame) (P : Outcome → State → Prop) (g : State) : Prop :=
  ∃ s₂ o, Steps p.tables e below g s₂ ∧ s₂.status = .running ∧ Ended s₂ below o ∧ P o s₂
def own_P (Q : Option Value → Heap → List Loc → Prop) (s : State) (k n : Nat) (o : Outcome) (s₂ : State) : Prop :=
  ∃ v L, o = .returned v ∧ Q v s₂.heap L ∧ FrameEnd s o s₂ L k n
theorem own_via {P : Outcome → State → Prop} {g g' : State} (k : ∀ t, Steps p.tables e below g' t → Steps p.tables e below g t) (H : own_Fin p e below P g') : own_Fin p e below P g := by
  obtain ⟨s₂, o, a, b⟩ := H
  exact ⟨s₂, o, k _ a, b⟩
theorem own_ret {v : Option Value} {g : State} {Q : Option Value → Heap → List Loc → Prop} {k n : Nat} (X : Stand p l e R s m args below meth c T locs cells slots) (hlk : meth.locks = false) (hv : meth.sig.returnType = none → v = none)
    (hst : ∀ fs, (∀ (f : JFrame) (acts : List Action), f.method = m → f.locked = none → f.entered = [] → (doReturn e (T.setTop f) acts v).1 = T.setFrames fs) → Steps p.tables e below g (T.setFrames fs))
    (hQ : Q v T.heap locs) (hk : cells ≤ k) (hn : slots ≤ n) : own_Fin p e below (own_P Q s k n) g := by
  obtain ⟨fs, hr, hrun, hended, hW, hsame⟩ := X.leave (v := v) hv hlk
  exact ⟨_, _, hst fs hr, hrun, hended, _, _, rfl, hQ, ⟨_, rfl⟩, hW, hsame.mono hk hn⟩
theorem own_retW {w : Value} {t : FieldType} {i : Instr} {pc : Nat} {Ls : Array Slot} {rest : List Value} {Q : Option Value → Heap → List Loc → Prop} {k n : Nat} (X : Stand p l e R s m args below meth c T locs cells slots) (hx : p.tables.exec = Jvm.exec) (hlk : meth.locks = false) (hret : meth.sig.returnType = some t) (hnw : narrow t w = w)
    (hi : (i = .ireturn ∧ (t = .int ∨ t = .boolean ∨ t = .byte ∨ t = .char ∨ t = .short) ∧ ∃ z, w = .int z) ∨ (i = .lreturn ∧ t = .long ∧ ∃ z, w = .long z) ∨ (i = .dreturn ∧ t = .double ∧ ∃ z, w = .double z) ∨ (i = .freturn ∧ t = .float ∧ ∃ z, w = .float z) ∨ (i = .areturn ∧ t.isReference = true ∧ w.isRef = true))
    (hd : decode c.code pc = .ok (i, 1)) (hQ : Q (some w) T.heap locs) (hk : cells ≤ k) (hn : slots ≤ n) : own_Fin p e below (own_P Q s k n) (T.setTop (mkF m pc Ls (w :: rest))) :=
  own_ret X hlk (fun q => by rw [hret] at q; cases q) (fun fs hr => retOut X hx hret hnw hi hd hr) hQ hk hn
theorem own_retI {z : Int32} {pc : Nat} {Ls : Array Slot} {rest : List Value} {Q : Option Value → Heap → List Loc → Prop} {k n : Nat} (X : Stand p l e R s m args below meth c T locs cells slots) (hx : p.tables.exec = Jvm.exec) (hlk : meth.locks = false) (hret : meth.sig.returnType = some .int)
    (hd : decode c.code pc = .ok (.ireturn, 1)) (hQ : Q (some (.int z)) T.heap locs) (hk : cells ≤ k) (hn : slots ≤ n) : own_Fin p e below (own_P Q s k n) (T.setTop (mkF m pc Ls (.int z :: rest))) :=
  own_retW X hx hlk hret rfl (Or.inl ⟨rfl, Or.inl rfl, z, rfl⟩) hd hQ hk hn
theorem own_retJ {z : Int64} {pc : Nat} {Ls : Array Slot} {rest : List Value} {Q : Option Value → Heap → List Loc → Prop} {k n : Nat} (X : Stand p l e R s m args below meth c T locs cells slots) (hx : p.tables.exec = Jvm.exec) (hlk : meth.locks = false) (hret : meth.sig.returnType = some .long)
    (hd : decode c.code pc = .ok (.lreturn, 1)) (hQ : Q (some (.long z)) T.heap locs) (hk : cells ≤ k) (hn : slots ≤ n) : own_Fin p e below (own_P Q s k n) (T.setTop (mkF m pc Ls (.long z :: rest))) :=
  own_retW X hx hlk hret rfl (Or.inr (Or.inl ⟨rfl, rfl, z, rfl⟩)) hd hQ hk hn
theorem own_nref {t : FieldType} {w : Value} (hw : w.isRef = true) : narrow t w = w := by
  cases w <;> first | (cases t <;> rfl) | (cases hw)
theorem own_fitR {c : String} {w : Value} (hw : w.isRef = true) : fits (.object c) w = true := by
  cases w <;> first | rfl | (cases hw)
theorem own_retA {w : Value} {t : FieldType} {pc : Nat} {Ls : Array Slot} {rest : List Value} {Q : Option Value → Heap → List Loc → Prop} {k n : Nat} (X : Stand p l e R s m args below meth c T locs cells slots) (hx : p.tables.exec = Jvm.exec) (hlk : meth.locks = false) (hw : w.isRef = true) (hret : meth.sig.returnType = some t) (ht : t.isReference = true)
    (hd : decode c.code pc = .ok (.areturn, 1)) (hQ : Q (some w) T.heap locs) (hk : cells ≤ k) (hn : slots ≤ n) : own_Fin p e below (own_P Q s k n) (T.setTop (mkF m pc Ls (w :: rest))) :=
  own_retW X hx hlk hret (own_nref hw) (Or.inr (Or.inr (Or.inr (Or.inr ⟨rfl, ht, hw⟩)))) hd hQ hk hn
theorem own_retB {z : Int32} {t : FieldType} {pc : Nat} {Ls : Array Slot} {rest : List Value} {Q : Option Value → Heap → List Loc → Prop} {k n : Nat} (X : Stand p l e R s m args below meth c T locs cells slots) (hx : p.tables.exec = Jvm.exec) (hlk : meth.locks = false) (hret : meth.sig.returnType = some t) (ht : t = .boolean ∨ t = .byte ∨ t = .char ∨ t = .short)
    (hd : decode c.code pc = .ok (.ireturn, 1)) (hQ : Q (some (.int (nar t z))) T.heap locs) (hk : cells ≤ k) (hn : slots ≤ n) : own_Fin p e below (own_P Q s k n) (T.setTop (mkF m pc Ls (.int z :: rest))) :=
  own_ret X hlk (fun q => by rw [hret] at q; cases q) (fun fs hr => retN X hx hret ht hd hr) hQ hk hn
theorem own_retV {pc : Nat} {Ls : Array Slot} {Q : Option Value → Heap → List Loc → Prop} {k n : Nat} (X : Stand p l e R s m args below meth c T locs cells slots) (hx : p.tables.exec = Jvm.exec) (hlk : meth.locks = false) (hret : meth.sig.returnType = none)
    (hd : decode c.code pc = .ok (.return_, 1)) (hQ : Q none T.heap locs) (hk : cells ≤ k) (hn : slots ≤ n) : own_Fin p e below (own_P Q s k n) (T.setTop (mkF m pc Ls [])) :=
  own_ret X hlk (fun _ => rfl) (fun fs hr => X.returnOut hx hret hd hr) hQ hk hn
/-- an array: its kind and its members -/
def own_Ar (Z : State) (h : Heap) (a : Addr) (ty : FieldType) (L : List Value) : Prop := ∃ c : Cell, Arr Z h a c ty ∧ c.slots.toList = L
theorem own_Ar.ext {a : Addr} {ty : FieldType} {L : List Value} (F : own_Ar Z h a ty L) (E : Ext h h') : own_Ar Z h' a ty L := by obtain ⟨c, A, r⟩ := F; exact ⟨c, A.ext E, r⟩
theorem own_Ar.other {a b : Addr} {sl : Nat} {v : Value} {ty : FieldType} {L : List Value} (F : own_Ar Z h b ty L) (W : Wr h h' a sl v) (q : b ≠ a) : own_Ar Z h' b ty L := by obtain ⟨c, A, r⟩ := F; exact ⟨c, A.other W q, r⟩
theorem own_Ar.keep {a : Addr} {ws : List Addr} {ty : FieldType} {L : List Value} (F : own_Ar Z h a ty L) (K : Keep h h' ws) (q : a ∉ ws) : own_Ar Z h' a ty L := by obtain ⟨c, A, r⟩ := F; exact ⟨c, ⟨K.2.1 a c A.1 q, A.2⟩, r⟩
theorem own_Ar.lt {a : Addr} {ty : FieldType} {L : List Value} (F : own_Ar Z h a ty L) : a < h.size := by obtain ⟨c, A, r⟩ := F; exact A.lt
theorem own_Ar.set {a : Addr} {j : Nat} {v : Value} {ty : FieldType} {L : List Value} (F : own_Ar Z h a ty L) (W : Wr h h' a j v) : own_Ar Z h' a ty (L.set j v) := by
  obtain ⟨c, A, r⟩ := F
  refine ⟨_, A.same W, ?_⟩
  subst r
  simp [Cell.setSlot]
theorem own_in {c : Cell} {L : List Value} (r : c.slots.toList = L) {j : Int32} (h0 : ¬ j < 0) (hj : j.toNatClampNeg < L.length) : ¬ (j < 0 ∨ c.slots.size ≤ j.toNatClampNeg) := by
  subst r
  simp only [Array.length_toList] at hj
  intro q
  rcases q with q | q
  · exact h0 q
  · omega
theorem own_at {c : Cell} {L : List Value} (r : c.slots.toList = L) {j : Nat} {v : Value} (hv : L[j]? = some v) : c.slots[j]? = some v := by
  subst r; simpa using hv
theorem own_inv {c : Cell} {L : List Value} (r : c.slots.toList = L) {j : Int32} {v : Value} (h0 : ¬ j < 0) (hv : L[j.toNatClampNeg]? = some v) : ¬ (j < 0 ∨ c.slots.size ≤ j.toNatClampNeg) :=
  own_in r h0 (List.getElem?_eq_some_iff.mp hv).1
theorem own_newP {a0 : Array Value} (X : Stand p l e R s m args below meth c T locs cells slots) (hx : p.tables.exec = Jvm.exec) (hZ : Z.Warmed39 s.vm) {aty : ArrayType} (w : (Cond.arrayClass (newarray.typeOf aty)).before a0 Z = true) (eT : T.heap = h) {g : JFrame} (hg : g.method = m) (hd : decode c.code g.pc = .ok (.newarray aty, 2)) {n : Int32} {rest : List Value} (hs : g.stack = .int n :: rest)
    (hn : ¬ n < 0) {cap : Nat} (hcap : n.toNatClampNeg ≤ cap) (hb : cap * 8 ≤ 536870912) (hc : cells + 1 ≤ R.cells) (hl : slots + cap ≤ R.slots) :
    ∃ T' h', Stand p l e R s m args below meth c T' locs (cells + 1) (slots + cap) ∧ T'.heap = h' ∧ Ext h h' ∧ own_Ar Z h' h.size (newarray.typeOf aty) (List.replicate n.toNatClampNeg (defaultValue (newarray.typeOf aty))) ∧
      ∀ target, Steps p.tables e below (T'.setTop { g with pc := g.pc + 2, stack := .ref h.size :: rest }) target → Steps p.tables e below (T.setTop g) target := by
  obtain ⟨T', h', cA, X', e', E', A', st⟩ := newP X hx hZ w eT hg hd hs hn hcap hb hc hl
  exact ⟨T', h', X', e', E', ⟨_, A', by simp [newA]⟩, st⟩
theorem own_stJ (X : Stand p l e R s m args below meth c T locs cells slots) (hx : p.tables.exec = Jvm.exec) (hZ : Z.Warmed39 s.vm) (eT : T.heap = h) {a : Addr} {L : List Value} (A : own_Ar Z h a .long L) {j : Int32} {x : Int64} (h0 : ¬ j < 0) (hj : j.toNatClampNeg < L.length) {g : JFrame} (hg : g.method = m) {rest : List Value} (hs : g.stack = .long x :: .int j :: .ref a :: rest) (hd : decode c.code g.pc = .ok (.lastore, 1)) :
    ∃ T' h', Stand p l e R s m args below meth c T' (locs ++ [⟨a, j.toNatClampNeg⟩]) cells slots ∧ T'.heap = h' ∧ Wr h h' a j.toNatClampNeg (.long x) ∧ own_Ar Z h' a .long (L.set j.toNatClampNeg (.long x)) ∧ ∀ target, Steps p.tables e below (T'.setTop { g with pc := g.pc + 1, stack := rest }) target → Steps p.tables e below (T.setTop g) target := by
  obtain ⟨cl, A', r⟩ := id A
  obtain ⟨T', h', X', e', W', st⟩ := stJ X hx hZ eT A' (own_in r h0 hj) hg hs hd
  exact ⟨T', h', X', e', W', A.set W', st⟩
theorem own_stI (X : Stand p l e R s m args below meth c T locs cells slots) (hx : p.tables.exec = Jvm.exec) (hZ : Z.Warmed39 s.vm) (eT : T.heap = h) {a : Addr} {L : List Value} (A : own_Ar Z h a .int L) {j : Int32} {x : Int32} (h0 : ¬ j < 0) (hj : j.toNatClampNeg < L.length) {g : JFrame} (hg : g.method = m) {rest : List Value} (hs : g.stack = .int x :: .int j :: .ref a :: rest) (hd : decode c.code g.pc = .ok (.iastore, 1)) :
    ∃ T' h', Stand p l e R s m args below meth c T' (locs ++ [⟨a, j.toNatClampNeg⟩]) cells slots ∧ T'.heap = h' ∧ Wr h h' a j.toNatClampNeg (.int x) ∧ own_Ar Z h' a .int (L.set j.toNatClampNeg (.int x)) ∧ ∀ target, Steps p.tables e below (T'.setTop { g with pc := g.pc + 1, stack := rest }) target → Steps p.tables e below (T.setTop g) target := by
  obtain ⟨cl, A', r⟩ := id A
  obtain ⟨T', h', X', e', W', st⟩ := stI X hx hZ eT A' (own_in r h0 hj) hg hs hd
  exact ⟨T', h', X', e', W', A.set W', st⟩
theorem own_stB (X : Stand p l e R s m args below meth c T locs cells slots) (hx : p.tables.exec = Jvm.exec) (hZ : Z.Warmed39 s.vm) (eT : T.heap = h) {a : Addr} {L : List Value} (A : own_Ar Z h a .byte L) {j : Int32} {x : Int32} (h0 : ¬ j < 0) (hj : j.toNatClampNeg < L.length) {g : JFrame} (hg : g.method = m) {rest : List Value} (hs : g.stack = .int x :: .int j :: .ref a :: rest) (hd : decode c.code g.pc = .ok (.bastore, 1)) :
    ∃ T' h', Stand p l e R s m args below meth c T' (locs ++ [⟨a, j.toNatClampNeg⟩]) cells slots ∧ T'.heap = h' ∧ Wr h h' a j.toNatClampNeg (.int (nar .byte x)) ∧ own_Ar Z h' a .byte (L.set j.toNatClampNeg (.int (nar .byte x))) ∧ ∀ target, Steps p.tables e below (T'.setTop { g with pc := g.pc + 1, stack := rest }) target → Steps p.tables e below (T.setTop g) target := by
  obtain ⟨cl, A', r⟩ := id A
  obtain ⟨T', h', X', e', W', st⟩ := stB X hx hZ eT A' (own_in r h0 hj) hg hs hd
  exact ⟨T', h', X', e', W', A.set W', st⟩
theorem own_stZ (X : Stand p l e R s m args below meth c T locs cells slots) (hx : p.tables.exec = Jvm.exec) (hZ : Z.Warmed39 s.vm) (eT : T.heap = h) {a : Addr} {L : List Value} (A : own_Ar Z h a .boolean L) {j : Int32} {x : Int32} (h0 : ¬ j < 0) (hj : j.toNatClampNeg < L.length) {g : JFrame} (hg : g.method = m) {rest : List Value} (hs : g.stack = .int x :: .int j :: .ref a :: rest) (hd : decode c.code g.pc = .ok (.bastore, 1)) :
    ∃ T' h', Stand p l e R s m args below meth c T' (locs ++ [⟨a, j.toNatClampNeg⟩]) cells slots ∧ T'.heap = h' ∧ Wr h h' a j.toNatClampNeg (.int (nar .boolean x)) ∧ own_Ar Z h' a .boolean (L.set j.toNatClampNeg (.int (nar .boolean x))) ∧ ∀ target, Steps p.tables e below (T'.setTop { g with pc := g.pc + 1, stack := rest }) target → Steps p.tables e below (T.setTop g) target := by
  obtain ⟨cl, A', r⟩ := id A
  obtain ⟨T', h', X', e', W', st⟩ := stZ X hx hZ eT A' (own_in r h0 hj) hg hs hd
  exact ⟨T', h', X', e', W', A.set W', st⟩
theorem own_stC (X : Stand p l e R s m args below meth c T locs cells slots) (hx : p.tables.exec = Jvm.exec) (hZ : Z.Warmed39 s.vm) (eT : T.heap = h) {a : Addr} {L : List Value} (A : own_Ar Z h a .char L) {j : Int32} {x : Int32} (h0 : ¬ j < 0) (hj : j.toNatClampNeg < L.length) {g : JFrame} (hg : g.method = m) {rest : List Value} (hs : g.stack = .int x :: .int j :: .ref a :: rest) (hd : decode c.code g.pc = .ok (.castore, 1)) :
    ∃ T' h', Stand p l e R s m args below meth c T' (locs ++ [⟨a, j.toNatClampNeg⟩]) cells slots ∧ T'.heap = h' ∧ Wr h h' a j.toNatClampNeg (.int (nar .char x)) ∧ own_Ar Z h' a .char (L.set j.toNatClampNeg (.int (nar .char x))) ∧ ∀ target, Steps p.tables e below (T'.setTop { g with pc := g.pc + 1, stack := rest }) target → Steps p.tables e below (T.setTop g) target := by
  obtain ⟨cl, A', r⟩ := id A
  obtain ⟨T', h', X', e', W', st⟩ := stC X hx hZ eT A' (own_in r h0 hj) hg hs hd
  exact ⟨T', h', X', e', W', A.set W', st⟩
theorem own_ldJ (X : Stand p l e R s m args below meth c T locs cells slots) (hx : p.tables.exec = Jvm.exec) (hZ : Z.Warmed39 s.vm) (eT : T.heap = h) {a : Addr} {L : List Value} (A : own_Ar Z h a .long L) {j : Int32} {v : Value} (h0 : ¬ j < 0) (hv : L[j.toNatClampNeg]? = some v) {g : JFrame} (hg : g.method = m) {rest : List Value} (hs : g.stack = .int j :: .ref a :: rest) (hd : decode c.code g.pc = .ok (.laload, 1)) (target : State)
    (hr : Steps p.tables e below (T.setTop { g with pc := g.pc + 1, stack := v :: rest }) target) : Steps p.tables e below (T.setTop g) target := by
  obtain ⟨cl, A', r⟩ := A
  exact X.laload hx (by rw [eT]; exact A'.1) (State.isArrayOf_alike hZ.alike A'.2.1) A'.2.2 (own_inv r h0 hv) (own_at r hv) hg hs hd target hr
theorem own_ldI (X : Stand p l e R s m args below meth c T locs cells slots) (hx : p.tables.exec = Jvm.exec) (hZ : Z.Warmed39 s.vm) (eT : T.heap = h) {a : Addr} {L : List Value} (A : own_Ar Z h a .int L) {j : Int32} {v : Value} (h0 : ¬ j < 0) (hv : L[j.toNatClampNeg]? = some v) {g : JFrame} (hg : g.method = m) {rest : List Value} (hs : g.stack = .int j :: .ref a :: rest) (hd : decode c.code g.pc = .ok (.iaload, 1)) (target : State)
    (hr : Steps p.tables e below (T.setTop { g with pc := g.pc + 1, stack := v :: rest }) target) : Steps p.tables e below (T.setTop g) target := by
  obtain ⟨cl, A', r⟩ := A
  exact X.iaload hx (by rw [eT]; exact A'.1) (State.isArrayOf_alike hZ.alike A'.2.1) A'.2.2 (own_inv r h0 hv) (own_at r hv) hg hs hd target hr
theorem own_ldB (X : Stand p l e R s m args below meth c T locs cells slots) (hx : p.tables.exec = Jvm.exec) (hZ : Z.Warmed39 s.vm) (eT : T.heap = h) {a : Addr} {L : List Value} (A : own_Ar Z h a .byte L) {j : Int32} {v : Value} (h0 : ¬ j < 0) (hv : L[j.toNatClampNeg]? = some v) {g : JFrame} (hg : g.method = m) {rest : List Value} (hs : g.stack = .int j :: .ref a :: rest) (hd : decode c.code g.pc = .ok (.baload, 1)) (target : State)
    (hr : Steps p.tables e below (T.setTop { g with pc := g.pc + 1, stack := v :: rest }) target) : Steps p.tables e below (T.setTop g) target := by
  obtain ⟨cl, A', r⟩ := A
  exact X.baloadBytes hx (by rw [eT]; exact A'.1) (State.isArrayOf_alike hZ.alike A'.2.1) A'.2.2 (own_inv r h0 hv) (own_at r hv) hg hs hd target hr
theorem own_ldZ (X : Stand p l e R s m args below meth c T locs cells slots) (hx : p.tables.exec = Jvm.exec) (hZ : Z.Warmed39 s.vm) (eT : T.heap = h) {a : Addr} {L : List Value} (A : own_Ar Z h a .boolean L) {j : Int32} {v : Value} (h0 : ¬ j < 0) (hv : L[j.toNatClampNeg]? = some v) {g : JFrame} (hg : g.method = m) {rest : List Value} (hs : g.stack = .int j :: .ref a :: rest) (hd : decode c.code g.pc = .ok (.baload, 1)) (target : State)
    (hr : Steps p.tables e below (T.setTop { g with pc := g.pc + 1, stack := v :: rest }) target) : Steps p.tables e below (T.setTop g) target := by
  obtain ⟨cl, A', r⟩ := A
  exact X.baloadBooleans hx (by rw [eT]; exact A'.1) (State.isArrayOf_alike hZ.alike A'.2.1) A'.2.2 (own_inv r h0 hv) (own_at r hv) hg hs hd target hr
theorem own_ldC (X : Stand p l e R s m args below meth c T locs cells slots) (hx : p.tables.exec = Jvm.exec) (hZ : Z.Warmed39 s.vm) (eT : T.heap = h) {a : Addr} {L : List Value} (A : own_Ar Z h a .char L) {j : Int32} {v : Value} (h0 : ¬ j < 0) (hv : L[j.toNatClampNeg]? = some v) {g : JFrame} (hg : g.method = m) {rest : List Value} (hs : g.stack = .int j :: .ref a :: rest) (hd : decode c.code g.pc = .ok (.caload, 1)) (target : State)
    (hr : Steps p.tables e below (T.setTop { g with pc := g.pc + 1, stack := v :: rest }) target) : Steps p.tables e below (T.setTop g) target := by
  obtain ⟨cl, A', r⟩ := A
  exact X.caload hx (by rw [eT]; exact A'.1) (State.isArrayOf_alike hZ.alike A'.2.1) A'.2.2 (own_inv r h0 hv) (own_at r hv) hg hs hd target hr
theorem own_len (X : Stand p l e R s m args below meth c T locs cells slots) (hx : p.tables.exec = Jvm.exec) (hZ : Z.Warmed39 s.vm) (eT : T.heap = h) {a : Addr} {ty : FieldType} {L : List Value} (A : own_Ar Z h a ty L) {n : Int32} (hn : L.length.toInt32 = n) {g : JFrame} (hg : g.method = m) {rest : List Value} (hs : g.stack = .ref a :: rest) (hd : decode c.code g.pc = .ok (.arraylength, 1)) (target : State)
    (hr : Steps p.tables e below (T.setTop { g with pc := g.pc + 1, stack := .int n :: rest }) target) : Steps p.tables e below (T.setTop g) target := by
  obtain ⟨cl, A', r⟩ := A
  refine X.arraylength hx (by rw [eT]; exact A'.1) (State.isArrayOf_alike hZ.alike A'.2.1) hg hs hd target ?_
  have q : cl.slots.size.toInt32 = n := by rw [← hn, ← r]; simp
  rw [q]; exact hr
theorem own_sta_keep {C n d : String} {w : Value} {ws : List Addr} (F : Sta Z h C n d w) (K : Keep h h' ws) (q : ∀ (a : Addr) (c : Cell), h[a]? = some c → c.vm.isStatics = true → a ∉ ws) : Sta Z h' C n d w := by
  obtain ⟨cf, i, k, f, st, cell, h1, h2, h3, h4, h5, h6, h7⟩ := F
  exact ⟨cf, i, k, f, st, cell, h1, h2, h3, h4, K.2.1 st cell h5 (q st cell h5 h6), h6, h7⟩
end own_walk
section own_walkS
variable {p : Program} {l : Launch} {e : Env} {R : Room} {s : State} {vm0 : Vm} {kS : Nat} {m : MethodId} {args : Array Value} {below : List Frame} {meth : Method} {c : Code} {T : State} {locs : List Loc} {cells slots : Nat} {Z : State} {h h' : Heap}
def own_PW (Q : Option Value → Heap → List Loc → Prop) (s : State) (k n : Nat) (o : Outcome) (s₂ : State) : Prop :=
  ∃ v L, o = .returned v ∧ Q v s₂.heap L ∧ ReturnedEndW s o s₂ L k n
theorem own_retS {v : Option Value} {g : State} {Q : Option Value → Heap → List Loc → Prop} {k n : Nat} (X : Stand p l e R (s.setVm vm0) m args below meth c T locs cells slots) (hS : s.Since vm0 kS) (hk : kS ≤ T.heap.size) (hlk : meth.locks = false) (hv : meth.sig.returnType = none → v = none)
    (hst : ∀ fs, (∀ (f : JFrame) (acts : List Action), f.method = m → f.locked = none → f.entered = [] → (doReturn e (T.setTop f) acts v).1 = T.setFrames fs) → Steps p.tables e below g (T.setFrames fs))
    (hQ : Q v T.heap locs) (hc : cells ≤ k) (hn : slots ≤ n) : own_Fin p e below (own_PW Q s k n) g := by
  obtain ⟨fs, hr, hrun, hended, hE⟩ := X.leaveW hS hk (v := v) hv hlk
  exact ⟨_, _, hst fs hr, hrun, hended, _, _, rfl, hQ, hE.1, hE.2.1, hE.2.2.1, hE.2.2.2.mono hc hn⟩
theorem own_retWS {w : Value} {t : FieldType} {i : Instr} {pc : Nat} {Ls : Array Slot} {rest : List Value} {Q : Option Value → Heap → List Loc → Prop} {k n : Nat} (X : Stand p l e R (s.setVm vm0) m args below meth c T locs cells slots) (hS : s.Since vm0 kS) (hkS : kS ≤ T.heap.size) (hx : p.tables.exec = Jvm.exec) (hlk : meth.locks = false) (hret : meth.sig.returnType = some t) (hnw : narrow t w = w)
    (hi : (i = .ireturn ∧ (t = .int ∨ t = .boolean ∨ t = .byte ∨ t = .char ∨ t = .short) ∧ ∃ z, w = .int z) ∨ (i = .lreturn ∧ t = .long ∧ ∃ z, w = .long z) ∨ (i = .dreturn ∧ t = .double ∧ ∃ z, w = .double z) ∨ (i = .freturn ∧ t = .float ∧ ∃ z, w = .float z) ∨ (i = .areturn ∧ t.isReference = true ∧ w.isRef = true))
    (hd : decode c.code pc = .ok (i, 1)) (hQ : Q (some w) T.heap locs) (hk : cells ≤ k) (hn : slots ≤ n) : own_Fin p e below (own_PW Q s k n) (T.setTop (mkF m pc Ls (w :: rest))) :=
  own_retS X hS hkS hlk (fun q => by rw [hret] at q; cases q) (fun fs hr => retOut X hx hret hnw hi hd hr) hQ hk hn
theorem own_retIS {z : Int32} {pc : Nat} {Ls : Array Slot} {rest : List Value} {Q : Option Value → Heap → List Loc → Prop} {k n : Nat} (X : Stand p l e R (s.setVm vm0) m args below meth c T locs cells slots) (hS : s.Since vm0 kS) (hkS : kS ≤ T.heap.size) (hx : p.tables.exec = Jvm.exec) (hlk : meth.locks = false) (hret : meth.sig.returnType = some .int)
    (hd : decode c.code pc = .ok (.ireturn, 1)) (hQ : Q (some (.int z)) T.heap locs) (hk : cells ≤ k) (hn : slots ≤ n) : own_Fin p e below (own_PW Q s k n) (T.setTop (mkF m pc Ls (.int z :: rest))) :=
  own_retWS X hS hkS hx hlk hret rfl (Or.inl ⟨rfl, Or.inl rfl, z, rfl⟩) hd hQ hk hn
theorem own_retJS {z : Int64} {pc : Nat} {Ls : Array Slot} {rest : List Value} {Q : Option Value → Heap → List Loc → Prop} {k n : Nat} (X : Stand p l e R (s.setVm vm0) m args below meth c T locs cells slots) (hS : s.Since vm0 kS) (hkS : kS ≤ T.heap.size) (hx : p.tables.exec = Jvm.exec) (hlk : meth.locks = false) (hret : meth.sig.returnType = some .long)
    (hd : decode c.code pc = .ok (.lreturn, 1)) (hQ : Q (some (.long z)) T.heap locs) (hk : cells ≤ k) (hn : slots ≤ n) : own_Fin p e below (own_PW Q s k n) (T.setTop (mkF m pc Ls (.long z :: rest))) :=
  own_retWS X hS hkS hx hlk hret rfl (Or.inr (Or.inl ⟨rfl, rfl, z, rfl⟩)) hd hQ hk hn
theorem own_retAS {w : Value} {t : FieldType} {pc : Nat} {Ls : Array Slot} {rest : List Value} {Q : Option Value → Heap → List Loc → Prop} {k n : Nat} (X : Stand p l e R (s.setVm vm0) m args below meth c T locs cells slots) (hS : s.Since vm0 kS) (hkS : kS ≤ T.heap.size) (hx : p.tables.exec = Jvm.exec) (hlk : meth.locks = false) (hw : w.isRef = true) (hret : meth.sig.returnType = some t) (ht : t.isReference = true)
    (hd : decode c.code pc = .ok (.areturn, 1)) (hQ : Q (some w) T.heap locs) (hk : cells ≤ k) (hn : slots ≤ n) : own_Fin p e below (own_PW Q s k n) (T.setTop (mkF m pc Ls (w :: rest))) :=
  own_retWS X hS hkS hx hlk hret (own_nref hw) (Or.inr (Or.inr (Or.inr (Or.inr ⟨rfl, ht, hw⟩)))) hd hQ hk hn
theorem own_retBS {z : Int32} {t : FieldType} {pc : Nat} {Ls : Array Slot} {rest : List Value} {Q : Option Value → Heap → List Loc → Prop} {k n : Nat} (X : Stand p l e R (s.setVm vm0) m args below meth c T locs cells slots) (hS : s.Since vm0 kS) (hkS : kS ≤ T.heap.size) (hx : p.tables.exec = Jvm.exec) (hlk : meth.locks = false) (hret : meth.sig.returnType = some t) (ht : t = .boolean ∨ t = .byte ∨ t = .char ∨ t = .short)
    (hd : decode c.code pc = .ok (.ireturn, 1)) (hQ : Q (some (.int (nar t z))) T.heap locs) (hk : cells ≤ k) (hn : slots ≤ n) : own_Fin p e below (own_PW Q s k n) (T.setTop (mkF m pc Ls (.int z :: rest))) :=
  own_retS X hS hkS hlk (fun q => by rw [hret] at q; cases q) (fun fs hr => retN X hx hret ht hd hr) hQ hk hn
theorem own_retVS {pc : Nat} {Ls : Array Slot} {Q : Option Value → Heap → List Loc → Prop} {k n : Nat} (X : Stand p l e R (s.setVm vm0) m args below meth c T locs cells slots) (hS : s.Since vm0 kS) (hkS : kS ≤ T.heap.size) (hx : p.tables.exec = Jvm.exec) (hlk : meth.locks = false) (hret : meth.sig.returnType = none)
    (hd : decode c.code pc = .ok (.return_, 1)) (hQ : Q none T.heap locs) (hk : cells ≤ k) (hn : slots ≤ n) : own_Fin p e below (own_PW Q s k n) (T.setTop (mkF m pc Ls [])) :=
  own_retS X hS hkS hlk (fun _ => rfl) (fun fs hr => X.returnOut hx hret hd hr) hQ hk hn
end own_walkS
theorem own_pn0 : plainName "com/example/holdfast/holdfast/store/Attempt" = true := by first | (simp [plainName, overriddenIn]; done) | decide +kernel
theorem own_d2_0 : decode prog_15_method_1_code 0 = .ok (.aload_n 0, 1) := by decide +kernel
theorem own_d2_1 : decode prog_15_method_1_code 1 = .ok (.invokespecial 1, 3) := by decide +kernel
theorem own_d2_4 : decode prog_15_method_1_code 4 = .ok (.lload_n 3, 1) := by decide +kernel
theorem own_d2_5 : decode prog_15_method_1_code 5 = .ok (.lconst 0, 1) := by decide +kernel
theorem own_d2_6 : decode prog_15_method_1_code 6 = .ok (.lcmp, 1) := by decide +kernel
theorem own_d2_7 : decode prog_15_method_1_code 7 = .ok (.ifCond .ge 17, 3) := by decide +kernel
theorem own_d2_24 : decode prog_15_method_1_code 24 = .ok (.aload_n 0, 1) := by decide +kernel
theorem own_d2_25 : decode prog_15_method_1_code 25 = .ok (.lload_n 1, 1) := by decide +kernel
theorem own_d2_26 : decode prog_15_method_1_code 26 = .ok (.putfield 16, 3) := by decide +kernel
theorem own_d2_29 : decode prog_15_method_1_code 29 = .ok (.aload_n 0, 1) := by decide +kernel
theorem own_d2_30 : decode prog_15_method_1_code 30 = .ok (.lload_n 3, 1) := by decide +kernel
theorem own_d2_31 : decode prog_15_method_1_code 31 = .ok (.putfield 22, 3) := by decide +kernel
theorem own_d2_34 : decode prog_15_method_1_code 34 = .ok (.aload_n 0, 1) := by decide +kernel
theorem own_d2_35 : decode prog_15_method_1_code 35 = .ok (.aload 5, 2) := by decide +kernel
theorem own_d2_37 : decode prog_15_method_1_code 37 = .ok (.putfield 25, 3) := by decide +kernel
theorem own_d2_40 : decode prog_15_method_1_code 40 = .ok (.return_, 1) := by decide +kernel
theorem ef_own_rm2 (m : MethodId) (a1 : Addr) (q1 : Int64) (q2 : Int64) : entryFrame m #[(.ref a1), (.long q1), (.long q2), .null] 6 = mkF m 0 #[.val (.ref a1), .val (.long q1), .second, .val (.long q2), .second, .val .null] [] := by first | (simp [entryFrame, mkF, argsToLocals, Value.category]; done) | rfl
def own_rm2_Q (Z : State) (a1 : Addr) (q1 : Int64) (q2 : Int64)  (h0 : Heap) (n0 : Nat) (v : Option Value) (h : Heap) (L : List Loc) : Prop := v = none ∧ Fr n0 L ∧ Keep h0 h [a1] ∧ Exa Z h a1 "com/example/holdfast/holdfast/store/Attempt" ∧ Fld Z h a1 "com/example/holdfast/holdfast/store/Attempt" "token" "J" (.long q1) ∧ Fld Z h a1 "com/example/holdfast/holdfast/store/Attempt" "heldForMillis" "J" (.long q2) ∧ Fld Z h a1 "com/example/holdfast/holdfast/store/Attempt" "heldBy" "Ljava/lang/String;" .null
set_option maxRecDepth 65536 in
set_option maxHeartbeats 40000000 in
theorem own_rm2 (l : Launch) (Z : State) (a0 : Array Value) (hw : ∀ d ∈ tables_1, d.before a0 Z = true) (ws : List Jvm.Cond) (a1 : Addr) (q1 : Int64) (q2 : Int64)  (h0 : Heap) (n0 : Nat) (Z0 : n0 ≤ h0.size) (E_a1 : Exa Z h0 a1 "com/example/holdfast/holdfast/store/Attempt") (Fi_0 : Fld Z h0 a1 "com/example/holdfast/holdfast/store/Attempt" "token" "J" (.long (0 : Int64))) (Fi_1 : Fld Z h0 a1 "com/example/holdfast/holdfast/store/Attempt" "heldForMillis" "J" (.long (0 : Int64))) (Fi_2 : Fld Z h0 a1 "com/example/holdfast/holdfast/store/Attempt" "heldBy" "Ljava/lang/String;" .null) (g_a1 : n0 ≤ a1) (hq : ¬ q2 < 0) :
    MetFree l (⟨"com/example/holdfast/holdfast/store/Attempt", "<init>", "(JJLjava/lang/String;)V"⟩ : MethodName) (head1 (Jvm.Cond.code (⟨"com/example/holdfast/holdfast/store/Attempt", "<init>", "(JJLjava/lang/String;)V"⟩ : MethodName) prog_15_method_1_code 6 none :: ws) ({ frames := 1, cells := 0, slots := 0, locals := 12 } : Room)) (fun a U => a = #[(.ref a1), (.long q1), (.long q2), .null] ∧ Z.Warmed39 U.vm ∧ U.heap = h0) (fun _ _ _ _ _ => True) (fun _ U o U' => ∃ v L, o = .returned v ∧ own_rm2_Q Z a1 q1 q2  h0 n0 v U'.heap L ∧ FrameEnd U o U' L ({ frames := 1, cells := 0, slots := 0, locals := 12 } : Room).cells ({ frames := 1, cells := 0, slots := 0, locals := 12 } : Room).slots) := by
  refine MetFree.of_bodySF (plainFor_of_name own_pn0) hisR ?_
  intro p e s m args below meth c s₁ Bd hml0 hP hK
  obtain ⟨rfl, hZ, hh⟩ := hP
  have hx := Bd.exec
  have hby := Bd.bytes
  have hml : c.maxLocals = 6 := hml0
  have hown : s.vm.findClass "com/example/holdfast/holdfast/store/Attempt" = some m.cls := findClass_of_methodNamed Bd.named
  have hnm := (name_of_methodNamed Bd.named Bd.method).1
  have hlk : meth.locks = false := BodyLoose.notSynchronized Bd
  have X0 : Stand p l e ({ frames := 1, cells := 0, slots := 0, locals := 12 } : Room) s m #[(.ref a1), (.long q1), (.long q2), .null] below meth c s₁ [] 0 0 := Stand.of_body Bd
  have e0 : s₁.heap = h0 := by rw [← hh, Bd.state]; rfl
  have N0 := Fr.nil n0
  have K0 : Keep h0 h0 [a1] := Keep.refl h0 [a1]
  show own_Fin p e below (own_P (own_rm2_Q Z a1 q1 q2  h0 n0) s ({ frames := 1, cells := 0, slots := 0, locals := 12 } : Room).cells ({ frames := 1, cells := 0, slots := 0, locals := 12 } : Room).slots) (s₁.setTop (entryFrame m #[(.ref a1), (.long q1), (.long q2), .null] 6))
  refine own_via (g' := s₁.setTop (mkF m 0 #[.val (.ref a1), .val (.long q1), .second, .val (.long q2), .second, .val .null] [])) (fun t k => castTop (ef_own_rm2 m a1 q1 q2) k) ?_
  refine own_via (g' := s₁.setTop (mkF m 1 #[.val (.ref a1), .val (.long q1), .second, .val (.long q2), .second, .val .null] [(.ref a1)])) (fun t k => XS.aloadN X0.here hx rfl (hb hby own_d2_0) rfl (rfl) k) ?_
  obtain ⟨T1, X1, e1, st1⟩ := initO X0 hx hZ hown (hw _ (List.mem_of_getElem? (i := 10) rfl)) (hw _ (List.mem_of_getElem? (i := 11) rfl)) (hw _ (List.mem_of_getElem? (i := 12) rfl)) e0 (g := (mkF m 1 #[.val (.ref a1), .val (.long q1), .second, .val (.long q2), .second, .val .null] [(.ref a1)])) rfl (by rw [hml]; rfl) rfl (hb hby own_d2_1) (by decide) (W := 0) (by show 2 * 0 + _ ≤ _; exact Nat.le_of_eq rfl) (by decide)
  refine own_via (g' := T1.setTop (mkF m 4 #[.val (.ref a1), .val (.long q1), .second, .val (.long q2), .second, .val .null] [])) (fun t k => st1 _ k) ?_
  refine own_via (g' := T1.setTop (mkF m 5 #[.val (.ref a1), .val (.long q1), .second, .val (.long q2), .second, .val .null] [(.long q2)])) (fun t k => XT.lloadN X1.here hx rfl (hb hby own_d2_4) rfl k) ?_
  refine own_via (g' := T1.setTop (mkF m 6 #[.val (.ref a1), .val (.long q1), .second, .val (.long q2), .second, .val .null] [(.long (0 : Int64)), (.long q2)])) (fun t k => XT.lconst X1.here hx rfl (hb hby own_d2_5) k) ?_
  refine own_via (g' := T1.setTop (mkF m 7 #[.val (.ref a1), .val (.long q1), .second, .val (.long q2), .second, .val .null] [(.int (XT.cmpL q2 (0 : Int64)))])) (fun t k => XT.lcmp X1.here hx rfl (hb hby own_d2_6) rfl k) ?_
  refine own_via (g' := T1.setTop (mkF m 24 #[.val (.ref a1), .val (.long q1), .second, .val (.long q2), .second, .val .null] [])) (fun t k => XS.ifYes X1.here hx rfl (pc0 := 7) (pc' := 24) rfl (hb hby own_d2_7) rfl (XT.ll_ge_t hq) (by decide) (by decide) k) ?_
  refine own_via (g' := T1.setTop (mkF m 25 #[.val (.ref a1), .val (.long q1), .second, .val (.long q2), .second, .val .null] [(.ref a1)])) (fun t k => XS.aloadN X1.here hx rfl (hb hby own_d2_24) rfl (rfl) k) ?_
  refine own_via (g' := T1.setTop (mkF m 26 #[.val (.ref a1), .val (.long q1), .second, .val (.long q2), .second, .val .null] [(.long q1), (.ref a1)])) (fun t k => XT.lloadN X1.here hx rfl (hb hby own_d2_25) rfl k) ?_
  obtain ⟨T2, h2, X2, e2, W2, st2⟩ := putF X1 hx hZ hown (host := "") (Or.inl (hw _ (List.mem_of_getElem? (i := 13) rfl))) Via.refl e1 Fi_0 E_a1 (Or.inr ⟨(hw _ (List.mem_of_getElem? (i := 14) rfl)), rfl, hnm⟩) (hw _ (List.mem_of_getElem? (i := 6) rfl)) (ty := .long) (by decide) rfl rfl (g := (mkF m 26 #[.val (.ref a1), .val (.long q1), .second, .val (.long q2), .second, .val .null] [(.long q1), (.ref a1)])) rfl rfl (hb hby own_d2_26)
  have F2 : Fld Z h2 a1 "com/example/holdfast/holdfast/store/Attempt" "token" "J" (.long q1) := Fi_0.same W2
  have Kc2 : Keep h0 h2 [a1] := K0.wr W2 (Or.inl (List.mem_of_getElem? (i := 0) rfl))
  have N2 := Fr.snoc X2 N0 g_a1
  refine own_via (g' := T2.setTop (mkF m 29 #[.val (.ref a1), .val (.long q1), .second, .val (.long q2), .second, .val .null] [])) (fun t k => st2 _ k) ?_
  refine own_via (g' := T2.setTop (mkF m 30 #[.val (.ref a1), .val (.long q1), .second, .val (.long q2), .second, .val .null] [(.ref a1)])) (fun t k => XS.aloadN X2.here hx rfl (hb hby own_d2_29) rfl (rfl) k) ?_
  refine own_via (g' := T2.setTop (mkF m 31 #[.val (.ref a1), .val (.long q1), .second, .val (.long q2), .second, .val .null] [(.long q2), (.ref a1)])) (fun t k => XT.lloadN X2.here hx rfl (hb hby own_d2_30) rfl k) ?_
  obtain ⟨T3, h3, X3, e3, W3, st3⟩ := putF X2 hx hZ hown (host := "") (Or.inl (hw _ (List.mem_of_getElem? (i := 15) rfl))) Via.refl e2 (Fi_1.other W2 (Or.inr (slot_ne (Or.inr (hw _ (List.mem_of_getElem? (i := 16) rfl))) (Or.inr (hw _ (List.mem_of_getElem? (i := 14) rfl))) (by decide) (t := .long) (t' := .long) (by decide) (by decide)))) (E_a1.wr W2) (Or.inr ⟨(hw _ (List.mem_of_getElem? (i := 16) rfl)), rfl, hnm⟩) (hw _ (List.mem_of_getElem? (i := 6) rfl)) (ty := .long) (by decide) rfl rfl (g := (mkF m 31 #[.val (.ref a1), .val (.long q1), .second, .val (.long q2), .second, .val .null] [(.long q2), (.ref a1)])) rfl rfl (hb hby own_d2_31)
  have F3 : Fld Z h3 a1 "com/example/holdfast/holdfast/store/Attempt" "heldForMillis" "J" (.long q2) := (Fi_1.other W2 (Or.inr (slot_ne (Or.inr (hw _ (List.mem_of_getElem? (i := 16) rfl))) (Or.inr (hw _ (List.mem_of_getElem? (i := 14) rfl))) (by decide) (t := .long) (t' := .long) (by decide) (by decide)))).same W3
  have Kc3 : Keep h0 h3 [a1] := Kc2.wr W3 (Or.inl (List.mem_of_getElem? (i := 0) rfl))
  have N3 := Fr.snoc X3 N2 g_a1
  refine own_via (g' := T3.setTop (mkF m 34 #[.val (.ref a1), .val (.long q1), .second, .val (.long q2), .second, .val .null] [])) (fun t k => st3 _ k) ?_
  refine own_via (g' := T3.setTop (mkF m 35 #[.val (.ref a1), .val (.long q1), .second, .val (.long q2), .second, .val .null] [(.ref a1)])) (fun t k => XS.aloadN X3.here hx rfl (hb hby own_d2_34) rfl (rfl) k) ?_
  refine own_via (g' := T3.setTop (mkF m 37 #[.val (.ref a1), .val (.long q1), .second, .val (.long q2), .second, .val .null] [.null, (.ref a1)])) (fun t k => XS.aload X3.here hx rfl (hb hby own_d2_35) rfl (rfl) k) ?_
  obtain ⟨T4, h4, X4, e4, W4, st4⟩ := putF X3 hx hZ hown (host := "") (Or.inl (hw _ (List.mem_of_getElem? (i := 17) rfl))) Via.refl e3 ((Fi_2.other W2 (Or.inr (slot_ne (Or.inr (hw _ (List.mem_of_getElem? (i := 18) rfl))) (Or.inr (hw _ (List.mem_of_getElem? (i := 14) rfl))) (by decide) (t := (.object "java/lang/String")) (t' := .long) (by decide) (by decide)))).other W3 (Or.inr (slot_ne (Or.inr (hw _ (List.mem_of_getElem? (i := 18) rfl))) (Or.inr (hw _ (List.mem_of_getElem? (i := 16) rfl))) (by decide) (t := (.object "java/lang/String")) (t' := .long) (by decide) (by decide)))) ((E_a1.wr W2).wr W3) (Or.inr ⟨(hw _ (List.mem_of_getElem? (i := 18) rfl)), rfl, hnm⟩) (hw _ (List.mem_of_getElem? (i := 6) rfl)) (ty := (.object "java/lang/String")) (by decide) rfl rfl (g := (mkF m 37 #[.val (.ref a1), .val (.long q1), .second, .val (.long q2), .second, .val .null] [.null, (.ref a1)])) rfl rfl (hb hby own_d2_37)
  have F4 : Fld Z h4 a1 "com/example/holdfast/holdfast/store/Attempt" "heldBy" "Ljava/lang/String;" .null := ((Fi_2.other W2 (Or.inr (slot_ne (Or.inr (hw _ (List.mem_of_getElem? (i := 18) rfl))) (Or.inr (hw _ (List.mem_of_getElem? (i := 14) rfl))) (by decide) (t := (.object "java/lang/String")) (t' := .long) (by decide) (by decide)))).other W3 (Or.inr (slot_ne (Or.inr (hw _ (List.mem_of_getElem? (i := 18) rfl))) (Or.inr (hw _ (List.mem_of_getElem? (i := 16) rfl))) (by decide) (t := (.object "java/lang/String")) (t' := .long) (by decide) (by decide)))).same W4
  have Kc4 : Keep h0 h4 [a1] := Kc3.wr W4 (Or.inl (List.mem_of_getElem? (i := 0) rfl))
  have N4 := Fr.snoc X4 N3 g_a1
  refine own_via (g' := T4.setTop (mkF m 40 #[.val (.ref a1), .val (.long q1), .second, .val (.long q2), .second, .val .null] [])) (fun t k => st4 _ k) ?_
  have eE : T4.heap = h4 := e4
  exact own_retV X4 hx hlk Bd.returns (hb hby own_d2_40) ⟨rfl, N4, (by rw [eE]; exact Kc4), (by rw [eE]; exact (((E_a1.wr W2).wr W3).wr W4)), (by rw [eE]; exact ((F2.other W3 (Or.inr (slot_ne (Or.inr (hw _ (List.mem_of_getElem? (i := 14) rfl))) (Or.inr (hw _ (List.mem_of_getElem? (i := 16) rfl))) (by decide) (t := .long) (t' := .long) (by decide) (by decide)))).other W4 (Or.inr (slot_ne (Or.inr (hw _ (List.mem_of_getElem? (i := 14) rfl))) (Or.inr (hw _ (List.mem_of_getElem? (i := 18) rfl))) (by decide) (t := .long) (t' := (.object "java/lang/String")) (by decide) (by decide))))), (by rw [eE]; exact (F3.other W4 (Or.inr (slot_ne (Or.inr (hw _ (List.mem_of_getElem? (i := 16) rfl))) (Or.inr (hw _ (List.mem_of_getElem? (i := 18) rfl))) (by decide) (t := .long) (t' := (.object "java/lang/String")) (by decide) (by decide))))), (by rw [eE]; exact F4)⟩ (by decide) (by decide)
theorem own_pd0 : parseMethodDescriptor "(JJLjava/lang/String;)V" = some ⟨[.long, .long, (.object "java/lang/String")], none⟩ := by decide +kernel
theorem own_d1_0 : decode prog_15_method_2_code 0 = .ok (.lload_n 0, 1) := by decide +kernel
theorem own_d1_1 : decode prog_15_method_2_code 1 = .ok (.lconst 0, 1) := by decide +kernel
theorem own_d1_2 : decode prog_15_method_2_code 2 = .ok (.lcmp, 1) := by decide +kernel
theorem own_d1_3 : decode prog_15_method_2_code 3 = .ok (.ifCond .gt 17, 3) := by decide +kernel
theorem own_d1_20 : decode prog_15_method_2_code 20 = .ok (.new 17, 3) := by decide +kernel
theorem own_d1_23 : decode prog_15_method_2_code 23 = .ok (.dup, 1) := by decide +kernel
theorem own_d1_24 : decode prog_15_method_2_code 24 = .ok (.lload_n 0, 1) := by decide +kernel
theorem own_d1_25 : decode prog_15_method_2_code 25 = .ok (.lload_n 2, 1) := by decide +kernel
theorem own_d1_26 : decode prog_15_method_2_code 26 = .ok (.aconst_null, 1) := by decide +kernel
theorem own_d1_27 : decode prog_15_method_2_code 27 = .ok (.invokespecial 30, 3) := by decide +kernel
theorem own_d1_30 : decode prog_15_method_2_code 30 = .ok (.areturn, 1) := by decide +kernel
theorem ef_own_rm1 (m : MethodId) (q1 : Int64) (q2 : Int64) : entryFrame m #[(.long q1), (.long q2)] 4 = mkF m 0 #[.val (.long q1), .second, .val (.long q2), .second] [] := by first | (simp [entryFrame, mkF, argsToLocals, Value.category]; done) | rfl
def own_rm1_Q (Z : State) (q1 : Int64) (q2 : Int64)  (h0 : Heap) (n0 : Nat) (v : Option Value) (h : Heap) (L : List Loc) : Prop := ∃ b : Addr, v = some (.ref b) ∧ Fr n0 L ∧ h0.size ≤ b ∧ Keep h0 h [] ∧ Exa Z h b "com/example/holdfast/holdfast/store/Attempt" ∧ Fld Z h b "com/example/holdfast/holdfast/store/Attempt" "token" "J" (.long q1) ∧ Fld Z h b "com/example/holdfast/holdfast/store/Attempt" "heldForMillis" "J" (.long q2) ∧ Fld Z h b "com/example/holdfast/holdfast/store/Attempt" "heldBy" "Ljava/lang/String;" .null
set_option maxRecDepth 65536 in
set_option maxHeartbeats 40000000 in
theorem own_rm1 (l : Launch) (Z : State) (a0 : Array Value) (hw : ∀ d ∈ tables_1, d.before a0 Z = true) (ws : List Jvm.Cond) (q1 : Int64) (q2 : Int64)  (h0 : Heap) (n0 : Nat) (Z0 : n0 ≤ h0.size) (hq1 : 0 < q1) (hq2 : ¬ q2 < 0) :
    MetFree l (⟨"com/example/holdfast/holdfast/store/Attempt", "taken", "(JJ)Lcom/example/holdfast/holdfast/store/Attempt;"⟩ : MethodName) (head1 (Jvm.Cond.code (⟨"com/example/holdfast/holdfast/store/Attempt", "taken", "(JJ)Lcom/example/holdfast/holdfast/store/Attempt;"⟩ : MethodName) prog_15_method_2_code 4 (some (.object "com/example/holdfast/holdfast/store/Attempt")) :: ws) ({ frames := 2, cells := 1, slots := 3, locals := 30 } : Room)) (fun a U => a = #[(.long q1), (.long q2)] ∧ Z.Warmed39 U.vm ∧ U.heap = h0) (fun _ _ _ _ _ => True) (fun _ U o U' => ∃ v L, o = .returned v ∧ own_rm1_Q Z q1 q2  h0 n0 v U'.heap L ∧ FrameEnd U o U' L ({ frames := 2, cells := 1, slots := 3, locals := 30 } : Room).cells ({ frames := 2, cells := 1, slots := 3, locals := 30 } : Room).slots) := by
  refine MetFree.of_bodySF (plainFor_of_name own_pn0) hisR ?_
  intro p e s m args below meth c s₁ Bd hml0 hP hK
  obtain ⟨rfl, hZ, hh⟩ := hP
  have hx := Bd.exec
  have hby := Bd.bytes
  have hml : c.maxLocals = 4 := hml0
  have hown : s.vm.findClass "com/example/holdfast/holdfast/store/Attempt" = some m.cls := findClass_of_methodNamed Bd.named
  have hnm := (name_of_methodNamed Bd.named Bd.method).1
  have hlk : meth.locks = false := BodyLoose.notSynchronized Bd
  have X0 : Stand p l e ({ frames := 2, cells := 1, slots := 3, locals := 30 } : Room) s m #[(.long q1), (.long q2)] below meth c s₁ [] 0 0 := Stand.of_body Bd
  have e0 : s₁.heap = h0 := by rw [← hh, Bd.state]; rfl
  have N0 := Fr.nil n0
  have K0 : Keep h0 h0 [] := Keep.refl h0 []
  show own_Fin p e below (own_P (own_rm1_Q Z q1 q2  h0 n0) s ({ frames := 2, cells := 1, slots := 3, locals := 30 } : Room).cells ({ frames := 2, cells := 1, slots := 3, locals := 30 } : Room).slots) (s₁.setTop (entryFrame m #[(.long q1), (.long q2)] 4))
  refine own_via (g' := s₁.setTop (mkF m 0 #[.val (.long q1), .second, .val (.long q2), .second] [])) (fun t k => castTop (ef_own_rm1 m q1 q2) k) ?_
  refine own_via (g' := s₁.setTop (mkF m 1 #[.val (.long q1), .second, .val (.long q2), .second] [(.long q1)])) (fun t k => XT.lloadN X0.here hx rfl (hb hby own_d1_0) rfl k) ?_
  refine own_via (g' := s₁.setTop (mkF m 2 #[.val (.long q1), .second, .val (.long q2), .second] [(.long (0 : Int64)), (.long q1)])) (fun t k => XT.lconst X0.here hx rfl (hb hby own_d1_1) k) ?_
  refine own_via (g' := s₁.setTop (mkF m 3 #[.val (.long q1), .second, .val (.long q2), .second] [(.int (XT.cmpL q1 (0 : Int64)))])) (fun t k => XT.lcmp X0.here hx rfl (hb hby own_d1_2) rfl k) ?_
  refine own_via (g' := s₁.setTop (mkF m 20 #[.val (.long q1), .second, .val (.long q2), .second] [])) (fun t k => XS.ifYes X0.here hx rfl (pc0 := 3) (pc' := 20) rfl (hb hby own_d1_3) rfl (XT.ll_gt_t hq1) (by decide) (by decide) k) ?_
  obtain ⟨T1, h1, X1, e1, E1, A1, D1, -, st1⟩ := newO X0 hx hZ hown (hw _ (List.mem_of_getElem? (i := 5) rfl)) (hw _ (List.mem_of_getElem? (i := 6) rfl)) (hw _ (List.mem_of_getElem? (i := 3) rfl)) e0 (g := (mkF m 20 #[.val (.long q1), .second, .val (.long q2), .second] [])) rfl (hb hby own_d1_20) (by decide) (by decide)
  obtain ⟨b1, g1⟩ : ∃ z, z = h0.size := ⟨_, rfl⟩
  rw [← g1] at A1 D1 st1
  have sz_b1 : h0.size ≤ b1 := Nat.le_trans K0.1 (Nat.le_of_eq g1.symm)
  have g_b1 : n0 ≤ b1 := Nat.le_trans Z0 sz_b1
  have Kc1 : Keep h0 h1 [] := K0.ext E1
  have F1_14 : Fld Z h1 b1 "com/example/holdfast/holdfast/store/Attempt" "token" "J" (.long (0 : Int64)) := D1 (Or.inr (hw _ (List.mem_of_getElem? (i := 14) rfl))) (ty := .long) (by decide)
  have F1_16 : Fld Z h1 b1 "com/example/holdfast/holdfast/store/Attempt" "heldForMillis" "J" (.long (0 : Int64)) := D1 (Or.inr (hw _ (List.mem_of_getElem? (i := 16) rfl))) (ty := .long) (by decide)
  have F1_18 : Fld Z h1 b1 "com/example/holdfast/holdfast/store/Attempt" "heldBy" "Ljava/lang/String;" .null := D1 (Or.inr (hw _ (List.mem_of_getElem? (i := 18) rfl))) (ty := (.object "java/lang/String")) (by decide)
  refine own_via (g' := T1.setTop (mkF m 23 #[.val (.long q1), .second, .val (.long q2), .second] [(.ref b1)])) (fun t k => st1 _ k) ?_
  refine own_via (g' := T1.setTop (mkF m 24 #[.val (.long q1), .second, .val (.long q2), .second] [(.ref b1), (.ref b1)])) (fun t k => XS.dup X1.here hx rfl (hb hby own_d1_23) rfl (rfl) k) ?_
  refine own_via (g' := T1.setTop (mkF m 25 #[.val (.long q1), .second, .val (.long q2), .second] [(.long q1), (.ref b1), (.ref b1)])) (fun t k => XT.lloadN X1.here hx rfl (hb hby own_d1_24) rfl k) ?_
  refine own_via (g' := T1.setTop (mkF m 26 #[.val (.long q1), .second, .val (.long q2), .second] [(.long q2), (.long q1), (.ref b1), (.ref b1)])) (fun t k => XT.lloadN X1.here hx rfl (hb hby own_d1_25) rfl k) ?_
  refine own_via (g' := T1.setTop (mkF m 27 #[.val (.long q1), .second, .val (.long q2), .second] [.null, (.long q2), (.long q1), (.ref b1), (.ref b1)])) (fun t k => XS.aconstNull X1.here hx rfl (hb hby own_d1_26) k) ?_
  obtain ⟨v2, _, ⟨T2, L2, k2, n2⟩, -, X2, ⟨Lc2, hQ2, l2, y2, z2⟩, st2⟩ := X1.specialBack hx (y := (⟨"com/example/holdfast/holdfast/store/Attempt", "<init>", "(JJLjava/lang/String;)V"⟩ : MethodName)) rfl hown (mvT hZ (hw _ (List.mem_of_getElem? (i := 7) rfl))) (mvT hZ (hw _ (List.mem_of_getElem? (i := 8) rfl))) (mvT hZ (hw _ (List.mem_of_getElem? (i := 9) rfl))) (by decide) (backOf (W := 1) (own_rm2 l Z a0 hw [] b1 q1 q2 h1 n0 (Nat.le_trans Z0 Kc1.1) A1 F1_14 F1_16 F1_18 g_b1 hq2) hZ (hw _ (List.mem_of_getElem? (i := 9) rfl)) (hw _ (List.mem_of_getElem? (i := 3) rfl)) (by decide) (by decide)) (g := (mkF m 27 #[.val (.long q1), .second, .val (.long q2), .second] [.null, (.long q2), (.long q1), (.ref b1), (.ref b1)])) rfl (by rw [hml]; rfl) (Steps.refl _) (a := b1) (argsL := [(.long q1), (.long q2), .null]) (rest := [(.ref b1)]) (lenOf own_pd0 rfl) rfl (by show 2 * 0 + _ ≤ _; exact Nat.le_of_eq rfl) (hb hby own_d1_27) (fun _ _ => ⟨rfl, e1, (by decide : 1 + 0 ≤ _), (by decide : 3 + 0 ≤ _)⟩)
  dsimp only [Pt.U, Pt.locs, Pt.cells, Pt.slots] at X2 l2 y2 z2 st2 hQ2
  subst l2 y2 z2
  obtain ⟨rfl, N2q, K2, A2, Fa2_0, Fa2_1, Fa2_2⟩ := hQ2
  have Kc2 : Keep h0 T2.heap [] := Kc1.trans K2 (allS (Or.inr sz_b1) all0)
  have N2 := Fr.app N0 N2q
  refine own_via (g' := T2.setTop (mkF m 30 #[.val (.long q1), .second, .val (.long q2), .second] [(.ref b1)])) (fun t k => st2.trans k) ?_
  have eE : T2.heap = T2.heap := rfl
  exact own_retA X2 hx hlk (rfl) Bd.returns rfl (hb hby own_d1_30) ⟨b1, rfl, N2, sz_b1, (by rw [eE]; exact Kc2), (by rw [eE]; exact A2), (by rw [eE]; exact Fa2_0), (by rw [eE]; exact Fa2_1), (by rw [eE]; exact Fa2_2)⟩ (by decide) (by decide)
theorem own_d4_0 : decode prog_15_method_5_code 0 = .ok (.aload_n 0, 1) := by decide +kernel
theorem own_d4_1 : decode prog_15_method_5_code 1 = .ok (.getfield 16, 3) := by decide +kernel
theorem own_d4_4 : decode prog_15_method_5_code 4 = .ok (.lconst 0, 1) := by decide +kernel
theorem own_d4_5 : decode prog_15_method_5_code 5 = .ok (.lcmp, 1) := by decide +kernel
theorem own_d4_6 : decode prog_15_method_5_code 6 = .ok (.ifCond .le 7, 3) := by decide +kernel
theorem own_d4_9 : decode prog_15_method_5_code 9 = .ok (.iconst 1, 1) := by decide +kernel
theorem own_d4_10 : decode prog_15_method_5_code 10 = .ok (.goto 4, 3) := by decide +kernel
theorem own_d4_14 : decode prog_15_method_5_code 14 = .ok (.ireturn, 1) := by decide +kernel
theorem ef_own_rm4 (m : MethodId) (a1 : Addr) : entryFrame m #[(.ref a1)] 1 = mkF m 0 #[.val (.ref a1)] [] := by first | (simp [entryFrame, mkF, argsToLocals, Value.category]; done) | rfl
def own_rm4_Q (Z : State) (a1 : Addr) (q1 : Int64) (h0 : Heap) (n0 : Nat) (v : Option Value) (h : Heap) (L : List Loc) : Prop := v = some (.int ((1 : Int32))) ∧ Fr n0 L ∧ h = h0
set_option maxRecDepth 65536 in
set_option maxHeartbeats 40000000 in
theorem own_rm4 (l : Launch) (Z : State) (a0 : Array Value) (hw : ∀ d ∈ tables_1, d.before a0 Z = true) (ws : List Jvm.Cond) (a1 : Addr) (q1 : Int64) (h0 : Heap) (n0 : Nat) (Z0 : n0 ≤ h0.size) (Fi_0 : Fld Z h0 a1 "com/example/holdfast/holdfast/store/Attempt" "token" "J" (.long q1)) (hq1 : 0 < q1) :
    MetFree l (⟨"com/example/holdfast/holdfast/store/Attempt", "taken", "()Z"⟩ : MethodName) (head1 (Jvm.Cond.code (⟨"com/example/holdfast/holdfast/store/Attempt", "taken", "()Z"⟩ : MethodName) prog_15_method_5_code 1 (some .boolean) :: ws) ({ frames := 0, cells := 0, slots := 0, locals := 0 } : Room)) (fun a U => a = #[(.ref a1)] ∧ Z.Warmed39 U.vm ∧ U.heap = h0) (fun _ _ _ _ _ => True) (fun _ U o U' => ∃ v L, o = .returned v ∧ own_rm4_Q Z a1 q1 h0 n0 v U'.heap L ∧ FrameEnd U o U' L ({ frames := 0, cells := 0, slots := 0, locals := 0 } : Room).cells ({ frames := 0, cells := 0, slots := 0, locals := 0 } : Room).slots) := by
  refine MetFree.of_bodySF (plainFor_of_name own_pn0) hisR ?_
  intro p e s m args below meth c s₁ Bd hml0 hP hK
  obtain ⟨rfl, hZ, hh⟩ := hP
  have hx := Bd.exec
  have hby := Bd.bytes
  have hml : c.maxLocals = 1 := hml0
  have hown : s.vm.findClass "com/example/holdfast/holdfast/store/Attempt" = some m.cls := findClass_of_methodNamed Bd.named
  have hnm := (name_of_methodNamed Bd.named Bd.method).1
  have hlk : meth.locks = false := BodyLoose.notSynchronized Bd
  have X0 : Stand p l e ({ frames := 0, cells := 0, slots := 0, locals := 0 } : Room) s m #[(.ref a1)] below meth c s₁ [] 0 0 := Stand.of_body Bd
  have e0 : s₁.heap = h0 := by rw [← hh, Bd.state]; rfl
  have N0 := Fr.nil n0
  have K0 : Keep h0 h0 [] := Keep.refl h0 []
  show own_Fin p e below (own_P (own_rm4_Q Z a1 q1 h0 n0) s ({ frames := 0, cells := 0, slots := 0, locals := 0 } : Room).cells ({ frames := 0, cells := 0, slots := 0, locals := 0 } : Room).slots) (s₁.setTop (entryFrame m #[(.ref a1)] 1))
  refine own_via (g' := s₁.setTop (mkF m 0 #[.val (.ref a1)] [])) (fun t k => castTop (ef_own_rm4 m a1) k) ?_
  refine own_via (g' := s₁.setTop (mkF m 1 #[.val (.ref a1)] [(.ref a1)])) (fun t k => XS.aloadN X0.here hx rfl (hb hby own_d4_0) rfl (rfl) k) ?_
  obtain ⟨T1, X1, e1, st1⟩ := getF X0 hx hZ hown (host := "") (Or.inl (hw _ (List.mem_of_getElem? (i := 13) rfl))) Via.refl e0 Fi_0 (g := (mkF m 1 #[.val (.ref a1)] [(.ref a1)])) rfl rfl (hb hby own_d4_1)
  refine own_via (g' := T1.setTop (mkF m 4 #[.val (.ref a1)] [(.long q1)])) (fun t k => st1 _ k) ?_
  refine own_via (g' := T1.setTop (mkF m 5 #[.val (.ref a1)] [(.long (0 : Int64)), (.long q1)])) (fun t k => XT.lconst X1.here hx rfl (hb hby own_d4_4) k) ?_
  refine own_via (g' := T1.setTop (mkF m 6 #[.val (.ref a1)] [(.int (XT.cmpL q1 (0 : Int64)))])) (fun t k => XT.lcmp X1.here hx rfl (hb hby own_d4_5) rfl k) ?_
  refine own_via (g' := T1.setTop (mkF m 9 #[.val (.ref a1)] [])) (fun t k => XS.ifNo X1.here hx rfl (hb hby own_d4_6) rfl (XT.ll_le_f hq1) k) ?_
  refine own_via (g' := T1.setTop (mkF m 10 #[.val (.ref a1)] [(.int (1 : Int32))])) (fun t k => XS.iconst X1.here hx rfl (hb hby own_d4_9) k) ?_
  refine own_via (g' := T1.setTop (mkF m 14 #[.val (.ref a1)] [(.int (1 : Int32))])) (fun t k => XS.goto X1.here hx rfl (pc0 := 10) (pc' := 14) rfl (hb hby own_d4_10) (by decide) (by decide) k) ?_
  exact own_retB X1 hx hlk (t := .boolean) Bd.returns (by simp) (hb hby own_d4_14) ⟨rfl, N0, e1⟩ (by decide) (by decide)
theorem own_d5_0 : decode prog_15_method_6_code 0 = .ok (.aload_n 0, 1) := by decide +kernel
theorem own_d5_1 : decode prog_15_method_6_code 1 = .ok (.getfield 16, 3) := by decide +kernel
theorem own_d5_4 : decode prog_15_method_6_code 4 = .ok (.lconst 0, 1) := by decide +kernel
theorem own_d5_5 : decode prog_15_method_6_code 5 = .ok (.lcmp, 1) := by decide +kernel
theorem own_d5_6 : decode prog_15_method_6_code 6 = .ok (.ifCond .ne 13, 3) := by decide +kernel
theorem own_d5_19 : decode prog_15_method_6_code 19 = .ok (.aload_n 0, 1) := by decide +kernel
theorem own_d5_20 : decode prog_15_method_6_code 20 = .ok (.getfield 16, 3) := by decide +kernel
theorem own_d5_23 : decode prog_15_method_6_code 23 = .ok (.lreturn, 1) := by decide +kernel
theorem ef_own_rm5 (m : MethodId) (a1 : Addr) : entryFrame m #[(.ref a1)] 1 = mkF m 0 #[.val (.ref a1)] [] := by first | (simp [entryFrame, mkF, argsToLocals, Value.category]; done) | rfl
def own_rm5_Q (Z : State) (a1 : Addr) (q1 : Int64) (h0 : Heap) (n0 : Nat) (v : Option Value) (h : Heap) (L : List Loc) : Prop := v = some (.long (q1)) ∧ Fr n0 L ∧ h = h0
set_option maxRecDepth 65536 in
set_option maxHeartbeats 40000000 in
theorem own_rm5 (l : Launch) (Z : State) (a0 : Array Value) (hw : ∀ d ∈ tables_1, d.before a0 Z = true) (ws : List Jvm.Cond) (a1 : Addr) (q1 : Int64) (h0 : Heap) (n0 : Nat) (Z0 : n0 ≤ h0.size) (Fi_0 : Fld Z h0 a1 "com/example/holdfast/holdfast/store/Attempt" "token" "J" (.long q1)) (hq1 : ¬ q1 = 0) :
    MetFree l (⟨"com/example/holdfast/holdfast/store/Attempt", "token", "()J"⟩ : MethodName) (head1 (Jvm.Cond.code (⟨"com/example/holdfast/holdfast/store/Attempt", "token", "()J"⟩ : MethodName) prog_15_method_6_code 1 (some .long) :: ws) ({ frames := 0, cells := 0, slots := 0, locals := 0 } : Room)) (fun a U => a = #[(.ref a1)] ∧ Z.Warmed39 U.vm ∧ U.heap = h0) (fun _ _ _ _ _ => True) (fun _ U o U' => ∃ v L, o = .returned v ∧ own_rm5_Q Z a1 q1 h0 n0 v U'.heap L ∧ FrameEnd U o U' L ({ frames := 0, cells := 0, slots := 0, locals := 0 } : Room).cells ({ frames := 0, cells := 0, slots := 0, locals := 0 } : Room).slots) := by
  refine MetFree.of_bodySF (plainFor_of_name own_pn0) hisR ?_
  intro p e s m args below meth c s₁ Bd hml0 hP hK
  obtain ⟨rfl, hZ, hh⟩ := hP
  have hx := Bd.exec
  have hby := Bd.bytes
  have hml : c.maxLocals = 1 := hml0
  have hown : s.vm.findClass "com/example/holdfast/holdfast/store/Attempt" = some m.cls := findClass_of_methodNamed Bd.named
  have hnm := (name_of_methodNamed Bd.named Bd.method).1
  have hlk : meth.locks = false := BodyLoose.notSynchronized Bd
  have X0 : Stand p l e ({ frames := 0, cells := 0, slots := 0, locals := 0 } : Room) s m #[(.ref a1)] below meth c s₁ [] 0 0 := Stand.of_body Bd
  have e0 : s₁.heap = h0 := by rw [← hh, Bd.state]; rfl
  have N0 := Fr.nil n0
  have K0 : Keep h0 h0 [] := Keep.refl h0 []
  show own_Fin p e below (own_P (own_rm5_Q Z a1 q1 h0 n0) s ({ frames := 0, cells := 0, slots := 0, locals := 0 } : Room).cells ({ frames := 0, cells := 0, slots := 0, locals := 0 } : Room).slots) (s₁.setTop (entryFrame m #[(.ref a1)] 1))
  refine own_via (g' := s₁.setTop (mkF m 0 #[.val (.ref a1)] [])) (fun t k => castTop (ef_own_rm5 m a1) k) ?_
  refine own_via (g' := s₁.setTop (mkF m 1 #[.val (.ref a1)] [(.ref a1)])) (fun t k => XS.aloadN X0.here hx rfl (hb hby own_d5_0) rfl (rfl) k) ?_
  obtain ⟨T1, X1, e1, st1⟩ := getF X0 hx hZ hown (host := "") (Or.inl (hw _ (List.mem_of_getElem? (i := 13) rfl))) Via.refl e0 Fi_0 (g := (mkF m 1 #[.val (.ref a1)] [(.ref a1)])) rfl rfl (hb hby own_d5_1)
  refine own_via (g' := T1.setTop (mkF m 4 #[.val (.ref a1)] [(.long q1)])) (fun t k => st1 _ k) ?_
  refine own_via (g' := T1.setTop (mkF m 5 #[.val (.ref a1)] [(.long (0 : Int64)), (.long q1)])) (fun t k => XT.lconst X1.here hx rfl (hb hby own_d5_4) k) ?_
  refine own_via (g' := T1.setTop (mkF m 6 #[.val (.ref a1)] [(.int (XT.cmpL q1 (0 : Int64)))])) (fun t k => XT.lcmp X1.here hx rfl (hb hby own_d5_5) rfl k) ?_
  refine own_via (g' := T1.setTop (mkF m 19 #[.val (.ref a1)] [])) (fun t k => XS.ifYes X1.here hx rfl (pc0 := 6) (pc' := 19) rfl (hb hby own_d5_6) rfl (XT.ll_ne_t hq1) (by decide) (by decide) k) ?_
  refine own_via (g' := T1.setTop (mkF m 20 #[.val (.ref a1)] [(.ref a1)])) (fun t k => XS.aloadN X1.here hx rfl (hb hby own_d5_19) rfl (rfl) k) ?_
  obtain ⟨T2, X2, e2, st2⟩ := getF X1 hx hZ hown (host := "") (Or.inl (hw _ (List.mem_of_getElem? (i := 13) rfl))) Via.refl e1 Fi_0 (g := (mkF m 20 #[.val (.ref a1)] [(.ref a1)])) rfl rfl (hb hby own_d5_20)
  refine own_via (g' := T2.setTop (mkF m 23 #[.val (.ref a1)] [(.long q1)])) (fun t k => st2 _ k) ?_
  exact own_retJ X2 hx hlk Bd.returns (hb hby own_d5_23) ⟨rfl, N0, e2⟩ (by decide) (by decide)
theorem own_d6_0 : decode prog_15_method_7_code 0 = .ok (.aload_n 0, 1) := by decide +kernel
theorem own_d6_1 : decode prog_15_method_7_code 1 = .ok (.getfield 22, 3) := by decide +kernel
theorem own_d6_4 : decode prog_15_method_7_code 4 = .ok (.lreturn, 1) := by decide +kernel
theorem ef_own_rm6 (m : MethodId) (a1 : Addr) : entryFrame m #[(.ref a1)] 1 = mkF m 0 #[.val (.ref a1)] [] := by first | (simp [entryFrame, mkF, argsToLocals, Value.category]; done) | rfl
def own_rm6_Q (Z : State) (a1 : Addr) (q1 : Int64) (h0 : Heap) (n0 : Nat) (v : Option Value) (h : Heap) (L : List Loc) : Prop := v = some (.long (q1)) ∧ Fr n0 L ∧ h = h0
set_option maxRecDepth 65536 in
set_option maxHeartbeats 40000000 in
theorem own_rm6 (l : Launch) (Z : State) (a0 : Array Value) (hw : ∀ d ∈ tables_1, d.before a0 Z = true) (ws : List Jvm.Cond) (a1 : Addr) (q1 : Int64) (h0 : Heap) (n0 : Nat) (Z0 : n0 ≤ h0.size) (Fi_0 : Fld Z h0 a1 "com/example/holdfast/holdfast/store/Attempt" "heldForMillis" "J" (.long q1)) :
    MetFree l (⟨"com/example/holdfast/holdfast/store/Attempt", "heldForMillis", "()J"⟩ : MethodName) (head1 (Jvm.Cond.code (⟨"com/example/holdfast/holdfast/store/Attempt", "heldForMillis", "()J"⟩ : MethodName) prog_15_method_7_code 1 (some .long) :: ws) ({ frames := 0, cells := 0, slots := 0, locals := 0 } : Room)) (fun a U => a = #[(.ref a1)] ∧ Z.Warmed39 U.vm ∧ U.heap = h0) (fun _ _ _ _ _ => True) (fun _ U o U' => ∃ v L, o = .returned v ∧ own_rm6_Q Z a1 q1 h0 n0 v U'.heap L ∧ FrameEnd U o U' L ({ frames := 0, cells := 0, slots := 0, locals := 0 } : Room).cells ({ frames := 0, cells := 0, slots := 0, locals := 0 } : Room).slots) := by
  refine MetFree.of_bodySF (plainFor_of_name own_pn0) hisR ?_
  intro p e s m args below meth c s₁ Bd hml0 hP hK
  obtain ⟨rfl, hZ, hh⟩ := hP
  have hx := Bd.exec
  have hby := Bd.bytes
  have hml : c.maxLocals = 1 := hml0
  have hown : s.vm.findClass "com/example/holdfast/holdfast/store/Attempt" = some m.cls := findClass_of_methodNamed Bd.named
  have hnm := (name_of_methodNamed Bd.named Bd.method).1
  have hlk : meth.locks = false := BodyLoose.notSynchronized Bd
  have X0 : Stand p l e ({ frames := 0, cells := 0, slots := 0, locals := 0 } : Room) s m #[(.ref a1)] below meth c s₁ [] 0 0 := Stand.of_body Bd
  have e0 : s₁.heap = h0 := by rw [← hh, Bd.state]; rfl
  have N0 := Fr.nil n0
  have K0 : Keep h0 h0 [] := Keep.refl h0 []
  show own_Fin p e below (own_P (own_rm6_Q Z a1 q1 h0 n0) s ({ frames := 0, cells := 0, slots := 0, locals := 0 } : Room).cells ({ frames := 0, cells := 0, slots := 0, locals := 0 } : Room).slots) (s₁.setTop (entryFrame m #[(.ref a1)] 1))
  refine own_via (g' := s₁.setTop (mkF m 0 #[.val (.ref a1)] [])) (fun t k => castTop (ef_own_rm6 m a1) k) ?_
  refine own_via (g' := s₁.setTop (mkF m 1 #[.val (.ref a1)] [(.ref a1)])) (fun t k => XS.aloadN X0.here hx rfl (hb hby own_d6_0) rfl (rfl) k) ?_
  obtain ⟨T1, X1, e1, st1⟩ := getF X0 hx hZ hown (host := "") (Or.inl (hw _ (List.mem_of_getElem? (i := 15) rfl))) Via.refl e0 Fi_0 (g := (mkF m 1 #[.val (.ref a1)] [(.ref a1)])) rfl rfl (hb hby own_d6_1)
  refine own_via (g' := T1.setTop (mkF m 4 #[.val (.ref a1)] [(.long q1)])) (fun t k => st1 _ k) ?_
  exact own_retJ X1 hx hlk Bd.returns (hb hby own_d6_4) ⟨rfl, N0, e1⟩ (by decide) (by decide)
theorem own_d7_0 : decode prog_15_method_8_code 0 = .ok (.aload_n 0, 1) := by decide +kernel
theorem own_d7_1 : decode prog_15_method_8_code 1 = .ok (.getfield 25, 3) := by decide +kernel
theorem own_d7_4 : decode prog_15_method_8_code 4 = .ok (.areturn, 1) := by decide +kernel
theorem ef_own_rm7 (m : MethodId) (a1 : Addr) : entryFrame m #[(.ref a1)] 1 = mkF m 0 #[.val (.ref a1)] [] := by first | (simp [entryFrame, mkF, argsToLocals, Value.category]; done) | rfl
def own_rm7_Q (Z : State) (a1 : Addr)  (h0 : Heap) (n0 : Nat) (v : Option Value) (h : Heap) (L : List Loc) : Prop := v = some .null ∧ Fr n0 L ∧ h = h0
set_option maxRecDepth 65536 in
set_option maxHeartbeats 40000000 in
theorem own_rm7 (l : Launch) (Z : State) (a0 : Array Value) (hw : ∀ d ∈ tables_1, d.before a0 Z = true) (ws : List Jvm.Cond) (a1 : Addr)  (h0 : Heap) (n0 : Nat) (Z0 : n0 ≤ h0.size) (Fi_0 : Fld Z h0 a1 "com/example/holdfast/holdfast/store/Attempt" "heldBy" "Ljava/lang/String;" .null) :
    MetFree l (⟨"com/example/holdfast/holdfast/store/Attempt", "heldBy", "()Ljava/lang/String;"⟩ : MethodName) (head1 (Jvm.Cond.code (⟨"com/example/holdfast/holdfast/store/Attempt", "heldBy", "()Ljava/lang/String;"⟩ : MethodName) prog_15_method_8_code 1 (some (.object "java/lang/String")) :: ws) ({ frames := 0, cells := 0, slots := 0, locals := 0 } : Room)) (fun a U => a = #[(.ref a1)] ∧ Z.Warmed39 U.vm ∧ U.heap = h0) (fun _ _ _ _ _ => True) (fun _ U o U' => ∃ v L, o = .returned v ∧ own_rm7_Q Z a1  h0 n0 v U'.heap L ∧ FrameEnd U o U' L ({ frames := 0, cells := 0, slots := 0, locals := 0 } : Room).cells ({ frames := 0, cells := 0, slots := 0, locals := 0 } : Room).slots) := by
  refine MetFree.of_bodySF (plainFor_of_name own_pn0) hisR ?_
  intro p e s m args below meth c s₁ Bd hml0 hP hK
  obtain ⟨rfl, hZ, hh⟩ := hP
  have hx := Bd.exec
  have hby := Bd.bytes
  have hml : c.maxLocals = 1 := hml0
  have hown : s.vm.findClass "com/example/holdfast/holdfast/store/Attempt" = some m.cls := findClass_of_methodNamed Bd.named
  have hnm := (name_of_methodNamed Bd.named Bd.method).1
  have hlk : meth.locks = false := BodyLoose.notSynchronized Bd
  have X0 : Stand p l e ({ frames := 0, cells := 0, slots := 0, locals := 0 } : Room) s m #[(.ref a1)] below meth c s₁ [] 0 0 := Stand.of_body Bd
  have e0 : s₁.heap = h0 := by rw [← hh, Bd.state]; rfl
  have N0 := Fr.nil n0
  have K0 : Keep h0 h0 [] := Keep.refl h0 []
  show own_Fin p e below (own_P (own_rm7_Q Z a1  h0 n0) s ({ frames := 0, cells := 0, slots := 0, locals := 0 } : Room).cells ({ frames := 0, cells := 0, slots := 0, locals := 0 } : Room).slots) (s₁.setTop (entryFrame m #[(.ref a1)] 1))
  refine own_via (g' := s₁.setTop (mkF m 0 #[.val (.ref a1)] [])) (fun t k => castTop (ef_own_rm7 m a1) k) ?_
  refine own_via (g' := s₁.setTop (mkF m 1 #[.val (.ref a1)] [(.ref a1)])) (fun t k => XS.aloadN X0.here hx rfl (hb hby own_d7_0) rfl (rfl) k) ?_
  obtain ⟨T1, X1, e1, st1⟩ := getF X0 hx hZ hown (host := "") (Or.inl (hw _ (List.mem_of_getElem? (i := 17) rfl))) Via.refl e0 Fi_0 (g := (mkF m 1 #[.val (.ref a1)] [(.ref a1)])) rfl rfl (hb hby own_d7_1)
  refine own_via (g' := T1.setTop (mkF m 4 #[.val (.ref a1)] [.null])) (fun t k => st1 _ k) ?_
  exact own_retA X1 hx hlk (rfl) Bd.returns rfl (hb hby own_d7_4) ⟨rfl, N0, e1⟩ (by decide) (by decide)
theorem own_maskL {i q : Int64} (h : i &&& 9223372036854775807 = q) : ¬ q < 0 := by
  subst h; rw [Int64.lt_iff_toInt_lt]
  have := (c_andSL i 9223372036854775807).2.2 (by decide)
  have e : (0 : Int64).toInt = 0 := rfl
  omega
theorem own_posL {q : Int64} (h : ¬ q < 0) (h0 : ¬ q = 0) : 0 < q := by
  rw [Int64.lt_iff_toInt_lt] at h ⊢
  have e : (0 : Int64).toInt = 0 := rfl
  have : q.toInt ≠ 0 := fun z => h0 (Int64.toInt_inj.mp (by rw [z]; rfl))
  omega
theorem own_pn1 : plainName "com/example/holdfast/holdfast/store/AttemptTakenPinLaw" = true := by first | (simp [plainName, overriddenIn]; done) | decide +kernel
theorem own_pd1 : parseMethodDescriptor "(JJ)Lcom/example/holdfast/holdfast/store/Attempt;" = some ⟨[.long, .long], some (.object "com/example/holdfast/holdfast/store/Attempt")⟩ := by decide +kernel
theorem own_pd2 : parseMethodDescriptor "()Z" = some ⟨[], some .boolean⟩ := by decide +kernel
theorem own_pd3 : parseMethodDescriptor "()J" = some ⟨[], some .long⟩ := by decide +kernel
theorem own_pd4 : parseMethodDescriptor "()Ljava/lang/String;" = some ⟨[], some (.object "java/lang/String")⟩ := by decide +kernel
theorem ef_own_rm0 (m : MethodId) (j0 : Int64) (j1 : Int64) : entryFrame m #[(.long j0), (.long j1)] maxLocals = mkF m 0 #[.val (.long j0), .second, .val (.long j1), .second, .unset, .unset, .unset, .unset, .unset, .unset, .unset, .unset, .unset, .unset, .unset] [] := by first | (simp [entryFrame, mkF, argsToLocals, Value.category, maxLocals]; done) | rfl
def own_rm0_Q (Z : State) (j0 : Int64) (j1 : Int64)  (h0 : Heap) (n0 : Nat) (v : Option Value) (h : Heap) (L : List Loc) : Prop := v = some (.int 1) ∧ Fr n0 L
set_option maxRecDepth 65536 in
set_option maxHeartbeats 40000000 in
theorem own_rm0 (l : Launch) (Z : State) (a0 : Array Value) (hw : ∀ d ∈ tables_1, d.before a0 Z = true) (ws : List Jvm.Cond) (j0 : Int64) (j1 : Int64)  (h0 : Heap) (n0 : Nat) (Z0 : n0 ≤ h0.size) :
    MetFree l x (head1 (Jvm.Cond.code x code maxLocals ret :: ws) room_1) (fun a U => a = #[(.long j0), (.long j1)] ∧ Z.Warmed39 U.vm ∧ U.heap = h0) (fun _ _ _ _ _ => True) (fun _ U o U' => ∃ v L, o = .returned v ∧ own_rm0_Q Z j0 j1  h0 n0 v U'.heap L ∧ FrameEnd U o U' L room_1.cells room_1.slots) := by
  refine MetFree.of_bodySF (plainFor_of_name own_pn1) hisR ?_
  intro p e s m args below meth c s₁ Bd hml0 hP hK
  obtain ⟨rfl, hZ, hh⟩ := hP
  have hx := Bd.exec
  have hby := Bd.bytes
  have hml : c.maxLocals = 15 := hml0
  have hown : s.vm.findClass "com/example/holdfast/holdfast/store/AttemptTakenPinLaw" = some m.cls := findClass_of_methodNamed Bd.named
  have hnm := (name_of_methodNamed Bd.named Bd.method).1
  have hlk : meth.locks = false := BodyLoose.notSynchronized Bd
  have X0 : Stand p l e room_1 s m #[(.long j0), (.long j1)] below meth c s₁ [] 0 0 := Stand.of_body Bd
  have e0 : s₁.heap = h0 := by rw [← hh, Bd.state]; rfl
  have N0 := Fr.nil n0
  have K0 : Keep h0 h0 [] := Keep.refl h0 []
  show own_Fin p e below (own_P (own_rm0_Q Z j0 j1  h0 n0) s room_1.cells room_1.slots) (s₁.setTop (entryFrame m #[(.long j0), (.long j1)] maxLocals))
  refine own_via (g' := s₁.setTop (mkF m 0 #[.val (.long j0), .second, .val (.long j1), .second, .unset, .unset, .unset, .unset, .unset, .unset, .unset, .unset, .unset, .unset, .unset] [])) (fun t k => castTop (ef_own_rm0 m j0 j1) k) ?_
  refine own_via (g' := s₁.setTop (mkF m 1 #[.val (.long j0), .second, .val (.long j1), .second, .unset, .unset, .unset, .unset, .unset, .unset, .unset, .unset, .unset, .unset, .unset] [(.long j0)])) (fun t k => XT.lloadN X0.here hx rfl (hb hby at_0) rfl k) ?_
  refine own_via (g' := s₁.setTop (mkF m 4 #[.val (.long j0), .second, .val (.long j1), .second, .unset, .unset, .unset, .unset, .unset, .unset, .unset, .unset, .unset, .unset, .unset] [(.long (9223372036854775807 : Int64)), (.long j0)])) (fun t k => X0.ldc2Long hx hown (mvT hZ (hw _ (List.mem_of_getElem? (i := 0) rfl))) (g := (mkF m 1 #[.val (.long j0), .second, .val (.long j1), .second, .unset, .unset, .unset, .unset, .unset, .unset, .unset, .unset, .unset, .unset, .unset] [(.long j0)])) rfl (hb hby at_1) _ k) ?_
  refine own_via (g' := s₁.setTop (mkF m 5 #[.val (.long j0), .second, .val (.long j1), .second, .unset, .unset, .unset, .unset, .unset, .unset, .unset, .unset, .unset, .unset, .unset] [(.long (j0 &&& (9223372036854775807 : Int64)))])) (fun t k => XT.land X0.here hx rfl (hb hby at_4) rfl k) ?_
  generalize ht0 : (j0 &&& (9223372036854775807 : Int64)) = t0
  refine own_via (g' := s₁.setTop (mkF m 7 #[.val (.long j0), .second, .val (.long j1), .second, .val (.long t0), .second, .unset, .unset, .unset, .unset, .unset, .unset, .unset, .unset, .unset] [])) (fun t k => XT.lstore X0.here hx rfl (hb hby at_5) rfl (l' := #[.val (.long j0), .second, .val (.long j1), .second, .val (.long t0), .second, .unset, .unset, .unset, .unset, .unset, .unset, .unset, .unset, .unset]) rfl k) ?_
  refine own_via (g' := s₁.setTop (mkF m 9 #[.val (.long j0), .second, .val (.long j1), .second, .val (.long t0), .second, .unset, .unset, .unset, .unset, .unset, .unset, .unset, .unset, .unset] [(.long t0)])) (fun t k => XT.lload X0.here hx rfl (hb hby at_7) rfl k) ?_
  refine own_via (g' := s₁.setTop (mkF m 10 #[.val (.long j0), .second, .val (.long j1), .second, .val (.long t0), .second, .unset, .unset, .unset, .unset, .unset, .unset, .unset, .unset, .unset] [(.long (0 : Int64)), (.long t0)])) (fun t k => XT.lconst X0.here hx rfl (hb hby at_9) k) ?_
  refine own_via (g' := s₁.setTop (mkF m 11 #[.val (.long j0), .second, .val (.long j1), .second, .val (.long t0), .second, .unset, .unset, .unset, .unset, .unset, .unset, .unset, .unset, .unset] [(.int (XT.cmpL t0 (0 : Int64)))])) (fun t k => XT.lcmp X0.here hx rfl (hb hby at_10) rfl k) ?_
  by_cases hc11_1 : t0 = (0 : Int64)
  · refine own_via (g' := s₁.setTop (mkF m 14 #[.val (.long j0), .second, .val (.long j1), .second, .val (.long t0), .second, .unset, .unset, .unset, .unset, .unset, .unset, .unset, .unset, .unset] [])) (fun t k => XS.ifNo X0.here hx rfl (hb hby at_11) rfl (XT.ll_ne_f hc11_1) k) ?_
    refine own_via (g' := s₁.setTop (mkF m 15 #[.val (.long j0), .second, .val (.long j1), .second, .val (.long t0), .second, .unset, .unset, .unset, .unset, .unset, .unset, .unset, .unset, .unset] [(.long (1 : Int64))])) (fun t k => XT.lconst X0.here hx rfl (hb hby at_14) k) ?_
    refine own_via (g' := s₁.setTop (mkF m 17 #[.val (.long j0), .second, .val (.long j1), .second, .val (.long (1 : Int64)), .second, .unset, .unset, .unset, .unset, .unset, .unset, .unset, .unset, .unset] [])) (fun t k => XT.lstore X0.here hx rfl (hb hby at_15) rfl (l' := #[.val (.long j0), .second, .val (.long j1), .second, .val (.long (1 : Int64)), .second, .unset, .unset, .unset, .unset, .unset, .unset, .unset, .unset, .unset]) rfl k) ?_
    refine own_via (g' := s₁.setTop (mkF m 18 #[.val (.long j0), .second, .val (.long j1), .second, .val (.long (1 : Int64)), .second, .unset, .unset, .unset, .unset, .unset, .unset, .unset, .unset, .unset] [(.long j1)])) (fun t k => XT.lloadN X0.here hx rfl (hb hby at_17) rfl k) ?_
    refine own_via (g' := s₁.setTop (mkF m 21 #[.val (.long j0), .second, .val (.long j1), .second, .val (.long (1 : Int64)), .second, .unset, .unset, .unset, .unset, .unset, .unset, .unset, .unset, .unset] [(.long (9223372036854775807 : Int64)), (.long j1)])) (fun t k => X0.ldc2Long hx hown (mvT hZ (hw _ (List.mem_of_getElem? (i := 0) rfl))) (g := (mkF m 18 #[.val (.long j0), .second, .val (.long j1), .second, .val (.long (1 : Int64)), .second, .unset, .unset, .unset, .unset, .unset, .unset, .unset, .unset, .unset] [(.long j1)])) rfl (hb hby at_18) _ k) ?_
    refine own_via (g' := s₁.setTop (mkF m 22 #[.val (.long j0), .second, .val (.long j1), .second, .val (.long (1 : Int64)), .second, .unset, .unset, .unset, .unset, .unset, .unset, .unset, .unset, .unset] [(.long (j1 &&& (9223372036854775807 : Int64)))])) (fun t k => XT.land X0.here hx rfl (hb hby at_21) rfl k) ?_
    generalize hl0 : (j1 &&& (9223372036854775807 : Int64)) = l0
    have hq2 := own_maskL hl0
    have hq0 : ¬ (1 : Int64) = 0 := by decide
    have hq1 : 0 < (1 : Int64) := by decide
    refine own_via (g' := s₁.setTop (mkF m 24 #[.val (.long j0), .second, .val (.long j1), .second, .val (.long (1 : Int64)), .second, .val (.long l0), .second, .unset, .unset, .unset, .unset, .unset, .unset, .unset] [])) (fun t k => XT.lstore X0.here hx rfl (hb hby at_22) rfl (l' := #[.val (.long j0), .second, .val (.long j1), .second, .val (.long (1 : Int64)), .second, .val (.long l0), .second, .unset, .unset, .unset, .unset, .unset, .unset, .unset]) rfl k) ?_
    refine own_via (g' := s₁.setTop (mkF m 26 #[.val (.long j0), .second, .val (.long j1), .second, .val (.long (1 : Int64)), .second, .val (.long l0), .second, .unset, .unset, .unset, .unset, .unset, .unset, .unset] [(.long (1 : Int64))])) (fun t k => XT.lload X0.here hx rfl (hb hby at_24) rfl k) ?_
    refine own_via (g' := s₁.setTop (mkF m 28 #[.val (.long j0), .second, .val (.long j1), .second, .val (.long (1 : Int64)), .second, .val (.long l0), .second, .unset, .unset, .unset, .unset, .unset, .unset, .unset] [(.long l0), (.long (1 : Int64))])) (fun t k => XT.lload X0.here hx rfl (hb hby at_26) rfl k) ?_
    obtain ⟨v2, _, ⟨T2, L2, k2, n2⟩, -, X2, ⟨Lc2, hQ2, l2, y2, z2⟩, st2⟩ := Jvm.LawKit.callS X0 hx (y := (⟨"com/example/holdfast/holdfast/store/Attempt", "taken", "(JJ)Lcom/example/holdfast/holdfast/store/Attempt;"⟩ : MethodName)) hown (mvT hZ (hw _ (List.mem_of_getElem? (i := 1) rfl))) (mvT hZ (hw _ (List.mem_of_getElem? (i := 2) rfl))) (mvT hZ (hw _ (List.mem_of_getElem? (i := 3) rfl))) (mvT hZ (hw _ (List.mem_of_getElem? (i := 4) rfl))) (by decide) (backOf (W := 0) (own_rm1 l Z a0 hw [] (1 : Int64) l0 h0 n0 (Nat.le_trans Z0 K0.1) hq1 hq2) hZ (hw _ (List.mem_of_getElem? (i := 4) rfl)) (hw _ (List.mem_of_getElem? (i := 3) rfl)) (by decide) (by decide)) (g := (mkF m 28 #[.val (.long j0), .second, .val (.long j1), .second, .val (.long (1 : Int64)), .second, .val (.long l0), .second, .unset, .unset, .unset, .unset, .unset, .unset, .unset] [(.long l0), (.long (1 : Int64))])) rfl (by rw [hml]; rfl) (argsL := [(.long (1 : Int64)), (.long l0)]) (rest := []) (lenOf own_pd1 rfl) rfl (by show 2 * 0 + _ ≤ _; exact Nat.le_of_eq rfl) (hb hby at_28) (fun _ _ => ⟨rfl, e0, (by decide : 0 + 1 ≤ _), (by decide : 0 + 3 ≤ _)⟩)
    dsimp only [Pt.U, Pt.locs, Pt.cells, Pt.slots] at X2 l2 y2 z2 st2 hQ2
    subst l2 y2 z2
    obtain ⟨b2, rfl, N2q, szq2, K2, A2, Fa2_0, Fa2_1, Fa2_2⟩ := hQ2
    have Kc2 : Keep h0 T2.heap [] := K0.trans K2 all0
    have sz_b2 : h0.size ≤ b2 := Nat.le_trans K0.1 szq2
    have g_b2 : n0 ≤ b2 := Nat.le_trans Z0 sz_b2
    have N2 := Fr.app N0 N2q
    refine own_via (g' := T2.setTop (mkF m 31 #[.val (.long j0), .second, .val (.long j1), .second, .val (.long (1 : Int64)), .second, .val (.long l0), .second, .unset, .unset, .unset, .unset, .unset, .unset, .unset] [(.ref b2)])) (fun t k => st2 _ k) ?_
    refine own_via (g' := T2.setTop (mkF m 33 #[.val (.long j0), .second, .val (.long j1), .second, .val (.long (1 : Int64)), .second, .val (.long l0), .second, .val (.ref b2), .unset, .unset, .unset, .unset, .unset, .unset] [])) (fun t k => XS.astore X2.here hx rfl (hb hby at_31) rfl (rfl) (l' := #[.val (.long j0), .second, .val (.long j1), .second, .val (.long (1 : Int64)), .second, .val (.long l0), .second, .val (.ref b2), .unset, .unset, .unset, .unset, .unset, .unset]) rfl k) ?_
    refine own_via (g' := T2.setTop (mkF m 35 #[.val (.long j0), .second, .val (.long j1), .second, .val (.long (1 : Int64)), .second, .val (.long l0), .second, .val (.ref b2), .unset, .unset, .unset, .unset, .unset, .unset] [(.ref b2)])) (fun t k => XS.aload X2.here hx rfl (hb hby at_33) rfl (rfl) k) ?_
    refine own_via (g' := T2.setTop (mkF m 40 #[.val (.long j0), .second, .val (.long j1), .second, .val (.long (1 : Int64)), .second, .val (.long l0), .second, .val (.ref b2), .unset, .unset, .unset, .unset, .unset, .unset] [])) (fun t k => XT.ifnonnullYes X2.here hx rfl (pc0 := 35) (pc' := 40) rfl (hb hby at_35) rfl (by decide) (by decide) k) ?_
    refine own_via (g' := T2.setTop (mkF m 42 #[.val (.long j0), .second, .val (.long j1), .second, .val (.long (1 : Int64)), .second, .val (.long l0), .second, .val (.ref b2), .unset, .unset, .unset, .unset, .unset, .unset] [(.ref b2)])) (fun t k => XS.aload X2.here hx rfl (hb hby at_40) rfl (rfl) k) ?_
    obtain ⟨cq3, kq3, q3a, q3b, q3c⟩ := isOf hZ rfl A2
    obtain ⟨v3, _, ⟨T3, L3, k3, n3⟩, -, X3, ⟨Lc3, hQ3, l3, y3, z3⟩, st3⟩ := X2.virtualBack hx (y := (⟨"com/example/holdfast/holdfast/store/Attempt", "taken", "()Z"⟩ : MethodName)) (z := (⟨"com/example/holdfast/holdfast/store/Attempt", "taken", "()Z"⟩ : MethodName)) hown (mvT hZ (hw _ (List.mem_of_getElem? (i := 19) rfl))) (mvT hZ (hw _ (List.mem_of_getElem? (i := 20) rfl))) (notFace_of_selects (args := #[]) (mvT hZ (hw _ (List.mem_of_getElem? (i := 22) rfl)))) (mvT hZ (hw _ (List.mem_of_getElem? (i := 22) rfl))) (mvT hZ (hw _ (List.mem_of_getElem? (i := 21) rfl))) (by decide) (backOf (W := 0) (own_rm4 l Z a0 hw [] b2 (1 : Int64) T2.heap n0 (Nat.le_trans Z0 Kc2.1) Fa2_0 hq1) hZ (hw _ (List.mem_of_getElem? (i := 23) rfl)) (hw _ (List.mem_of_getElem? (i := 3) rfl)) (by decide) (by decide)) q3a q3c (g := (mkF m 42 #[.val (.long j0), .second, .val (.long j1), .second, .val (.long (1 : Int64)), .second, .val (.long l0), .second, .val (.ref b2), .unset, .unset, .unset, .unset, .unset, .unset] [(.ref b2)])) rfl (by rw [hml]; rfl) (Steps.refl _) (argsL := []) (rest := []) (lenOf own_pd2 rfl) rfl (by show 2 * 0 + _ ≤ _; exact Nat.le_of_eq rfl) (hb hby at_42) (fun _ _ => ⟨rfl, rfl, (by decide : 1 + 0 ≤ _), (by decide : 3 + 0 ≤ _)⟩)
    dsimp only [Pt.U, Pt.locs, Pt.cells, Pt.slots] at X3 l3 y3 z3 st3 hQ3
    subst l3 y3 z3
    obtain ⟨rfl, N3q, e3⟩ := hQ3
    have N3 := Fr.app N2 N3q
    refine own_via (g' := T3.setTop (mkF m 45 #[.val (.long j0), .second, .val (.long j1), .second, .val (.long (1 : Int64)), .second, .val (.long l0), .second, .val (.ref b2), .unset, .unset, .unset, .unset, .unset, .unset] [(.int (1 : Int32))])) (fun t k => st3.trans k) ?_
    refine own_via (g' := T3.setTop (mkF m 47 #[.val (.long j0), .second, .val (.long j1), .second, .val (.long (1 : Int64)), .second, .val (.long l0), .second, .val (.ref b2), .val (.int (1 : Int32)), .unset, .unset, .unset, .unset, .unset] [])) (fun t k => XS.istore X3.here hx rfl (hb hby at_45) rfl (l' := #[.val (.long j0), .second, .val (.long j1), .second, .val (.long (1 : Int64)), .second, .val (.long l0), .second, .val (.ref b2), .val (.int (1 : Int32)), .unset, .unset, .unset, .unset, .unset]) rfl k) ?_
    refine own_via (g' := T3.setTop (mkF m 49 #[.val (.long j0), .second, .val (.long j1), .second, .val (.long (1 : Int64)), .second, .val (.long l0), .second, .val (.ref b2), .val (.int (1 : Int32)), .unset, .unset, .unset, .unset, .unset] [(.ref b2)])) (fun t k => XS.aload X3.here hx rfl (hb hby at_47) rfl (rfl) k) ?_
    obtain ⟨cq4, kq4, q4a, q4b, q4c⟩ := isOf hZ e3 A2
    obtain ⟨v4, _, ⟨T4, L4, k4, n4⟩, -, X4, ⟨Lc4, hQ4, l4, y4, z4⟩, st4⟩ := X3.virtualBack hx (y := (⟨"com/example/holdfast/holdfast/store/Attempt", "token", "()J"⟩ : MethodName)) (z := (⟨"com/example/holdfast/holdfast/store/Attempt", "token", "()J"⟩ : MethodName)) hown (mvT hZ (hw _ (List.mem_of_getElem? (i := 24) rfl))) (mvT hZ (hw _ (List.mem_of_getElem? (i := 25) rfl))) (notFace_of_selects (args := #[]) (mvT hZ (hw _ (List.mem_of_getElem? (i := 27) rfl)))) (mvT hZ (hw _ (List.mem_of_getElem? (i := 27) rfl))) (mvT hZ (hw _ (List.mem_of_getElem? (i := 26) rfl))) (by decide) (backOf (W := 0) (own_rm5 l Z a0 hw [] b2 (1 : Int64) T2.heap n0 (Nat.le_trans Z0 Kc2.1) Fa2_0 hq0) hZ (hw _ (List.mem_of_getElem? (i := 28) rfl)) (hw _ (List.mem_of_getElem? (i := 3) rfl)) (by decide) (by decide)) q4a q4c (g := (mkF m 49 #[.val (.long j0), .second, .val (.long j1), .second, .val (.long (1 : Int64)), .second, .val (.long l0), .second, .val (.ref b2), .val (.int (1 : Int32)), .unset, .unset, .unset, .unset, .unset] [(.ref b2)])) rfl (by rw [hml]; rfl) (Steps.refl _) (argsL := []) (rest := []) (lenOf own_pd3 rfl) rfl (by show 2 * 0 + _ ≤ _; exact Nat.le_of_eq rfl) (hb hby at_49) (fun _ _ => ⟨rfl, e3, (by decide : 1 + 0 ≤ _), (by decide : 3 + 0 ≤ _)⟩)
    dsimp only [Pt.U, Pt.locs, Pt.cells, Pt.slots] at X4 l4 y4 z4 st4 hQ4
    subst l4 y4 z4
    obtain ⟨rfl, N4q, e4⟩ := hQ4
    have N4 := Fr.app N3 N4q
    refine own_via (g' := T4.setTop (mkF m 52 #[.val (.long j0), .second, .val (.long j1), .second, .val (.long (1 : Int64)), .second, .val (.long l0), .second, .val (.ref b2), .val (.int (1 : Int32)), .unset, .unset, .unset, .unset, .unset] [(.long (1 : Int64))])) (fun t k => st4.trans k) ?_
    refine own_via (g' := T4.setTop (mkF m 54 #[.val (.long j0), .second, .val (.long j1), .second, .val (.long (1 : Int64)), .second, .val (.long l0), .second, .val (.ref b2), .val (.int (1 : Int32)), .val (.long (1 : Int64)), .second, .unset, .unset, .unset] [])) (fun t k => XT.lstore X4.here hx rfl (hb hby at_52) rfl (l' := #[.val (.long j0), .second, .val (.long j1), .second, .val (.long (1 : Int64)), .second, .val (.long l0), .second, .val (.ref b2), .val (.int (1 : Int32)), .val (.long (1 : Int64)), .second, .unset, .unset, .unset]) rfl k) ?_
    refine own_via (g' := T4.setTop (mkF m 56 #[.val (.long j0), .second, .val (.long j1), .second, .val (.long (1 : Int64)), .second, .val (.long l0), .second, .val (.ref b2), .val (.int (1 : Int32)), .val (.long (1 : Int64)), .second, .unset, .unset, .unset] [(.ref b2)])) (fun t k => XS.aload X4.here hx rfl (hb hby at_54) rfl (rfl) k) ?_
    obtain ⟨cq5, kq5, q5a, q5b, q5c⟩ := isOf hZ e4 A2
    obtain ⟨v5, _, ⟨T5, L5, k5, n5⟩, -, X5, ⟨Lc5, hQ5, l5, y5, z5⟩, st5⟩ := X4.virtualBack hx (y := (⟨"com/example/holdfast/holdfast/store/Attempt", "heldForMillis", "()J"⟩ : MethodName)) (z := (⟨"com/example/holdfast/holdfast/store/Attempt", "heldForMillis", "()J"⟩ : MethodName)) hown (mvT hZ (hw _ (List.mem_of_getElem? (i := 29) rfl))) (mvT hZ (hw _ (List.mem_of_getElem? (i := 30) rfl))) (notFace_of_selects (args := #[]) (mvT hZ (hw _ (List.mem_of_getElem? (i := 32) rfl)))) (mvT hZ (hw _ (List.mem_of_getElem? (i := 32) rfl))) (mvT hZ (hw _ (List.mem_of_getElem? (i := 31) rfl))) (by decide) (backOf (W := 0) (own_rm6 l Z a0 hw [] b2 l0 T2.heap n0 (Nat.le_trans Z0 Kc2.1) Fa2_1) hZ (hw _ (List.mem_of_getElem? (i := 33) rfl)) (hw _ (List.mem_of_getElem? (i := 3) rfl)) (by decide) (by decide)) q5a q5c (g := (mkF m 56 #[.val (.long j0), .second, .val (.long j1), .second, .val (.long (1 : Int64)), .second, .val (.long l0), .second, .val (.ref b2), .val (.int (1 : Int32)), .val (.long (1 : Int64)), .second, .unset, .unset, .unset] [(.ref b2)])) rfl (by rw [hml]; rfl) (Steps.refl _) (argsL := []) (rest := []) (lenOf own_pd3 rfl) rfl (by show 2 * 0 + _ ≤ _; exact Nat.le_of_eq rfl) (hb hby at_56) (fun _ _ => ⟨rfl, e4, (by decide : 1 + 0 ≤ _), (by decide : 3 + 0 ≤ _)⟩)
    dsimp only [Pt.U, Pt.locs, Pt.cells, Pt.slots] at X5 l5 y5 z5 st5 hQ5
    subst l5 y5 z5
    obtain ⟨rfl, N5q, e5⟩ := hQ5
    have N5 := Fr.app N4 N5q
    refine own_via (g' := T5.setTop (mkF m 59 #[.val (.long j0), .second, .val (.long j1), .second, .val (.long (1 : Int64)), .second, .val (.long l0), .second, .val (.ref b2), .val (.int (1 : Int32)), .val (.long (1 : Int64)), .second, .unset, .unset, .unset] [(.long l0)])) (fun t k => st5.trans k) ?_
    refine own_via (g' := T5.setTop (mkF m 61 #[.val (.long j0), .second, .val (.long j1), .second, .val (.long (1 : Int64)), .second, .val (.long l0), .second, .val (.ref b2), .val (.int (1 : Int32)), .val (.long (1 : Int64)), .second, .val (.long l0), .second, .unset] [])) (fun t k => XT.lstore X5.here hx rfl (hb hby at_59) rfl (l' := #[.val (.long j0), .second, .val (.long j1), .second, .val (.long (1 : Int64)), .second, .val (.long l0), .second, .val (.ref b2), .val (.int (1 : Int32)), .val (.long (1 : Int64)), .second, .val (.long l0), .second, .unset]) rfl k) ?_
    refine own_via (g' := T5.setTop (mkF m 63 #[.val (.long j0), .second, .val (.long j1), .second, .val (.long (1 : Int64)), .second, .val (.long l0), .second, .val (.ref b2), .val (.int (1 : Int32)), .val (.long (1 : Int64)), .second, .val (.long l0), .second, .unset] [(.ref b2)])) (fun t k => XS.aload X5.here hx rfl (hb hby at_61) rfl (rfl) k) ?_
    obtain ⟨cq6, kq6, q6a, q6b, q6c⟩ := isOf hZ e5 A2
    obtain ⟨v6, _, ⟨T6, L6, k6, n6⟩, -, X6, ⟨Lc6, hQ6, l6, y6, z6⟩, st6⟩ := X5.virtualBack hx (y := (⟨"com/example/holdfast/holdfast/store/Attempt", "heldBy", "()Ljava/lang/String;"⟩ : MethodName)) (z := (⟨"com/example/holdfast/holdfast/store/Attempt", "heldBy", "()Ljava/lang/String;"⟩ : MethodName)) hown (mvT hZ (hw _ (List.mem_of_getElem? (i := 34) rfl))) (mvT hZ (hw _ (List.mem_of_getElem? (i := 35) rfl))) (notFace_of_selects (args := #[]) (mvT hZ (hw _ (List.mem_of_getElem? (i := 37) rfl)))) (mvT hZ (hw _ (List.mem_of_getElem? (i := 37) rfl))) (mvT hZ (hw _ (List.mem_of_getElem? (i := 36) rfl))) (by decide) (backOf (W := 0) (own_rm7 l Z a0 hw [] b2 T2.heap n0 (Nat.le_trans Z0 Kc2.1) Fa2_2) hZ (hw _ (List.mem_of_getElem? (i := 38) rfl)) (hw _ (List.mem_of_getElem? (i := 3) rfl)) (by decide) (by decide)) q6a q6c (g := (mkF m 63 #[.val (.long j0), .second, .val (.long j1), .second, .val (.long (1 : Int64)), .second, .val (.long l0), .second, .val (.ref b2), .val (.int (1 : Int32)), .val (.long (1 : Int64)), .second, .val (.long l0), .second, .unset] [(.ref b2)])) rfl (by rw [hml]; rfl) (Steps.refl _) (argsL := []) (rest := []) (lenOf own_pd4 rfl) rfl (by show 2 * 0 + _ ≤ _; exact Nat.le_of_eq rfl) (hb hby at_63) (fun _ _ => ⟨rfl, e5, (by decide : 1 + 0 ≤ _), (by decide : 3 + 0 ≤ _)⟩)
    dsimp only [Pt.U, Pt.locs, Pt.cells, Pt.slots] at X6 l6 y6 z6 st6 hQ6
    subst l6 y6 z6
    obtain ⟨rfl, N6q, e6⟩ := hQ6
    have N6 := Fr.app N5 N6q
    refine own_via (g' := T6.setTop (mkF m 66 #[.val (.long j0), .second, .val (.long j1), .second, .val (.long (1 : Int64)), .second, .val (.long l0), .second, .val (.ref b2), .val (.int (1 : Int32)), .val (.long (1 : Int64)), .second, .val (.long l0), .second, .unset] [.null])) (fun t k => st6.trans k) ?_
    refine own_via (g' := T6.setTop (mkF m 68 #[.val (.long j0), .second, .val (.long j1), .second, .val (.long (1 : Int64)), .second, .val (.long l0), .second, .val (.ref b2), .val (.int (1 : Int32)), .val (.long (1 : Int64)), .second, .val (.long l0), .second, .val .null] [])) (fun t k => XS.astore X6.here hx rfl (hb hby at_66) rfl (rfl) (l' := #[.val (.long j0), .second, .val (.long j1), .second, .val (.long (1 : Int64)), .second, .val (.long l0), .second, .val (.ref b2), .val (.int (1 : Int32)), .val (.long (1 : Int64)), .second, .val (.long l0), .second, .val .null]) rfl k) ?_
    refine own_via (g' := T6.setTop (mkF m 70 #[.val (.long j0), .second, .val (.long j1), .second, .val (.long (1 : Int64)), .second, .val (.long l0), .second, .val (.ref b2), .val (.int (1 : Int32)), .val (.long (1 : Int64)), .second, .val (.long l0), .second, .val .null] [(.int (1 : Int32))])) (fun t k => XS.iload X6.here hx rfl (hb hby at_68) rfl k) ?_
    refine own_via (g' := T6.setTop (mkF m 73 #[.val (.long j0), .second, .val (.long j1), .second, .val (.long (1 : Int64)), .second, .val (.long l0), .second, .val (.ref b2), .val (.int (1 : Int32)), .val (.long (1 : Int64)), .second, .val (.long l0), .second, .val .null] [])) (fun t k => XS.ifNo X6.here hx rfl (hb hby at_70) rfl (XT.i0_eq_f (by decide)) k) ?_
    refine own_via (g' := T6.setTop (mkF m 75 #[.val (.long j0), .second, .val (.long j1), .second, .val (.long (1 : Int64)), .second, .val (.long l0), .second, .val (.ref b2), .val (.int (1 : Int32)), .val (.long (1 : Int64)), .second, .val (.long l0), .second, .val .null] [(.long (1 : Int64))])) (fun t k => XT.lload X6.here hx rfl (hb hby at_73) rfl k) ?_
    refine own_via (g' := T6.setTop (mkF m 77 #[.val (.long j0), .second, .val (.long j1), .second, .val (.long (1 : Int64)), .second, .val (.long l0), .second, .val (.ref b2), .val (.int (1 : Int32)), .val (.long (1 : Int64)), .second, .val (.long l0), .second, .val .null] [(.long (1 : Int64)), (.long (1 : Int64))])) (fun t k => XT.lload X6.here hx rfl (hb hby at_75) rfl k) ?_
    refine own_via (g' := T6.setTop (mkF m 78 #[.val (.long j0), .second, .val (.long j1), .second, .val (.long (1 : Int64)), .second, .val (.long l0), .second, .val (.ref b2), .val (.int (1 : Int32)), .val (.long (1 : Int64)), .second, .val (.long l0), .second, .val .null] [(.int (XT.cmpL (1 : Int64) (1 : Int64)))])) (fun t k => XT.lcmp X6.here hx rfl (hb hby at_77) rfl k) ?_
    refine own_via (g' := T6.setTop (mkF m 81 #[.val (.long j0), .second, .val (.long j1), .second, .val (.long (1 : Int64)), .second, .val (.long l0), .second, .val (.ref b2), .val (.int (1 : Int32)), .val (.long (1 : Int64)), .second, .val (.long l0), .second, .val .null] [])) (fun t k => XS.ifNo X6.here hx rfl (hb hby at_78) rfl (XT.ll_ne_f (by decide)) k) ?_
    refine own_via (g' := T6.setTop (mkF m 83 #[.val (.long j0), .second, .val (.long j1), .second, .val (.long (1 : Int64)), .second, .val (.long l0), .second, .val (.ref b2), .val (.int (1 : Int32)), .val (.long (1 : Int64)), .second, .val (.long l0), .second, .val .null] [(.long l0)])) (fun t k => XT.lload X6.here hx rfl (hb hby at_81) rfl k) ?_
    refine own_via (g' := T6.setTop (mkF m 85 #[.val (.long j0), .second, .val (.long j1), .second, .val (.long (1 : Int64)), .second, .val (.long l0), .second, .val (.ref b2), .val (.int (1 : Int32)), .val (.long (1 : Int64)), .second, .val (.long l0), .second, .val .null] [(.long l0), (.long l0)])) (fun t k => XT.lload X6.here hx rfl (hb hby at_83) rfl k) ?_
    refine own_via (g' := T6.setTop (mkF m 86 #[.val (.long j0), .second, .val (.long j1), .second, .val (.long (1 : Int64)), .second, .val (.long l0), .second, .val (.ref b2), .val (.int (1 : Int32)), .val (.long (1 : Int64)), .second, .val (.long l0), .second, .val .null] [(.int (XT.cmpL l0 l0))])) (fun t k => XT.lcmp X6.here hx rfl (hb hby at_85) rfl k) ?_
    refine own_via (g' := T6.setTop (mkF m 89 #[.val (.long j0), .second, .val (.long j1), .second, .val (.long (1 : Int64)), .second, .val (.long l0), .second, .val (.ref b2), .val (.int (1 : Int32)), .val (.long (1 : Int64)), .second, .val (.long l0), .second, .val .null] [])) (fun t k => XS.ifNo X6.here hx rfl (hb hby at_86) rfl (XT.ll_ne_f rfl) k) ?_
    refine own_via (g' := T6.setTop (mkF m 91 #[.val (.long j0), .second, .val (.long j1), .second, .val (.long (1 : Int64)), .second, .val (.long l0), .second, .val (.ref b2), .val (.int (1 : Int32)), .val (.long (1 : Int64)), .second, .val (.long l0), .second, .val .null] [.null])) (fun t k => XS.aload X6.here hx rfl (hb hby at_89) rfl (rfl) k) ?_
    refine own_via (g' := T6.setTop (mkF m 94 #[.val (.long j0), .second, .val (.long j1), .second, .val (.long (1 : Int64)), .second, .val (.long l0), .second, .val (.ref b2), .val (.int (1 : Int32)), .val (.long (1 : Int64)), .second, .val (.long l0), .second, .val .null] [])) (fun t k => XT.ifnonnullNo X6.here hx rfl (hb hby at_91) rfl k) ?_
    refine own_via (g' := T6.setTop (mkF m 95 #[.val (.long j0), .second, .val (.long j1), .second, .val (.long (1 : Int64)), .second, .val (.long l0), .second, .val (.ref b2), .val (.int (1 : Int32)), .val (.long (1 : Int64)), .second, .val (.long l0), .second, .val .null] [(.int (1 : Int32))])) (fun t k => XS.iconst X6.here hx rfl (hb hby at_94) k) ?_
    refine own_via (g' := T6.setTop (mkF m 99 #[.val (.long j0), .second, .val (.long j1), .second, .val (.long (1 : Int64)), .second, .val (.long l0), .second, .val (.ref b2), .val (.int (1 : Int32)), .val (.long (1 : Int64)), .second, .val (.long l0), .second, .val .null] [(.int (1 : Int32))])) (fun t k => XS.goto X6.here hx rfl (pc0 := 95) (pc' := 99) rfl (hb hby at_95) (by decide) (by decide) k) ?_
    exact own_retB X6 hx hlk (t := .boolean) Bd.returns (by simp) (hb hby at_99) ⟨rfl, N6⟩ (by decide) (by decide)
  · refine own_via (g' := s₁.setTop (mkF m 17 #[.val (.long j0), .second, .val (.long j1), .second, .val (.long t0), .second, .unset, .unset, .unset, .unset, .unset, .unset, .unset, .unset, .unset] [])) (fun t k => XS.ifYes X0.here hx rfl (pc0 := 11) (pc' := 17) rfl (hb hby at_11) rfl (XT.ll_ne_t hc11_1) (by decide) (by decide) k) ?_
    refine own_via (g' := s₁.setTop (mkF m 18 #[.val (.long j0), .second, .val (.long j1), .second, .val (.long t0), .second, .unset, .unset, .unset, .unset, .unset, .unset, .unset, .unset, .unset] [(.long j1)])) (fun t k => XT.lloadN X0.here hx rfl (hb hby at_17) rfl k) ?_
    refine own_via (g' := s₁.setTop (mkF m 21 #[.val (.long j0), .second, .val (.long j1), .second, .val (.long t0), .second, .unset, .unset, .unset, .unset, .unset, .unset, .unset, .unset, .unset] [(.long (9223372036854775807 : Int64)), (.long j1)])) (fun t k => X0.ldc2Long hx hown (mvT hZ (hw _ (List.mem_of_getElem? (i := 0) rfl))) (g := (mkF m 18 #[.val (.long j0), .second, .val (.long j1), .second, .val (.long t0), .second, .unset, .unset, .unset, .unset, .unset, .unset, .unset, .unset, .unset] [(.long j1)])) rfl (hb hby at_18) _ k) ?_
    refine own_via (g' := s₁.setTop (mkF m 22 #[.val (.long j0), .second, .val (.long j1), .second, .val (.long t0), .second, .unset, .unset, .unset, .unset, .unset, .unset, .unset, .unset, .unset] [(.long (j1 &&& (9223372036854775807 : Int64)))])) (fun t k => XT.land X0.here hx rfl (hb hby at_21) rfl k) ?_
    generalize hl0 : (j1 &&& (9223372036854775807 : Int64)) = l0
    have hq2 := own_maskL hl0
    have hq0 := hc11_1
    have hq1 := own_posL (own_maskL ht0) hq0
    refine own_via (g' := s₁.setTop (mkF m 24 #[.val (.long j0), .second, .val (.long j1), .second, .val (.long t0), .second, .val (.long l0), .second, .unset, .unset, .unset, .unset, .unset, .unset, .unset] [])) (fun t k => XT.lstore X0.here hx rfl (hb hby at_22) rfl (l' := #[.val (.long j0), .second, .val (.long j1), .second, .val (.long t0), .second, .val (.long l0), .second, .unset, .unset, .unset, .unset, .unset, .unset, .unset]) rfl k) ?_
    refine own_via (g' := s₁.setTop (mkF m 26 #[.val (.long j0), .second, .val (.long j1), .second, .val (.long t0), .second, .val (.long l0), .second, .unset, .unset, .unset, .unset, .unset, .unset, .unset] [(.long t0)])) (fun t k => XT.lload X0.here hx rfl (hb hby at_24) rfl k) ?_
    refine own_via (g' := s₁.setTop (mkF m 28 #[.val (.long j0), .second, .val (.long j1), .second, .val (.long t0), .second, .val (.long l0), .second, .unset, .unset, .unset, .unset, .unset, .unset, .unset] [(.long l0), (.long t0)])) (fun t k => XT.lload X0.here hx rfl (hb hby at_26) rfl k) ?_
    obtain ⟨v7, _, ⟨T7, L7, k7, n7⟩, -, X7, ⟨Lc7, hQ7, l7, y7, z7⟩, st7⟩ := Jvm.LawKit.callS X0 hx (y := (⟨"com/example/holdfast/holdfast/store/Attempt", "taken", "(JJ)Lcom/example/holdfast/holdfast/store/Attempt;"⟩ : MethodName)) hown (mvT hZ (hw _ (List.mem_of_getElem? (i := 1) rfl))) (mvT hZ (hw _ (List.mem_of_getElem? (i := 2) rfl))) (mvT hZ (hw _ (List.mem_of_getElem? (i := 3) rfl))) (mvT hZ (hw _ (List.mem_of_getElem? (i := 4) rfl))) (by decide) (backOf (W := 0) (own_rm1 l Z a0 hw [] t0 l0 h0 n0 (Nat.le_trans Z0 K0.1) hq1 hq2) hZ (hw _ (List.mem_of_getElem? (i := 4) rfl)) (hw _ (List.mem_of_getElem? (i := 3) rfl)) (by decide) (by decide)) (g := (mkF m 28 #[.val (.long j0), .second, .val (.long j1), .second, .val (.long t0), .second, .val (.long l0), .second, .unset, .unset, .unset, .unset, .unset, .unset, .unset] [(.long l0), (.long t0)])) rfl (by rw [hml]; rfl) (argsL := [(.long t0), (.long l0)]) (rest := []) (lenOf own_pd1 rfl) rfl (by show 2 * 0 + _ ≤ _; exact Nat.le_of_eq rfl) (hb hby at_28) (fun _ _ => ⟨rfl, e0, (by decide : 0 + 1 ≤ _), (by decide : 0 + 3 ≤ _)⟩)
    dsimp only [Pt.U, Pt.locs, Pt.cells, Pt.slots] at X7 l7 y7 z7 st7 hQ7
    subst l7 y7 z7
    obtain ⟨b7, rfl, N7q, szq7, K7, A7, Fa7_0, Fa7_1, Fa7_2⟩ := hQ7
    have Kc7 : Keep h0 T7.heap [] := K0.trans K7 all0
    have sz_b7 : h0.size ≤ b7 := Nat.le_trans K0.1 szq7
    have g_b7 : n0 ≤ b7 := Nat.le_trans Z0 sz_b7
    have N7 := Fr.app N0 N7q
    refine own_via (g' := T7.setTop (mkF m 31 #[.val (.long j0), .second, .val (.long j1), .second, .val (.long t0), .second, .val (.long l0), .second, .unset, .unset, .unset, .unset, .unset, .unset, .unset] [(.ref b7)])) (fun t k => st7 _ k) ?_
    refine own_via (g' := T7.setTop (mkF m 33 #[.val (.long j0), .second, .val (.long j1), .second, .val (.long t0), .second, .val (.long l0), .second, .val (.ref b7), .unset, .unset, .unset, .unset, .unset, .unset] [])) (fun t k => XS.astore X7.here hx rfl (hb hby at_31) rfl (rfl) (l' := #[.val (.long j0), .second, .val (.long j1), .second, .val (.long t0), .second, .val (.long l0), .second, .val (.ref b7), .unset, .unset, .unset, .unset, .unset, .unset]) rfl k) ?_
    refine own_via (g' := T7.setTop (mkF m 35 #[.val (.long j0), .second, .val (.long j1), .second, .val (.long t0), .second, .val (.long l0), .second, .val (.ref b7), .unset, .unset, .unset, .unset, .unset, .unset] [(.ref b7)])) (fun t k => XS.aload X7.here hx rfl (hb hby at_33) rfl (rfl) k) ?_
    refine own_via (g' := T7.setTop (mkF m 40 #[.val (.long j0), .second, .val (.long j1), .second, .val (.long t0), .second, .val (.long l0), .second, .val (.ref b7), .unset, .unset, .unset, .unset, .unset, .unset] [])) (fun t k => XT.ifnonnullYes X7.here hx rfl (pc0 := 35) (pc' := 40) rfl (hb hby at_35) rfl (by decide) (by decide) k) ?_
    refine own_via (g' := T7.setTop (mkF m 42 #[.val (.long j0), .second, .val (.long j1), .second, .val (.long t0), .second, .val (.long l0), .second, .val (.ref b7), .unset, .unset, .unset, .unset, .unset, .unset] [(.ref b7)])) (fun t k => XS.aload X7.here hx rfl (hb hby at_40) rfl (rfl) k) ?_
    obtain ⟨cq8, kq8, q8a, q8b, q8c⟩ := isOf hZ rfl A7
    obtain ⟨v8, _, ⟨T8, L8, k8, n8⟩, -, X8, ⟨Lc8, hQ8, l8, y8, z8⟩, st8⟩ := X7.virtualBack hx (y := (⟨"com/example/holdfast/holdfast/store/Attempt", "taken", "()Z"⟩ : MethodName)) (z := (⟨"com/example/holdfast/holdfast/store/Attempt", "taken", "()Z"⟩ : MethodName)) hown (mvT hZ (hw _ (List.mem_of_getElem? (i := 19) rfl))) (mvT hZ (hw _ (List.mem_of_getElem? (i := 20) rfl))) (notFace_of_selects (args := #[]) (mvT hZ (hw _ (List.mem_of_getElem? (i := 22) rfl)))) (mvT hZ (hw _ (List.mem_of_getElem? (i := 22) rfl))) (mvT hZ (hw _ (List.mem_of_getElem? (i := 21) rfl))) (by decide) (backOf (W := 0) (own_rm4 l Z a0 hw [] b7 t0 T7.heap n0 (Nat.le_trans Z0 Kc7.1) Fa7_0 hq1) hZ (hw _ (List.mem_of_getElem? (i := 23) rfl)) (hw _ (List.mem_of_getElem? (i := 3) rfl)) (by decide) (by decide)) q8a q8c (g := (mkF m 42 #[.val (.long j0), .second, .val (.long j1), .second, .val (.long t0), .second, .val (.long l0), .second, .val (.ref b7), .unset, .unset, .unset, .unset, .unset, .unset] [(.ref b7)])) rfl (by rw [hml]; rfl) (Steps.refl _) (argsL := []) (rest := []) (lenOf own_pd2 rfl) rfl (by show 2 * 0 + _ ≤ _; exact Nat.le_of_eq rfl) (hb hby at_42) (fun _ _ => ⟨rfl, rfl, (by decide : 1 + 0 ≤ _), (by decide : 3 + 0 ≤ _)⟩)
    dsimp only [Pt.U, Pt.locs, Pt.cells, Pt.slots] at X8 l8 y8 z8 st8 hQ8
    subst l8 y8 z8
    obtain ⟨rfl, N8q, e8⟩ := hQ8
    have N8 := Fr.app N7 N8q
    refine own_via (g' := T8.setTop (mkF m 45 #[.val (.long j0), .second, .val (.long j1), .second, .val (.long t0), .second, .val (.long l0), .second, .val (.ref b7), .unset, .unset, .unset, .unset, .unset, .unset] [(.int (1 : Int32))])) (fun t k => st8.trans k) ?_
    refine own_via (g' := T8.setTop (mkF m 47 #[.val (.long j0), .second, .val (.long j1), .second, .val (.long t0), .second, .val (.long l0), .second, .val (.ref b7), .val (.int (1 : Int32)), .unset, .unset, .unset, .unset, .unset] [])) (fun t k => XS.istore X8.here hx rfl (hb hby at_45) rfl (l' := #[.val (.long j0), .second, .val (.long j1), .second, .val (.long t0), .second, .val (.long l0), .second, .val (.ref b7), .val (.int (1 : Int32)), .unset, .unset, .unset, .unset, .unset]) rfl k) ?_
    refine own_via (g' := T8.setTop (mkF m 49 #[.val (.long j0), .second, .val (.long j1), .second, .val (.long t0), .second, .val (.long l0), .second, .val (.ref b7), .val (.int (1 : Int32)), .unset, .unset, .unset, .unset, .unset] [(.ref b7)])) (fun t k => XS.aload X8.here hx rfl (hb hby at_47) rfl (rfl) k) ?_
    obtain ⟨cq9, kq9, q9a, q9b, q9c⟩ := isOf hZ e8 A7
    obtain ⟨v9, _, ⟨T9, L9, k9, n9⟩, -, X9, ⟨Lc9, hQ9, l9, y9, z9⟩, st9⟩ := X8.virtualBack hx (y := (⟨"com/example/holdfast/holdfast/store/Attempt", "token", "()J"⟩ : MethodName)) (z := (⟨"com/example/holdfast/holdfast/store/Attempt", "token", "()J"⟩ : MethodName)) hown (mvT hZ (hw _ (List.mem_of_getElem? (i := 24) rfl))) (mvT hZ (hw _ (List.mem_of_getElem? (i := 25) rfl))) (notFace_of_selects (args := #[]) (mvT hZ (hw _ (List.mem_of_getElem? (i := 27) rfl)))) (mvT hZ (hw _ (List.mem_of_getElem? (i := 27) rfl))) (mvT hZ (hw _ (List.mem_of_getElem? (i := 26) rfl))) (by decide) (backOf (W := 0) (own_rm5 l Z a0 hw [] b7 t0 T7.heap n0 (Nat.le_trans Z0 Kc7.1) Fa7_0 hq0) hZ (hw _ (List.mem_of_getElem? (i := 28) rfl)) (hw _ (List.mem_of_getElem? (i := 3) rfl)) (by decide) (by decide)) q9a q9c (g := (mkF m 49 #[.val (.long j0), .second, .val (.long j1), .second, .val (.long t0), .second, .val (.long l0), .second, .val (.ref b7), .val (.int (1 : Int32)), .unset, .unset, .unset, .unset, .unset] [(.ref b7)])) rfl (by rw [hml]; rfl) (Steps.refl _) (argsL := []) (rest := []) (lenOf own_pd3 rfl) rfl (by show 2 * 0 + _ ≤ _; exact Nat.le_of_eq rfl) (hb hby at_49) (fun _ _ => ⟨rfl, e8, (by decide : 1 + 0 ≤ _), (by decide : 3 + 0 ≤ _)⟩)
    dsimp only [Pt.U, Pt.locs, Pt.cells, Pt.slots] at X9 l9 y9 z9 st9 hQ9
    subst l9 y9 z9
    obtain ⟨rfl, N9q, e9⟩ := hQ9
    have N9 := Fr.app N8 N9q
    refine own_via (g' := T9.setTop (mkF m 52 #[.val (.long j0), .second, .val (.long j1), .second, .val (.long t0), .second, .val (.long l0), .second, .val (.ref b7), .val (.int (1 : Int32)), .unset, .unset, .unset, .unset, .unset] [(.long t0)])) (fun t k => st9.trans k) ?_
    refine own_via (g' := T9.setTop (mkF m 54 #[.val (.long j0), .second, .val (.long j1), .second, .val (.long t0), .second, .val (.long l0), .second, .val (.ref b7), .val (.int (1 : Int32)), .val (.long t0), .second, .unset, .unset, .unset] [])) (fun t k => XT.lstore X9.here hx rfl (hb hby at_52) rfl (l' := #[.val (.long j0), .second, .val (.long j1), .second, .val (.long t0), .second, .val (.long l0), .second, .val (.ref b7), .val (.int (1 : Int32)), .val (.long t0), .second, .unset, .unset, .unset]) rfl k) ?_
    refine own_via (g' := T9.setTop (mkF m 56 #[.val (.long j0), .second, .val (.long j1), .second, .val (.long t0), .second, .val (.long l0), .second, .val (.ref b7), .val (.int (1 : Int32)), .val (.long t0), .second, .unset, .unset, .unset] [(.ref b7)])) (fun t k => XS.aload X9.here hx rfl (hb hby at_54) rfl (rfl) k) ?_
    obtain ⟨cq10, kq10, q10a, q10b, q10c⟩ := isOf hZ e9 A7
    obtain ⟨v10, _, ⟨T10, L10, k10, n10⟩, -, X10, ⟨Lc10, hQ10, l10, y10, z10⟩, st10⟩ := X9.virtualBack hx (y := (⟨"com/example/holdfast/holdfast/store/Attempt", "heldForMillis", "()J"⟩ : MethodName)) (z := (⟨"com/example/holdfast/holdfast/store/Attempt", "heldForMillis", "()J"⟩ : MethodName)) hown (mvT hZ (hw _ (List.mem_of_getElem? (i := 29) rfl))) (mvT hZ (hw _ (List.mem_of_getElem? (i := 30) rfl))) (notFace_of_selects (args := #[]) (mvT hZ (hw _ (List.mem_of_getElem? (i := 32) rfl)))) (mvT hZ (hw _ (List.mem_of_getElem? (i := 32) rfl))) (mvT hZ (hw _ (List.mem_of_getElem? (i := 31) rfl))) (by decide) (backOf (W := 0) (own_rm6 l Z a0 hw [] b7 l0 T7.heap n0 (Nat.le_trans Z0 Kc7.1) Fa7_1) hZ (hw _ (List.mem_of_getElem? (i := 33) rfl)) (hw _ (List.mem_of_getElem? (i := 3) rfl)) (by decide) (by decide)) q10a q10c (g := (mkF m 56 #[.val (.long j0), .second, .val (.long j1), .second, .val (.long t0), .second, .val (.long l0), .second, .val (.ref b7), .val (.int (1 : Int32)), .val (.long t0), .second, .unset, .unset, .unset] [(.ref b7)])) rfl (by rw [hml]; rfl) (Steps.refl _) (argsL := []) (rest := []) (lenOf own_pd3 rfl) rfl (by show 2 * 0 + _ ≤ _; exact Nat.le_of_eq rfl) (hb hby at_56) (fun _ _ => ⟨rfl, e9, (by decide : 1 + 0 ≤ _), (by decide : 3 + 0 ≤ _)⟩)
    dsimp only [Pt.U, Pt.locs, Pt.cells, Pt.slots] at X10 l10 y10 z10 st10 hQ10
    subst l10 y10 z10
    obtain ⟨rfl, N10q, e10⟩ := hQ10
    have N10 := Fr.app N9 N10q
    refine own_via (g' := T10.setTop (mkF m 59 #[.val (.long j0), .second, .val (.long j1), .second, .val (.long t0), .second, .val (.long l0), .second, .val (.ref b7), .val (.int (1 : Int32)), .val (.long t0), .second, .unset, .unset, .unset] [(.long l0)])) (fun t k => st10.trans k) ?_
    refine own_via (g' := T10.setTop (mkF m 61 #[.val (.long j0), .second, .val (.long j1), .second, .val (.long t0), .second, .val (.long l0), .second, .val (.ref b7), .val (.int (1 : Int32)), .val (.long t0), .second, .val (.long l0), .second, .unset] [])) (fun t k => XT.lstore X10.here hx rfl (hb hby at_59) rfl (l' := #[.val (.long j0), .second, .val (.long j1), .second, .val (.long t0), .second, .val (.long l0), .second, .val (.ref b7), .val (.int (1 : Int32)), .val (.long t0), .second, .val (.long l0), .second, .unset]) rfl k) ?_
    refine own_via (g' := T10.setTop (mkF m 63 #[.val (.long j0), .second, .val (.long j1), .second, .val (.long t0), .second, .val (.long l0), .second, .val (.ref b7), .val (.int (1 : Int32)), .val (.long t0), .second, .val (.long l0), .second, .unset] [(.ref b7)])) (fun t k => XS.aload X10.here hx rfl (hb hby at_61) rfl (rfl) k) ?_
    obtain ⟨cq11, kq11, q11a, q11b, q11c⟩ := isOf hZ e10 A7
    obtain ⟨v11, _, ⟨T11, L11, k11, n11⟩, -, X11, ⟨Lc11, hQ11, l11, y11, z11⟩, st11⟩ := X10.virtualBack hx (y := (⟨"com/example/holdfast/holdfast/store/Attempt", "heldBy", "()Ljava/lang/String;"⟩ : MethodName)) (z := (⟨"com/example/holdfast/holdfast/store/Attempt", "heldBy", "()Ljava/lang/String;"⟩ : MethodName)) hown (mvT hZ (hw _ (List.mem_of_getElem? (i := 34) rfl))) (mvT hZ (hw _ (List.mem_of_getElem? (i := 35) rfl))) (notFace_of_selects (args := #[]) (mvT hZ (hw _ (List.mem_of_getElem? (i := 37) rfl)))) (mvT hZ (hw _ (List.mem_of_getElem? (i := 37) rfl))) (mvT hZ (hw _ (List.mem_of_getElem? (i := 36) rfl))) (by decide) (backOf (W := 0) (own_rm7 l Z a0 hw [] b7 T7.heap n0 (Nat.le_trans Z0 Kc7.1) Fa7_2) hZ (hw _ (List.mem_of_getElem? (i := 38) rfl)) (hw _ (List.mem_of_getElem? (i := 3) rfl)) (by decide) (by decide)) q11a q11c (g := (mkF m 63 #[.val (.long j0), .second, .val (.long j1), .second, .val (.long t0), .second, .val (.long l0), .second, .val (.ref b7), .val (.int (1 : Int32)), .val (.long t0), .second, .val (.long l0), .second, .unset] [(.ref b7)])) rfl (by rw [hml]; rfl) (Steps.refl _) (argsL := []) (rest := []) (lenOf own_pd4 rfl) rfl (by show 2 * 0 + _ ≤ _; exact Nat.le_of_eq rfl) (hb hby at_63) (fun _ _ => ⟨rfl, e10, (by decide : 1 + 0 ≤ _), (by decide : 3 + 0 ≤ _)⟩)
    dsimp only [Pt.U, Pt.locs, Pt.cells, Pt.slots] at X11 l11 y11 z11 st11 hQ11
    subst l11 y11 z11
    obtain ⟨rfl, N11q, e11⟩ := hQ11
    have N11 := Fr.app N10 N11q
    refine own_via (g' := T11.setTop (mkF m 66 #[.val (.long j0), .second, .val (.long j1), .second, .val (.long t0), .second, .val (.long l0), .second, .val (.ref b7), .val (.int (1 : Int32)), .val (.long t0), .second, .val (.long l0), .second, .unset] [.null])) (fun t k => st11.trans k) ?_
    refine own_via (g' := T11.setTop (mkF m 68 #[.val (.long j0), .second, .val (.long j1), .second, .val (.long t0), .second, .val (.long l0), .second, .val (.ref b7), .val (.int (1 : Int32)), .val (.long t0), .second, .val (.long l0), .second, .val .null] [])) (fun t k => XS.astore X11.here hx rfl (hb hby at_66) rfl (rfl) (l' := #[.val (.long j0), .second, .val (.long j1), .second, .val (.long t0), .second, .val (.long l0), .second, .val (.ref b7), .val (.int (1 : Int32)), .val (.long t0), .second, .val (.long l0), .second, .val .null]) rfl k) ?_
    refine own_via (g' := T11.setTop (mkF m 70 #[.val (.long j0), .second, .val (.long j1), .second, .val (.long t0), .second, .val (.long l0), .second, .val (.ref b7), .val (.int (1 : Int32)), .val (.long t0), .second, .val (.long l0), .second, .val .null] [(.int (1 : Int32))])) (fun t k => XS.iload X11.here hx rfl (hb hby at_68) rfl k) ?_
    refine own_via (g' := T11.setTop (mkF m 73 #[.val (.long j0), .second, .val (.long j1), .second, .val (.long t0), .second, .val (.long l0), .second, .val (.ref b7), .val (.int (1 : Int32)), .val (.long t0), .second, .val (.long l0), .second, .val .null] [])) (fun t k => XS.ifNo X11.here hx rfl (hb hby at_70) rfl (XT.i0_eq_f (by decide)) k) ?_
    refine own_via (g' := T11.setTop (mkF m 75 #[.val (.long j0), .second, .val (.long j1), .second, .val (.long t0), .second, .val (.long l0), .second, .val (.ref b7), .val (.int (1 : Int32)), .val (.long t0), .second, .val (.long l0), .second, .val .null] [(.long t0)])) (fun t k => XT.lload X11.here hx rfl (hb hby at_73) rfl k) ?_
    refine own_via (g' := T11.setTop (mkF m 77 #[.val (.long j0), .second, .val (.long j1), .second, .val (.long t0), .second, .val (.long l0), .second, .val (.ref b7), .val (.int (1 : Int32)), .val (.long t0), .second, .val (.long l0), .second, .val .null] [(.long t0), (.long t0)])) (fun t k => XT.lload X11.here hx rfl (hb hby at_75) rfl k) ?_
    refine own_via (g' := T11.setTop (mkF m 78 #[.val (.long j0), .second, .val (.long j1), .second, .val (.long t0), .second, .val (.long l0), .second, .val (.ref b7), .val (.int (1 : Int32)), .val (.long t0), .second, .val (.long l0), .second, .val .null] [(.int (XT.cmpL t0 t0))])) (fun t k => XT.lcmp X11.here hx rfl (hb hby at_77) rfl k) ?_
    refine own_via (g' := T11.setTop (mkF m 81 #[.val (.long j0), .second, .val (.long j1), .second, .val (.long t0), .second, .val (.long l0), .second, .val (.ref b7), .val (.int (1 : Int32)), .val (.long t0), .second, .val (.long l0), .second, .val .null] [])) (fun t k => XS.ifNo X11.here hx rfl (hb hby at_78) rfl (XT.ll_ne_f rfl) k) ?_
    refine own_via (g' := T11.setTop (mkF m 83 #[.val (.long j0), .second, .val (.long j1), .second, .val (.long t0), .second, .val (.long l0), .second, .val (.ref b7), .val (.int (1 : Int32)), .val (.long t0), .second, .val (.long l0), .second, .val .null] [(.long l0)])) (fun t k => XT.lload X11.here hx rfl (hb hby at_81) rfl k) ?_
    refine own_via (g' := T11.setTop (mkF m 85 #[.val (.long j0), .second, .val (.long j1), .second, .val (.long t0), .second, .val (.long l0), .second, .val (.ref b7), .val (.int (1 : Int32)), .val (.long t0), .second, .val (.long l0), .second, .val .null] [(.long l0), (.long l0)])) (fun t k => XT.lload X11.here hx rfl (hb hby at_83) rfl k) ?_
    refine own_via (g' := T11.setTop (mkF m 86 #[.val (.long j0), .second, .val (.long j1), .second, .val (.long t0), .second, .val (.long l0), .second, .val (.ref b7), .val (.int (1 : Int32)), .val (.long t0), .second, .val (.long l0), .second, .val .null] [(.int (XT.cmpL l0 l0))])) (fun t k => XT.lcmp X11.here hx rfl (hb hby at_85) rfl k) ?_
    refine own_via (g' := T11.setTop (mkF m 89 #[.val (.long j0), .second, .val (.long j1), .second, .val (.long t0), .second, .val (.long l0), .second, .val (.ref b7), .val (.int (1 : Int32)), .val (.long t0), .second, .val (.long l0), .second, .val .null] [])) (fun t k => XS.ifNo X11.here hx rfl (hb hby at_86) rfl (XT.ll_ne_f rfl) k) ?_
    refine own_via (g' := T11.setTop (mkF m 91 #[.val (.long j0), .second, .val (.long j1), .second, .val (.long t0), .second, .val (.long l0), .second, .val (.ref b7), .val (.int (1 : Int32)), .val (.long t0), .second, .val (.long l0), .second, .val .null] [.null])) (fun t k => XS.aload X11.here hx rfl (hb hby at_89) rfl (rfl) k) ?_
    refine own_via (g' := T11.setTop (mkF m 94 #[.val (.long j0), .second, .val (.long j1), .second, .val (.long t0), .second, .val (.long l0), .second, .val (.ref b7), .val (.int (1 : Int32)), .val (.long t0), .second, .val (.long l0), .second, .val .null] [])) (fun t k => XT.ifnonnullNo X11.here hx rfl (hb hby at_91) rfl k) ?_
    refine own_via (g' := T11.setTop (mkF m 95 #[.val (.long j0), .second, .val (.long j1), .second, .val (.long t0), .second, .val (.long l0), .second, .val (.ref b7), .val (.int (1 : Int32)), .val (.long t0), .second, .val (.long l0), .second, .val .null] [(.int (1 : Int32))])) (fun t k => XS.iconst X11.here hx rfl (hb hby at_94) k) ?_
    refine own_via (g' := T11.setTop (mkF m 99 #[.val (.long j0), .second, .val (.long j1), .second, .val (.long t0), .second, .val (.long l0), .second, .val (.ref b7), .val (.int (1 : Int32)), .val (.long t0), .second, .val (.long l0), .second, .val .null] [(.int (1 : Int32))])) (fun t k => XS.goto X11.here hx rfl (pc0 := 95) (pc' := 99) rfl (hb hby at_95) (by decide) (by decide) k) ?_
    exact own_retB X11 hx hlk (t := .boolean) Bd.returns (by simp) (hb hby at_99) ⟨rfl, N11⟩ (by decide) (by decide)
set_option maxRecDepth 65536 in
set_option maxHeartbeats 40000000 in
theorem comes_1 {Post : Tables → Env → Array Value → State → Outcome → State → Prop} (hpost : ∀ tb e args s v u, (limb_1_1.after args s (.returned v) u = true ∧ limb_1_2.after args s (.returned v) u = true ∧ True) → FrameEnd s (.returned v) u (Jvm.fieldLocs frame_1_writes args s ++ Jvm.arrayLocs frame_1_arrays args s ++ Jvm.staticLocs frame_1_statics s) 16 128 → Post tb e args s (.returned v) u) :
    ArmFor flags0 classFile x code maxLocals ret World_1 tables_1 room_1 Calls_1 rest_1 Pre_1 Post := by
  intro l hfl _ _ p e ha hc hk s m args below hf hA hF happ hP
  obtain ⟨hcalls, hrest, hpre⟩ := hP
  obtain ⟨-, -, -, hnamed, -, -, -, hat⟩ := (Spec.applies_iff hf).mp happ
  obtain ⟨hg, hn⟩ := and_e (Cond.before_iff.mp (show (Jvm.Cond.and given_1 narrow_1).before args s = true from hpre))
  obtain ⟨g1, g2⟩ := and_e hg
  obtain ⟨g3, g4⟩ := and_e g2
  obtain ⟨w0, w1, rfl⟩ : ∃ w0 w1 : Value, args = #[w0, w1] := by
    have hs : args.size = 2 := by simpa [Cond.value, given_1] using g1
    obtain ⟨L⟩ := args
    match L, hs with
    | [w0, w1], _ => exact ⟨w0, w1, rfl⟩
  have hw := fun d (hd : d ∈ tables_1) => atoms_spec (ws := Jvm.Cond.code x code maxLocals ret :: tables_1) hat d (List.mem_cons_of_mem _ hd)
  have hfit : Fit s := fun {y c} hc i hi => by
    obtain ⟨ha, rfl⟩ := Array.getElem?_eq_some_iff.mp hc
    have q := List.all_eq_true.mp ((Array.all_eq_true_iff_forall_mem.mp hF) _ (Array.getElem_mem ha)) i (List.mem_range.mpr hi)
    simpa [Array.getElem?_eq_getElem hi] using q
  obtain ⟨i0, ei0⟩ := isL_v g3
  obtain rfl : w0 = (.long i0) := Option.some.inj ei0
  obtain ⟨i1, ei1⟩ := isL_v g4
  obtain rfl : w1 = (.long i1) := Option.some.inj ei1
  obtain ⟨n, o, h1, h2, h3, _, L, rfl, ⟨rfl, N⟩, hq⟩ := own_rm0 l s _ hw tables_1 i0 i1 s.heap s.heap.size (Nat.le_refl _)  p e ha hc hk s m _ below hf ((Spec.applies_iff_loose hf).mp happ).1 ⟨rfl, State.Warmed39.refl s, rfl⟩ trivial
  refine ⟨n, _, h1, h2, h3, hpost _ _ _ _ _ _ ⟨Cond.after_iff.mpr rfl, Cond.after_iff.mpr (eq_i res_at (Term.int_eval (1)) rfl), trivial⟩ ⟨hq.1, hq.2.1, (hq.2.2.sift fun y hy => Or.inr (N y hy)).mono (by decide) (by decide)⟩⟩
theorem main_1_1 : Claimed_1_1 := comes_1 fun _ _ _ _ _ _ h hF => ⟨h.1, hF⟩
theorem main_1_2 : Claimed_1_2 := comes_1 fun _ _ _ _ _ _ h hF => ⟨h.2.1, hF⟩
end Jvm.Pilot.@@N@@
namespace Jvm.Pilot.@@N@@
open Jvm Jvm.ClassFile Sem Op Lib Jvm.Free Jvm.Stand Jvm.Pilot.@@N@@.Jvm.D
/-! MADE BY PROGRAM (witnessworld.py) out of the Statement's table words and the real class files: 9 classes; the members and pool entries that the words name. The judged class is class 1, her method 1. -/
namespace start1
open Jvm.ClassFile
def u (s : String) : CpInfo := .utf8 (stringToUtf16 s)
/-- a pool by its gaps: so many unusable entries, then the entry; so many at the end -/
def gap : Nat → List CpInfo → List CpInfo
  | 0, r => r
  | n + 1, r => .unusable :: gap n r
def poolList (es : List (Nat × CpInfo)) (last : Nat) : List CpInfo := es.foldr (fun e r => gap e.1 (e.2 :: r)) (gap last [])
def pool (es : List (Nat × CpInfo)) (last : Nat) : Array CpInfo := ⟨poolList es last⟩
def fileOf (pool : Array CpInfo) (this : Nat) (attrs : Array Attribute := #[]) (ms : Array MethodInfo := #[]) (fl : Nat := 33) (sup : Nat := 0) (ifs : Array Nat := #[]) (fds : Array FieldInfo := #[]) : ClassFile where
  minorVersion := 0
  majorVersion := 65
  constantPool := pool
  accessFlags := fl
  thisClass := this
  superClass := sup
  interfaces := ifs
  fields := fds
  methods := ms
  attributes := attrs
def plain (name : String) (sup : Option ClassId) : Class where
  name := name
  kind := .ordinary
  loader := none
  accessFlags := 33
  super := sup
  interfaces := #[]
  cf := none
  fields := #[]
  methods := #[]
  instanceTypes := #[]
  staticTypes := #[]
  resolved := #[]
  callSites := []
  init := .initialized
  statics := none
  mirror := none

def pool0 : Array CpInfo := pool [(5, u "<init>"), (0, u "()V"), (1, .class_ 10), (1, u "java/lang/Object")] 113

def k0c0 : Code := { maxStack := 0, maxLocals := 1, code := object_method_1_code, exceptionTable := #[], attributes := #[] }
def k0m0 : Method := { name := "<init>", desc := "()V", sig := { parameters := [], returnType := none }, accessFlags := 1, code := some k0c0 }
/-- java/lang/Object -/
def k0 : Class := { plain "java/lang/Object" none with
  accessFlags := 33
  interfaces := #[]
  cf := some (fileOf pool0 8 #[] #[{ accessFlags := 1, nameIndex := 5, descriptorIndex := 6, attributes := #[] }] 33 0 #[] #[])
  fields := #[]
  methods := #[k0m0]
  instanceTypes := #[]
  staticTypes := #[]
  resolved := Array.replicate 124 none
  statics := none }

def pool1 : Array CpInfo := pool [(2, .class_ 4), (1, u "java/lang/Object"), (0, u "<init>"), (0, u "()V"), (2, .long 9223372036854775807), (1, .methodref 12 13), (0, .class_ 14), (0, .nameAndType 15 16), (0, u "com/example/holdfast/holdfast/store/Attempt"), (0, u "taken"), (0, u "(JJ)Lcom/example/holdfast/holdfast/store/Attempt;"), (0, .methodref 12 18), (0, .nameAndType 15 19), (0, u "()Z"), (0, .methodref 12 21), (0, .nameAndType 22 23), (0, u "token"), (0, u "()J"), (0, .methodref 12 25), (0, .nameAndType 26 23), (0, u "heldForMillis"), (0, .methodref 12 28), (0, .nameAndType 29 30), (0, u "heldBy"), (0, u "()Ljava/lang/String;"), (0, .class_ 32), (0, u "com/example/holdfast/holdfast/store/AttemptTakenPinLaw"), (2, u "law"), (0, u "(JJ)Z")] 5

def k1m0 : Method := { name := "<init>", desc := "()V", sig := { parameters := [], returnType := none }, accessFlags := 2, code := none }
def k1c1 : Code := { maxStack := 4, maxLocals := 15, code := code, exceptionTable := #[], attributes := #[] }
def k1m1 : Method := { name := "law", desc := "(JJ)Z", sig := { parameters := [.long, .long], returnType := some .boolean }, accessFlags := 9, code := some k1c1 }
/-- com/example/holdfast/holdfast/store/AttemptTakenPinLaw -/
def k1 : Class := { plain "com/example/holdfast/holdfast/store/AttemptTakenPinLaw" (some 0) with
  accessFlags := 49
  interfaces := #[]
  cf := some (fileOf pool1 31 #[] #[{ accessFlags := 2, nameIndex := 5, descriptorIndex := 6, attributes := #[] }, { accessFlags := 9, nameIndex := 35, descriptorIndex := 36, attributes := #[] }] 49 2 #[] #[])
  fields := #[]
  methods := #[k1m0, k1m1]
  instanceTypes := #[]
  staticTypes := #[]
  resolved := Array.replicate 42 none
  statics := none }

def pool2 : Array CpInfo := pool [(1, .methodref 2 3), (0, .class_ 4), (0, .nameAndType 5 6), (0, u "java/lang/Object"), (0, u "<init>"), (0, u "()V"), (9, .fieldref 17 18), (0, .class_ 19), (0, .nameAndType 20 21), (0, u "com/example/holdfast/holdfast/store/Attempt"), (0, u "token"), (0, u "J"), (0, .fieldref 17 23), (0, .nameAndType 24 21), (0, u "heldForMillis"), (0, .fieldref 17 26), (0, .nameAndType 27 28), (0, u "heldBy"), (0, u "Ljava/lang/String;"), (1, .methodref 17 31), (0, .nameAndType 5 32), (0, u "(JJLjava/lang/String;)V"), (14, u "taken"), (0, u "(JJ)Lcom/example/holdfast/holdfast/store/Attempt;"), (1, u "()Z"), (0, u "()J"), (0, u "()Ljava/lang/String;")] 19

def k2c0 : Code := { maxStack := 4, maxLocals := 6, code := prog_15_method_1_code, exceptionTable := #[], attributes := #[] }
def k2m0 : Method := { name := "<init>", desc := "(JJLjava/lang/String;)V", sig := { parameters := [.long, .long, (.object "java/lang/String")], returnType := none }, accessFlags := 2, code := some k2c0 }
def k2c1 : Code := { maxStack := 7, maxLocals := 4, code := prog_15_method_2_code, exceptionTable := #[], attributes := #[] }
def k2m1 : Method := { name := "taken", desc := "(JJ)Lcom/example/holdfast/holdfast/store/Attempt;", sig := { parameters := [.long, .long], returnType := some (.object "com/example/holdfast/holdfast/store/Attempt") }, accessFlags := 9, code := some k2c1 }
def k2c2 : Code := { maxStack := 4, maxLocals := 1, code := prog_15_method_5_code, exceptionTable := #[], attributes := #[] }
def k2m2 : Method := { name := "taken", desc := "()Z", sig := { parameters := [], returnType := some .boolean }, accessFlags := 1, code := some k2c2 }
def k2c3 : Code := { maxStack := 4, maxLocals := 1, code := prog_15_method_6_code, exceptionTable := #[], attributes := #[] }
def k2m3 : Method := { name := "token", desc := "()J", sig := { parameters := [], returnType := some .long }, accessFlags := 1, code := some k2c3 }
def k2c4 : Code := { maxStack := 2, maxLocals := 1, code := prog_15_method_7_code, exceptionTable := #[], attributes := #[] }
def k2m4 : Method := { name := "heldForMillis", desc := "()J", sig := { parameters := [], returnType := some .long }, accessFlags := 1, code := some k2c4 }
def k2c5 : Code := { maxStack := 1, maxLocals := 1, code := prog_15_method_8_code, exceptionTable := #[], attributes := #[] }
def k2m5 : Method := { name := "heldBy", desc := "()Ljava/lang/String;", sig := { parameters := [], returnType := some (.object "java/lang/String") }, accessFlags := 0, code := some k2c5 }
/-- com/example/holdfast/holdfast/store/Attempt -/
def k2 : Class := { plain "com/example/holdfast/holdfast/store/Attempt" (some 0) with
  accessFlags := 49
  interfaces := #[]
  cf := some (fileOf pool2 17 #[] #[{ accessFlags := 2, nameIndex := 5, descriptorIndex := 32, attributes := #[] }, { accessFlags := 9, nameIndex := 47, descriptorIndex := 48, attributes := #[] }, { accessFlags := 1, nameIndex := 47, descriptorIndex := 50, attributes := #[] }, { accessFlags := 1, nameIndex := 20, descriptorIndex := 51, attributes := #[] }, { accessFlags := 1, nameIndex := 24, descriptorIndex := 51, attributes := #[] }, { accessFlags := 0, nameIndex := 27, descriptorIndex := 52, attributes := #[] }] 49 2 #[] #[{ accessFlags := 18, nameIndex := 20, descriptorIndex := 21, attributes := #[] }, { accessFlags := 18, nameIndex := 24, descriptorIndex := 21, attributes := #[] }, { accessFlags := 18, nameIndex := 27, descriptorIndex := 28, attributes := #[] }])
  fields := #[{ name := "token", type := .long, accessFlags := 18, slot := 0, constantValue := 0 }, { name := "heldForMillis", type := .long, accessFlags := 18, slot := 1, constantValue := 0 }, { name := "heldBy", type := (.object "java/lang/String"), accessFlags := 18, slot := 2, constantValue := 0 }]
  methods := #[k2m0, k2m1, k2m2, k2m3, k2m4, k2m5]
  instanceTypes := #[.long, .long, (.object "java/lang/String")]
  staticTypes := #[]
  resolved := Array.replicate 72 none
  statics := none }

def pool3 : Array CpInfo := pool [(1, u "java/lang/Cloneable"), (0, .class_ 1), (0, u "java/lang/Object"), (0, .class_ 3)] 3

/-- java/lang/Cloneable -/
def k3 : Class := { plain "java/lang/Cloneable" (some 0) with
  accessFlags := 1537
  interfaces := #[]
  cf := some (fileOf pool3 2 #[] #[] 1537 4 #[] #[])
  fields := #[]
  methods := #[]
  instanceTypes := #[]
  staticTypes := #[]
  resolved := Array.replicate 8 none
  statics := none }

def pool4 : Array CpInfo := pool [(1, u "java/io/Serializable"), (0, .class_ 1), (0, u "java/lang/Object"), (0, .class_ 3)] 3

/-- java/io/Serializable -/
def k4 : Class := { plain "java/io/Serializable" (some 0) with
  accessFlags := 1537
  interfaces := #[]
  cf := some (fileOf pool4 2 #[] #[] 1537 4 #[] #[])
  fields := #[]
  methods := #[]
  instanceTypes := #[]
  staticTypes := #[]
  resolved := Array.replicate 8 none
  statics := none }

/-- the primitive byte -/
def k5 : Class := { plain "byte" none with kind := .primitive 'B', accessFlags := 0x411 }
/-- [B -/
def k6 : Class := { plain "[B" (some 0) with kind := .array 5 .byte, interfaces := #[3, 4], accessFlags := 1041 }

/-- the primitive int -/
def k7 : Class := { plain "int" none with kind := .primitive 'I', accessFlags := 0x411 }
/-- [I -/
def k8 : Class := { plain "[I" (some 0) with kind := .array 7 .int, interfaces := #[3, 4], accessFlags := 1041 }

def heap : Heap := #[]
def classes : Array Class := #[k0, k1, k2, k3, k4, k5, k6, k7, k8]
def interned : List (Array UInt16 × Addr) := []
def slotsUsed : Nat := 0
def theMethod : MethodId := ⟨1, 1⟩
def args0 : Array Value := #[.long 3, .long 1]
def aboutOver (below : List Frame) : State where
  vm := { classes := classes, interned := interned.toArray }
  heap := heap
  slotsUsed := slotsUsed
  threads := #[{ frames := .invoking theMethod args0 :: below }]
def below0 : List Frame := [.native { method := ⟨0, 0⟩, args := #[] }]
def about1 : State := aboutOver below0
def p0 : Program := .bare "" "" ""
def e0 : Env := launch0.env 0 0 0
theorem w_frames : about1.frames = Frame.invoking theMethod args0 :: below0 := rfl
set_option maxRecDepth 65536 in
theorem w_args : argsFit about1.vm theMethod args0 = true := by decide +kernel
set_option maxRecDepth 65536 in
theorem w_heap : heapFits about1 = true := by decide +kernel
set_option maxRecDepth 65536 in
theorem w_runnable : about1.curStatus? = some .runnable := by decide +kernel
set_option maxRecDepth 65536 in
theorem w_alone : about1.alone = true := by decide +kernel
set_option maxRecDepth 65536 in
theorem w_named : about1.methodNamed? x = some theMethod := by decide +kernel
set_option maxRecDepth 65536 in
theorem w_hears : about1.hears theMethod below0 = true := by decide +kernel
set_option maxRecDepth 65536 in
theorem w_ripe : about1.ripe theMethod args0 below0 = true := by decide +kernel
theorem w_running : about1.status = .running := rfl
set_option maxRecDepth 65536 in
theorem w_room : about1.hasRoom e0.platform room_1 = true :=
  launch0.hasRoom_least _ room_1 (by decide +kernel) (by decide +kernel) (by decide +kernel) (by decide +kernel) (by decide +kernel) (by decide +kernel)
theorem allAtoms_all (ts : List Jvm.Cond) (a : Array Jvm.Value) (st : Jvm.State) : (allAtoms ts).before a st = ts.all (fun c => c.before a st) := by
  induction ts with
  | nil => rfl
  | cons c t ih =>
    show (Jvm.Cond.and c (allAtoms t)).before a st = _
    rw [Jvm.Cond.before_and, ih, List.all_cons]
def words1 : List Jvm.Cond := Jvm.Cond.code x code maxLocals ret :: tables_1
/-- a 'code' word, met by the world's own term for the bytes: nothing is compared byte by byte -/
theorem code_word {y : MethodName} {bytes : ByteArray} {mx : Nat} {rt : Option FieldType} {a : Array Value} {s : State} {m : MethodId} {meth : Method} {c : Code} (h1 : s.methodNamed? y = some m) (h2 : s.vm.method? m = some meth) (h3 : meth.code = some c) (h4 : c.code = bytes)
    (h5 : (c.maxLocals == mx && c.exceptionTable.isEmpty && decide (c.maxStack ≤ mostOperands) && decide (meth.sig.returnType = rt) && !meth.locks && decide (parseMethodDescriptor y.desc = some meth.sig)) = true) : (Jvm.Cond.code y bytes mx rt).before a s = true := by
  simp only [Bool.and_eq_true, beq_iff_eq, Bool.not_eq_true', decide_eq_true_eq] at h5
  obtain ⟨⟨⟨⟨⟨g1, g2⟩, g3⟩, g4⟩, g5⟩, g6⟩ := h5
  simp [Cond.before, Cond.holds, Cond.value, h1, h2, h3, h4, g1, g2, g3, g4, g5, g6]
def isCode : Jvm.Cond → Bool
  | .code _ _ _ _ => true
  | _ => false
theorem all_split {L : List Jvm.Cond} {P : Jvm.Cond → Bool} (h1 : L.all (fun c => isCode c || P c) = true) (h2 : ∀ c ∈ L.filter isCode, P c = true) : L.all P = true := by
  refine List.all_eq_true.mpr fun c hc => ?_
  have h := List.all_eq_true.mp h1 c hc
  rcases Bool.eq_false_or_eq_true (isCode c) with hi | hi
  · exact h2 c (List.mem_filter.mpr ⟨hc, hi⟩)
  · simpa [hi] using h
set_option maxRecDepth 65536 in
theorem w_c0 : (Jvm.Cond.code x code maxLocals ret).before args0 about1 = true := code_word (m := ⟨1, 1⟩) (meth := k1m1) (c := k1c1) (by decide +kernel) rfl rfl rfl (by decide +kernel)
set_option maxRecDepth 65536 in
theorem w_c1 : (Jvm.Cond.code ({ cls := "com/example/holdfast/holdfast/store/Attempt", name := "taken", desc := "(JJ)Lcom/example/holdfast/holdfast/store/Attempt;" } : Jvm.MethodName) prog_15_method_2_code (4 : Nat) (Option.some (Jvm.ClassFile.FieldType.object "com/example/holdfast/holdfast/store/Attempt"))).before args0 about1 = true := code_word (m := ⟨2, 1⟩) (meth := k2m1) (c := k2c1) (by decide +kernel) rfl rfl rfl (by decide +kernel)
set_option maxRecDepth 65536 in
theorem w_c2 : (Jvm.Cond.code ({ cls := "com/example/holdfast/holdfast/store/Attempt", name := "<init>", desc := "(JJLjava/lang/String;)V" } : Jvm.MethodName) prog_15_method_1_code (6 : Nat) (Option.none : Option Jvm.ClassFile.FieldType)).before args0 about1 = true := code_word (m := ⟨2, 0⟩) (meth := k2m0) (c := k2c0) (by decide +kernel) rfl rfl rfl (by decide +kernel)
set_option maxRecDepth 65536 in
theorem w_c3 : (Jvm.Cond.code ({ cls := "java/lang/Object", name := "<init>", desc := "()V" } : Jvm.MethodName) object_method_1_code (1 : Nat) (Option.none : Option Jvm.ClassFile.FieldType)).before args0 about1 = true := code_word (m := ⟨0, 0⟩) (meth := k0m0) (c := k0c0) (by decide +kernel) rfl rfl rfl (by decide +kernel)
set_option maxRecDepth 65536 in
theorem w_c4 : (Jvm.Cond.code ({ cls := "com/example/holdfast/holdfast/store/Attempt", name := "taken", desc := "()Z" } : Jvm.MethodName) prog_15_method_5_code (1 : Nat) (Option.some Jvm.ClassFile.FieldType.boolean)).before args0 about1 = true := code_word (m := ⟨2, 2⟩) (meth := k2m2) (c := k2c2) (by decide +kernel) rfl rfl rfl (by decide +kernel)
set_option maxRecDepth 65536 in
theorem w_c5 : (Jvm.Cond.code ({ cls := "com/example/holdfast/holdfast/store/Attempt", name := "token", desc := "()J" } : Jvm.MethodName) prog_15_method_6_code (1 : Nat) (Option.some Jvm.ClassFile.FieldType.long)).before args0 about1 = true := code_word (m := ⟨2, 3⟩) (meth := k2m3) (c := k2c3) (by decide +kernel) rfl rfl rfl (by decide +kernel)
set_option maxRecDepth 65536 in
theorem w_c6 : (Jvm.Cond.code ({ cls := "com/example/holdfast/holdfast/store/Attempt", name := "heldForMillis", desc := "()J" } : Jvm.MethodName) prog_15_method_7_code (1 : Nat) (Option.some Jvm.ClassFile.FieldType.long)).before args0 about1 = true := code_word (m := ⟨2, 4⟩) (meth := k2m4) (c := k2c4) (by decide +kernel) rfl rfl rfl (by decide +kernel)
set_option maxRecDepth 65536 in
theorem w_c7 : (Jvm.Cond.code ({ cls := "com/example/holdfast/holdfast/store/Attempt", name := "heldBy", desc := "()Ljava/lang/String;" } : Jvm.MethodName) prog_15_method_8_code (1 : Nat) (Option.some (Jvm.ClassFile.FieldType.object "java/lang/String"))).before args0 about1 = true := code_word (m := ⟨2, 5⟩) (meth := k2m5) (c := k2c5) (by decide +kernel) rfl rfl rfl (by decide +kernel)
def codes1 : List Jvm.Cond := [Jvm.Cond.code x code maxLocals ret, Jvm.Cond.code ({ cls := "com/example/holdfast/holdfast/store/Attempt", name := "taken", desc := "(JJ)Lcom/example/holdfast/holdfast/store/Attempt;" } : Jvm.MethodName) prog_15_method_2_code (4 : Nat) (Option.some (Jvm.ClassFile.FieldType.object "com/example/holdfast/holdfast/store/Attempt")), Jvm.Cond.code ({ cls := "com/example/holdfast/holdfast/store/Attempt", name := "<init>", desc := "(JJLjava/lang/String;)V" } : Jvm.MethodName) prog_15_method_1_code (6 : Nat) (Option.none : Option Jvm.ClassFile.FieldType), Jvm.Cond.code ({ cls := "java/lang/Object", name := "<init>", desc := "()V" } : Jvm.MethodName) object_method_1_code (1 : Nat) (Option.none : Option Jvm.ClassFile.FieldType), Jvm.Cond.code ({ cls := "com/example/holdfast/holdfast/store/Attempt", name := "taken", desc := "()Z" } : Jvm.MethodName) prog_15_method_5_code (1 : Nat) (Option.some Jvm.ClassFile.FieldType.boolean), Jvm.Cond.code ({ cls := "com/example/holdfast/holdfast/store/Attempt", name := "token", desc := "()J" } : Jvm.MethodName) prog_15_method_6_code (1 : Nat) (Option.some Jvm.ClassFile.FieldType.long), Jvm.Cond.code ({ cls := "com/example/holdfast/holdfast/store/Attempt", name := "heldForMillis", desc := "()J" } : Jvm.MethodName) prog_15_method_7_code (1 : Nat) (Option.some Jvm.ClassFile.FieldType.long), Jvm.Cond.code ({ cls := "com/example/holdfast/holdfast/store/Attempt", name := "heldBy", desc := "()Ljava/lang/String;" } : Jvm.MethodName) prog_15_method_8_code (1 : Nat) (Option.some (Jvm.ClassFile.FieldType.object "java/lang/String"))]
set_option maxRecDepth 65536 in
theorem codes_eq : words1.filter isCode = codes1 := rfl
theorem w_codes : ∀ c ∈ words1.filter isCode, c.before args0 about1 = true := by
  rw [codes_eq]
  intro c hc
  simp only [codes1, List.mem_cons, List.not_mem_nil, or_false] at hc
  rcases hc with rfl | rfl | rfl | rfl | rfl | rfl | rfl | rfl
  · exact w_c0
  · exact w_c1
  · exact w_c2
  · exact w_c3
  · exact w_c4
  · exact w_c5
  · exact w_c6
  · exact w_c7
set_option maxRecDepth 65536 in
theorem w_t1 : (words1.take 24).all (fun c => isCode c || c.before args0 about1) = true := by decide +kernel
set_option maxRecDepth 65536 in
theorem w_t2 : (words1.drop 24).all (fun c => isCode c || c.before args0 about1) = true := by decide +kernel
theorem w_tables : (allAtoms (Jvm.Cond.code x code maxLocals ret :: tables_1)).before args0 about1 = true := by
  rw [allAtoms_all]
  show words1.all (fun c => c.before args0 about1) = true
  refine all_split ?_ w_codes
  rw [← List.take_append_drop 24 words1, List.all_append, w_t1, w_t2]
  rfl
set_option maxRecDepth 65536 in
theorem w_case : (Jvm.Cond.and given_1 narrow_1).before args0 about1 = true := by decide +kernel
theorem w_applies : (headSpec (Jvm.Cond.code x code maxLocals ret :: tables_1) room_1).applies x e0.platform about1 = true :=
  (Spec.applies_iff w_frames).mpr ⟨w_running, w_runnable, w_alone, w_named, w_hears, w_ripe, w_room, w_tables⟩
theorem atStart : AtStart classFile x code maxLocals ret World_1 tables_1 room_1 Calls_1 rest_1 Pre_1 launch0 p0 e0 about1 theMethod args0 below0 :=
  ⟨lists_1, trivial, launch0.admits_env _ _ _, launch0.least_env, fairChoices_fair.cas, fairChoices_fair.clock, w_frames, w_args, w_heap, w_applies, trivial, trivial, w_case⟩
end start1
theorem witness_1 : WitnessClaimed_1 := ⟨start1.p0, start1.e0, start1.about1, start1.theMethod, start1.args0, start1.below0, start1.atStart⟩
end Jvm.Pilot.@@N@@
