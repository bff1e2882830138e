import JvmDerived
import JvmDerived.Pilot.@@N@@Statement
import JvmDerived.Pilot.@@N@@Code
set_option linter.unusedVariables false
set_option linter.unusedSimpArgs false
namespace Jvm.Pilot.@@N@@
open Jvm Jvm.ClassFile Sem Op Lib Jvm.Free Jvm.Stand Jvm.LawKit Jvm.RoadKit Bundle Jvm.Pilot.@@N@@.Jvm.D
section own_walk
variable {p : Program} {l : Launch} {e : Env} {R : Room} {s : State} {m : MethodId} {args : Array Value} {below : List Frame} {meth : Method} {c : Code} {T : State} {locs : List Loc} {cells slots : Nat} {Z : State} {h h' : Heap}
def own_Fin (p : Program) (e : Env) (below : List Frame) (P : Outcome → State → Prop) (g : State) : Prop :=
  ∃ s₂ o, Steps p.tables e below g s₂ ∧ s₂.status = .running ∧ Ended s₂ below o ∧ P o s₂
def own_P (Q : Option Value → Heap → List Loc → Prop) (s : State) (k n : Nat) (o : Outcome) (s₂ : State) : Prop :=
  ∃ v L, o = .returned v ∧ Q v s₂.heap L ∧ FrameEnd s o s₂ L k n
theorem own_via {P : Outcome → State → Prop} {g g' : State} (k : ∀ t, Steps p.tables e below g' t → Steps p.tables e below g t) (H : own_Fin p e below P g') : own_Fin p e below P g := by
  obtain ⟨s₂, o, a, b⟩ := H
  exact ⟨s₂, o, k _ a, b⟩
theorem own_ret {v : Option Value} {g : State} {Q : Option Value → Heap → List Loc → Prop} {k n : Nat} (X : Stand p l e R s m args below meth c T locs cells slots) (hlk : meth.locks = false) (hv : meth.sig.returnType = none → v = none)
    (hst : ∀ fs, (∀ (f : JFrame) (acts : List Action), f.method = m → f.locked = none → f.entered = [] → (doReturn e (T.setTop f) acts v).1 = T.setFrames fs) → Steps p.tables e below g (T.setFrames fs))
    (hQ : Q v T.heap locs) (hk : cells ≤ k) (hn : slots ≤ n) : own_Fin p e below (own_P Q s k n) g := by
  obtain ⟨fs, hr, hrun, hended, hW, hsame⟩ := X.leave (v := v) hv hlk
  exact ⟨_, _, hst fs hr, hrun, hended, _, _, rfl, hQ, ⟨_, rfl⟩, hW, hsame.mono hk hn⟩
theorem own_retW {w : Value} {t : FieldType} {i : Instr} {pc : Nat} {Ls : Array Slot} {rest : List Value} {Q : Option Value → Heap → List Loc → Prop} {k n : Nat} (X : Stand p l e R s m args below meth c T locs cells slots) (hx : p.tables.exec = Jvm.exec) (hlk : meth.locks = false) (hret : meth.sig.returnType = some t) (hnw : narrow t w = w)
    (hi : (i = .ireturn ∧ (t = .int ∨ t = .boolean ∨ t = .byte ∨ t = .char ∨ t = .short) ∧ ∃ z, w = .int z) ∨ (i = .lreturn ∧ t = .long ∧ ∃ z, w = .long z) ∨ (i = .dreturn ∧ t = .double ∧ ∃ z, w = .double z) ∨ (i = .freturn ∧ t = .float ∧ ∃ z, w = .float z) ∨ (i = .areturn ∧ t.isReference = true ∧ w.isRef = true))
    (hd : decode c.code pc = .ok (i, 1)) (hQ : Q (some w) T.heap locs) (hk : cells ≤ k) (hn : slots ≤ n) : own_Fin p e below (own_P Q s k n) (T.setTop (mkF m pc Ls (w :: rest))) :=
  own_ret X hlk (fun q => by rw [hret] at q; cases q) (fun fs hr => retOut X hx hret hnw hi hd hr) hQ hk hn
theorem own_retI {z : Int32} {pc : Nat} {Ls : Array Slot} {rest : List Value} {Q : Option Value → Heap → List Loc → Prop} {k n : Nat} (X : Stand p l e R s m args below meth c T locs cells slots) (hx : p.tables.exec = Jvm.exec) (hlk : meth.locks = false) (hret : meth.sig.returnType = some .int)
    (hd : decode c.code pc = .ok (.ireturn, 1)) (hQ : Q (some (.int z)) T.heap locs) (hk : cells ≤ k) (hn : slots ≤ n) : own_Fin p e below (own_P Q s k n) (T.setTop (mkF m pc Ls (.int z :: rest))) :=
  own_retW X hx hlk hret rfl (Or.inl ⟨rfl, Or.inl rfl, z, rfl⟩) hd hQ hk hn
theorem own_retJ {z : Int64} {pc : Nat} {Ls : Array Slot} {rest : List Value} {Q : Option Value → Heap → List Loc → Prop} {k n : Nat} (X : Stand p l e R s m args below meth c T locs cells slots) (hx : p.tables.exec = Jvm.exec) (hlk : meth.locks = false) (hret : meth.sig.returnType = some .long)
    (hd : decode c.code pc = .ok (.lreturn, 1)) (hQ : Q (some (.long z)) T.heap locs) (hk : cells ≤ k) (hn : slots ≤ n) : own_Fin p e below (own_P Q s k n) (T.setTop (mkF m pc Ls (.long z :: rest))) :=
  own_retW X hx hlk hret rfl (Or.inr (Or.inl ⟨rfl, rfl, z, rfl⟩)) hd hQ hk hn
theorem own_nref {t : FieldType} {w : Value} (hw : w.isRef = true) : narrow t w = w := by
  cases w <;> first | (cases t <;> rfl) | (cases hw)
theorem own_fitR {c : String} {w : Value} (hw : w.isRef = true) : fits (.object c) w = true := by
  cases w <;> first | rfl | (cases hw)
theorem own_retA {w : Value} {t : FieldType} {pc : Nat} {Ls : Array Slot} {rest : List Value} {Q : Option Value → Heap → List Loc → Prop} {k n : Nat} (X : Stand p l e R s m args below meth c T locs cells slots) (hx : p.tables.exec = Jvm.exec) (hlk : meth.locks = false) (hw : w.isRef = true) (hret : meth.sig.returnType = some t) (ht : t.isReference = true)
    (hd : decode c.code pc = .ok (.areturn, 1)) (hQ : Q (some w) T.heap locs) (hk : cells ≤ k) (hn : slots ≤ n) : own_Fin p e below (own_P Q s k n) (T.setTop (mkF m pc Ls (w :: rest))) :=
  own_retW X hx hlk hret (own_nref hw) (Or.inr (Or.inr (Or.inr (Or.inr ⟨rfl, ht, hw⟩)))) hd hQ hk hn
theorem own_retB {z : Int32} {t : FieldType} {pc : Nat} {Ls : Array Slot} {rest : List Value} {Q : Option Value → Heap → List Loc → Prop} {k n : Nat} (X : Stand p l e R s m args below meth c T locs cells slots) (hx : p.tables.exec = Jvm.exec) (hlk : meth.locks = false) (hret : meth.sig.returnType = some t) (ht : t = .boolean ∨ t = .byte ∨ t = .char ∨ t = .short)
    (hd : decode c.code pc = .ok (.ireturn, 1)) (hQ : Q (some (.int (nar t z))) T.heap locs) (hk : cells ≤ k) (hn : slots ≤ n) : own_Fin p e below (own_P Q s k n) (T.setTop (mkF m pc Ls (.int z :: rest))) :=
  own_ret X hlk (fun q => by rw [hret] at q; cases q) (fun fs hr => retN X hx hret ht hd hr) hQ hk hn
theorem own_retV {pc : Nat} {Ls : Array Slot} {Q : Option Value → Heap → List Loc → Prop} {k n : Nat} (X : Stand p l e R s m args below meth c T locs cells slots) (hx : p.tables.exec = Jvm.exec) (hlk : meth.locks = false) (hret : meth.sig.returnType = none)
    (hd : decode c.code pc = .ok (.return_, 1)) (hQ : Q none T.heap locs) (hk : cells ≤ k) (hn : slots ≤ n) : own_Fin p e below (own_P Q s k n) (T.setTop (mkF m pc Ls [])) :=
  own_ret X hlk (fun _ => rfl) (fun fs hr => X.returnOut hx hret hd hr) hQ hk hn
/-- an array: its kind and its members -/
def own_Ar (Z : State) (h : Heap) (a : Addr) (ty : FieldType) (L : List Value) : Prop := ∃ c : Cell, Arr Z h a c ty ∧ c.slots.toList = L
theorem own_Ar.ext {a : Addr} {ty : FieldType} {L : List Value} (F : own_Ar Z h a ty L) (E : Ext h h') : own_Ar Z h' a ty L := by obtain ⟨c, A, r⟩ := F; exact ⟨c, A.ext E, r⟩
theorem own_Ar.other {a b : Addr} {sl : Nat} {v : Value} {ty : FieldType} {L : List Value} (F : own_Ar Z h b ty L) (W : Wr h h' a sl v) (q : b ≠ a) : own_Ar Z h' b ty L := by obtain ⟨c, A, r⟩ := F; exact ⟨c, A.other W q, r⟩
theorem own_Ar.keep {a : Addr} {ws : List Addr} {ty : FieldType} {L : List Value} (F : own_Ar Z h a ty L) (K : Keep h h' ws) (q : a ∉ ws) : own_Ar Z h' a ty L := by obtain ⟨c, A, r⟩ := F; exact ⟨c, ⟨K.2.1 a c A.1 q, A.2⟩, r⟩
theorem own_Ar.lt {a : Addr} {ty : FieldType} {L : List Value} (F : own_Ar Z h a ty L) : a < h.size := by obtain ⟨c, A, r⟩ := F; exact A.lt
theorem own_Ar.set {a : Addr} {j : Nat} {v : Value} {ty : FieldType} {L : List Value} (F : own_Ar Z h a ty L) (W : Wr h h' a j v) : own_Ar Z h' a ty (L.set j v) := by
  obtain ⟨c, A, r⟩ := F
  refine ⟨_, A.same W, ?_⟩
  subst r
  simp [Cell.setSlot]
theorem own_in {c : Cell} {L : List Value} (r : c.slots.toList = L) {j : Int32} (h0 : ¬ j < 0) (hj : j.toNatClampNeg < L.length) : ¬ (j < 0 ∨ c.slots.size ≤ j.toNatClampNeg) := by
  subst r
  simp only [Array.length_toList] at hj
  intro q
  rcases q with q | q
  · exact h0 q
  · omega
theorem own_at {c : Cell} {L : List Value} (r : c.slots.toList = L) {j : Nat} {v : Value} (hv : L[j]? = some v) : c.slots[j]? = some v := by
  subst r; simpa using hv
theorem own_inv {c : Cell} {L : List Value} (r : c.slots.toList = L) {j : Int32} {v : Value} (h0 : ¬ j < 0) (hv : L[j.toNatClampNeg]? = some v) : ¬ (j < 0 ∨ c.slots.size ≤ j.toNatClampNeg) :=
  own_in r h0 (List.getElem?_eq_some_iff.mp hv).1
theorem own_newP {a0 : Array Value} (X : Stand p l e R s m args below meth c T locs cells slots) (hx : p.tables.exec = Jvm.exec) (hZ : Z.Warmed39 s.vm) {aty : ArrayType} (w : (Cond.arrayClass (newarray.typeOf aty)).before a0 Z = true) (eT : T.heap = h) {g : JFrame} (hg : g.method = m) (hd : decode c.code g.pc = .ok (.newarray aty, 2)) {n : Int32} {rest : List Value} (hs : g.stack = .int n :: rest)
    (hn : ¬ n < 0) {cap : Nat} (hcap : n.toNatClampNeg ≤ cap) (hb : cap * 8 ≤ 536870912) (hc : cells + 1 ≤ R.cells) (hl : slots + cap ≤ R.slots) :
    ∃ T' h', Stand p l e R s m args below meth c T' locs (cells + 1) (slots + cap) ∧ T'.heap = h' ∧ Ext h h' ∧ own_Ar Z h' h.size (newarray.typeOf aty) (List.replicate n.toNatClampNeg (defaultValue (newarray.typeOf aty))) ∧
      ∀ target, Steps p.tables e below (T'.setTop { g with pc := g.pc + 2, stack := .ref h.size :: rest }) target → Steps p.tables e below (T.setTop g) target := by
  obtain ⟨T', h', cA, X', e', E', A', st⟩ := newP X hx hZ w eT hg hd hs hn hcap hb hc hl
  exact ⟨T', h', X', e', E', ⟨_, A', by simp [newA]⟩, st⟩
theorem own_stJ (X : Stand p l e R s m args below meth c T locs cells slots) (hx : p.tables.exec = Jvm.exec) (hZ : Z.Warmed39 s.vm) (eT : T.heap = h) {a : Addr} {L : List Value} (A : own_Ar Z h a .long L) {j : Int32} {x : Int64} (h0 : ¬ j < 0) (hj : j.toNatClampNeg < L.length) {g : JFrame} (hg : g.method = m) {rest : List Value} (hs : g.stack = .long x :: .int j :: .ref a :: rest) (hd : decode c.code g.pc = .ok (.lastore, 1)) :
    ∃ T' h', Stand p l e R s m args below meth c T' (locs ++ [⟨a, j.toNatClampNeg⟩]) cells slots ∧ T'.heap = h' ∧ Wr h h' a j.toNatClampNeg (.long x) ∧ own_Ar Z h' a .long (L.set j.toNatClampNeg (.long x)) ∧ ∀ target, Steps p.tables e below (T'.setTop { g with pc := g.pc + 1, stack := rest }) target → Steps p.tables e below (T.setTop g) target := by
  obtain ⟨cl, A', r⟩ := id A
  obtain ⟨T', h', X', e', W', st⟩ := stJ X hx hZ eT A' (own_in r h0 hj) hg hs hd
  exact ⟨T', h', X', e', W', A.set W', st⟩
theorem own_stI (X : Stand p l e R s m args below meth c T locs cells slots) (hx : p.tables.exec = Jvm.exec) (hZ : Z.Warmed39 s.vm) (eT : T.heap = h) {a : Addr} {L : List Value} (A : own_Ar Z h a .int L) {j : Int32} {x : Int32} (h0 : ¬ j < 0) (hj : j.toNatClampNeg < L.length) {g : JFrame} (hg : g.method = m) {rest : List Value} (hs : g.stack = .int x :: .int j :: .ref a :: rest) (hd : decode c.code g.pc = .ok (.iastore, 1)) :
    ∃ T' h', Stand p l e R s m args below meth c T' (locs ++ [⟨a, j.toNatClampNeg⟩]) cells slots ∧ T'.heap = h' ∧ Wr h h' a j.toNatClampNeg (.int x) ∧ own_Ar Z h' a .int (L.set j.toNatClampNeg (.int x)) ∧ ∀ target, Steps p.tables e below (T'.setTop { g with pc := g.pc + 1, stack := rest }) target → Steps p.tables e below (T.setTop g) target := by
  obtain ⟨cl, A', r⟩ := id A
  obtain ⟨T', h', X', e', W', st⟩ := stI X hx hZ eT A' (own_in r h0 hj) hg hs hd
  exact ⟨T', h', X', e', W', A.set W', st⟩
theorem own_stB (X : Stand p l e R s m args below meth c T locs cells slots) (hx : p.tables.exec = Jvm.exec) (hZ : Z.Warmed39 s.vm) (eT : T.heap = h) {a : Addr} {L : List Value} (A : own_Ar Z h a .byte L) {j : Int32} {x : Int32} (h0 : ¬ j < 0) (hj : j.toNatClampNeg < L.length) {g : JFrame} (hg : g.method = m) {rest : List Value} (hs : g.stack = .int x :: .int j :: .ref a :: rest) (hd : decode c.code g.pc = .ok (.bastore, 1)) :
    ∃ T' h', Stand p l e R s m args below meth c T' (locs ++ [⟨a, j.toNatClampNeg⟩]) cells slots ∧ T'.heap = h' ∧ Wr h h' a j.toNatClampNeg (.int (nar .byte x)) ∧ own_Ar Z h' a .byte (L.set j.toNatClampNeg (.int (nar .byte x))) ∧ ∀ target, Steps p.tables e below (T'.setTop { g with pc := g.pc + 1, stack := rest }) target → Steps p.tables e below (T.setTop g) target := by
  obtain ⟨cl, A', r⟩ := id A
  obtain ⟨T', h', X', e', W', st⟩ := stB X hx hZ eT A' (own_in r h0 hj) hg hs hd
  exact ⟨T', h', X', e', W', A.set W', st⟩
theorem own_stZ (X : Stand p l e R s m args below meth c T locs cells slots) (hx : p.tables.exec = Jvm.exec) (hZ : Z.Warmed39 s.vm) (eT : T.heap = h) {a : Addr} {L : List Value} (A : own_Ar Z h a .boolean L) {j : Int32} {x : Int32} (h0 : ¬ j < 0) (hj : j.toNatClampNeg < L.length) {g : JFrame} (hg : g.method = m) {rest : List Value} (hs : g.stack = .int x :: .int j :: .ref a :: rest) (hd : decode c.code g.pc = .ok (.bastore, 1)) :
    ∃ T' h', Stand p l e R s m args below meth c T' (locs ++ [⟨a, j.toNatClampNeg⟩]) cells slots ∧ T'.heap = h' ∧ Wr h h' a j.toNatClampNeg (.int (nar .boolean x)) ∧ own_Ar Z h' a .boolean (L.set j.toNatClampNeg (.int (nar .boolean x))) ∧ ∀ target, Steps p.tables e below (T'.setTop { g with pc := g.pc + 1, stack := rest }) target → Steps p.tables e below (T.setTop g) target := by
  obtain ⟨cl, A', r⟩ := id A
  obtain ⟨T', h', X', e', W', st⟩ := stZ X hx hZ eT A' (own_in r h0 hj) hg hs hd
  exact ⟨T', h', X', e', W', A.set W', st⟩
theorem own_stC (X : Stand p l e R s m args below meth c T locs cells slots) (hx : p.tables.exec = Jvm.exec) (hZ : Z.Warmed39 s.vm) (eT : T.heap = h) {a : Addr} {L : List Value} (A : own_Ar Z h a .char L) {j : Int32} {x : Int32} (h0 : ¬ j < 0) (hj : j.toNatClampNeg < L.length) {g : JFrame} (hg : g.method = m) {rest : List Value} (hs : g.stack = .int x :: .int j :: .ref a :: rest) (hd : decode c.code g.pc = .ok (.castore, 1)) :
    ∃ T' h', Stand p l e R s m args below meth c T' (locs ++ [⟨a, j.toNatClampNeg⟩]) cells slots ∧ T'.heap = h' ∧ Wr h h' a j.toNatClampNeg (.int (nar .char x)) ∧ own_Ar Z h' a .char (L.set j.toNatClampNeg (.int (nar .char x))) ∧ ∀ target, Steps p.tables e below (T'.setTop { g with pc := g.pc + 1, stack := rest }) target → Steps p.tables e below (T.setTop g) target := by
  obtain ⟨cl, A', r⟩ := id A
  obtain ⟨T', h', X', e', W', st⟩ := stC X hx hZ eT A' (own_in r h0 hj) hg hs hd
  exact ⟨T', h', X', e', W', A.set W', st⟩
theorem own_ldJ (X : Stand p l e R s m args below meth c T locs cells slots) (hx : p.tables.exec = Jvm.exec) (hZ : Z.Warmed39 s.vm) (eT : T.heap = h) {a : Addr} {L : List Value} (A : own_Ar Z h a .long L) {j : Int32} {v : Value} (h0 : ¬ j < 0) (hv : L[j.toNatClampNeg]? = some v) {g : JFrame} (hg : g.method = m) {rest : List Value} (hs : g.stack = .int j :: .ref a :: rest) (hd : decode c.code g.pc = .ok (.laload, 1)) (target : State)
    (hr : Steps p.tables e below (T.setTop { g with pc := g.pc + 1, stack := v :: rest }) target) : Steps p.tables e below (T.setTop g) target := by
  obtain ⟨cl, A', r⟩ := A
  exact X.laload hx (by rw [eT]; exact A'.1) (State.isArrayOf_alike hZ.alike A'.2.1) A'.2.2 (own_inv r h0 hv) (own_at r hv) hg hs hd target hr
theorem own_ldI (X : Stand p l e R s m args below meth c T locs cells slots) (hx : p.tables.exec = Jvm.exec) (hZ : Z.Warmed39 s.vm) (eT : T.heap = h) {a : Addr} {L : List Value} (A : own_Ar Z h a .int L) {j : Int32} {v : Value} (h0 : ¬ j < 0) (hv : L[j.toNatClampNeg]? = some v) {g : JFrame} (hg : g.method = m) {rest : List Value} (hs : g.stack = .int j :: .ref a :: rest) (hd : decode c.code g.pc = .ok (.iaload, 1)) (target : State)
    (hr : Steps p.tables e below (T.setTop { g with pc := g.pc + 1, stack := v :: rest }) target) : Steps p.tables e below (T.setTop g) target := by
  obtain ⟨cl, A', r⟩ := A
  exact X.iaload hx (by rw [eT]; exact A'.1) (State.isArrayOf_alike hZ.alike A'.2.1) A'.2.2 (own_inv r h0 hv) (own_at r hv) hg hs hd target hr
theorem own_ldB (X : Stand p l e R s m args below meth c T locs cells slots) (hx : p.tables.exec = Jvm.exec) (hZ : Z.Warmed39 s.vm) (eT : T.heap = h) {a : Addr} {L : List Value} (A : own_Ar Z h a .byte L) {j : Int32} {v : Value} (h0 : ¬ j < 0) (hv : L[j.toNatClampNeg]? = some v) {g : JFrame} (hg : g.method = m) {rest : List Value} (hs : g.stack = .int j :: .ref a :: rest) (hd : decode c.code g.pc = .ok (.baload, 1)) (target : State)
    (hr : Steps p.tables e below (T.setTop { g with pc := g.pc + 1, stack := v :: rest }) target) : Steps p.tables e below (T.setTop g) target := by
  obtain ⟨cl, A', r⟩ := A
  exact X.baloadBytes hx (by rw [eT]; exact A'.1) (State.isArrayOf_alike hZ.alike A'.2.1) A'.2.2 (own_inv r h0 hv) (own_at r hv) hg hs hd target hr
theorem own_ldZ (X : Stand p l e R s m args below meth c T locs cells slots) (hx : p.tables.exec = Jvm.exec) (hZ : Z.Warmed39 s.vm) (eT : T.heap = h) {a : Addr} {L : List Value} (A : own_Ar Z h a .boolean L) {j : Int32} {v : Value} (h0 : ¬ j < 0) (hv : L[j.toNatClampNeg]? = some v) {g : JFrame} (hg : g.method = m) {rest : List Value} (hs : g.stack = .int j :: .ref a :: rest) (hd : decode c.code g.pc = .ok (.baload, 1)) (target : State)
    (hr : Steps p.tables e below (T.setTop { g with pc := g.pc + 1, stack := v :: rest }) target) : Steps p.tables e below (T.setTop g) target := by
  obtain ⟨cl, A', r⟩ := A
  exact X.baloadBooleans hx (by rw [eT]; exact A'.1) (State.isArrayOf_alike hZ.alike A'.2.1) A'.2.2 (own_inv r h0 hv) (own_at r hv) hg hs hd target hr
theorem own_ldC (X : Stand p l e R s m args below meth c T locs cells slots) (hx : p.tables.exec = Jvm.exec) (hZ : Z.Warmed39 s.vm) (eT : T.heap = h) {a : Addr} {L : List Value} (A : own_Ar Z h a .char L) {j : Int32} {v : Value} (h0 : ¬ j < 0) (hv : L[j.toNatClampNeg]? = some v) {g : JFrame} (hg : g.method = m) {rest : List Value} (hs : g.stack = .int j :: .ref a :: rest) (hd : decode c.code g.pc = .ok (.caload, 1)) (target : State)
    (hr : Steps p.tables e below (T.setTop { g with pc := g.pc + 1, stack := v :: rest }) target) : Steps p.tables e below (T.setTop g) target := by
  obtain ⟨cl, A', r⟩ := A
  exact X.caload hx (by rw [eT]; exact A'.1) (State.isArrayOf_alike hZ.alike A'.2.1) A'.2.2 (own_inv r h0 hv) (own_at r hv) hg hs hd target hr
theorem own_len (X : Stand p l e R s m args below meth c T locs cells slots) (hx : p.tables.exec = Jvm.exec) (hZ : Z.Warmed39 s.vm) (eT : T.heap = h) {a : Addr} {ty : FieldType} {L : List Value} (A : own_Ar Z h a ty L) {n : Int32} (hn : L.length.toInt32 = n) {g : JFrame} (hg : g.method = m) {rest : List Value} (hs : g.stack = .ref a :: rest) (hd : decode c.code g.pc = .ok (.arraylength, 1)) (target : State)
    (hr : Steps p.tables e below (T.setTop { g with pc := g.pc + 1, stack := .int n :: rest }) target) : Steps p.tables e below (T.setTop g) target := by
  obtain ⟨cl, A', r⟩ := A
  refine X.arraylength hx (by rw [eT]; exact A'.1) (State.isArrayOf_alike hZ.alike A'.2.1) hg hs hd target ?_
  have q : cl.slots.size.toInt32 = n := by rw [← hn, ← r]; simp
  rw [q]; exact hr
theorem own_sta_keep {C n d : String} {w : Value} {ws : List Addr} (F : Sta Z h C n d w) (K : Keep h h' ws) (q : ∀ (a : Addr) (c : Cell), h[a]? = some c → c.vm.isStatics = true → a ∉ ws) : Sta Z h' C n d w := by
  obtain ⟨cf, i, k, f, st, cell, h1, h2, h3, h4, h5, h6, h7⟩ := F
  exact ⟨cf, i, k, f, st, cell, h1, h2, h3, h4, K.2.1 st cell h5 (q st cell h5 h6), h6, h7⟩
theorem own_nr {a b : Addr} (q : ¬ Value.ref a = Value.ref b) : ¬ a = b := fun r => q (congrArg Value.ref r)
end own_walk
section own_walkS
variable {p : Program} {l : Launch} {e : Env} {R : Room} {s : State} {vm0 : Vm} {kS : Nat} {m : MethodId} {args : Array Value} {below : List Frame} {meth : Method} {c : Code} {T : State} {locs : List Loc} {cells slots : Nat} {Z : State} {h h' : Heap}
def own_PW (Q : Option Value → Heap → List Loc → Prop) (s : State) (k n : Nat) (o : Outcome) (s₂ : State) : Prop :=
  ∃ v L, o = .returned v ∧ Q v s₂.heap L ∧ ReturnedEndW s o s₂ L k n
theorem own_retS {v : Option Value} {g : State} {Q : Option Value → Heap → List Loc → Prop} {k n : Nat} (X : Stand p l e R (s.setVm vm0) m args below meth c T locs cells slots) (hS : s.Since vm0 kS) (hk : kS ≤ T.heap.size) (hlk : meth.locks = false) (hv : meth.sig.returnType = none → v = none)
    (hst : ∀ fs, (∀ (f : JFrame) (acts : List Action), f.method = m → f.locked = none → f.entered = [] → (doReturn e (T.setTop f) acts v).1 = T.setFrames fs) → Steps p.tables e below g (T.setFrames fs))
    (hQ : Q v T.heap locs) (hc : cells ≤ k) (hn : slots ≤ n) : own_Fin p e below (own_PW Q s k n) g := by
  obtain ⟨fs, hr, hrun, hended, hE⟩ := X.leaveW hS hk (v := v) hv hlk
  exact ⟨_, _, hst fs hr, hrun, hended, _, _, rfl, hQ, hE.1, hE.2.1, hE.2.2.1, hE.2.2.2.mono hc hn⟩
theorem own_retWS {w : Value} {t : FieldType} {i : Instr} {pc : Nat} {Ls : Array Slot} {rest : List Value} {Q : Option Value → Heap → List Loc → Prop} {k n : Nat} (X : Stand p l e R (s.setVm vm0) m args below meth c T locs cells slots) (hS : s.Since vm0 kS) (hkS : kS ≤ T.heap.size) (hx : p.tables.exec = Jvm.exec) (hlk : meth.locks = false) (hret : meth.sig.returnType = some t) (hnw : narrow t w = w)
    (hi : (i = .ireturn ∧ (t = .int ∨ t = .boolean ∨ t = .byte ∨ t = .char ∨ t = .short) ∧ ∃ z, w = .int z) ∨ (i = .lreturn ∧ t = .long ∧ ∃ z, w = .long z) ∨ (i = .dreturn ∧ t = .double ∧ ∃ z, w = .double z) ∨ (i = .freturn ∧ t = .float ∧ ∃ z, w = .float z) ∨ (i = .areturn ∧ t.isReference = true ∧ w.isRef = true))
    (hd : decode c.code pc = .ok (i, 1)) (hQ : Q (some w) T.heap locs) (hk : cells ≤ k) (hn : slots ≤ n) : own_Fin p e below (own_PW Q s k n) (T.setTop (mkF m pc Ls (w :: rest))) :=
  own_retS X hS hkS hlk (fun q => by rw [hret] at q; cases q) (fun fs hr => retOut X hx hret hnw hi hd hr) hQ hk hn
theorem own_retIS {z : Int32} {pc : Nat} {Ls : Array Slot} {rest : List Value} {Q : Option Value → Heap → List Loc → Prop} {k n : Nat} (X : Stand p l e R (s.setVm vm0) m args below meth c T locs cells slots) (hS : s.Since vm0 kS) (hkS : kS ≤ T.heap.size) (hx : p.tables.exec = Jvm.exec) (hlk : meth.locks = false) (hret : meth.sig.returnType = some .int)
    (hd : decode c.code pc = .ok (.ireturn, 1)) (hQ : Q (some (.int z)) T.heap locs) (hk : cells ≤ k) (hn : slots ≤ n) : own_Fin p e below (own_PW Q s k n) (T.setTop (mkF m pc Ls (.int z :: rest))) :=
  own_retWS X hS hkS hx hlk hret rfl (Or.inl ⟨rfl, Or.inl rfl, z, rfl⟩) hd hQ hk hn
theorem own_retJS {z : Int64} {pc : Nat} {Ls : Array Slot} {rest : List Value} {Q : Option Value → Heap → List Loc → Prop} {k n : Nat} (X : Stand p l e R (s.setVm vm0) m args below meth c T locs cells slots) (hS : s.Since vm0 kS) (hkS : kS ≤ T.heap.size) (hx : p.tables.exec = Jvm.exec) (hlk : meth.locks = false) (hret : meth.sig.returnType = some .long)
    (hd : decode c.code pc = .ok (.lreturn, 1)) (hQ : Q (some (.long z)) T.heap locs) (hk : cells ≤ k) (hn : slots ≤ n) : own_Fin p e below (own_PW Q s k n) (T.setTop (mkF m pc Ls (.long z :: rest))) :=
  own_retWS X hS hkS hx hlk hret rfl (Or.inr (Or.inl ⟨rfl, rfl, z, rfl⟩)) hd hQ hk hn
theorem own_retAS {w : Value} {t : FieldType} {pc : Nat} {Ls : Array Slot} {rest : List Value} {Q : Option Value → Heap → List Loc → Prop} {k n : Nat} (X : Stand p l e R (s.setVm vm0) m args below meth c T locs cells slots) (hS : s.Since vm0 kS) (hkS : kS ≤ T.heap.size) (hx : p.tables.exec = Jvm.exec) (hlk : meth.locks = false) (hw : w.isRef = true) (hret : meth.sig.returnType = some t) (ht : t.isReference = true)
    (hd : decode c.code pc = .ok (.areturn, 1)) (hQ : Q (some w) T.heap locs) (hk : cells ≤ k) (hn : slots ≤ n) : own_Fin p e below (own_PW Q s k n) (T.setTop (mkF m pc Ls (w :: rest))) :=
  own_retWS X hS hkS hx hlk hret (own_nref hw) (Or.inr (Or.inr (Or.inr (Or.inr ⟨rfl, ht, hw⟩)))) hd hQ hk hn
theorem own_retBS {z : Int32} {t : FieldType} {pc : Nat} {Ls : Array Slot} {rest : List Value} {Q : Option Value → Heap → List Loc → Prop} {k n : Nat} (X : Stand p l e R (s.setVm vm0) m args below meth c T locs cells slots) (hS : s.Since vm0 kS) (hkS : kS ≤ T.heap.size) (hx : p.tables.exec = Jvm.exec) (hlk : meth.locks = false) (hret : meth.sig.returnType = some t) (ht : t = .boolean ∨ t = .byte ∨ t = .char ∨ t = .short)
    (hd : decode c.code pc = .ok (.ireturn, 1)) (hQ : Q (some (.int (nar t z))) T.heap locs) (hk : cells ≤ k) (hn : slots ≤ n) : own_Fin p e below (own_PW Q s k n) (T.setTop (mkF m pc Ls (.int z :: rest))) :=
  own_retS X hS hkS hlk (fun q => by rw [hret] at q; cases q) (fun fs hr => retN X hx hret ht hd hr) hQ hk hn
theorem own_retVS {pc : Nat} {Ls : Array Slot} {Q : Option Value → Heap → List Loc → Prop} {k n : Nat} (X : Stand p l e R (s.setVm vm0) m args below meth c T locs cells slots) (hS : s.Since vm0 kS) (hkS : kS ≤ T.heap.size) (hx : p.tables.exec = Jvm.exec) (hlk : meth.locks = false) (hret : meth.sig.returnType = none)
    (hd : decode c.code pc = .ok (.return_, 1)) (hQ : Q none T.heap locs) (hk : cells ≤ k) (hn : slots ≤ n) : own_Fin p e below (own_PW Q s k n) (T.setTop (mkF m pc Ls [])) :=
  own_retS X hS hkS hlk (fun _ => rfl) (fun fs hr => X.returnOut hx hret hd hr) hQ hk hn
end own_walkS
def own_inner (a : Int64) (f : List Int64 → Int64) : List Int64 → Int64
  | [] => 0
  | b :: bs => if a = b then 1 + f bs else if a < b then f (b :: bs) else own_inner a f bs
def own_common : List Int64 → List Int64 → Int64
  | [] => fun _ => 0
  | a :: as => own_inner a (own_common as)
theorem own_cn0 (L : List Int64) : own_common [] L = 0 := rfl
theorem own_cn1 (L : List Int64) : own_common L [] = 0 := by cases L <;> rfl
theorem own_cc (a b : Int64) (as bs : List Int64) : own_common (a :: as) (b :: bs) = if a = b then 1 + own_common as bs else if a < b then own_common as (b :: bs) else own_common (a :: as) bs := rfl
theorem own_nlt {i n : Nat} (hi : i ≤ n) (hn : n < 2147483648) : i.toInt32 < n.toInt32 ↔ i < n := by
  rw [Int32.lt_iff_toInt_lt, len_toInt (by omega), len_toInt (by omega)]; omega
theorem own_nn {i : Nat} (h : i < 2147483648) : ¬ i.toInt32 < 0 := by
  rw [Int32.lt_iff_toInt_lt, len_toInt (by omega)]
  have z : (0 : Int32).toInt = 0 := rfl
  omega
theorem own_ix {i : Nat} (h : i < 2147483648) : i.toInt32.toNatClampNeg = i := by
  rw [Int32.toNatClampNeg, len_toInt (by omega)]; omega
theorem own_succ (i : Nat) : i.toInt32 + 1 = (i + 1).toInt32 := (Int32.ofNat_add i 1).symm
theorem own_split {A : List Int64} {i : Nat} (h : i < A.length) : ∃ x, A.drop i = x :: A.drop (i + 1) ∧ (A.map Value.long)[i]? = some (.long x) :=
  ⟨A[i], List.drop_eq_getElem_cons h, by rw [List.getElem?_map, List.getElem?_eq_getElem h]; rfl⟩

theorem own_pn0 : plainName "com/example/arbordelta/arbordelta/SubtreeLabels" = true := by first | (simp [plainName, overriddenIn]; done) | decide +kernel
theorem own_d9_0 : decode prog_69_method_7_code 0 = .ok (.lconst 0, 1) := by decide +kernel
theorem own_d9_1 : decode prog_69_method_7_code 1 = .ok (.lstore_n 2, 1) := by decide +kernel
theorem own_d9_2 : decode prog_69_method_7_code 2 = .ok (.iconst 0, 1) := by decide +kernel
theorem own_d9_3 : decode prog_69_method_7_code 3 = .ok (.istore 4, 2) := by decide +kernel
theorem own_d9_5 : decode prog_69_method_7_code 5 = .ok (.iconst 0, 1) := by decide +kernel
theorem own_d9_6 : decode prog_69_method_7_code 6 = .ok (.istore 5, 2) := by decide +kernel
theorem own_d9_8 : decode prog_69_method_7_code 8 = .ok (.iload 4, 2) := by decide +kernel
theorem own_d9_10 : decode prog_69_method_7_code 10 = .ok (.aload_n 0, 1) := by decide +kernel
theorem own_d9_11 : decode prog_69_method_7_code 11 = .ok (.arraylength, 1) := by decide +kernel
theorem own_d9_12 : decode prog_69_method_7_code 12 = .ok (.if_icmp .ge 59, 3) := by decide +kernel
theorem own_d9_15 : decode prog_69_method_7_code 15 = .ok (.iload 5, 2) := by decide +kernel
theorem own_d9_17 : decode prog_69_method_7_code 17 = .ok (.aload_n 1, 1) := by decide +kernel
theorem own_d9_18 : decode prog_69_method_7_code 18 = .ok (.arraylength, 1) := by decide +kernel
theorem own_d9_19 : decode prog_69_method_7_code 19 = .ok (.if_icmp .ge 52, 3) := by decide +kernel
theorem own_d9_22 : decode prog_69_method_7_code 22 = .ok (.aload_n 0, 1) := by decide +kernel
theorem own_d9_23 : decode prog_69_method_7_code 23 = .ok (.iload 4, 2) := by decide +kernel
theorem own_d9_25 : decode prog_69_method_7_code 25 = .ok (.laload, 1) := by decide +kernel
theorem own_d9_26 : decode prog_69_method_7_code 26 = .ok (.aload_n 1, 1) := by decide +kernel
theorem own_d9_27 : decode prog_69_method_7_code 27 = .ok (.iload 5, 2) := by decide +kernel
theorem own_d9_29 : decode prog_69_method_7_code 29 = .ok (.laload, 1) := by decide +kernel
theorem own_d9_30 : decode prog_69_method_7_code 30 = .ok (.lcmp, 1) := by decide +kernel
theorem own_d9_31 : decode prog_69_method_7_code 31 = .ok (.ifCond .ne 16, 3) := by decide +kernel
theorem own_d9_34 : decode prog_69_method_7_code 34 = .ok (.lload_n 2, 1) := by decide +kernel
theorem own_d9_35 : decode prog_69_method_7_code 35 = .ok (.lconst 1, 1) := by decide +kernel
theorem own_d9_36 : decode prog_69_method_7_code 36 = .ok (.ladd, 1) := by decide +kernel
theorem own_d9_37 : decode prog_69_method_7_code 37 = .ok (.lstore_n 2, 1) := by decide +kernel
theorem own_d9_38 : decode prog_69_method_7_code 38 = .ok (.iinc 4 1, 3) := by decide +kernel
theorem own_d9_41 : decode prog_69_method_7_code 41 = .ok (.iinc 5 1, 3) := by decide +kernel
theorem own_d9_44 : decode prog_69_method_7_code 44 = .ok (.goto (-36), 3) := by decide +kernel
theorem own_d9_47 : decode prog_69_method_7_code 47 = .ok (.aload_n 0, 1) := by decide +kernel
theorem own_d9_48 : decode prog_69_method_7_code 48 = .ok (.iload 4, 2) := by decide +kernel
theorem own_d9_50 : decode prog_69_method_7_code 50 = .ok (.laload, 1) := by decide +kernel
theorem own_d9_51 : decode prog_69_method_7_code 51 = .ok (.aload_n 1, 1) := by decide +kernel
theorem own_d9_52 : decode prog_69_method_7_code 52 = .ok (.iload 5, 2) := by decide +kernel
theorem own_d9_54 : decode prog_69_method_7_code 54 = .ok (.laload, 1) := by decide +kernel
theorem own_d9_55 : decode prog_69_method_7_code 55 = .ok (.lcmp, 1) := by decide +kernel
theorem own_d9_56 : decode prog_69_method_7_code 56 = .ok (.ifCond .ge 9, 3) := by decide +kernel
theorem own_d9_59 : decode prog_69_method_7_code 59 = .ok (.iinc 4 1, 3) := by decide +kernel
theorem own_d9_62 : decode prog_69_method_7_code 62 = .ok (.goto (-54), 3) := by decide +kernel
theorem own_d9_65 : decode prog_69_method_7_code 65 = .ok (.iinc 5 1, 3) := by decide +kernel
theorem own_d9_68 : decode prog_69_method_7_code 68 = .ok (.goto (-60), 3) := by decide +kernel
theorem own_d9_71 : decode prog_69_method_7_code 71 = .ok (.lload_n 2, 1) := by decide +kernel
theorem own_d9_72 : decode prog_69_method_7_code 72 = .ok (.lreturn, 1) := by decide +kernel
theorem ef_own_rm9 (m : MethodId) (a1 : Addr) (a2 : Addr) : entryFrame m #[(.ref a1), (.ref a2)] 6 = mkF m 0 #[.val (.ref a1), .val (.ref a2), .unset, .unset, .unset, .unset] [] := by first | (simp [entryFrame, mkF, argsToLocals, Value.category]; done) | rfl
def own_rm9_Q (Z : State) (a1 : Addr) (a2 : Addr) (LA : List Int64) (LB : List Int64) (h0 : Heap) (n0 : Nat) (v : Option Value) (h : Heap) (L : List Loc) : Prop := v = some (.long (own_common LA LB)) ∧ Fr n0 L ∧ h = h0
set_option maxRecDepth 65536 in
set_option maxHeartbeats 40000000 in
theorem own_rm9 (l : Launch) (Z : State) (a0 : Array Value) (hw : ∀ d ∈ tables_1, d.before a0 Z = true) (ws : List Jvm.Cond) (a1 : Addr) (a2 : Addr) (LA : List Int64) (LB : List Int64) (h0 : Heap) (n0 : Nat) (Z0 : n0 ≤ h0.size) (A_a1 : own_Ar Z h0 a1 .long (LA.map Value.long)) (A_a2 : own_Ar Z h0 a2 .long (LB.map Value.long)) (hlA : LA.length < 2147483648) (hlB : LB.length < 2147483648) :
    MetFree l (⟨"com/example/arbordelta/arbordelta/SubtreeLabels", "common", "([J[J)J"⟩ : MethodName) (head1 (Jvm.Cond.code (⟨"com/example/arbordelta/arbordelta/SubtreeLabels", "common", "([J[J)J"⟩ : MethodName) prog_69_method_7_code 6 (some .long) :: ws) ({ frames := 0, cells := 0, slots := 0, locals := 0 } : Room)) (fun a U => a = #[(.ref a1), (.ref a2)] ∧ Z.Warmed39 U.vm ∧ U.heap = h0) (fun _ _ _ _ _ => True) (fun _ U o U' => ∃ v L, o = .returned v ∧ own_rm9_Q Z a1 a2 LA LB h0 n0 v U'.heap L ∧ FrameEnd U o U' L ({ frames := 0, cells := 0, slots := 0, locals := 0 } : Room).cells ({ frames := 0, cells := 0, slots := 0, locals := 0 } : Room).slots) := by
  refine MetFree.of_bodySF (plainFor_of_name own_pn0) hisR ?_
  intro p e s m args below meth c s₁ Bd hml0 hP hK
  obtain ⟨rfl, hZ, hh⟩ := hP
  have hx := Bd.exec
  have hby := Bd.bytes
  have hml : c.maxLocals = 6 := hml0
  have hown : s.vm.findClass "com/example/arbordelta/arbordelta/SubtreeLabels" = some m.cls := findClass_of_methodNamed Bd.named
  have hnm := (name_of_methodNamed Bd.named Bd.method).1
  have hlk : meth.locks = false := BodyLoose.notSynchronized Bd
  have X0 : Stand p l e ({ frames := 0, cells := 0, slots := 0, locals := 0 } : Room) s m #[(.ref a1), (.ref a2)] below meth c s₁ [] 0 0 := Stand.of_body Bd
  have e0 : s₁.heap = h0 := by rw [← hh, Bd.state]; rfl
  have N0 := Fr.nil n0
  have K0 : Keep h0 h0 [] := Keep.refl h0 []
  show own_Fin p e below (own_P (own_rm9_Q Z a1 a2 LA LB h0 n0) s ({ frames := 0, cells := 0, slots := 0, locals := 0 } : Room).cells ({ frames := 0, cells := 0, slots := 0, locals := 0 } : Room).slots) (s₁.setTop (entryFrame m #[(.ref a1), (.ref a2)] 6))
  refine own_via (g' := s₁.setTop (mkF m 0 #[.val (.ref a1), .val (.ref a2), .unset, .unset, .unset, .unset] [])) (fun t k => castTop (ef_own_rm9 m a1 a2) k) ?_
  refine own_via (g' := s₁.setTop (mkF m 1 #[.val (.ref a1), .val (.ref a2), .unset, .unset, .unset, .unset] [(.long (0 : Int64))])) (fun t k => XT.lconst X0.here hx rfl (hb hby own_d9_0) k) ?_
  refine own_via (g' := s₁.setTop (mkF m 2 #[.val (.ref a1), .val (.ref a2), .val (.long (0 : Int64)), .second, .unset, .unset] [])) (fun t k => XT.lstoreN X0.here hx rfl (hb hby own_d9_1) rfl (l' := #[.val (.ref a1), .val (.ref a2), .val (.long (0 : Int64)), .second, .unset, .unset]) rfl k) ?_
  refine own_via (g' := s₁.setTop (mkF m 3 #[.val (.ref a1), .val (.ref a2), .val (.long (0 : Int64)), .second, .unset, .unset] [(.int (0 : Int32))])) (fun t k => XS.iconst X0.here hx rfl (hb hby own_d9_2) k) ?_
  refine own_via (g' := s₁.setTop (mkF m 5 #[.val (.ref a1), .val (.ref a2), .val (.long (0 : Int64)), .second, .val (.int (0 : Int32)), .unset] [])) (fun t k => XS.istore X0.here hx rfl (hb hby own_d9_3) rfl (l' := #[.val (.ref a1), .val (.ref a2), .val (.long (0 : Int64)), .second, .val (.int (0 : Int32)), .unset]) rfl k) ?_
  refine own_via (g' := s₁.setTop (mkF m 6 #[.val (.ref a1), .val (.ref a2), .val (.long (0 : Int64)), .second, .val (.int (0 : Int32)), .unset] [(.int (0 : Int32))])) (fun t k => XS.iconst X0.here hx rfl (hb hby own_d9_5) k) ?_
  refine own_via (g' := s₁.setTop (mkF m 8 #[.val (.ref a1), .val (.ref a2), .val (.long (0 : Int64)), .second, .val (.int (0 : Int32)), .val (.int (0 : Int32))] [])) (fun t k => XS.istore X0.here hx rfl (hb hby own_d9_6) rfl (l' := #[.val (.ref a1), .val (.ref a2), .val (.long (0 : Int64)), .second, .val (.int (0 : Int32)), .val (.int (0 : Int32))]) rfl k) ?_
  have LOOP : ∀ (k i j : Nat) (acc : Int64), (LA.length - i) + (LB.length - j) < k → i ≤ LA.length → j ≤ LB.length → acc + own_common (LA.drop i) (LB.drop j) = own_common LA LB → own_Fin p e below (own_P (own_rm9_Q Z a1 a2 LA LB h0 n0) s ({ frames := 0, cells := 0, slots := 0, locals := 0 } : Room).cells ({ frames := 0, cells := 0, slots := 0, locals := 0 } : Room).slots) (s₁.setTop (mkF m 8 #[.val (.ref a1), .val (.ref a2), .val (.long acc), .second, .val (.int i.toInt32), .val (.int j.toInt32)] [])) := by
    intro k
    induction k with
    | zero => intro i j acc hk; exact absurd hk (Nat.not_lt_zero _)
    | succ k ih =>
      intro i j acc hk hi hj hinv
      refine own_via (g' := s₁.setTop (mkF m 10 #[.val (.ref a1), .val (.ref a2), .val (.long acc), .second, .val (.int i.toInt32), .val (.int j.toInt32)] [(.int i.toInt32)])) (fun t k => XS.iload X0.here hx rfl (hb hby own_d9_8) rfl k) ?_
      refine own_via (g' := s₁.setTop (mkF m 11 #[.val (.ref a1), .val (.ref a2), .val (.long acc), .second, .val (.int i.toInt32), .val (.int j.toInt32)] [(.ref a1), (.int i.toInt32)])) (fun t k => XS.aloadN X0.here hx rfl (hb hby own_d9_10) rfl (rfl) k) ?_
      refine own_via (g' := s₁.setTop (mkF m 12 #[.val (.ref a1), .val (.ref a2), .val (.long acc), .second, .val (.int i.toInt32), .val (.int j.toInt32)] [(.int LA.length.toInt32), (.int i.toInt32)])) (fun t k => own_len X0 hx hZ e0 A_a1 (n := LA.length.toInt32) (by rw [List.length_map]) (g := (mkF m 11 #[.val (.ref a1), .val (.ref a2), .val (.long acc), .second, .val (.int i.toInt32), .val (.int j.toInt32)] [(.ref a1), (.int i.toInt32)])) rfl rfl (hb hby own_d9_11) _ k) ?_
      by_cases hc12_101 : i.toInt32 < LA.length.toInt32
      · refine own_via (g' := s₁.setTop (mkF m 15 #[.val (.ref a1), .val (.ref a2), .val (.long acc), .second, .val (.int i.toInt32), .val (.int j.toInt32)] [])) (fun t k => XS.icmpNo X0.here hx rfl (hb hby own_d9_12) rfl (XT.ii_ge_f hc12_101) k) ?_
        have hiA : i < LA.length := (own_nlt hi hlA).mp hc12_101
        obtain ⟨x, hxd, hxg⟩ := own_split hiA
        refine own_via (g' := s₁.setTop (mkF m 17 #[.val (.ref a1), .val (.ref a2), .val (.long acc), .second, .val (.int i.toInt32), .val (.int j.toInt32)] [(.int j.toInt32)])) (fun t k => XS.iload X0.here hx rfl (hb hby own_d9_15) rfl k) ?_
        refine own_via (g' := s₁.setTop (mkF m 18 #[.val (.ref a1), .val (.ref a2), .val (.long acc), .second, .val (.int i.toInt32), .val (.int j.toInt32)] [(.ref a2), (.int j.toInt32)])) (fun t k => XS.aloadN X0.here hx rfl (hb hby own_d9_17) rfl (rfl) k) ?_
        refine own_via (g' := s₁.setTop (mkF m 19 #[.val (.ref a1), .val (.ref a2), .val (.long acc), .second, .val (.int i.toInt32), .val (.int j.toInt32)] [(.int LB.length.toInt32), (.int j.toInt32)])) (fun t k => own_len X0 hx hZ e0 A_a2 (n := LB.length.toInt32) (by rw [List.length_map]) (g := (mkF m 18 #[.val (.ref a1), .val (.ref a2), .val (.long acc), .second, .val (.int i.toInt32), .val (.int j.toInt32)] [(.ref a2), (.int j.toInt32)])) rfl rfl (hb hby own_d9_18) _ k) ?_
        by_cases hc19_102 : j.toInt32 < LB.length.toInt32
        · refine own_via (g' := s₁.setTop (mkF m 22 #[.val (.ref a1), .val (.ref a2), .val (.long acc), .second, .val (.int i.toInt32), .val (.int j.toInt32)] [])) (fun t k => XS.icmpNo X0.here hx rfl (hb hby own_d9_19) rfl (XT.ii_ge_f hc19_102) k) ?_
          have hjB : j < LB.length := (own_nlt hj hlB).mp hc19_102
          obtain ⟨y, hyd, hyg⟩ := own_split hjB
          refine own_via (g' := s₁.setTop (mkF m 23 #[.val (.ref a1), .val (.ref a2), .val (.long acc), .second, .val (.int i.toInt32), .val (.int j.toInt32)] [(.ref a1)])) (fun t k => XS.aloadN X0.here hx rfl (hb hby own_d9_22) rfl (rfl) k) ?_
          refine own_via (g' := s₁.setTop (mkF m 25 #[.val (.ref a1), .val (.ref a2), .val (.long acc), .second, .val (.int i.toInt32), .val (.int j.toInt32)] [(.int i.toInt32), (.ref a1)])) (fun t k => XS.iload X0.here hx rfl (hb hby own_d9_23) rfl k) ?_
          refine own_via (g' := s₁.setTop (mkF m 26 #[.val (.ref a1), .val (.ref a2), .val (.long acc), .second, .val (.int i.toInt32), .val (.int j.toInt32)] [(.long x)])) (fun t k => own_ldJ X0 hx hZ e0 A_a1 (j := i.toInt32) (v := (.long x)) (own_nn (by omega : i < 2147483648)) (by rw [own_ix (by omega : i < 2147483648)]; exact hxg) (g := (mkF m 25 #[.val (.ref a1), .val (.ref a2), .val (.long acc), .second, .val (.int i.toInt32), .val (.int j.toInt32)] [(.int i.toInt32), (.ref a1)])) rfl rfl (hb hby own_d9_25) _ k) ?_
          refine own_via (g' := s₁.setTop (mkF m 27 #[.val (.ref a1), .val (.ref a2), .val (.long acc), .second, .val (.int i.toInt32), .val (.int j.toInt32)] [(.ref a2), (.long x)])) (fun t k => XS.aloadN X0.here hx rfl (hb hby own_d9_26) rfl (rfl) k) ?_
          refine own_via (g' := s₁.setTop (mkF m 29 #[.val (.ref a1), .val (.ref a2), .val (.long acc), .second, .val (.int i.toInt32), .val (.int j.toInt32)] [(.int j.toInt32), (.ref a2), (.long x)])) (fun t k => XS.iload X0.here hx rfl (hb hby own_d9_27) rfl k) ?_
          refine own_via (g' := s₁.setTop (mkF m 30 #[.val (.ref a1), .val (.ref a2), .val (.long acc), .second, .val (.int i.toInt32), .val (.int j.toInt32)] [(.long y), (.long x)])) (fun t k => own_ldJ X0 hx hZ e0 A_a2 (j := j.toInt32) (v := (.long y)) (own_nn (by omega : j < 2147483648)) (by rw [own_ix (by omega : j < 2147483648)]; exact hyg) (g := (mkF m 29 #[.val (.ref a1), .val (.ref a2), .val (.long acc), .second, .val (.int i.toInt32), .val (.int j.toInt32)] [(.int j.toInt32), (.ref a2), (.long x)])) rfl rfl (hb hby own_d9_29) _ k) ?_
          refine own_via (g' := s₁.setTop (mkF m 31 #[.val (.ref a1), .val (.ref a2), .val (.long acc), .second, .val (.int i.toInt32), .val (.int j.toInt32)] [(.int (XT.cmpL x y))])) (fun t k => XT.lcmp X0.here hx rfl (hb hby own_d9_30) rfl k) ?_
          by_cases hc31_103 : x = y
          · refine own_via (g' := s₁.setTop (mkF m 34 #[.val (.ref a1), .val (.ref a2), .val (.long acc), .second, .val (.int i.toInt32), .val (.int j.toInt32)] [])) (fun t k => XS.ifNo X0.here hx rfl (hb hby own_d9_31) rfl (XT.ll_ne_f hc31_103) k) ?_
            refine own_via (g' := s₁.setTop (mkF m 35 #[.val (.ref a1), .val (.ref a2), .val (.long acc), .second, .val (.int i.toInt32), .val (.int j.toInt32)] [(.long acc)])) (fun t k => XT.lloadN X0.here hx rfl (hb hby own_d9_34) rfl k) ?_
            refine own_via (g' := s₁.setTop (mkF m 36 #[.val (.ref a1), .val (.ref a2), .val (.long acc), .second, .val (.int i.toInt32), .val (.int j.toInt32)] [(.long (1 : Int64)), (.long acc)])) (fun t k => XT.lconst X0.here hx rfl (hb hby own_d9_35) k) ?_
            refine own_via (g' := s₁.setTop (mkF m 37 #[.val (.ref a1), .val (.ref a2), .val (.long acc), .second, .val (.int i.toInt32), .val (.int j.toInt32)] [(.long (acc + (1 : Int64)))])) (fun t k => XT.ladd X0.here hx rfl (hb hby own_d9_36) rfl k) ?_
            refine own_via (g' := s₁.setTop (mkF m 38 #[.val (.ref a1), .val (.ref a2), .val (.long (acc + (1 : Int64))), .second, .val (.int i.toInt32), .val (.int j.toInt32)] [])) (fun t k => XT.lstoreN X0.here hx rfl (hb hby own_d9_37) rfl (l' := #[.val (.ref a1), .val (.ref a2), .val (.long (acc + (1 : Int64))), .second, .val (.int i.toInt32), .val (.int j.toInt32)]) rfl k) ?_
            refine own_via (g' := s₁.setTop (mkF m 41 #[.val (.ref a1), .val (.ref a2), .val (.long (acc + (1 : Int64))), .second, .val (.int (i.toInt32 + (1 : Int32))), .val (.int j.toInt32)] [])) (fun t k => XS.iinc X0.here hx rfl (hb hby own_d9_38) rfl (l' := #[.val (.ref a1), .val (.ref a2), .val (.long (acc + (1 : Int64))), .second, .val (.int (i.toInt32 + (1 : Int32))), .val (.int j.toInt32)]) rfl k) ?_
            refine own_via (g' := s₁.setTop (mkF m 44 #[.val (.ref a1), .val (.ref a2), .val (.long (acc + (1 : Int64))), .second, .val (.int (i.toInt32 + (1 : Int32))), .val (.int (j.toInt32 + (1 : Int32)))] [])) (fun t k => XS.iinc X0.here hx rfl (hb hby own_d9_41) rfl (l' := #[.val (.ref a1), .val (.ref a2), .val (.long (acc + (1 : Int64))), .second, .val (.int (i.toInt32 + (1 : Int32))), .val (.int (j.toInt32 + (1 : Int32)))]) rfl k) ?_
            refine own_via (g' := s₁.setTop (mkF m 8 #[.val (.ref a1), .val (.ref a2), .val (.long (acc + (1 : Int64))), .second, .val (.int (i.toInt32 + (1 : Int32))), .val (.int (j.toInt32 + (1 : Int32)))] [])) (fun t k => XS.goto X0.here hx rfl (pc0 := 44) (pc' := 8) rfl (hb hby own_d9_44) (by decide) (by decide) k) ?_
            rw [own_succ i]
            rw [own_succ j]
            exact ih (i + 1) (j + 1) (acc + (1 : Int64)) (by omega) (by omega) (by omega) (by rw [hxd, hyd, own_cc, if_pos hc31_103, ← Int64.add_assoc] at hinv; exact hinv)
          · refine own_via (g' := s₁.setTop (mkF m 47 #[.val (.ref a1), .val (.ref a2), .val (.long acc), .second, .val (.int i.toInt32), .val (.int j.toInt32)] [])) (fun t k => XS.ifYes X0.here hx rfl (pc0 := 31) (pc' := 47) rfl (hb hby own_d9_31) rfl (XT.ll_ne_t hc31_103) (by decide) (by decide) k) ?_
            refine own_via (g' := s₁.setTop (mkF m 48 #[.val (.ref a1), .val (.ref a2), .val (.long acc), .second, .val (.int i.toInt32), .val (.int j.toInt32)] [(.ref a1)])) (fun t k => XS.aloadN X0.here hx rfl (hb hby own_d9_47) rfl (rfl) k) ?_
            refine own_via (g' := s₁.setTop (mkF m 50 #[.val (.ref a1), .val (.ref a2), .val (.long acc), .second, .val (.int i.toInt32), .val (.int j.toInt32)] [(.int i.toInt32), (.ref a1)])) (fun t k => XS.iload X0.here hx rfl (hb hby own_d9_48) rfl k) ?_
            refine own_via (g' := s₁.setTop (mkF m 51 #[.val (.ref a1), .val (.ref a2), .val (.long acc), .second, .val (.int i.toInt32), .val (.int j.toInt32)] [(.long x)])) (fun t k => own_ldJ X0 hx hZ e0 A_a1 (j := i.toInt32) (v := (.long x)) (own_nn (by omega : i < 2147483648)) (by rw [own_ix (by omega : i < 2147483648)]; exact hxg) (g := (mkF m 50 #[.val (.ref a1), .val (.ref a2), .val (.long acc), .second, .val (.int i.toInt32), .val (.int j.toInt32)] [(.int i.toInt32), (.ref a1)])) rfl rfl (hb hby own_d9_50) _ k) ?_
            refine own_via (g' := s₁.setTop (mkF m 52 #[.val (.ref a1), .val (.ref a2), .val (.long acc), .second, .val (.int i.toInt32), .val (.int j.toInt32)] [(.ref a2), (.long x)])) (fun t k => XS.aloadN X0.here hx rfl (hb hby own_d9_51) rfl (rfl) k) ?_
            refine own_via (g' := s₁.setTop (mkF m 54 #[.val (.ref a1), .val (.ref a2), .val (.long acc), .second, .val (.int i.toInt32), .val (.int j.toInt32)] [(.int j.toInt32), (.ref a2), (.long x)])) (fun t k => XS.iload X0.here hx rfl (hb hby own_d9_52) rfl k) ?_
            refine own_via (g' := s₁.setTop (mkF m 55 #[.val (.ref a1), .val (.ref a2), .val (.long acc), .second, .val (.int i.toInt32), .val (.int j.toInt32)] [(.long y), (.long x)])) (fun t k => own_ldJ X0 hx hZ e0 A_a2 (j := j.toInt32) (v := (.long y)) (own_nn (by omega : j < 2147483648)) (by rw [own_ix (by omega : j < 2147483648)]; exact hyg) (g := (mkF m 54 #[.val (.ref a1), .val (.ref a2), .val (.long acc), .second, .val (.int i.toInt32), .val (.int j.toInt32)] [(.int j.toInt32), (.ref a2), (.long x)])) rfl rfl (hb hby own_d9_54) _ k) ?_
            refine own_via (g' := s₁.setTop (mkF m 56 #[.val (.ref a1), .val (.ref a2), .val (.long acc), .second, .val (.int i.toInt32), .val (.int j.toInt32)] [(.int (XT.cmpL x y))])) (fun t k => XT.lcmp X0.here hx rfl (hb hby own_d9_55) rfl k) ?_
            by_cases hc56_104 : x < y
            · refine own_via (g' := s₁.setTop (mkF m 59 #[.val (.ref a1), .val (.ref a2), .val (.long acc), .second, .val (.int i.toInt32), .val (.int j.toInt32)] [])) (fun t k => XS.ifNo X0.here hx rfl (hb hby own_d9_56) rfl (XT.ll_ge_f hc56_104) k) ?_
              refine own_via (g' := s₁.setTop (mkF m 62 #[.val (.ref a1), .val (.ref a2), .val (.long acc), .second, .val (.int (i.toInt32 + (1 : Int32))), .val (.int j.toInt32)] [])) (fun t k => XS.iinc X0.here hx rfl (hb hby own_d9_59) rfl (l' := #[.val (.ref a1), .val (.ref a2), .val (.long acc), .second, .val (.int (i.toInt32 + (1 : Int32))), .val (.int j.toInt32)]) rfl k) ?_
              refine own_via (g' := s₁.setTop (mkF m 8 #[.val (.ref a1), .val (.ref a2), .val (.long acc), .second, .val (.int (i.toInt32 + (1 : Int32))), .val (.int j.toInt32)] [])) (fun t k => XS.goto X0.here hx rfl (pc0 := 62) (pc' := 8) rfl (hb hby own_d9_62) (by decide) (by decide) k) ?_
              rw [own_succ i]
              exact ih (i + 1) j acc (by omega) (by omega) (by omega) (by rw [hxd, hyd, own_cc, if_neg hc31_103, if_pos hc56_104, ← hyd] at hinv; exact hinv)
            · refine own_via (g' := s₁.setTop (mkF m 65 #[.val (.ref a1), .val (.ref a2), .val (.long acc), .second, .val (.int i.toInt32), .val (.int j.toInt32)] [])) (fun t k => XS.ifYes X0.here hx rfl (pc0 := 56) (pc' := 65) rfl (hb hby own_d9_56) rfl (XT.ll_ge_t hc56_104) (by decide) (by decide) k) ?_
              refine own_via (g' := s₁.setTop (mkF m 68 #[.val (.ref a1), .val (.ref a2), .val (.long acc), .second, .val (.int i.toInt32), .val (.int (j.toInt32 + (1 : Int32)))] [])) (fun t k => XS.iinc X0.here hx rfl (hb hby own_d9_65) rfl (l' := #[.val (.ref a1), .val (.ref a2), .val (.long acc), .second, .val (.int i.toInt32), .val (.int (j.toInt32 + (1 : Int32)))]) rfl k) ?_
              refine own_via (g' := s₁.setTop (mkF m 8 #[.val (.ref a1), .val (.ref a2), .val (.long acc), .second, .val (.int i.toInt32), .val (.int (j.toInt32 + (1 : Int32)))] [])) (fun t k => XS.goto X0.here hx rfl (pc0 := 68) (pc' := 8) rfl (hb hby own_d9_68) (by decide) (by decide) k) ?_
              rw [own_succ j]
              exact ih i (j + 1) acc (by omega) (by omega) (by omega) (by rw [hxd, hyd, own_cc, if_neg hc31_103, if_neg hc56_104, ← hxd] at hinv; exact hinv)
        · refine own_via (g' := s₁.setTop (mkF m 71 #[.val (.ref a1), .val (.ref a2), .val (.long acc), .second, .val (.int i.toInt32), .val (.int j.toInt32)] [])) (fun t k => XS.icmpYes X0.here hx rfl (pc0 := 19) (pc' := 71) rfl (hb hby own_d9_19) rfl (XT.ii_ge_t hc19_102) (by decide) (by decide) k) ?_
          refine own_via (g' := s₁.setTop (mkF m 72 #[.val (.ref a1), .val (.ref a2), .val (.long acc), .second, .val (.int i.toInt32), .val (.int j.toInt32)] [(.long acc)])) (fun t k => XT.lloadN X0.here hx rfl (hb hby own_d9_71) rfl k) ?_
          exact own_retJ X0 hx hlk Bd.returns (hb hby own_d9_72) ⟨(by rw [← hinv, (List.drop_eq_nil_of_le (Nat.le_of_not_lt (fun q => hc19_102 ((own_nlt hj hlB).mpr q))) : LB.drop j = []), own_cn1, Int64.add_zero]), N0, e0⟩ (by decide) (by decide)
      · refine own_via (g' := s₁.setTop (mkF m 71 #[.val (.ref a1), .val (.ref a2), .val (.long acc), .second, .val (.int i.toInt32), .val (.int j.toInt32)] [])) (fun t k => XS.icmpYes X0.here hx rfl (pc0 := 12) (pc' := 71) rfl (hb hby own_d9_12) rfl (XT.ii_ge_t hc12_101) (by decide) (by decide) k) ?_
        refine own_via (g' := s₁.setTop (mkF m 72 #[.val (.ref a1), .val (.ref a2), .val (.long acc), .second, .val (.int i.toInt32), .val (.int j.toInt32)] [(.long acc)])) (fun t k => XT.lloadN X0.here hx rfl (hb hby own_d9_71) rfl k) ?_
        exact own_retJ X0 hx hlk Bd.returns (hb hby own_d9_72) ⟨(by rw [← hinv, List.drop_eq_nil_of_le (Nat.le_of_not_lt (fun q => hc12_101 ((own_nlt hi hlA).mpr q))), own_cn0, Int64.add_zero]), N0, e0⟩ (by decide) (by decide)
  exact LOOP _ 0 0 0 (Nat.lt_succ_self _) (Nat.zero_le _) (Nat.zero_le _) (by rw [List.drop_zero, List.drop_zero, Int64.zero_add])
theorem own_pn1 : plainName "java/lang/Record" = true := by first | (simp [plainName, overriddenIn]; done) | decide +kernel
theorem own_d5_0 : decode jdk_30_method_1_code 0 = .ok (.aload_n 0, 1) := by decide +kernel
theorem own_d5_1 : decode jdk_30_method_1_code 1 = .ok (.invokespecial 1, 3) := by decide +kernel
theorem own_d5_4 : decode jdk_30_method_1_code 4 = .ok (.return_, 1) := by decide +kernel
theorem ef_own_rm5 (m : MethodId) (a1 : Addr) : entryFrame m #[(.ref a1)] 1 = mkF m 0 #[.val (.ref a1)] [] := by first | (simp [entryFrame, mkF, argsToLocals, Value.category]; done) | rfl
def own_rm5_Q (Z : State) (a1 : Addr)  (h0 : Heap) (n0 : Nat) (v : Option Value) (h : Heap) (L : List Loc) : Prop := v = none ∧ Fr n0 L ∧ h = h0
set_option maxRecDepth 65536 in
set_option maxHeartbeats 40000000 in
theorem own_rm5 (l : Launch) (Z : State) (a0 : Array Value) (hw : ∀ d ∈ tables_1, d.before a0 Z = true) (ws : List Jvm.Cond) (a1 : Addr)  (h0 : Heap) (n0 : Nat) (Z0 : n0 ≤ h0.size) :
    MetFree l (⟨"java/lang/Record", "<init>", "()V"⟩ : MethodName) (head1 (Jvm.Cond.code (⟨"java/lang/Record", "<init>", "()V"⟩ : MethodName) jdk_30_method_1_code 1 none :: ws) ({ frames := 1, cells := 0, slots := 0, locals := 12 } : Room)) (fun a U => a = #[(.ref a1)] ∧ Z.Warmed39 U.vm ∧ U.heap = h0) (fun _ _ _ _ _ => True) (fun _ U o U' => ∃ v L, o = .returned v ∧ own_rm5_Q Z a1  h0 n0 v U'.heap L ∧ FrameEnd U o U' L ({ frames := 1, cells := 0, slots := 0, locals := 12 } : Room).cells ({ frames := 1, cells := 0, slots := 0, locals := 12 } : Room).slots) := by
  refine MetFree.of_bodySF (plainFor_of_name own_pn1) hisR ?_
  intro p e s m args below meth c s₁ Bd hml0 hP hK
  obtain ⟨rfl, hZ, hh⟩ := hP
  have hx := Bd.exec
  have hby := Bd.bytes
  have hml : c.maxLocals = 1 := hml0
  have hown : s.vm.findClass "java/lang/Record" = some m.cls := findClass_of_methodNamed Bd.named
  have hnm := (name_of_methodNamed Bd.named Bd.method).1
  have hlk : meth.locks = false := BodyLoose.notSynchronized Bd
  have X0 : Stand p l e ({ frames := 1, cells := 0, slots := 0, locals := 12 } : Room) s m #[(.ref a1)] below meth c s₁ [] 0 0 := Stand.of_body Bd
  have e0 : s₁.heap = h0 := by rw [← hh, Bd.state]; rfl
  have N0 := Fr.nil n0
  have K0 : Keep h0 h0 [] := Keep.refl h0 []
  show own_Fin p e below (own_P (own_rm5_Q Z a1  h0 n0) s ({ frames := 1, cells := 0, slots := 0, locals := 12 } : Room).cells ({ frames := 1, cells := 0, slots := 0, locals := 12 } : Room).slots) (s₁.setTop (entryFrame m #[(.ref a1)] 1))
  refine own_via (g' := s₁.setTop (mkF m 0 #[.val (.ref a1)] [])) (fun t k => castTop (ef_own_rm5 m a1) k) ?_
  refine own_via (g' := s₁.setTop (mkF m 1 #[.val (.ref a1)] [(.ref a1)])) (fun t k => XS.aloadN X0.here hx rfl (hb hby own_d5_0) rfl (rfl) k) ?_
  obtain ⟨T101, X101, e101, st101⟩ := initO X0 hx hZ hown (hw _ (List.mem_of_getElem? (i := 23) rfl)) (hw _ (List.mem_of_getElem? (i := 24) rfl)) (hw _ (List.mem_of_getElem? (i := 25) rfl)) e0 (g := (mkF m 1 #[.val (.ref a1)] [(.ref a1)])) rfl (by rw [hml]; rfl) rfl (hb hby own_d5_1) (by decide) (W := 0) (by show 2 * 0 + _ ≤ _; exact Nat.le_of_eq rfl) (by decide)
  refine own_via (g' := T101.setTop (mkF m 4 #[.val (.ref a1)] [])) (fun t k => st101 _ k) ?_
  exact own_retV X101 hx hlk Bd.returns (hb hby own_d5_4) ⟨rfl, N0, e101⟩ (by decide) (by decide)
theorem own_pd0 : parseMethodDescriptor "()V" = some ⟨[], none⟩ := by decide +kernel
theorem own_d4_0 : decode prog_69_method_1_code 0 = .ok (.aload_n 0, 1) := by decide +kernel
theorem own_d4_1 : decode prog_69_method_1_code 1 = .ok (.invokespecial 1, 3) := by decide +kernel
theorem own_d4_4 : decode prog_69_method_1_code 4 = .ok (.aload_n 0, 1) := by decide +kernel
theorem own_d4_5 : decode prog_69_method_1_code 5 = .ok (.aload_n 1, 1) := by decide +kernel
theorem own_d4_6 : decode prog_69_method_1_code 6 = .ok (.putfield 7, 3) := by decide +kernel
theorem own_d4_9 : decode prog_69_method_1_code 9 = .ok (.aload_n 0, 1) := by decide +kernel
theorem own_d4_10 : decode prog_69_method_1_code 10 = .ok (.aload_n 2, 1) := by decide +kernel
theorem own_d4_11 : decode prog_69_method_1_code 11 = .ok (.putfield 13, 3) := by decide +kernel
theorem own_d4_14 : decode prog_69_method_1_code 14 = .ok (.aload_n 0, 1) := by decide +kernel
theorem own_d4_15 : decode prog_69_method_1_code 15 = .ok (.aload_n 3, 1) := by decide +kernel
theorem own_d4_16 : decode prog_69_method_1_code 16 = .ok (.putfield 16, 3) := by decide +kernel
theorem own_d4_19 : decode prog_69_method_1_code 19 = .ok (.return_, 1) := by decide +kernel
theorem ef_own_rm4 (m : MethodId) (a1 : Addr) (a2 : Addr) (a3 : Addr) (a4 : Addr) : entryFrame m #[(.ref a1), (.ref a2), (.ref a3), (.ref a4)] 4 = mkF m 0 #[.val (.ref a1), .val (.ref a2), .val (.ref a3), .val (.ref a4)] [] := by first | (simp [entryFrame, mkF, argsToLocals, Value.category]; done) | rfl
def own_rm4_Q (Z : State) (a1 : Addr) (a2 : Addr) (a3 : Addr) (a4 : Addr)  (h0 : Heap) (n0 : Nat) (v : Option Value) (h : Heap) (L : List Loc) : Prop := v = none ∧ Fr n0 L ∧ Keep h0 h [a1] ∧ Exa Z h a1 "com/example/arbordelta/arbordelta/SubtreeLabels" ∧ Fld Z h a1 "com/example/arbordelta/arbordelta/SubtreeLabels" "labels" "[J" (.ref a2) ∧ Fld Z h a1 "com/example/arbordelta/arbordelta/SubtreeLabels" "labelledValues" "[J" (.ref a3) ∧ Fld Z h a1 "com/example/arbordelta/arbordelta/SubtreeLabels" "leftOut" "[J" (.ref a4)
set_option maxRecDepth 65536 in
set_option maxHeartbeats 40000000 in
theorem own_rm4 (l : Launch) (Z : State) (a0 : Array Value) (hw : ∀ d ∈ tables_1, d.before a0 Z = true) (ws : List Jvm.Cond) (a1 : Addr) (a2 : Addr) (a3 : Addr) (a4 : Addr)  (h0 : Heap) (n0 : Nat) (Z0 : n0 ≤ h0.size) (E_a1 : Exa Z h0 a1 "com/example/arbordelta/arbordelta/SubtreeLabels") (Fi_0 : Fld Z h0 a1 "com/example/arbordelta/arbordelta/SubtreeLabels" "labels" "[J" .null) (Fi_1 : Fld Z h0 a1 "com/example/arbordelta/arbordelta/SubtreeLabels" "labelledValues" "[J" .null) (Fi_2 : Fld Z h0 a1 "com/example/arbordelta/arbordelta/SubtreeLabels" "leftOut" "[J" .null) (g_a1 : n0 ≤ a1) :
    MetFree l (⟨"com/example/arbordelta/arbordelta/SubtreeLabels", "<init>", "([J[J[J)V"⟩ : MethodName) (head1 (Jvm.Cond.code (⟨"com/example/arbordelta/arbordelta/SubtreeLabels", "<init>", "([J[J[J)V"⟩ : MethodName) prog_69_method_1_code 4 none :: ws) ({ frames := 2, cells := 0, slots := 0, locals := 24 } : Room)) (fun a U => a = #[(.ref a1), (.ref a2), (.ref a3), (.ref a4)] ∧ Z.Warmed39 U.vm ∧ U.heap = h0) (fun _ _ _ _ _ => True) (fun _ U o U' => ∃ v L, o = .returned v ∧ own_rm4_Q Z a1 a2 a3 a4  h0 n0 v U'.heap L ∧ FrameEnd U o U' L ({ frames := 2, cells := 0, slots := 0, locals := 24 } : Room).cells ({ frames := 2, cells := 0, slots := 0, locals := 24 } : Room).slots) := by
  refine MetFree.of_bodySF (plainFor_of_name own_pn0) hisR ?_
  intro p e s m args below meth c s₁ Bd hml0 hP hK
  obtain ⟨rfl, hZ, hh⟩ := hP
  have hx := Bd.exec
  have hby := Bd.bytes
  have hml : c.maxLocals = 4 := hml0
  have hown : s.vm.findClass "com/example/arbordelta/arbordelta/SubtreeLabels" = some m.cls := findClass_of_methodNamed Bd.named
  have hnm := (name_of_methodNamed Bd.named Bd.method).1
  have hlk : meth.locks = false := BodyLoose.notSynchronized Bd
  have X0 : Stand p l e ({ frames := 2, cells := 0, slots := 0, locals := 24 } : Room) s m #[(.ref a1), (.ref a2), (.ref a3), (.ref a4)] below meth c s₁ [] 0 0 := Stand.of_body Bd
  have e0 : s₁.heap = h0 := by rw [← hh, Bd.state]; rfl
  have N0 := Fr.nil n0
  have K0 : Keep h0 h0 [a1] := Keep.refl h0 [a1]
  show own_Fin p e below (own_P (own_rm4_Q Z a1 a2 a3 a4  h0 n0) s ({ frames := 2, cells := 0, slots := 0, locals := 24 } : Room).cells ({ frames := 2, cells := 0, slots := 0, locals := 24 } : Room).slots) (s₁.setTop (entryFrame m #[(.ref a1), (.ref a2), (.ref a3), (.ref a4)] 4))
  refine own_via (g' := s₁.setTop (mkF m 0 #[.val (.ref a1), .val (.ref a2), .val (.ref a3), .val (.ref a4)] [])) (fun t k => castTop (ef_own_rm4 m a1 a2 a3 a4) k) ?_
  refine own_via (g' := s₁.setTop (mkF m 1 #[.val (.ref a1), .val (.ref a2), .val (.ref a3), .val (.ref a4)] [(.ref a1)])) (fun t k => XS.aloadN X0.here hx rfl (hb hby own_d4_0) rfl (rfl) k) ?_
  obtain ⟨v101, _, ⟨T101, L101, k101, n101⟩, -, X101, ⟨Lc101, hQ101, l101, y101, z101⟩, st101⟩ := X0.specialBack hx (y := (⟨"java/lang/Record", "<init>", "()V"⟩ : MethodName)) rfl hown (mvT hZ (hw _ (List.mem_of_getElem? (i := 18) rfl))) (mvT hZ (hw _ (List.mem_of_getElem? (i := 19) rfl))) (mvT hZ (hw _ (List.mem_of_getElem? (i := 22) rfl))) (by decide) (backOf (W := 0) (own_rm5 l Z a0 hw [] a1 h0 n0 (Nat.le_trans Z0 K0.1) ) hZ (hw _ (List.mem_of_getElem? (i := 22) rfl)) (hw _ (List.mem_of_getElem? (i := 21) rfl)) (by decide) (by decide)) (g := (mkF m 1 #[.val (.ref a1), .val (.ref a2), .val (.ref a3), .val (.ref a4)] [(.ref a1)])) rfl (by rw [hml]; rfl) (Steps.refl _) (a := a1) (argsL := []) (rest := []) (lenOf own_pd0 rfl) rfl (by show 2 * 0 + _ ≤ _; exact Nat.le_of_eq rfl) (hb hby own_d4_1) (fun _ _ => ⟨rfl, e0, (by decide : 0 + 0 ≤ _), (by decide : 0 + 0 ≤ _)⟩)
  dsimp only [Pt.U, Pt.locs, Pt.cells, Pt.slots] at X101 l101 y101 z101 st101 hQ101
  subst l101 y101 z101
  obtain ⟨rfl, N101q, e101⟩ := hQ101
  have N101 := Fr.app N0 N101q
  refine own_via (g' := T101.setTop (mkF m 4 #[.val (.ref a1), .val (.ref a2), .val (.ref a3), .val (.ref a4)] [])) (fun t k => st101.trans k) ?_
  refine own_via (g' := T101.setTop (mkF m 5 #[.val (.ref a1), .val (.ref a2), .val (.ref a3), .val (.ref a4)] [(.ref a1)])) (fun t k => XS.aloadN X101.here hx rfl (hb hby own_d4_4) rfl (rfl) k) ?_
  refine own_via (g' := T101.setTop (mkF m 6 #[.val (.ref a1), .val (.ref a2), .val (.ref a3), .val (.ref a4)] [(.ref a2), (.ref a1)])) (fun t k => XS.aloadN X101.here hx rfl (hb hby own_d4_5) rfl (rfl) k) ?_
  obtain ⟨T102, h102, X102, e102, W102, st102⟩ := putF X101 hx hZ hown (host := "") (Or.inl (hw _ (List.mem_of_getElem? (i := 26) rfl))) Via.refl e101 Fi_0 E_a1 (Or.inr ⟨(hw _ (List.mem_of_getElem? (i := 27) rfl)), rfl, hnm⟩) (hw _ (List.mem_of_getElem? (i := 13) rfl)) (ty := (.array .long)) (by decide) rfl rfl (g := (mkF m 6 #[.val (.ref a1), .val (.ref a2), .val (.ref a3), .val (.ref a4)] [(.ref a2), (.ref a1)])) rfl rfl (hb hby own_d4_6)
  have F102 : Fld Z h102 a1 "com/example/arbordelta/arbordelta/SubtreeLabels" "labels" "[J" (.ref a2) := Fi_0.same W102
  have Kc102 : Keep h0 h102 [a1] := K0.wr W102 (Or.inl (List.mem_of_getElem? (i := 0) rfl))
  have N102 := Fr.snoc X102 N101 g_a1
  refine own_via (g' := T102.setTop (mkF m 9 #[.val (.ref a1), .val (.ref a2), .val (.ref a3), .val (.ref a4)] [])) (fun t k => st102 _ k) ?_
  refine own_via (g' := T102.setTop (mkF m 10 #[.val (.ref a1), .val (.ref a2), .val (.ref a3), .val (.ref a4)] [(.ref a1)])) (fun t k => XS.aloadN X102.here hx rfl (hb hby own_d4_9) rfl (rfl) k) ?_
  refine own_via (g' := T102.setTop (mkF m 11 #[.val (.ref a1), .val (.ref a2), .val (.ref a3), .val (.ref a4)] [(.ref a3), (.ref a1)])) (fun t k => XS.aloadN X102.here hx rfl (hb hby own_d4_10) rfl (rfl) k) ?_
  obtain ⟨T103, h103, X103, e103, W103, st103⟩ := putF X102 hx hZ hown (host := "") (Or.inl (hw _ (List.mem_of_getElem? (i := 28) rfl))) Via.refl e102 (Fi_1.other W102 (Or.inr (slot_ne (Or.inr (hw _ (List.mem_of_getElem? (i := 29) rfl))) (Or.inr (hw _ (List.mem_of_getElem? (i := 27) rfl))) (by decide) (t := (.array .long)) (t' := (.array .long)) (by decide) (by decide)))) (E_a1.wr W102) (Or.inr ⟨(hw _ (List.mem_of_getElem? (i := 29) rfl)), rfl, hnm⟩) (hw _ (List.mem_of_getElem? (i := 13) rfl)) (ty := (.array .long)) (by decide) rfl rfl (g := (mkF m 11 #[.val (.ref a1), .val (.ref a2), .val (.ref a3), .val (.ref a4)] [(.ref a3), (.ref a1)])) rfl rfl (hb hby own_d4_11)
  have F103 : Fld Z h103 a1 "com/example/arbordelta/arbordelta/SubtreeLabels" "labelledValues" "[J" (.ref a3) := (Fi_1.other W102 (Or.inr (slot_ne (Or.inr (hw _ (List.mem_of_getElem? (i := 29) rfl))) (Or.inr (hw _ (List.mem_of_getElem? (i := 27) rfl))) (by decide) (t := (.array .long)) (t' := (.array .long)) (by decide) (by decide)))).same W103
  have Kc103 : Keep h0 h103 [a1] := Kc102.wr W103 (Or.inl (List.mem_of_getElem? (i := 0) rfl))
  have N103 := Fr.snoc X103 N102 g_a1
  refine own_via (g' := T103.setTop (mkF m 14 #[.val (.ref a1), .val (.ref a2), .val (.ref a3), .val (.ref a4)] [])) (fun t k => st103 _ k) ?_
  refine own_via (g' := T103.setTop (mkF m 15 #[.val (.ref a1), .val (.ref a2), .val (.ref a3), .val (.ref a4)] [(.ref a1)])) (fun t k => XS.aloadN X103.here hx rfl (hb hby own_d4_14) rfl (rfl) k) ?_
  refine own_via (g' := T103.setTop (mkF m 16 #[.val (.ref a1), .val (.ref a2), .val (.ref a3), .val (.ref a4)] [(.ref a4), (.ref a1)])) (fun t k => XS.aloadN X103.here hx rfl (hb hby own_d4_15) rfl (rfl) k) ?_
  obtain ⟨T104, h104, X104, e104, W104, st104⟩ := putF X103 hx hZ hown (host := "") (Or.inl (hw _ (List.mem_of_getElem? (i := 30) rfl))) Via.refl e103 ((Fi_2.other W102 (Or.inr (slot_ne (Or.inr (hw _ (List.mem_of_getElem? (i := 31) rfl))) (Or.inr (hw _ (List.mem_of_getElem? (i := 27) rfl))) (by decide) (t := (.array .long)) (t' := (.array .long)) (by decide) (by decide)))).other W103 (Or.inr (slot_ne (Or.inr (hw _ (List.mem_of_getElem? (i := 31) rfl))) (Or.inr (hw _ (List.mem_of_getElem? (i := 29) rfl))) (by decide) (t := (.array .long)) (t' := (.array .long)) (by decide) (by decide)))) ((E_a1.wr W102).wr W103) (Or.inr ⟨(hw _ (List.mem_of_getElem? (i := 31) rfl)), rfl, hnm⟩) (hw _ (List.mem_of_getElem? (i := 13) rfl)) (ty := (.array .long)) (by decide) rfl rfl (g := (mkF m 16 #[.val (.ref a1), .val (.ref a2), .val (.ref a3), .val (.ref a4)] [(.ref a4), (.ref a1)])) rfl rfl (hb hby own_d4_16)
  have F104 : Fld Z h104 a1 "com/example/arbordelta/arbordelta/SubtreeLabels" "leftOut" "[J" (.ref a4) := ((Fi_2.other W102 (Or.inr (slot_ne (Or.inr (hw _ (List.mem_of_getElem? (i := 31) rfl))) (Or.inr (hw _ (List.mem_of_getElem? (i := 27) rfl))) (by decide) (t := (.array .long)) (t' := (.array .long)) (by decide) (by decide)))).other W103 (Or.inr (slot_ne (Or.inr (hw _ (List.mem_of_getElem? (i := 31) rfl))) (Or.inr (hw _ (List.mem_of_getElem? (i := 29) rfl))) (by decide) (t := (.array .long)) (t' := (.array .long)) (by decide) (by decide)))).same W104
  have Kc104 : Keep h0 h104 [a1] := Kc103.wr W104 (Or.inl (List.mem_of_getElem? (i := 0) rfl))
  have N104 := Fr.snoc X104 N103 g_a1
  refine own_via (g' := T104.setTop (mkF m 19 #[.val (.ref a1), .val (.ref a2), .val (.ref a3), .val (.ref a4)] [])) (fun t k => st104 _ k) ?_
  have eE : T104.heap = h104 := e104
  exact own_retV X104 hx hlk Bd.returns (hb hby own_d4_19) ⟨rfl, N104, (by rw [eE]; exact Kc104), (by rw [eE]; exact (((E_a1.wr W102).wr W103).wr W104)), (by rw [eE]; exact ((F102.other W103 (Or.inr (slot_ne (Or.inr (hw _ (List.mem_of_getElem? (i := 27) rfl))) (Or.inr (hw _ (List.mem_of_getElem? (i := 29) rfl))) (by decide) (t := (.array .long)) (t' := (.array .long)) (by decide) (by decide)))).other W104 (Or.inr (slot_ne (Or.inr (hw _ (List.mem_of_getElem? (i := 27) rfl))) (Or.inr (hw _ (List.mem_of_getElem? (i := 31) rfl))) (by decide) (t := (.array .long)) (t' := (.array .long)) (by decide) (by decide))))), (by rw [eE]; exact (F103.other W104 (Or.inr (slot_ne (Or.inr (hw _ (List.mem_of_getElem? (i := 29) rfl))) (Or.inr (hw _ (List.mem_of_getElem? (i := 31) rfl))) (by decide) (t := (.array .long)) (t' := (.array .long)) (by decide) (by decide))))), (by rw [eE]; exact F104)⟩ (by decide) (by decide)
def own_min (a b : Int64) : Int64 := if b < a then b else a
def own_max (a b : Int64) : Int64 := if a < b then b else a
def own_arr (r : Int32) (p q : Int64) : List Int64 := if r = 1 then [p] else if r = 2 then [own_min p q, own_max p q] else []
def own_inter : List Int64 → List Int64 → Int64
  | [a], [b] => if a = b then 1 else 0
  | [a], [b, c] => if a = b then 1 else if a = c then 1 else 0
  | [a, b], [c] => if c = a then 1 else if c = b then 1 else 0
  | [a, b], [c, d] => if a = c then (if b = d then 2 else 1) else if a = d then (if b = c then 2 else 1) else if b = c then 1 else if b = d then 1 else 0
  | _, _ => 0
theorem own_arr_len (r : Int32) (p q : Int64) : (own_arr r p q).length ≤ 2 := by
  unfold own_arr; split
  · exact (by decide : 1 ≤ 2)
  · split
    · exact (by decide : 2 ≤ 2)
    · exact (by decide : 0 ≤ 2)
theorem own_arr_cases (r : Int32) (p q : Int64) : own_arr r p q = [] ∨ (∃ a, own_arr r p q = [a]) ∨ ∃ a b, own_arr r p q = [a, b] ∧ a.toInt ≤ b.toInt := by
  unfold own_arr; split
  · exact Or.inr (Or.inl ⟨_, rfl⟩)
  · split
    · refine Or.inr (Or.inr ⟨_, _, rfl, ?_⟩)
      unfold own_min own_max
      simp only [Int64.lt_iff_toInt_lt]
      split <;> split <;> omega
    · exact Or.inl rfl
theorem own_two : (1 : Int64) + (1 + 0) = 2 := rfl
theorem own_one : (1 : Int64) + 0 = 1 := rfl
theorem own_ci {A B : List Int64} (hA : A = [] ∨ (∃ a, A = [a]) ∨ ∃ a b, A = [a, b] ∧ a.toInt ≤ b.toInt) (hB : B = [] ∨ (∃ a, B = [a]) ∨ ∃ a b, B = [a, b] ∧ a.toInt ≤ b.toInt) : own_common A B = own_inter A B ∧ own_common B A = own_inter A B := by
  rcases hA with rfl | ⟨a, rfl⟩ | ⟨a, b, rfl, hab⟩
  · exact ⟨rfl, own_cn1 _⟩
  · rcases hB with rfl | ⟨c, rfl⟩ | ⟨c, d, rfl, hcd⟩
    · exact ⟨rfl, rfl⟩
    all_goals
      simp only [own_cc, own_cn0, own_cn1, own_inter, Int64.lt_iff_toInt_lt, ← Int64.toInt_inj]
      constructor <;> (repeat' split) <;> first | rfl | omega
  · rcases hB with rfl | ⟨c, rfl⟩ | ⟨c, d, rfl, hcd⟩
    · exact ⟨rfl, rfl⟩
    all_goals
      simp only [own_cc, own_cn0, own_cn1, own_inter, Int64.lt_iff_toInt_lt, ← Int64.toInt_inj]
      constructor <;> (repeat' split) <;> first | rfl | omega
theorem own_m3 (x : Int32) : (x &&& 3) % 3 = 0 ∨ (x &&& 3) % 3 = 1 ∨ (x &&& 3) % 3 = 2 := by
  have q := c_and x 3 (by decide)
  have e : (3 : Int32).toInt = 3 := rfl
  rw [e] at q
  have r := (c_irem (x &&& 3) 3 3 rfl).1 q.1
  obtain ⟨n, hn⟩ : ∃ n : Int, ((x &&& 3) % 3).toInt = n := ⟨_, rfl⟩
  have hx : (x &&& 3) % 3 = Int32.ofInt n := by rw [← hn, Int32.ofInt_toInt]
  rw [hx]
  have : n = 0 ∨ n = 1 ∨ n = 2 := by omega
  rcases this with rfl | rfl | rfl <;> decide
theorem own_pn2 : plainName "com/example/arbordelta/arbordelta/SubtreeLabelsMostSavedWithPinLaw" = true := by first | (simp [plainName, overriddenIn]; done) | decide +kernel
theorem own_d1_0 : decode method_3_code 0 = .ok (.iload_n 0, 1) := by decide +kernel
theorem own_d1_1 : decode method_3_code 1 = .ok (.iconst 2, 1) := by decide +kernel
theorem own_d1_2 : decode method_3_code 2 = .ok (.iload_n 1, 1) := by decide +kernel
theorem own_d1_3 : decode method_3_code 3 = .ok (.imul, 1) := by decide +kernel
theorem own_d1_4 : decode method_3_code 4 = .ok (.iushr, 1) := by decide +kernel
theorem own_d1_5 : decode method_3_code 5 = .ok (.iconst 3, 1) := by decide +kernel
theorem own_d1_6 : decode method_3_code 6 = .ok (.iand, 1) := by decide +kernel
theorem own_d1_7 : decode method_3_code 7 = .ok (.iconst 3, 1) := by decide +kernel
theorem own_d1_8 : decode method_3_code 8 = .ok (.irem, 1) := by decide +kernel
theorem own_d1_9 : decode method_3_code 9 = .ok (.ireturn, 1) := by decide +kernel
theorem ef_own_rm1 (m : MethodId) (p1 : Int32) (p2 : Int32) : entryFrame m #[(.int p1), (.int p2)] 2 = mkF m 0 #[.val (.int p1), .val (.int p2)] [] := by first | (simp [entryFrame, mkF, argsToLocals, Value.category]; done) | rfl
def own_rm1_Q (Z : State) (p1 : Int32) (p2 : Int32)  (h0 : Heap) (n0 : Nat) (v : Option Value) (h : Heap) (L : List Loc) : Prop := ∃ r : Int32, v = some (.int r) ∧ Fr n0 L ∧ h = h0 ∧ (r = 0 ∨ r = 1 ∨ r = 2)
set_option maxRecDepth 65536 in
set_option maxHeartbeats 40000000 in
theorem own_rm1 (l : Launch) (Z : State) (a0 : Array Value) (hw : ∀ d ∈ tables_1, d.before a0 Z = true) (ws : List Jvm.Cond) (p1 : Int32) (p2 : Int32)  (h0 : Heap) (n0 : Nat) (Z0 : n0 ≤ h0.size) :
    MetFree l (⟨"com/example/arbordelta/arbordelta/SubtreeLabelsMostSavedWithPinLaw", "len", "(II)I"⟩ : MethodName) (head1 (Jvm.Cond.code (⟨"com/example/arbordelta/arbordelta/SubtreeLabelsMostSavedWithPinLaw", "len", "(II)I"⟩ : MethodName) method_3_code 2 (some .int) :: ws) ({ frames := 0, cells := 0, slots := 0, locals := 0 } : Room)) (fun a U => a = #[(.int p1), (.int p2)] ∧ Z.Warmed39 U.vm ∧ U.heap = h0) (fun _ _ _ _ _ => True) (fun _ U o U' => ∃ v L, o = .returned v ∧ own_rm1_Q Z p1 p2  h0 n0 v U'.heap L ∧ FrameEnd U o U' L ({ frames := 0, cells := 0, slots := 0, locals := 0 } : Room).cells ({ frames := 0, cells := 0, slots := 0, locals := 0 } : Room).slots) := by
  refine MetFree.of_bodySF (plainFor_of_name own_pn2) hisR ?_
  intro p e s m args below meth c s₁ Bd hml0 hP hK
  obtain ⟨rfl, hZ, hh⟩ := hP
  have hx := Bd.exec
  have hby := Bd.bytes
  have hml : c.maxLocals = 2 := hml0
  have hown : s.vm.findClass "com/example/arbordelta/arbordelta/SubtreeLabelsMostSavedWithPinLaw" = some m.cls := findClass_of_methodNamed Bd.named
  have hnm := (name_of_methodNamed Bd.named Bd.method).1
  have hlk : meth.locks = false := BodyLoose.notSynchronized Bd
  have X0 : Stand p l e ({ frames := 0, cells := 0, slots := 0, locals := 0 } : Room) s m #[(.int p1), (.int p2)] below meth c s₁ [] 0 0 := Stand.of_body Bd
  have e0 : s₁.heap = h0 := by rw [← hh, Bd.state]; rfl
  have N0 := Fr.nil n0
  have K0 : Keep h0 h0 [] := Keep.refl h0 []
  show own_Fin p e below (own_P (own_rm1_Q Z p1 p2  h0 n0) s ({ frames := 0, cells := 0, slots := 0, locals := 0 } : Room).cells ({ frames := 0, cells := 0, slots := 0, locals := 0 } : Room).slots) (s₁.setTop (entryFrame m #[(.int p1), (.int p2)] 2))
  refine own_via (g' := s₁.setTop (mkF m 0 #[.val (.int p1), .val (.int p2)] [])) (fun t k => castTop (ef_own_rm1 m p1 p2) k) ?_
  refine own_via (g' := s₁.setTop (mkF m 1 #[.val (.int p1), .val (.int p2)] [(.int p1)])) (fun t k => XS.iloadN X0.here hx rfl (hb hby own_d1_0) rfl k) ?_
  refine own_via (g' := s₁.setTop (mkF m 2 #[.val (.int p1), .val (.int p2)] [(.int (2 : Int32)), (.int p1)])) (fun t k => XS.iconst X0.here hx rfl (hb hby own_d1_1) k) ?_
  refine own_via (g' := s₁.setTop (mkF m 3 #[.val (.int p1), .val (.int p2)] [(.int p2), (.int (2 : Int32)), (.int p1)])) (fun t k => XS.iloadN X0.here hx rfl (hb hby own_d1_2) rfl k) ?_
  refine own_via (g' := s₁.setTop (mkF m 4 #[.val (.int p1), .val (.int p2)] [(.int ((2 : Int32) * p2)), (.int p1)])) (fun t k => XS.imul X0.here hx rfl (hb hby own_d1_3) rfl k) ?_
  refine own_via (g' := s₁.setTop (mkF m 5 #[.val (.int p1), .val (.int p2)] [(.int ((p1.toUInt32 >>> (((2 : Int32) * p2) &&& 31).toUInt32).toInt32))])) (fun t k => XS.iushr X0.here hx rfl (hb hby own_d1_4) rfl k) ?_
  refine own_via (g' := s₁.setTop (mkF m 6 #[.val (.int p1), .val (.int p2)] [(.int (3 : Int32)), (.int ((p1.toUInt32 >>> (((2 : Int32) * p2) &&& 31).toUInt32).toInt32))])) (fun t k => XS.iconst X0.here hx rfl (hb hby own_d1_5) k) ?_
  refine own_via (g' := s₁.setTop (mkF m 7 #[.val (.int p1), .val (.int p2)] [(.int (((p1.toUInt32 >>> (((2 : Int32) * p2) &&& 31).toUInt32).toInt32) &&& (3 : Int32)))])) (fun t k => XS.iand X0.here hx rfl (hb hby own_d1_6) rfl k) ?_
  refine own_via (g' := s₁.setTop (mkF m 8 #[.val (.int p1), .val (.int p2)] [(.int (3 : Int32)), (.int (((p1.toUInt32 >>> (((2 : Int32) * p2) &&& 31).toUInt32).toInt32) &&& (3 : Int32)))])) (fun t k => XS.iconst X0.here hx rfl (hb hby own_d1_7) k) ?_
  refine own_via (g' := s₁.setTop (mkF m 9 #[.val (.int p1), .val (.int p2)] [(.int ((((p1.toUInt32 >>> (((2 : Int32) * p2) &&& 31).toUInt32).toInt32) &&& (3 : Int32)) % (3 : Int32)))])) (fun t k => iremM (g := (mkF m 8 #[.val (.int p1), .val (.int p2)] [(.int (3 : Int32)), (.int (((p1.toUInt32 >>> (((2 : Int32) * p2) &&& 31).toUInt32).toInt32) &&& (3 : Int32)))])) X0 hx rfl (hb hby own_d1_8) rfl (by decide) k) ?_
  exact own_retI X0 hx hlk Bd.returns (hb hby own_d1_9) ⟨_, rfl, N0, e0, (own_m3 _)⟩ (by decide) (by decide)
theorem own_d2_0 : decode method_2_code 0 = .ok (.iload_n 0, 1) := by decide +kernel
theorem own_d2_1 : decode method_2_code 1 = .ok (.iconst 2, 1) := by decide +kernel
theorem own_d2_2 : decode method_2_code 2 = .ok (.iload_n 1, 1) := by decide +kernel
theorem own_d2_3 : decode method_2_code 3 = .ok (.imul, 1) := by decide +kernel
theorem own_d2_4 : decode method_2_code 4 = .ok (.iushr, 1) := by decide +kernel
theorem own_d2_5 : decode method_2_code 5 = .ok (.iconst 3, 1) := by decide +kernel
theorem own_d2_6 : decode method_2_code 6 = .ok (.iand, 1) := by decide +kernel
theorem own_d2_7 : decode method_2_code 7 = .ok (.istore 8, 2) := by decide +kernel
theorem own_d2_9 : decode method_2_code 9 = .ok (.iload 8, 2) := by decide +kernel
theorem own_d2_11 : decode method_2_code 11 = .ok (.ifCond .ne 5, 3) := by decide +kernel
theorem own_d2_14 : decode method_2_code 14 = .ok (.lload_n 2, 1) := by decide +kernel
theorem own_d2_15 : decode method_2_code 15 = .ok (.lreturn, 1) := by decide +kernel
theorem own_d2_16 : decode method_2_code 16 = .ok (.iload 8, 2) := by decide +kernel
theorem own_d2_18 : decode method_2_code 18 = .ok (.iconst 1, 1) := by decide +kernel
theorem own_d2_19 : decode method_2_code 19 = .ok (.if_icmp .ne 6, 3) := by decide +kernel
theorem own_d2_22 : decode method_2_code 22 = .ok (.lload 4, 2) := by decide +kernel
theorem own_d2_24 : decode method_2_code 24 = .ok (.lreturn, 1) := by decide +kernel
theorem own_d2_25 : decode method_2_code 25 = .ok (.iload 8, 2) := by decide +kernel
theorem own_d2_27 : decode method_2_code 27 = .ok (.iconst 2, 1) := by decide +kernel
theorem own_d2_28 : decode method_2_code 28 = .ok (.if_icmp .ne 6, 3) := by decide +kernel
theorem own_d2_31 : decode method_2_code 31 = .ok (.lload 6, 2) := by decide +kernel
theorem own_d2_33 : decode method_2_code 33 = .ok (.lreturn, 1) := by decide +kernel
theorem own_d2_34 : decode method_2_code 34 = .ok (.ldc2_w 9, 3) := by decide +kernel
theorem own_d2_37 : decode method_2_code 37 = .ok (.lreturn, 1) := by decide +kernel
theorem ef_own_rm2 (m : MethodId) (p1 : Int32) (p2 : Int32) (q1 : Int64) (q2 : Int64) (q3 : Int64) : entryFrame m #[(.int p1), (.int p2), (.long q1), (.long q2), (.long q3)] 9 = mkF m 0 #[.val (.int p1), .val (.int p2), .val (.long q1), .second, .val (.long q2), .second, .val (.long q3), .second, .unset] [] := by first | (simp [entryFrame, mkF, argsToLocals, Value.category]; done) | rfl
def own_rm2_Q (Z : State) (p1 : Int32) (p2 : Int32) (q1 : Int64) (q2 : Int64) (q3 : Int64)  (h0 : Heap) (n0 : Nat) (v : Option Value) (h : Heap) (L : List Loc) : Prop := ∃ r : Int64, v = some (.long r) ∧ Fr n0 L ∧ h = h0
set_option maxRecDepth 65536 in
set_option maxHeartbeats 40000000 in
theorem own_rm2 (l : Launch) (Z : State) (a0 : Array Value) (hw : ∀ d ∈ tables_1, d.before a0 Z = true) (ws : List Jvm.Cond) (p1 : Int32) (p2 : Int32) (q1 : Int64) (q2 : Int64) (q3 : Int64)  (h0 : Heap) (n0 : Nat) (Z0 : n0 ≤ h0.size) :
    MetFree l (⟨"com/example/arbordelta/arbordelta/SubtreeLabelsMostSavedWithPinLaw", "pick", "(IIJJJ)J"⟩ : MethodName) (head1 (Jvm.Cond.code (⟨"com/example/arbordelta/arbordelta/SubtreeLabelsMostSavedWithPinLaw", "pick", "(IIJJJ)J"⟩ : MethodName) method_2_code 9 (some .long) :: ws) ({ frames := 0, cells := 0, slots := 0, locals := 0 } : Room)) (fun a U => a = #[(.int p1), (.int p2), (.long q1), (.long q2), (.long q3)] ∧ Z.Warmed39 U.vm ∧ U.heap = h0) (fun _ _ _ _ _ => True) (fun _ U o U' => ∃ v L, o = .returned v ∧ own_rm2_Q Z p1 p2 q1 q2 q3  h0 n0 v U'.heap L ∧ FrameEnd U o U' L ({ frames := 0, cells := 0, slots := 0, locals := 0 } : Room).cells ({ frames := 0, cells := 0, slots := 0, locals := 0 } : Room).slots) := by
  refine MetFree.of_bodySF (plainFor_of_name own_pn2) hisR ?_
  intro p e s m args below meth c s₁ Bd hml0 hP hK
  obtain ⟨rfl, hZ, hh⟩ := hP
  have hx := Bd.exec
  have hby := Bd.bytes
  have hml : c.maxLocals = 9 := hml0
  have hown : s.vm.findClass "com/example/arbordelta/arbordelta/SubtreeLabelsMostSavedWithPinLaw" = some m.cls := findClass_of_methodNamed Bd.named
  have hnm := (name_of_methodNamed Bd.named Bd.method).1
  have hlk : meth.locks = false := BodyLoose.notSynchronized Bd
  have X0 : Stand p l e ({ frames := 0, cells := 0, slots := 0, locals := 0 } : Room) s m #[(.int p1), (.int p2), (.long q1), (.long q2), (.long q3)] below meth c s₁ [] 0 0 := Stand.of_body Bd
  have e0 : s₁.heap = h0 := by rw [← hh, Bd.state]; rfl
  have N0 := Fr.nil n0
  have K0 : Keep h0 h0 [] := Keep.refl h0 []
  show own_Fin p e below (own_P (own_rm2_Q Z p1 p2 q1 q2 q3  h0 n0) s ({ frames := 0, cells := 0, slots := 0, locals := 0 } : Room).cells ({ frames := 0, cells := 0, slots := 0, locals := 0 } : Room).slots) (s₁.setTop (entryFrame m #[(.int p1), (.int p2), (.long q1), (.long q2), (.long q3)] 9))
  refine own_via (g' := s₁.setTop (mkF m 0 #[.val (.int p1), .val (.int p2), .val (.long q1), .second, .val (.long q2), .second, .val (.long q3), .second, .unset] [])) (fun t k => castTop (ef_own_rm2 m p1 p2 q1 q2 q3) k) ?_
  refine own_via (g' := s₁.setTop (mkF m 1 #[.val (.int p1), .val (.int p2), .val (.long q1), .second, .val (.long q2), .second, .val (.long q3), .second, .unset] [(.int p1)])) (fun t k => XS.iloadN X0.here hx rfl (hb hby own_d2_0) rfl k) ?_
  refine own_via (g' := s₁.setTop (mkF m 2 #[.val (.int p1), .val (.int p2), .val (.long q1), .second, .val (.long q2), .second, .val (.long q3), .second, .unset] [(.int (2 : Int32)), (.int p1)])) (fun t k => XS.iconst X0.here hx rfl (hb hby own_d2_1) k) ?_
  refine own_via (g' := s₁.setTop (mkF m 3 #[.val (.int p1), .val (.int p2), .val (.long q1), .second, .val (.long q2), .second, .val (.long q3), .second, .unset] [(.int p2), (.int (2 : Int32)), (.int p1)])) (fun t k => XS.iloadN X0.here hx rfl (hb hby own_d2_2) rfl k) ?_
  refine own_via (g' := s₁.setTop (mkF m 4 #[.val (.int p1), .val (.int p2), .val (.long q1), .second, .val (.long q2), .second, .val (.long q3), .second, .unset] [(.int ((2 : Int32) * p2)), (.int p1)])) (fun t k => XS.imul X0.here hx rfl (hb hby own_d2_3) rfl k) ?_
  refine own_via (g' := s₁.setTop (mkF m 5 #[.val (.int p1), .val (.int p2), .val (.long q1), .second, .val (.long q2), .second, .val (.long q3), .second, .unset] [(.int ((p1.toUInt32 >>> (((2 : Int32) * p2) &&& 31).toUInt32).toInt32))])) (fun t k => XS.iushr X0.here hx rfl (hb hby own_d2_4) rfl k) ?_
  refine own_via (g' := s₁.setTop (mkF m 6 #[.val (.int p1), .val (.int p2), .val (.long q1), .second, .val (.long q2), .second, .val (.long q3), .second, .unset] [(.int (3 : Int32)), (.int ((p1.toUInt32 >>> (((2 : Int32) * p2) &&& 31).toUInt32).toInt32))])) (fun t k => XS.iconst X0.here hx rfl (hb hby own_d2_5) k) ?_
  refine own_via (g' := s₁.setTop (mkF m 7 #[.val (.int p1), .val (.int p2), .val (.long q1), .second, .val (.long q2), .second, .val (.long q3), .second, .unset] [(.int (((p1.toUInt32 >>> (((2 : Int32) * p2) &&& 31).toUInt32).toInt32) &&& (3 : Int32)))])) (fun t k => XS.iand X0.here hx rfl (hb hby own_d2_6) rfl k) ?_
  refine own_via (g' := s₁.setTop (mkF m 9 #[.val (.int p1), .val (.int p2), .val (.long q1), .second, .val (.long q2), .second, .val (.long q3), .second, .val (.int (((p1.toUInt32 >>> (((2 : Int32) * p2) &&& 31).toUInt32).toInt32) &&& (3 : Int32)))] [])) (fun t k => XS.istore X0.here hx rfl (hb hby own_d2_7) rfl (l' := #[.val (.int p1), .val (.int p2), .val (.long q1), .second, .val (.long q2), .second, .val (.long q3), .second, .val (.int (((p1.toUInt32 >>> (((2 : Int32) * p2) &&& 31).toUInt32).toInt32) &&& (3 : Int32)))]) rfl k) ?_
  refine own_via (g' := s₁.setTop (mkF m 11 #[.val (.int p1), .val (.int p2), .val (.long q1), .second, .val (.long q2), .second, .val (.long q3), .second, .val (.int (((p1.toUInt32 >>> (((2 : Int32) * p2) &&& 31).toUInt32).toInt32) &&& (3 : Int32)))] [(.int (((p1.toUInt32 >>> (((2 : Int32) * p2) &&& 31).toUInt32).toInt32) &&& (3 : Int32)))])) (fun t k => XS.iload X0.here hx rfl (hb hby own_d2_9) rfl k) ?_
  by_cases hc11_101 : (((p1.toUInt32 >>> (((2 : Int32) * p2) &&& 31).toUInt32).toInt32) &&& (3 : Int32)) = 0
  · refine own_via (g' := s₁.setTop (mkF m 14 #[.val (.int p1), .val (.int p2), .val (.long q1), .second, .val (.long q2), .second, .val (.long q3), .second, .val (.int (((p1.toUInt32 >>> (((2 : Int32) * p2) &&& 31).toUInt32).toInt32) &&& (3 : Int32)))] [])) (fun t k => XS.ifNo X0.here hx rfl (hb hby own_d2_11) rfl (XT.i0_ne_f hc11_101) k) ?_
    refine own_via (g' := s₁.setTop (mkF m 15 #[.val (.int p1), .val (.int p2), .val (.long q1), .second, .val (.long q2), .second, .val (.long q3), .second, .val (.int (((p1.toUInt32 >>> (((2 : Int32) * p2) &&& 31).toUInt32).toInt32) &&& (3 : Int32)))] [(.long q1)])) (fun t k => XT.lloadN X0.here hx rfl (hb hby own_d2_14) rfl k) ?_
    exact own_retJ X0 hx hlk Bd.returns (hb hby own_d2_15) ⟨_, rfl, N0, e0⟩ (by decide) (by decide)
  · refine own_via (g' := s₁.setTop (mkF m 16 #[.val (.int p1), .val (.int p2), .val (.long q1), .second, .val (.long q2), .second, .val (.long q3), .second, .val (.int (((p1.toUInt32 >>> (((2 : Int32) * p2) &&& 31).toUInt32).toInt32) &&& (3 : Int32)))] [])) (fun t k => XS.ifYes X0.here hx rfl (pc0 := 11) (pc' := 16) rfl (hb hby own_d2_11) rfl (XT.i0_ne_t hc11_101) (by decide) (by decide) k) ?_
    refine own_via (g' := s₁.setTop (mkF m 18 #[.val (.int p1), .val (.int p2), .val (.long q1), .second, .val (.long q2), .second, .val (.long q3), .second, .val (.int (((p1.toUInt32 >>> (((2 : Int32) * p2) &&& 31).toUInt32).toInt32) &&& (3 : Int32)))] [(.int (((p1.toUInt32 >>> (((2 : Int32) * p2) &&& 31).toUInt32).toInt32) &&& (3 : Int32)))])) (fun t k => XS.iload X0.here hx rfl (hb hby own_d2_16) rfl k) ?_
    refine own_via (g' := s₁.setTop (mkF m 19 #[.val (.int p1), .val (.int p2), .val (.long q1), .second, .val (.long q2), .second, .val (.long q3), .second, .val (.int (((p1.toUInt32 >>> (((2 : Int32) * p2) &&& 31).toUInt32).toInt32) &&& (3 : Int32)))] [(.int (1 : Int32)), (.int (((p1.toUInt32 >>> (((2 : Int32) * p2) &&& 31).toUInt32).toInt32) &&& (3 : Int32)))])) (fun t k => XS.iconst X0.here hx rfl (hb hby own_d2_18) k) ?_
    by_cases hc19_102 : (((p1.toUInt32 >>> (((2 : Int32) * p2) &&& 31).toUInt32).toInt32) &&& (3 : Int32)) = (1 : Int32)
    · refine own_via (g' := s₁.setTop (mkF m 22 #[.val (.int p1), .val (.int p2), .val (.long q1), .second, .val (.long q2), .second, .val (.long q3), .second, .val (.int (((p1.toUInt32 >>> (((2 : Int32) * p2) &&& 31).toUInt32).toInt32) &&& (3 : Int32)))] [])) (fun t k => XS.icmpNo X0.here hx rfl (hb hby own_d2_19) rfl (XT.ii_ne_f hc19_102) k) ?_
      refine own_via (g' := s₁.setTop (mkF m 24 #[.val (.int p1), .val (.int p2), .val (.long q1), .second, .val (.long q2), .second, .val (.long q3), .second, .val (.int (((p1.toUInt32 >>> (((2 : Int32) * p2) &&& 31).toUInt32).toInt32) &&& (3 : Int32)))] [(.long q2)])) (fun t k => XT.lload X0.here hx rfl (hb hby own_d2_22) rfl k) ?_
      exact own_retJ X0 hx hlk Bd.returns (hb hby own_d2_24) ⟨_, rfl, N0, e0⟩ (by decide) (by decide)
    · refine own_via (g' := s₁.setTop (mkF m 25 #[.val (.int p1), .val (.int p2), .val (.long q1), .second, .val (.long q2), .second, .val (.long q3), .second, .val (.int (((p1.toUInt32 >>> (((2 : Int32) * p2) &&& 31).toUInt32).toInt32) &&& (3 : Int32)))] [])) (fun t k => XS.icmpYes X0.here hx rfl (pc0 := 19) (pc' := 25) rfl (hb hby own_d2_19) rfl (XT.ii_ne_t hc19_102) (by decide) (by decide) k) ?_
      refine own_via (g' := s₁.setTop (mkF m 27 #[.val (.int p1), .val (.int p2), .val (.long q1), .second, .val (.long q2), .second, .val (.long q3), .second, .val (.int (((p1.toUInt32 >>> (((2 : Int32) * p2) &&& 31).toUInt32).toInt32) &&& (3 : Int32)))] [(.int (((p1.toUInt32 >>> (((2 : Int32) * p2) &&& 31).toUInt32).toInt32) &&& (3 : Int32)))])) (fun t k => XS.iload X0.here hx rfl (hb hby own_d2_25) rfl k) ?_
      refine own_via (g' := s₁.setTop (mkF m 28 #[.val (.int p1), .val (.int p2), .val (.long q1), .second, .val (.long q2), .second, .val (.long q3), .second, .val (.int (((p1.toUInt32 >>> (((2 : Int32) * p2) &&& 31).toUInt32).toInt32) &&& (3 : Int32)))] [(.int (2 : Int32)), (.int (((p1.toUInt32 >>> (((2 : Int32) * p2) &&& 31).toUInt32).toInt32) &&& (3 : Int32)))])) (fun t k => XS.iconst X0.here hx rfl (hb hby own_d2_27) k) ?_
      by_cases hc28_103 : (((p1.toUInt32 >>> (((2 : Int32) * p2) &&& 31).toUInt32).toInt32) &&& (3 : Int32)) = (2 : Int32)
      · refine own_via (g' := s₁.setTop (mkF m 31 #[.val (.int p1), .val (.int p2), .val (.long q1), .second, .val (.long q2), .second, .val (.long q3), .second, .val (.int (((p1.toUInt32 >>> (((2 : Int32) * p2) &&& 31).toUInt32).toInt32) &&& (3 : Int32)))] [])) (fun t k => XS.icmpNo X0.here hx rfl (hb hby own_d2_28) rfl (XT.ii_ne_f hc28_103) k) ?_
        refine own_via (g' := s₁.setTop (mkF m 33 #[.val (.int p1), .val (.int p2), .val (.long q1), .second, .val (.long q2), .second, .val (.long q3), .second, .val (.int (((p1.toUInt32 >>> (((2 : Int32) * p2) &&& 31).toUInt32).toInt32) &&& (3 : Int32)))] [(.long q3)])) (fun t k => XT.lload X0.here hx rfl (hb hby own_d2_31) rfl k) ?_
        exact own_retJ X0 hx hlk Bd.returns (hb hby own_d2_33) ⟨_, rfl, N0, e0⟩ (by decide) (by decide)
      · refine own_via (g' := s₁.setTop (mkF m 34 #[.val (.int p1), .val (.int p2), .val (.long q1), .second, .val (.long q2), .second, .val (.long q3), .second, .val (.int (((p1.toUInt32 >>> (((2 : Int32) * p2) &&& 31).toUInt32).toInt32) &&& (3 : Int32)))] [])) (fun t k => XS.icmpYes X0.here hx rfl (pc0 := 28) (pc' := 34) rfl (hb hby own_d2_28) rfl (XT.ii_ne_t hc28_103) (by decide) (by decide) k) ?_
        refine own_via (g' := s₁.setTop (mkF m 37 #[.val (.int p1), .val (.int p2), .val (.long q1), .second, .val (.long q2), .second, .val (.long q3), .second, .val (.int (((p1.toUInt32 >>> (((2 : Int32) * p2) &&& 31).toUInt32).toInt32) &&& (3 : Int32)))] [(.long (-9223372036854775808 : Int64))])) (fun t k => X0.ldc2Long hx hown (mvT hZ (hw _ (List.mem_of_getElem? (i := 7) rfl))) (g := (mkF m 34 #[.val (.int p1), .val (.int p2), .val (.long q1), .second, .val (.long q2), .second, .val (.long q3), .second, .val (.int (((p1.toUInt32 >>> (((2 : Int32) * p2) &&& 31).toUInt32).toInt32) &&& (3 : Int32)))] [])) rfl (hb hby own_d2_34) _ k) ?_
        exact own_retJ X0 hx hlk Bd.returns (hb hby own_d2_37) ⟨_, rfl, N0, e0⟩ (by decide) (by decide)
theorem own_d10_0 : decode jdk_29_method_70_code 0 = .ok (.lload_n 0, 1) := by decide +kernel
theorem own_d10_1 : decode jdk_29_method_70_code 1 = .ok (.lload_n 2, 1) := by decide +kernel
theorem own_d10_2 : decode jdk_29_method_70_code 2 = .ok (.lcmp, 1) := by decide +kernel
theorem own_d10_3 : decode jdk_29_method_70_code 3 = .ok (.ifCond .gt 7, 3) := by decide +kernel
theorem own_d10_6 : decode jdk_29_method_70_code 6 = .ok (.lload_n 0, 1) := by decide +kernel
theorem own_d10_7 : decode jdk_29_method_70_code 7 = .ok (.goto 4, 3) := by decide +kernel
theorem own_d10_10 : decode jdk_29_method_70_code 10 = .ok (.lload_n 2, 1) := by decide +kernel
theorem own_d10_11 : decode jdk_29_method_70_code 11 = .ok (.lreturn, 1) := by decide +kernel
theorem ef_own_rm10 (m : MethodId) (q1 : Int64) (q2 : Int64) : entryFrame m #[(.long q1), (.long q2)] 4 = mkF m 0 #[.val (.long q1), .second, .val (.long q2), .second] [] := by first | (simp [entryFrame, mkF, argsToLocals, Value.category]; done) | rfl
def own_rm10_Q (Z : State) (q1 : Int64) (q2 : Int64)  (h0 : Heap) (n0 : Nat) (v : Option Value) (h : Heap) (L : List Loc) : Prop := v = some (.long (own_min q1 q2)) ∧ Fr n0 L ∧ h = h0
set_option maxRecDepth 65536 in
set_option maxHeartbeats 40000000 in
theorem own_rm10 (l : Launch) (Z : State) (a0 : Array Value) (hw : ∀ d ∈ tables_1, d.before a0 Z = true) (ws : List Jvm.Cond) (q1 : Int64) (q2 : Int64)  (h0 : Heap) (n0 : Nat) (Z0 : n0 ≤ h0.size) :
    MetFree l (⟨"java/lang/Math", "min", "(JJ)J"⟩ : MethodName) (head1 (Jvm.Cond.code (⟨"java/lang/Math", "min", "(JJ)J"⟩ : MethodName) jdk_29_method_70_code 4 (some .long) :: ws) ({ frames := 0, cells := 0, slots := 0, locals := 0 } : Room)) (fun a U => a = #[(.long q1), (.long q2)] ∧ Z.Warmed39 U.vm ∧ U.heap = h0) (fun _ _ _ _ _ => True) (fun _ U o U' => ∃ v L, o = .returned v ∧ own_rm10_Q Z q1 q2  h0 n0 v U'.heap L ∧ FrameEnd U o U' L ({ frames := 0, cells := 0, slots := 0, locals := 0 } : Room).cells ({ frames := 0, cells := 0, slots := 0, locals := 0 } : Room).slots) := by
  refine MetFree.of_bodySF (Jvm.Free.JP.mathPlain rfl (by decide +kernel)) hisR ?_
  intro p e s m args below meth c s₁ Bd hml0 hP hK
  obtain ⟨rfl, hZ, hh⟩ := hP
  have hx := Bd.exec
  have hby := Bd.bytes
  have hml : c.maxLocals = 4 := hml0
  have hown : s.vm.findClass "java/lang/Math" = some m.cls := findClass_of_methodNamed Bd.named
  have hnm := (name_of_methodNamed Bd.named Bd.method).1
  have hlk : meth.locks = false := BodyLoose.notSynchronized Bd
  have X0 : Stand p l e ({ frames := 0, cells := 0, slots := 0, locals := 0 } : Room) s m #[(.long q1), (.long q2)] below meth c s₁ [] 0 0 := Stand.of_body Bd
  have e0 : s₁.heap = h0 := by rw [← hh, Bd.state]; rfl
  have N0 := Fr.nil n0
  have K0 : Keep h0 h0 [] := Keep.refl h0 []
  show own_Fin p e below (own_P (own_rm10_Q Z q1 q2  h0 n0) s ({ frames := 0, cells := 0, slots := 0, locals := 0 } : Room).cells ({ frames := 0, cells := 0, slots := 0, locals := 0 } : Room).slots) (s₁.setTop (entryFrame m #[(.long q1), (.long q2)] 4))
  refine own_via (g' := s₁.setTop (mkF m 0 #[.val (.long q1), .second, .val (.long q2), .second] [])) (fun t k => castTop (ef_own_rm10 m q1 q2) k) ?_
  refine own_via (g' := s₁.setTop (mkF m 1 #[.val (.long q1), .second, .val (.long q2), .second] [(.long q1)])) (fun t k => XT.lloadN X0.here hx rfl (hb hby own_d10_0) rfl k) ?_
  refine own_via (g' := s₁.setTop (mkF m 2 #[.val (.long q1), .second, .val (.long q2), .second] [(.long q2), (.long q1)])) (fun t k => XT.lloadN X0.here hx rfl (hb hby own_d10_1) rfl k) ?_
  refine own_via (g' := s₁.setTop (mkF m 3 #[.val (.long q1), .second, .val (.long q2), .second] [(.int (XT.cmpL q1 q2))])) (fun t k => XT.lcmp X0.here hx rfl (hb hby own_d10_2) rfl k) ?_
  by_cases hc3_101 : q2 < q1
  · refine own_via (g' := s₁.setTop (mkF m 10 #[.val (.long q1), .second, .val (.long q2), .second] [])) (fun t k => XS.ifYes X0.here hx rfl (pc0 := 3) (pc' := 10) rfl (hb hby own_d10_3) rfl (XT.ll_gt_t hc3_101) (by decide) (by decide) k) ?_
    refine own_via (g' := s₁.setTop (mkF m 11 #[.val (.long q1), .second, .val (.long q2), .second] [(.long q2)])) (fun t k => XT.lloadN X0.here hx rfl (hb hby own_d10_10) rfl k) ?_
    exact own_retJ X0 hx hlk Bd.returns (hb hby own_d10_11) ⟨(by rw [own_min, if_pos hc3_101]), N0, e0⟩ (by decide) (by decide)
  · refine own_via (g' := s₁.setTop (mkF m 6 #[.val (.long q1), .second, .val (.long q2), .second] [])) (fun t k => XS.ifNo X0.here hx rfl (hb hby own_d10_3) rfl (XT.ll_gt_f hc3_101) k) ?_
    refine own_via (g' := s₁.setTop (mkF m 7 #[.val (.long q1), .second, .val (.long q2), .second] [(.long q1)])) (fun t k => XT.lloadN X0.here hx rfl (hb hby own_d10_6) rfl k) ?_
    refine own_via (g' := s₁.setTop (mkF m 11 #[.val (.long q1), .second, .val (.long q2), .second] [(.long q1)])) (fun t k => XS.goto X0.here hx rfl (pc0 := 7) (pc' := 11) rfl (hb hby own_d10_7) (by decide) (by decide) k) ?_
    exact own_retJ X0 hx hlk Bd.returns (hb hby own_d10_11) ⟨(by rw [own_min, if_neg hc3_101]), N0, e0⟩ (by decide) (by decide)
theorem own_d11_0 : decode jdk_29_method_66_code 0 = .ok (.lload_n 0, 1) := by decide +kernel
theorem own_d11_1 : decode jdk_29_method_66_code 1 = .ok (.lload_n 2, 1) := by decide +kernel
theorem own_d11_2 : decode jdk_29_method_66_code 2 = .ok (.lcmp, 1) := by decide +kernel
theorem own_d11_3 : decode jdk_29_method_66_code 3 = .ok (.ifCond .lt 7, 3) := by decide +kernel
theorem own_d11_6 : decode jdk_29_method_66_code 6 = .ok (.lload_n 0, 1) := by decide +kernel
theorem own_d11_7 : decode jdk_29_method_66_code 7 = .ok (.goto 4, 3) := by decide +kernel
theorem own_d11_10 : decode jdk_29_method_66_code 10 = .ok (.lload_n 2, 1) := by decide +kernel
theorem own_d11_11 : decode jdk_29_method_66_code 11 = .ok (.lreturn, 1) := by decide +kernel
theorem ef_own_rm11 (m : MethodId) (q1 : Int64) (q2 : Int64) : entryFrame m #[(.long q1), (.long q2)] 4 = mkF m 0 #[.val (.long q1), .second, .val (.long q2), .second] [] := by first | (simp [entryFrame, mkF, argsToLocals, Value.category]; done) | rfl
def own_rm11_Q (Z : State) (q1 : Int64) (q2 : Int64)  (h0 : Heap) (n0 : Nat) (v : Option Value) (h : Heap) (L : List Loc) : Prop := v = some (.long (own_max q1 q2)) ∧ Fr n0 L ∧ h = h0
set_option maxRecDepth 65536 in
set_option maxHeartbeats 40000000 in
theorem own_rm11 (l : Launch) (Z : State) (a0 : Array Value) (hw : ∀ d ∈ tables_1, d.before a0 Z = true) (ws : List Jvm.Cond) (q1 : Int64) (q2 : Int64)  (h0 : Heap) (n0 : Nat) (Z0 : n0 ≤ h0.size) :
    MetFree l (⟨"java/lang/Math", "max", "(JJ)J"⟩ : MethodName) (head1 (Jvm.Cond.code (⟨"java/lang/Math", "max", "(JJ)J"⟩ : MethodName) jdk_29_method_66_code 4 (some .long) :: ws) ({ frames := 0, cells := 0, slots := 0, locals := 0 } : Room)) (fun a U => a = #[(.long q1), (.long q2)] ∧ Z.Warmed39 U.vm ∧ U.heap = h0) (fun _ _ _ _ _ => True) (fun _ U o U' => ∃ v L, o = .returned v ∧ own_rm11_Q Z q1 q2  h0 n0 v U'.heap L ∧ FrameEnd U o U' L ({ frames := 0, cells := 0, slots := 0, locals := 0 } : Room).cells ({ frames := 0, cells := 0, slots := 0, locals := 0 } : Room).slots) := by
  refine MetFree.of_bodySF (Jvm.Free.JP.mathPlain rfl (by decide +kernel)) hisR ?_
  intro p e s m args below meth c s₁ Bd hml0 hP hK
  obtain ⟨rfl, hZ, hh⟩ := hP
  have hx := Bd.exec
  have hby := Bd.bytes
  have hml : c.maxLocals = 4 := hml0
  have hown : s.vm.findClass "java/lang/Math" = some m.cls := findClass_of_methodNamed Bd.named
  have hnm := (name_of_methodNamed Bd.named Bd.method).1
  have hlk : meth.locks = false := BodyLoose.notSynchronized Bd
  have X0 : Stand p l e ({ frames := 0, cells := 0, slots := 0, locals := 0 } : Room) s m #[(.long q1), (.long q2)] below meth c s₁ [] 0 0 := Stand.of_body Bd
  have e0 : s₁.heap = h0 := by rw [← hh, Bd.state]; rfl
  have N0 := Fr.nil n0
  have K0 : Keep h0 h0 [] := Keep.refl h0 []
  show own_Fin p e below (own_P (own_rm11_Q Z q1 q2  h0 n0) s ({ frames := 0, cells := 0, slots := 0, locals := 0 } : Room).cells ({ frames := 0, cells := 0, slots := 0, locals := 0 } : Room).slots) (s₁.setTop (entryFrame m #[(.long q1), (.long q2)] 4))
  refine own_via (g' := s₁.setTop (mkF m 0 #[.val (.long q1), .second, .val (.long q2), .second] [])) (fun t k => castTop (ef_own_rm11 m q1 q2) k) ?_
  refine own_via (g' := s₁.setTop (mkF m 1 #[.val (.long q1), .second, .val (.long q2), .second] [(.long q1)])) (fun t k => XT.lloadN X0.here hx rfl (hb hby own_d11_0) rfl k) ?_
  refine own_via (g' := s₁.setTop (mkF m 2 #[.val (.long q1), .second, .val (.long q2), .second] [(.long q2), (.long q1)])) (fun t k => XT.lloadN X0.here hx rfl (hb hby own_d11_1) rfl k) ?_
  refine own_via (g' := s₁.setTop (mkF m 3 #[.val (.long q1), .second, .val (.long q2), .second] [(.int (XT.cmpL q1 q2))])) (fun t k => XT.lcmp X0.here hx rfl (hb hby own_d11_2) rfl k) ?_
  by_cases hc3_101 : q1 < q2
  · refine own_via (g' := s₁.setTop (mkF m 10 #[.val (.long q1), .second, .val (.long q2), .second] [])) (fun t k => XS.ifYes X0.here hx rfl (pc0 := 3) (pc' := 10) rfl (hb hby own_d11_3) rfl (XT.ll_lt_t hc3_101) (by decide) (by decide) k) ?_
    refine own_via (g' := s₁.setTop (mkF m 11 #[.val (.long q1), .second, .val (.long q2), .second] [(.long q2)])) (fun t k => XT.lloadN X0.here hx rfl (hb hby own_d11_10) rfl k) ?_
    exact own_retJ X0 hx hlk Bd.returns (hb hby own_d11_11) ⟨(by rw [own_max, if_pos hc3_101]), N0, e0⟩ (by decide) (by decide)
  · refine own_via (g' := s₁.setTop (mkF m 6 #[.val (.long q1), .second, .val (.long q2), .second] [])) (fun t k => XS.ifNo X0.here hx rfl (hb hby own_d11_3) rfl (XT.ll_lt_f hc3_101) k) ?_
    refine own_via (g' := s₁.setTop (mkF m 7 #[.val (.long q1), .second, .val (.long q2), .second] [(.long q1)])) (fun t k => XT.lloadN X0.here hx rfl (hb hby own_d11_6) rfl k) ?_
    refine own_via (g' := s₁.setTop (mkF m 11 #[.val (.long q1), .second, .val (.long q2), .second] [(.long q1)])) (fun t k => XS.goto X0.here hx rfl (pc0 := 7) (pc' := 11) rfl (hb hby own_d11_7) (by decide) (by decide) k) ?_
    exact own_retJ X0 hx hlk Bd.returns (hb hby own_d11_11) ⟨(by rw [own_max, if_neg hc3_101]), N0, e0⟩ (by decide) (by decide)
theorem own_pd1 : parseMethodDescriptor "(JJ)J" = some ⟨[.long, .long], some .long⟩ := by decide +kernel
theorem own_d3_0 : decode method_4_code 0 = .ok (.iload_n 0, 1) := by decide +kernel
theorem own_d3_1 : decode method_4_code 1 = .ok (.newarray .long, 2) := by decide +kernel
theorem own_d3_3 : decode method_4_code 3 = .ok (.astore 5, 2) := by decide +kernel
theorem own_d3_5 : decode method_4_code 5 = .ok (.iload_n 0, 1) := by decide +kernel
theorem own_d3_6 : decode method_4_code 6 = .ok (.iconst 1, 1) := by decide +kernel
theorem own_d3_7 : decode method_4_code 7 = .ok (.if_icmp .ne 8, 3) := by decide +kernel
theorem own_d3_10 : decode method_4_code 10 = .ok (.aload 5, 2) := by decide +kernel
theorem own_d3_12 : decode method_4_code 12 = .ok (.iconst 0, 1) := by decide +kernel
theorem own_d3_13 : decode method_4_code 13 = .ok (.lload_n 1, 1) := by decide +kernel
theorem own_d3_14 : decode method_4_code 14 = .ok (.lastore, 1) := by decide +kernel
theorem own_d3_15 : decode method_4_code 15 = .ok (.iload_n 0, 1) := by decide +kernel
theorem own_d3_16 : decode method_4_code 16 = .ok (.iconst 2, 1) := by decide +kernel
theorem own_d3_17 : decode method_4_code 17 = .ok (.if_icmp .ne 21, 3) := by decide +kernel
theorem own_d3_20 : decode method_4_code 20 = .ok (.aload 5, 2) := by decide +kernel
theorem own_d3_22 : decode method_4_code 22 = .ok (.iconst 0, 1) := by decide +kernel
theorem own_d3_23 : decode method_4_code 23 = .ok (.lload_n 1, 1) := by decide +kernel
theorem own_d3_24 : decode method_4_code 24 = .ok (.lload_n 3, 1) := by decide +kernel
theorem own_d3_25 : decode method_4_code 25 = .ok (.invokestatic 11, 3) := by decide +kernel
theorem own_d3_28 : decode method_4_code 28 = .ok (.lastore, 1) := by decide +kernel
theorem own_d3_29 : decode method_4_code 29 = .ok (.aload 5, 2) := by decide +kernel
theorem own_d3_31 : decode method_4_code 31 = .ok (.iconst 1, 1) := by decide +kernel
theorem own_d3_32 : decode method_4_code 32 = .ok (.lload_n 1, 1) := by decide +kernel
theorem own_d3_33 : decode method_4_code 33 = .ok (.lload_n 3, 1) := by decide +kernel
theorem own_d3_34 : decode method_4_code 34 = .ok (.invokestatic 17, 3) := by decide +kernel
theorem own_d3_37 : decode method_4_code 37 = .ok (.lastore, 1) := by decide +kernel
theorem own_d3_38 : decode method_4_code 38 = .ok (.aload 5, 2) := by decide +kernel
theorem own_d3_40 : decode method_4_code 40 = .ok (.areturn, 1) := by decide +kernel
theorem ef_own_rm3 (m : MethodId) (p1 : Int32) (q1 : Int64) (q2 : Int64) : entryFrame m #[(.int p1), (.long q1), (.long q2)] 6 = mkF m 0 #[.val (.int p1), .val (.long q1), .second, .val (.long q2), .second, .unset] [] := by first | (simp [entryFrame, mkF, argsToLocals, Value.category]; done) | rfl
def own_rm3_Q (Z : State) (p1 : Int32) (q1 : Int64) (q2 : Int64)  (h0 : Heap) (n0 : Nat) (v : Option Value) (h : Heap) (L : List Loc) : Prop := ∃ b : Addr, v = some (.ref b) ∧ Fr n0 L ∧ h0.size ≤ b ∧ Keep h0 h [] ∧ own_Ar Z h b .long ((own_arr p1 q1 q2).map Value.long)
set_option maxRecDepth 65536 in
set_option maxHeartbeats 40000000 in
theorem own_rm3 (l : Launch) (Z : State) (a0 : Array Value) (hw : ∀ d ∈ tables_1, d.before a0 Z = true) (ws : List Jvm.Cond) (p1 : Int32) (q1 : Int64) (q2 : Int64)  (h0 : Heap) (n0 : Nat) (Z0 : n0 ≤ h0.size) (hr : p1 = 0 ∨ p1 = 1 ∨ p1 = 2) :
    MetFree l (⟨"com/example/arbordelta/arbordelta/SubtreeLabelsMostSavedWithPinLaw", "arr", "(IJJ)[J"⟩ : MethodName) (head1 (Jvm.Cond.code (⟨"com/example/arbordelta/arbordelta/SubtreeLabelsMostSavedWithPinLaw", "arr", "(IJJ)[J"⟩ : MethodName) method_4_code 6 (some (.array .long)) :: ws) ({ frames := 1, cells := 1, slots := 2, locals := 17 } : Room)) (fun a U => a = #[(.int p1), (.long q1), (.long q2)] ∧ Z.Warmed39 U.vm ∧ U.heap = h0) (fun _ _ _ _ _ => True) (fun _ U o U' => ∃ v L, o = .returned v ∧ own_rm3_Q Z p1 q1 q2  h0 n0 v U'.heap L ∧ FrameEnd U o U' L ({ frames := 1, cells := 1, slots := 2, locals := 17 } : Room).cells ({ frames := 1, cells := 1, slots := 2, locals := 17 } : Room).slots) := by
  refine MetFree.of_bodySF (plainFor_of_name own_pn2) hisR ?_
  intro p e s m args below meth c s₁ Bd hml0 hP hK
  obtain ⟨rfl, hZ, hh⟩ := hP
  have hx := Bd.exec
  have hby := Bd.bytes
  have hml : c.maxLocals = 6 := hml0
  have hown : s.vm.findClass "com/example/arbordelta/arbordelta/SubtreeLabelsMostSavedWithPinLaw" = some m.cls := findClass_of_methodNamed Bd.named
  have hnm := (name_of_methodNamed Bd.named Bd.method).1
  have hlk : meth.locks = false := BodyLoose.notSynchronized Bd
  have X0 : Stand p l e ({ frames := 1, cells := 1, slots := 2, locals := 17 } : Room) s m #[(.int p1), (.long q1), (.long q2)] below meth c s₁ [] 0 0 := Stand.of_body Bd
  have e0 : s₁.heap = h0 := by rw [← hh, Bd.state]; rfl
  have N0 := Fr.nil n0
  have K0 : Keep h0 h0 [] := Keep.refl h0 []
  show own_Fin p e below (own_P (own_rm3_Q Z p1 q1 q2  h0 n0) s ({ frames := 1, cells := 1, slots := 2, locals := 17 } : Room).cells ({ frames := 1, cells := 1, slots := 2, locals := 17 } : Room).slots) (s₁.setTop (entryFrame m #[(.int p1), (.long q1), (.long q2)] 6))
  refine own_via (g' := s₁.setTop (mkF m 0 #[.val (.int p1), .val (.long q1), .second, .val (.long q2), .second, .unset] [])) (fun t k => castTop (ef_own_rm3 m p1 q1 q2) k) ?_
  rcases hr with rfl | rfl | rfl
  · refine own_via (g' := s₁.setTop (mkF m 1 #[.val (.int (0 : Int32)), .val (.long q1), .second, .val (.long q2), .second, .unset] [(.int (0 : Int32))])) (fun t k => XS.iloadN X0.here hx rfl (hb hby own_d3_0) rfl k) ?_
    obtain ⟨T101, h101, X101, e101, E101, A101, st101⟩ := own_newP X0 hx hZ (aty := .long) (hw _ (List.mem_of_getElem? (i := 11) rfl)) e0 (g := (mkF m 1 #[.val (.int (0 : Int32)), .val (.long q1), .second, .val (.long q2), .second, .unset] [(.int (0 : Int32))])) rfl (hb hby own_d3_1) rfl (by decide) (cap := 0) (by decide) (by decide) (by decide) (by decide)
    obtain ⟨b101, g101⟩ : ∃ z, z = h0.size := ⟨_, rfl⟩
    rw [← g101] at A101 st101
    have V101 : own_Ar Z h101 b101 .long [] := A101
    have sz_b101 : h0.size ≤ b101 := Nat.le_trans K0.1 (Nat.le_of_eq g101.symm)
    have g_b101 : n0 ≤ b101 := Nat.le_trans Z0 sz_b101
    have Kc101 : Keep h0 h101 [] := K0.ext E101
    refine own_via (g' := T101.setTop (mkF m 3 #[.val (.int (0 : Int32)), .val (.long q1), .second, .val (.long q2), .second, .unset] [(.ref b101)])) (fun t k => st101 _ k) ?_
    refine own_via (g' := T101.setTop (mkF m 5 #[.val (.int (0 : Int32)), .val (.long q1), .second, .val (.long q2), .second, .val (.ref b101)] [])) (fun t k => XS.astore X101.here hx rfl (hb hby own_d3_3) rfl (rfl) (l' := #[.val (.int (0 : Int32)), .val (.long q1), .second, .val (.long q2), .second, .val (.ref b101)]) rfl k) ?_
    refine own_via (g' := T101.setTop (mkF m 6 #[.val (.int (0 : Int32)), .val (.long q1), .second, .val (.long q2), .second, .val (.ref b101)] [(.int (0 : Int32))])) (fun t k => XS.iloadN X101.here hx rfl (hb hby own_d3_5) rfl k) ?_
    refine own_via (g' := T101.setTop (mkF m 7 #[.val (.int (0 : Int32)), .val (.long q1), .second, .val (.long q2), .second, .val (.ref b101)] [(.int (1 : Int32)), (.int (0 : Int32))])) (fun t k => XS.iconst X101.here hx rfl (hb hby own_d3_6) k) ?_
    refine own_via (g' := T101.setTop (mkF m 15 #[.val (.int (0 : Int32)), .val (.long q1), .second, .val (.long q2), .second, .val (.ref b101)] [])) (fun t k => XS.icmpYes X101.here hx rfl (pc0 := 7) (pc' := 15) rfl (hb hby own_d3_7) rfl (XT.ii_ne_t (by decide)) (by decide) (by decide) k) ?_
    refine own_via (g' := T101.setTop (mkF m 16 #[.val (.int (0 : Int32)), .val (.long q1), .second, .val (.long q2), .second, .val (.ref b101)] [(.int (0 : Int32))])) (fun t k => XS.iloadN X101.here hx rfl (hb hby own_d3_15) rfl k) ?_
    refine own_via (g' := T101.setTop (mkF m 17 #[.val (.int (0 : Int32)), .val (.long q1), .second, .val (.long q2), .second, .val (.ref b101)] [(.int (2 : Int32)), (.int (0 : Int32))])) (fun t k => XS.iconst X101.here hx rfl (hb hby own_d3_16) k) ?_
    refine own_via (g' := T101.setTop (mkF m 38 #[.val (.int (0 : Int32)), .val (.long q1), .second, .val (.long q2), .second, .val (.ref b101)] [])) (fun t k => XS.icmpYes X101.here hx rfl (pc0 := 17) (pc' := 38) rfl (hb hby own_d3_17) rfl (XT.ii_ne_t (by decide)) (by decide) (by decide) k) ?_
    refine own_via (g' := T101.setTop (mkF m 40 #[.val (.int (0 : Int32)), .val (.long q1), .second, .val (.long q2), .second, .val (.ref b101)] [(.ref b101)])) (fun t k => XS.aload X101.here hx rfl (hb hby own_d3_38) rfl (rfl) k) ?_
    have eE : T101.heap = h101 := e101
    exact own_retA X101 hx hlk (rfl) Bd.returns rfl (hb hby own_d3_40) ⟨b101, rfl, N0, sz_b101, (by rw [eE]; exact Kc101), (by rw [eE]; exact V101)⟩ (by decide) (by decide)
  · refine own_via (g' := s₁.setTop (mkF m 1 #[.val (.int (1 : Int32)), .val (.long q1), .second, .val (.long q2), .second, .unset] [(.int (1 : Int32))])) (fun t k => XS.iloadN X0.here hx rfl (hb hby own_d3_0) rfl k) ?_
    obtain ⟨T102, h102, X102, e102, E102, A102, st102⟩ := own_newP X0 hx hZ (aty := .long) (hw _ (List.mem_of_getElem? (i := 11) rfl)) e0 (g := (mkF m 1 #[.val (.int (1 : Int32)), .val (.long q1), .second, .val (.long q2), .second, .unset] [(.int (1 : Int32))])) rfl (hb hby own_d3_1) rfl (by decide) (cap := 1) (by decide) (by decide) (by decide) (by decide)
    obtain ⟨b102, g102⟩ : ∃ z, z = h0.size := ⟨_, rfl⟩
    rw [← g102] at A102 st102
    have V102 : own_Ar Z h102 b102 .long [(.long 0)] := A102
    have sz_b102 : h0.size ≤ b102 := Nat.le_trans K0.1 (Nat.le_of_eq g102.symm)
    have g_b102 : n0 ≤ b102 := Nat.le_trans Z0 sz_b102
    have Kc102 : Keep h0 h102 [] := K0.ext E102
    refine own_via (g' := T102.setTop (mkF m 3 #[.val (.int (1 : Int32)), .val (.long q1), .second, .val (.long q2), .second, .unset] [(.ref b102)])) (fun t k => st102 _ k) ?_
    refine own_via (g' := T102.setTop (mkF m 5 #[.val (.int (1 : Int32)), .val (.long q1), .second, .val (.long q2), .second, .val (.ref b102)] [])) (fun t k => XS.astore X102.here hx rfl (hb hby own_d3_3) rfl (rfl) (l' := #[.val (.int (1 : Int32)), .val (.long q1), .second, .val (.long q2), .second, .val (.ref b102)]) rfl k) ?_
    refine own_via (g' := T102.setTop (mkF m 6 #[.val (.int (1 : Int32)), .val (.long q1), .second, .val (.long q2), .second, .val (.ref b102)] [(.int (1 : Int32))])) (fun t k => XS.iloadN X102.here hx rfl (hb hby own_d3_5) rfl k) ?_
    refine own_via (g' := T102.setTop (mkF m 7 #[.val (.int (1 : Int32)), .val (.long q1), .second, .val (.long q2), .second, .val (.ref b102)] [(.int (1 : Int32)), (.int (1 : Int32))])) (fun t k => XS.iconst X102.here hx rfl (hb hby own_d3_6) k) ?_
    refine own_via (g' := T102.setTop (mkF m 10 #[.val (.int (1 : Int32)), .val (.long q1), .second, .val (.long q2), .second, .val (.ref b102)] [])) (fun t k => XS.icmpNo X102.here hx rfl (hb hby own_d3_7) rfl (XT.ii_ne_f (by decide)) k) ?_
    refine own_via (g' := T102.setTop (mkF m 12 #[.val (.int (1 : Int32)), .val (.long q1), .second, .val (.long q2), .second, .val (.ref b102)] [(.ref b102)])) (fun t k => XS.aload X102.here hx rfl (hb hby own_d3_10) rfl (rfl) k) ?_
    refine own_via (g' := T102.setTop (mkF m 13 #[.val (.int (1 : Int32)), .val (.long q1), .second, .val (.long q2), .second, .val (.ref b102)] [(.int (0 : Int32)), (.ref b102)])) (fun t k => XS.iconst X102.here hx rfl (hb hby own_d3_12) k) ?_
    refine own_via (g' := T102.setTop (mkF m 14 #[.val (.int (1 : Int32)), .val (.long q1), .second, .val (.long q2), .second, .val (.ref b102)] [(.long q1), (.int (0 : Int32)), (.ref b102)])) (fun t k => XT.lloadN X102.here hx rfl (hb hby own_d3_13) rfl k) ?_
    obtain ⟨T103, h103, X103, e103, W103, V103', st103⟩ := own_stJ X102 hx hZ e102 V102 (j := (0 : Int32)) (by decide) (by decide : (0 : Int32).toNatClampNeg < 1) (g := (mkF m 14 #[.val (.int (1 : Int32)), .val (.long q1), .second, .val (.long q2), .second, .val (.ref b102)] [(.long q1), (.int (0 : Int32)), (.ref b102)])) rfl rfl (hb hby own_d3_14)
    have V103 : own_Ar Z h103 b102 .long [(.long q1)] := V103'
    have Kc103 : Keep h0 h103 [] := Kc102.wr W103 (Or.inr sz_b102)
    have N103 := Fr.snoc X103 N0 g_b102
    refine own_via (g' := T103.setTop (mkF m 15 #[.val (.int (1 : Int32)), .val (.long q1), .second, .val (.long q2), .second, .val (.ref b102)] [])) (fun t k => st103 _ k) ?_
    refine own_via (g' := T103.setTop (mkF m 16 #[.val (.int (1 : Int32)), .val (.long q1), .second, .val (.long q2), .second, .val (.ref b102)] [(.int (1 : Int32))])) (fun t k => XS.iloadN X103.here hx rfl (hb hby own_d3_15) rfl k) ?_
    refine own_via (g' := T103.setTop (mkF m 17 #[.val (.int (1 : Int32)), .val (.long q1), .second, .val (.long q2), .second, .val (.ref b102)] [(.int (2 : Int32)), (.int (1 : Int32))])) (fun t k => XS.iconst X103.here hx rfl (hb hby own_d3_16) k) ?_
    refine own_via (g' := T103.setTop (mkF m 38 #[.val (.int (1 : Int32)), .val (.long q1), .second, .val (.long q2), .second, .val (.ref b102)] [])) (fun t k => XS.icmpYes X103.here hx rfl (pc0 := 17) (pc' := 38) rfl (hb hby own_d3_17) rfl (XT.ii_ne_t (by decide)) (by decide) (by decide) k) ?_
    refine own_via (g' := T103.setTop (mkF m 40 #[.val (.int (1 : Int32)), .val (.long q1), .second, .val (.long q2), .second, .val (.ref b102)] [(.ref b102)])) (fun t k => XS.aload X103.here hx rfl (hb hby own_d3_38) rfl (rfl) k) ?_
    have eE : T103.heap = h103 := e103
    exact own_retA X103 hx hlk (rfl) Bd.returns rfl (hb hby own_d3_40) ⟨b102, rfl, N103, sz_b102, (by rw [eE]; exact Kc103), (by rw [eE]; exact V103)⟩ (by decide) (by decide)
  · refine own_via (g' := s₁.setTop (mkF m 1 #[.val (.int (2 : Int32)), .val (.long q1), .second, .val (.long q2), .second, .unset] [(.int (2 : Int32))])) (fun t k => XS.iloadN X0.here hx rfl (hb hby own_d3_0) rfl k) ?_
    obtain ⟨T104, h104, X104, e104, E104, A104, st104⟩ := own_newP X0 hx hZ (aty := .long) (hw _ (List.mem_of_getElem? (i := 11) rfl)) e0 (g := (mkF m 1 #[.val (.int (2 : Int32)), .val (.long q1), .second, .val (.long q2), .second, .unset] [(.int (2 : Int32))])) rfl (hb hby own_d3_1) rfl (by decide) (cap := 2) (by decide) (by decide) (by decide) (by decide)
    obtain ⟨b104, g104⟩ : ∃ z, z = h0.size := ⟨_, rfl⟩
    rw [← g104] at A104 st104
    have V104 : own_Ar Z h104 b104 .long [(.long 0), (.long 0)] := A104
    have sz_b104 : h0.size ≤ b104 := Nat.le_trans K0.1 (Nat.le_of_eq g104.symm)
    have g_b104 : n0 ≤ b104 := Nat.le_trans Z0 sz_b104
    have Kc104 : Keep h0 h104 [] := K0.ext E104
    refine own_via (g' := T104.setTop (mkF m 3 #[.val (.int (2 : Int32)), .val (.long q1), .second, .val (.long q2), .second, .unset] [(.ref b104)])) (fun t k => st104 _ k) ?_
    refine own_via (g' := T104.setTop (mkF m 5 #[.val (.int (2 : Int32)), .val (.long q1), .second, .val (.long q2), .second, .val (.ref b104)] [])) (fun t k => XS.astore X104.here hx rfl (hb hby own_d3_3) rfl (rfl) (l' := #[.val (.int (2 : Int32)), .val (.long q1), .second, .val (.long q2), .second, .val (.ref b104)]) rfl k) ?_
    refine own_via (g' := T104.setTop (mkF m 6 #[.val (.int (2 : Int32)), .val (.long q1), .second, .val (.long q2), .second, .val (.ref b104)] [(.int (2 : Int32))])) (fun t k => XS.iloadN X104.here hx rfl (hb hby own_d3_5) rfl k) ?_
    refine own_via (g' := T104.setTop (mkF m 7 #[.val (.int (2 : Int32)), .val (.long q1), .second, .val (.long q2), .second, .val (.ref b104)] [(.int (1 : Int32)), (.int (2 : Int32))])) (fun t k => XS.iconst X104.here hx rfl (hb hby own_d3_6) k) ?_
    refine own_via (g' := T104.setTop (mkF m 15 #[.val (.int (2 : Int32)), .val (.long q1), .second, .val (.long q2), .second, .val (.ref b104)] [])) (fun t k => XS.icmpYes X104.here hx rfl (pc0 := 7) (pc' := 15) rfl (hb hby own_d3_7) rfl (XT.ii_ne_t (by decide)) (by decide) (by decide) k) ?_
    refine own_via (g' := T104.setTop (mkF m 16 #[.val (.int (2 : Int32)), .val (.long q1), .second, .val (.long q2), .second, .val (.ref b104)] [(.int (2 : Int32))])) (fun t k => XS.iloadN X104.here hx rfl (hb hby own_d3_15) rfl k) ?_
    refine own_via (g' := T104.setTop (mkF m 17 #[.val (.int (2 : Int32)), .val (.long q1), .second, .val (.long q2), .second, .val (.ref b104)] [(.int (2 : Int32)), (.int (2 : Int32))])) (fun t k => XS.iconst X104.here hx rfl (hb hby own_d3_16) k) ?_
    refine own_via (g' := T104.setTop (mkF m 20 #[.val (.int (2 : Int32)), .val (.long q1), .second, .val (.long q2), .second, .val (.ref b104)] [])) (fun t k => XS.icmpNo X104.here hx rfl (hb hby own_d3_17) rfl (XT.ii_ne_f (by decide)) k) ?_
    refine own_via (g' := T104.setTop (mkF m 22 #[.val (.int (2 : Int32)), .val (.long q1), .second, .val (.long q2), .second, .val (.ref b104)] [(.ref b104)])) (fun t k => XS.aload X104.here hx rfl (hb hby own_d3_20) rfl (rfl) k) ?_
    refine own_via (g' := T104.setTop (mkF m 23 #[.val (.int (2 : Int32)), .val (.long q1), .second, .val (.long q2), .second, .val (.ref b104)] [(.int (0 : Int32)), (.ref b104)])) (fun t k => XS.iconst X104.here hx rfl (hb hby own_d3_22) k) ?_
    refine own_via (g' := T104.setTop (mkF m 24 #[.val (.int (2 : Int32)), .val (.long q1), .second, .val (.long q2), .second, .val (.ref b104)] [(.long q1), (.int (0 : Int32)), (.ref b104)])) (fun t k => XT.lloadN X104.here hx rfl (hb hby own_d3_23) rfl k) ?_
    refine own_via (g' := T104.setTop (mkF m 25 #[.val (.int (2 : Int32)), .val (.long q1), .second, .val (.long q2), .second, .val (.ref b104)] [(.long q2), (.long q1), (.int (0 : Int32)), (.ref b104)])) (fun t k => XT.lloadN X104.here hx rfl (hb hby own_d3_24) rfl k) ?_
    obtain ⟨v105, _, ⟨T105, L105, k105, n105⟩, -, X105, ⟨Lc105, hQ105, l105, y105, z105⟩, st105⟩ := Jvm.LawKit.callS X104 hx (y := (⟨"java/lang/Math", "min", "(JJ)J"⟩ : MethodName)) hown (mvT hZ (hw _ (List.mem_of_getElem? (i := 43) rfl))) (mvT hZ (hw _ (List.mem_of_getElem? (i := 44) rfl))) (mvT hZ (hw _ (List.mem_of_getElem? (i := 45) rfl))) (mvT hZ (hw _ (List.mem_of_getElem? (i := 46) rfl))) (by decide) (backOf (W := 2) (own_rm10 l Z a0 hw [] q1 q2 h104 n0 (Nat.le_trans Z0 Kc104.1) ) hZ (hw _ (List.mem_of_getElem? (i := 46) rfl)) (hw _ (List.mem_of_getElem? (i := 45) rfl)) (by decide) (by decide)) (g := (mkF m 25 #[.val (.int (2 : Int32)), .val (.long q1), .second, .val (.long q2), .second, .val (.ref b104)] [(.long q2), (.long q1), (.int (0 : Int32)), (.ref b104)])) rfl (by rw [hml]; rfl) (argsL := [(.long q1), (.long q2)]) (rest := [(.int (0 : Int32)), (.ref b104)]) (lenOf own_pd1 rfl) rfl (by show 2 * 0 + _ ≤ _; exact Nat.le_of_eq rfl) (hb hby own_d3_25) (fun _ _ => ⟨rfl, e104, (by decide : 1 + 0 ≤ _), (by decide : 2 + 0 ≤ _)⟩)
    dsimp only [Pt.U, Pt.locs, Pt.cells, Pt.slots] at X105 l105 y105 z105 st105 hQ105
    subst l105 y105 z105
    obtain ⟨rfl, N105q, e105⟩ := hQ105
    have N105 := Fr.app N0 N105q
    refine own_via (g' := T105.setTop (mkF m 28 #[.val (.int (2 : Int32)), .val (.long q1), .second, .val (.long q2), .second, .val (.ref b104)] [(.long (own_min q1 q2)), (.int (0 : Int32)), (.ref b104)])) (fun t k => st105 _ k) ?_
    obtain ⟨T106, h106, X106, e106, W106, V106', st106⟩ := own_stJ X105 hx hZ e105 V104 (j := (0 : Int32)) (by decide) (by decide : (0 : Int32).toNatClampNeg < 2) (g := (mkF m 28 #[.val (.int (2 : Int32)), .val (.long q1), .second, .val (.long q2), .second, .val (.ref b104)] [(.long (own_min q1 q2)), (.int (0 : Int32)), (.ref b104)])) rfl rfl (hb hby own_d3_28)
    have V106 : own_Ar Z h106 b104 .long [(.long (own_min q1 q2)), (.long 0)] := V106'
    have Kc106 : Keep h0 h106 [] := Kc104.wr W106 (Or.inr sz_b104)
    have N106 := Fr.snoc X106 N105 g_b104
    refine own_via (g' := T106.setTop (mkF m 29 #[.val (.int (2 : Int32)), .val (.long q1), .second, .val (.long q2), .second, .val (.ref b104)] [])) (fun t k => st106 _ k) ?_
    refine own_via (g' := T106.setTop (mkF m 31 #[.val (.int (2 : Int32)), .val (.long q1), .second, .val (.long q2), .second, .val (.ref b104)] [(.ref b104)])) (fun t k => XS.aload X106.here hx rfl (hb hby own_d3_29) rfl (rfl) k) ?_
    refine own_via (g' := T106.setTop (mkF m 32 #[.val (.int (2 : Int32)), .val (.long q1), .second, .val (.long q2), .second, .val (.ref b104)] [(.int (1 : Int32)), (.ref b104)])) (fun t k => XS.iconst X106.here hx rfl (hb hby own_d3_31) k) ?_
    refine own_via (g' := T106.setTop (mkF m 33 #[.val (.int (2 : Int32)), .val (.long q1), .second, .val (.long q2), .second, .val (.ref b104)] [(.long q1), (.int (1 : Int32)), (.ref b104)])) (fun t k => XT.lloadN X106.here hx rfl (hb hby own_d3_32) rfl k) ?_
    refine own_via (g' := T106.setTop (mkF m 34 #[.val (.int (2 : Int32)), .val (.long q1), .second, .val (.long q2), .second, .val (.ref b104)] [(.long q2), (.long q1), (.int (1 : Int32)), (.ref b104)])) (fun t k => XT.lloadN X106.here hx rfl (hb hby own_d3_33) rfl k) ?_
    obtain ⟨v107, _, ⟨T107, L107, k107, n107⟩, -, X107, ⟨Lc107, hQ107, l107, y107, z107⟩, st107⟩ := Jvm.LawKit.callS X106 hx (y := (⟨"java/lang/Math", "max", "(JJ)J"⟩ : MethodName)) hown (mvT hZ (hw _ (List.mem_of_getElem? (i := 47) rfl))) (mvT hZ (hw _ (List.mem_of_getElem? (i := 48) rfl))) (mvT hZ (hw _ (List.mem_of_getElem? (i := 45) rfl))) (mvT hZ (hw _ (List.mem_of_getElem? (i := 49) rfl))) (by decide) (backOf (W := 2) (own_rm11 l Z a0 hw [] q1 q2 h106 n0 (Nat.le_trans Z0 Kc106.1) ) hZ (hw _ (List.mem_of_getElem? (i := 49) rfl)) (hw _ (List.mem_of_getElem? (i := 45) rfl)) (by decide) (by decide)) (g := (mkF m 34 #[.val (.int (2 : Int32)), .val (.long q1), .second, .val (.long q2), .second, .val (.ref b104)] [(.long q2), (.long q1), (.int (1 : Int32)), (.ref b104)])) rfl (by rw [hml]; rfl) (argsL := [(.long q1), (.long q2)]) (rest := [(.int (1 : Int32)), (.ref b104)]) (lenOf own_pd1 rfl) rfl (by show 2 * 0 + _ ≤ _; exact Nat.le_of_eq rfl) (hb hby own_d3_34) (fun _ _ => ⟨rfl, e106, (by decide : 1 + 0 ≤ _), (by decide : 2 + 0 ≤ _)⟩)
    dsimp only [Pt.U, Pt.locs, Pt.cells, Pt.slots] at X107 l107 y107 z107 st107 hQ107
    subst l107 y107 z107
    obtain ⟨rfl, N107q, e107⟩ := hQ107
    have N107 := Fr.app N106 N107q
    refine own_via (g' := T107.setTop (mkF m 37 #[.val (.int (2 : Int32)), .val (.long q1), .second, .val (.long q2), .second, .val (.ref b104)] [(.long (own_max q1 q2)), (.int (1 : Int32)), (.ref b104)])) (fun t k => st107 _ k) ?_
    obtain ⟨T108, h108, X108, e108, W108, V108', st108⟩ := own_stJ X107 hx hZ e107 V106 (j := (1 : Int32)) (by decide) (by decide : (1 : Int32).toNatClampNeg < 2) (g := (mkF m 37 #[.val (.int (2 : Int32)), .val (.long q1), .second, .val (.long q2), .second, .val (.ref b104)] [(.long (own_max q1 q2)), (.int (1 : Int32)), (.ref b104)])) rfl rfl (hb hby own_d3_37)
    have V108 : own_Ar Z h108 b104 .long [(.long (own_min q1 q2)), (.long (own_max q1 q2))] := V108'
    have Kc108 : Keep h0 h108 [] := Kc106.wr W108 (Or.inr sz_b104)
    have N108 := Fr.snoc X108 N107 g_b104
    refine own_via (g' := T108.setTop (mkF m 38 #[.val (.int (2 : Int32)), .val (.long q1), .second, .val (.long q2), .second, .val (.ref b104)] [])) (fun t k => st108 _ k) ?_
    refine own_via (g' := T108.setTop (mkF m 40 #[.val (.int (2 : Int32)), .val (.long q1), .second, .val (.long q2), .second, .val (.ref b104)] [(.ref b104)])) (fun t k => XS.aload X108.here hx rfl (hb hby own_d3_38) rfl (rfl) k) ?_
    have eE : T108.heap = h108 := e108
    exact own_retA X108 hx hlk (rfl) Bd.returns rfl (hb hby own_d3_40) ⟨b104, rfl, N108, sz_b104, (by rw [eE]; exact Kc108), (by rw [eE]; exact V108)⟩ (by decide) (by decide)
theorem own_d7_0 : decode method_5_code 0 = .ok (.aload_n 0, 1) := by decide +kernel
theorem own_d7_1 : decode method_5_code 1 = .ok (.arraylength, 1) := by decide +kernel
theorem own_d7_2 : decode method_5_code 2 = .ok (.ifCond .eq 8, 3) := by decide +kernel
theorem own_d7_5 : decode method_5_code 5 = .ok (.aload_n 1, 1) := by decide +kernel
theorem own_d7_6 : decode method_5_code 6 = .ok (.arraylength, 1) := by decide +kernel
theorem own_d7_7 : decode method_5_code 7 = .ok (.ifCond .ne 5, 3) := by decide +kernel
theorem own_d7_10 : decode method_5_code 10 = .ok (.lconst 0, 1) := by decide +kernel
theorem own_d7_11 : decode method_5_code 11 = .ok (.lreturn, 1) := by decide +kernel
theorem own_d7_12 : decode method_5_code 12 = .ok (.aload_n 0, 1) := by decide +kernel
theorem own_d7_13 : decode method_5_code 13 = .ok (.arraylength, 1) := by decide +kernel
theorem own_d7_14 : decode method_5_code 14 = .ok (.iconst 1, 1) := by decide +kernel
theorem own_d7_15 : decode method_5_code 15 = .ok (.if_icmp .ne 35, 3) := by decide +kernel
theorem own_d7_18 : decode method_5_code 18 = .ok (.aload_n 0, 1) := by decide +kernel
theorem own_d7_19 : decode method_5_code 19 = .ok (.iconst 0, 1) := by decide +kernel
theorem own_d7_20 : decode method_5_code 20 = .ok (.laload, 1) := by decide +kernel
theorem own_d7_21 : decode method_5_code 21 = .ok (.aload_n 1, 1) := by decide +kernel
theorem own_d7_22 : decode method_5_code 22 = .ok (.iconst 0, 1) := by decide +kernel
theorem own_d7_23 : decode method_5_code 23 = .ok (.laload, 1) := by decide +kernel
theorem own_d7_24 : decode method_5_code 24 = .ok (.lcmp, 1) := by decide +kernel
theorem own_d7_25 : decode method_5_code 25 = .ok (.ifCond .eq 19, 3) := by decide +kernel
theorem own_d7_28 : decode method_5_code 28 = .ok (.aload_n 1, 1) := by decide +kernel
theorem own_d7_29 : decode method_5_code 29 = .ok (.arraylength, 1) := by decide +kernel
theorem own_d7_30 : decode method_5_code 30 = .ok (.iconst 2, 1) := by decide +kernel
theorem own_d7_31 : decode method_5_code 31 = .ok (.if_icmp .ne 17, 3) := by decide +kernel
theorem own_d7_34 : decode method_5_code 34 = .ok (.aload_n 0, 1) := by decide +kernel
theorem own_d7_35 : decode method_5_code 35 = .ok (.iconst 0, 1) := by decide +kernel
theorem own_d7_36 : decode method_5_code 36 = .ok (.laload, 1) := by decide +kernel
theorem own_d7_37 : decode method_5_code 37 = .ok (.aload_n 1, 1) := by decide +kernel
theorem own_d7_38 : decode method_5_code 38 = .ok (.iconst 1, 1) := by decide +kernel
theorem own_d7_39 : decode method_5_code 39 = .ok (.laload, 1) := by decide +kernel
theorem own_d7_40 : decode method_5_code 40 = .ok (.lcmp, 1) := by decide +kernel
theorem own_d7_41 : decode method_5_code 41 = .ok (.ifCond .ne 7, 3) := by decide +kernel
theorem own_d7_44 : decode method_5_code 44 = .ok (.lconst 1, 1) := by decide +kernel
theorem own_d7_45 : decode method_5_code 45 = .ok (.goto 4, 3) := by decide +kernel
theorem own_d7_48 : decode method_5_code 48 = .ok (.lconst 0, 1) := by decide +kernel
theorem own_d7_49 : decode method_5_code 49 = .ok (.lreturn, 1) := by decide +kernel
theorem own_d7_50 : decode method_5_code 50 = .ok (.aload_n 1, 1) := by decide +kernel
theorem own_d7_51 : decode method_5_code 51 = .ok (.arraylength, 1) := by decide +kernel
theorem own_d7_52 : decode method_5_code 52 = .ok (.iconst 1, 1) := by decide +kernel
theorem own_d7_53 : decode method_5_code 53 = .ok (.if_icmp .ne 29, 3) := by decide +kernel
theorem own_d7_56 : decode method_5_code 56 = .ok (.aload_n 1, 1) := by decide +kernel
theorem own_d7_57 : decode method_5_code 57 = .ok (.iconst 0, 1) := by decide +kernel
theorem own_d7_58 : decode method_5_code 58 = .ok (.laload, 1) := by decide +kernel
theorem own_d7_59 : decode method_5_code 59 = .ok (.aload_n 0, 1) := by decide +kernel
theorem own_d7_60 : decode method_5_code 60 = .ok (.iconst 0, 1) := by decide +kernel
theorem own_d7_61 : decode method_5_code 61 = .ok (.laload, 1) := by decide +kernel
theorem own_d7_62 : decode method_5_code 62 = .ok (.lcmp, 1) := by decide +kernel
theorem own_d7_63 : decode method_5_code 63 = .ok (.ifCond .eq 13, 3) := by decide +kernel
theorem own_d7_66 : decode method_5_code 66 = .ok (.aload_n 1, 1) := by decide +kernel
theorem own_d7_67 : decode method_5_code 67 = .ok (.iconst 0, 1) := by decide +kernel
theorem own_d7_68 : decode method_5_code 68 = .ok (.laload, 1) := by decide +kernel
theorem own_d7_69 : decode method_5_code 69 = .ok (.aload_n 0, 1) := by decide +kernel
theorem own_d7_70 : decode method_5_code 70 = .ok (.iconst 1, 1) := by decide +kernel
theorem own_d7_71 : decode method_5_code 71 = .ok (.laload, 1) := by decide +kernel
theorem own_d7_72 : decode method_5_code 72 = .ok (.lcmp, 1) := by decide +kernel
theorem own_d7_73 : decode method_5_code 73 = .ok (.ifCond .ne 7, 3) := by decide +kernel
theorem own_d7_76 : decode method_5_code 76 = .ok (.lconst 1, 1) := by decide +kernel
theorem own_d7_77 : decode method_5_code 77 = .ok (.goto 4, 3) := by decide +kernel
theorem own_d7_80 : decode method_5_code 80 = .ok (.lconst 0, 1) := by decide +kernel
theorem own_d7_81 : decode method_5_code 81 = .ok (.lreturn, 1) := by decide +kernel
theorem own_d7_82 : decode method_5_code 82 = .ok (.aload_n 0, 1) := by decide +kernel
theorem own_d7_83 : decode method_5_code 83 = .ok (.iconst 0, 1) := by decide +kernel
theorem own_d7_84 : decode method_5_code 84 = .ok (.laload, 1) := by decide +kernel
theorem own_d7_85 : decode method_5_code 85 = .ok (.aload_n 1, 1) := by decide +kernel
theorem own_d7_86 : decode method_5_code 86 = .ok (.iconst 0, 1) := by decide +kernel
theorem own_d7_87 : decode method_5_code 87 = .ok (.laload, 1) := by decide +kernel
theorem own_d7_88 : decode method_5_code 88 = .ok (.lcmp, 1) := by decide +kernel
theorem own_d7_89 : decode method_5_code 89 = .ok (.ifCond .ne 22, 3) := by decide +kernel
theorem own_d7_92 : decode method_5_code 92 = .ok (.iconst 1, 1) := by decide +kernel
theorem own_d7_93 : decode method_5_code 93 = .ok (.aload_n 0, 1) := by decide +kernel
theorem own_d7_94 : decode method_5_code 94 = .ok (.iconst 1, 1) := by decide +kernel
theorem own_d7_95 : decode method_5_code 95 = .ok (.laload, 1) := by decide +kernel
theorem own_d7_96 : decode method_5_code 96 = .ok (.aload_n 1, 1) := by decide +kernel
theorem own_d7_97 : decode method_5_code 97 = .ok (.iconst 1, 1) := by decide +kernel
theorem own_d7_98 : decode method_5_code 98 = .ok (.laload, 1) := by decide +kernel
theorem own_d7_99 : decode method_5_code 99 = .ok (.lcmp, 1) := by decide +kernel
theorem own_d7_100 : decode method_5_code 100 = .ok (.ifCond .ne 7, 3) := by decide +kernel
theorem own_d7_103 : decode method_5_code 103 = .ok (.iconst 1, 1) := by decide +kernel
theorem own_d7_104 : decode method_5_code 104 = .ok (.goto 4, 3) := by decide +kernel
theorem own_d7_107 : decode method_5_code 107 = .ok (.iconst 0, 1) := by decide +kernel
theorem own_d7_108 : decode method_5_code 108 = .ok (.iadd, 1) := by decide +kernel
theorem own_d7_109 : decode method_5_code 109 = .ok (.i2l, 1) := by decide +kernel
theorem own_d7_110 : decode method_5_code 110 = .ok (.lreturn, 1) := by decide +kernel
theorem own_d7_111 : decode method_5_code 111 = .ok (.aload_n 0, 1) := by decide +kernel
theorem own_d7_112 : decode method_5_code 112 = .ok (.iconst 0, 1) := by decide +kernel
theorem own_d7_113 : decode method_5_code 113 = .ok (.laload, 1) := by decide +kernel
theorem own_d7_114 : decode method_5_code 114 = .ok (.aload_n 1, 1) := by decide +kernel
theorem own_d7_115 : decode method_5_code 115 = .ok (.iconst 1, 1) := by decide +kernel
theorem own_d7_116 : decode method_5_code 116 = .ok (.laload, 1) := by decide +kernel
theorem own_d7_117 : decode method_5_code 117 = .ok (.lcmp, 1) := by decide +kernel
theorem own_d7_118 : decode method_5_code 118 = .ok (.ifCond .ne 22, 3) := by decide +kernel
theorem own_d7_121 : decode method_5_code 121 = .ok (.iconst 1, 1) := by decide +kernel
theorem own_d7_122 : decode method_5_code 122 = .ok (.aload_n 0, 1) := by decide +kernel
theorem own_d7_123 : decode method_5_code 123 = .ok (.iconst 1, 1) := by decide +kernel
theorem own_d7_124 : decode method_5_code 124 = .ok (.laload, 1) := by decide +kernel
theorem own_d7_125 : decode method_5_code 125 = .ok (.aload_n 1, 1) := by decide +kernel
theorem own_d7_126 : decode method_5_code 126 = .ok (.iconst 0, 1) := by decide +kernel
theorem own_d7_127 : decode method_5_code 127 = .ok (.laload, 1) := by decide +kernel
theorem own_d7_128 : decode method_5_code 128 = .ok (.lcmp, 1) := by decide +kernel
theorem own_d7_129 : decode method_5_code 129 = .ok (.ifCond .ne 7, 3) := by decide +kernel
theorem own_d7_132 : decode method_5_code 132 = .ok (.iconst 1, 1) := by decide +kernel
theorem own_d7_133 : decode method_5_code 133 = .ok (.goto 4, 3) := by decide +kernel
theorem own_d7_136 : decode method_5_code 136 = .ok (.iconst 0, 1) := by decide +kernel
theorem own_d7_137 : decode method_5_code 137 = .ok (.iadd, 1) := by decide +kernel
theorem own_d7_138 : decode method_5_code 138 = .ok (.i2l, 1) := by decide +kernel
theorem own_d7_139 : decode method_5_code 139 = .ok (.lreturn, 1) := by decide +kernel
theorem own_d7_140 : decode method_5_code 140 = .ok (.aload_n 0, 1) := by decide +kernel
theorem own_d7_141 : decode method_5_code 141 = .ok (.iconst 1, 1) := by decide +kernel
theorem own_d7_142 : decode method_5_code 142 = .ok (.laload, 1) := by decide +kernel
theorem own_d7_143 : decode method_5_code 143 = .ok (.aload_n 1, 1) := by decide +kernel
theorem own_d7_144 : decode method_5_code 144 = .ok (.iconst 0, 1) := by decide +kernel
theorem own_d7_145 : decode method_5_code 145 = .ok (.laload, 1) := by decide +kernel
theorem own_d7_146 : decode method_5_code 146 = .ok (.lcmp, 1) := by decide +kernel
theorem own_d7_147 : decode method_5_code 147 = .ok (.ifCond .eq 13, 3) := by decide +kernel
theorem own_d7_150 : decode method_5_code 150 = .ok (.aload_n 0, 1) := by decide +kernel
theorem own_d7_151 : decode method_5_code 151 = .ok (.iconst 1, 1) := by decide +kernel
theorem own_d7_152 : decode method_5_code 152 = .ok (.laload, 1) := by decide +kernel
theorem own_d7_153 : decode method_5_code 153 = .ok (.aload_n 1, 1) := by decide +kernel
theorem own_d7_154 : decode method_5_code 154 = .ok (.iconst 1, 1) := by decide +kernel
theorem own_d7_155 : decode method_5_code 155 = .ok (.laload, 1) := by decide +kernel
theorem own_d7_156 : decode method_5_code 156 = .ok (.lcmp, 1) := by decide +kernel
theorem own_d7_157 : decode method_5_code 157 = .ok (.ifCond .ne 5, 3) := by decide +kernel
theorem own_d7_160 : decode method_5_code 160 = .ok (.lconst 1, 1) := by decide +kernel
theorem own_d7_161 : decode method_5_code 161 = .ok (.lreturn, 1) := by decide +kernel
theorem own_d7_162 : decode method_5_code 162 = .ok (.lconst 0, 1) := by decide +kernel
theorem own_d7_163 : decode method_5_code 163 = .ok (.lreturn, 1) := by decide +kernel
theorem ef_own_rm7 (m : MethodId) (a1 : Addr) (a2 : Addr) : entryFrame m #[(.ref a1), (.ref a2)] 2 = mkF m 0 #[.val (.ref a1), .val (.ref a2)] [] := by first | (simp [entryFrame, mkF, argsToLocals, Value.category]; done) | rfl
def own_rm7_Q (Z : State) (a1 : Addr) (a2 : Addr) (LA : List Int64) (LB : List Int64) (h0 : Heap) (n0 : Nat) (v : Option Value) (h : Heap) (L : List Loc) : Prop := v = some (.long (own_inter LA LB)) ∧ Fr n0 L ∧ h = h0
set_option maxRecDepth 65536 in
set_option maxHeartbeats 40000000 in
theorem own_rm7 (l : Launch) (Z : State) (a0 : Array Value) (hw : ∀ d ∈ tables_1, d.before a0 Z = true) (ws : List Jvm.Cond) (a1 : Addr) (a2 : Addr) (LA : List Int64) (LB : List Int64) (h0 : Heap) (n0 : Nat) (Z0 : n0 ≤ h0.size) (A_a1 : own_Ar Z h0 a1 .long (LA.map Value.long)) (A_a2 : own_Ar Z h0 a2 .long (LB.map Value.long)) (hlA : LA.length ≤ 2) (hlB : LB.length ≤ 2) :
    MetFree l (⟨"com/example/arbordelta/arbordelta/SubtreeLabelsMostSavedWithPinLaw", "inter", "([J[J)J"⟩ : MethodName) (head1 (Jvm.Cond.code (⟨"com/example/arbordelta/arbordelta/SubtreeLabelsMostSavedWithPinLaw", "inter", "([J[J)J"⟩ : MethodName) method_5_code 2 (some .long) :: ws) ({ frames := 0, cells := 0, slots := 0, locals := 0 } : Room)) (fun a U => a = #[(.ref a1), (.ref a2)] ∧ Z.Warmed39 U.vm ∧ U.heap = h0) (fun _ _ _ _ _ => True) (fun _ U o U' => ∃ v L, o = .returned v ∧ own_rm7_Q Z a1 a2 LA LB h0 n0 v U'.heap L ∧ FrameEnd U o U' L ({ frames := 0, cells := 0, slots := 0, locals := 0 } : Room).cells ({ frames := 0, cells := 0, slots := 0, locals := 0 } : Room).slots) := by
  refine MetFree.of_bodySF (plainFor_of_name own_pn2) hisR ?_
  intro p e s m args below meth c s₁ Bd hml0 hP hK
  obtain ⟨rfl, hZ, hh⟩ := hP
  have hx := Bd.exec
  have hby := Bd.bytes
  have hml : c.maxLocals = 2 := hml0
  have hown : s.vm.findClass "com/example/arbordelta/arbordelta/SubtreeLabelsMostSavedWithPinLaw" = some m.cls := findClass_of_methodNamed Bd.named
  have hnm := (name_of_methodNamed Bd.named Bd.method).1
  have hlk : meth.locks = false := BodyLoose.notSynchronized Bd
  have X0 : Stand p l e ({ frames := 0, cells := 0, slots := 0, locals := 0 } : Room) s m #[(.ref a1), (.ref a2)] below meth c s₁ [] 0 0 := Stand.of_body Bd
  have e0 : s₁.heap = h0 := by rw [← hh, Bd.state]; rfl
  have N0 := Fr.nil n0
  have K0 : Keep h0 h0 [] := Keep.refl h0 []
  show own_Fin p e below (own_P (own_rm7_Q Z a1 a2 LA LB h0 n0) s ({ frames := 0, cells := 0, slots := 0, locals := 0 } : Room).cells ({ frames := 0, cells := 0, slots := 0, locals := 0 } : Room).slots) (s₁.setTop (entryFrame m #[(.ref a1), (.ref a2)] 2))
  refine own_via (g' := s₁.setTop (mkF m 0 #[.val (.ref a1), .val (.ref a2)] [])) (fun t k => castTop (ef_own_rm7 m a1 a2) k) ?_
  rcases LA with _ | ⟨x0, _ | ⟨x1, _ | ⟨x2, LA⟩⟩⟩
  · rcases LB with _ | ⟨y0, _ | ⟨y1, _ | ⟨y2, LB⟩⟩⟩
    · have A1 : own_Ar Z h0 a1 .long [] := A_a1
      have A2 : own_Ar Z h0 a2 .long [] := A_a2
      refine own_via (g' := s₁.setTop (mkF m 1 #[.val (.ref a1), .val (.ref a2)] [(.ref a1)])) (fun t k => XS.aloadN X0.here hx rfl (hb hby own_d7_0) rfl (rfl) k) ?_
      refine own_via (g' := s₁.setTop (mkF m 2 #[.val (.ref a1), .val (.ref a2)] [(.int (0 : Int32))])) (fun t k => own_len X0 hx hZ e0 A1 (n := (0 : Int32)) rfl (g := (mkF m 1 #[.val (.ref a1), .val (.ref a2)] [(.ref a1)])) rfl rfl (hb hby own_d7_1) _ k) ?_
      refine own_via (g' := s₁.setTop (mkF m 10 #[.val (.ref a1), .val (.ref a2)] [])) (fun t k => XS.ifYes X0.here hx rfl (pc0 := 2) (pc' := 10) rfl (hb hby own_d7_2) rfl (XT.i0_eq_t (by decide)) (by decide) (by decide) k) ?_
      refine own_via (g' := s₁.setTop (mkF m 11 #[.val (.ref a1), .val (.ref a2)] [(.long (0 : Int64))])) (fun t k => XT.lconst X0.here hx rfl (hb hby own_d7_10) k) ?_
      exact own_retJ X0 hx hlk Bd.returns (hb hby own_d7_11) ⟨rfl, N0, e0⟩ (by decide) (by decide)
    · have A1 : own_Ar Z h0 a1 .long [] := A_a1
      have A2 : own_Ar Z h0 a2 .long [(.long y0)] := A_a2
      refine own_via (g' := s₁.setTop (mkF m 1 #[.val (.ref a1), .val (.ref a2)] [(.ref a1)])) (fun t k => XS.aloadN X0.here hx rfl (hb hby own_d7_0) rfl (rfl) k) ?_
      refine own_via (g' := s₁.setTop (mkF m 2 #[.val (.ref a1), .val (.ref a2)] [(.int (0 : Int32))])) (fun t k => own_len X0 hx hZ e0 A1 (n := (0 : Int32)) rfl (g := (mkF m 1 #[.val (.ref a1), .val (.ref a2)] [(.ref a1)])) rfl rfl (hb hby own_d7_1) _ k) ?_
      refine own_via (g' := s₁.setTop (mkF m 10 #[.val (.ref a1), .val (.ref a2)] [])) (fun t k => XS.ifYes X0.here hx rfl (pc0 := 2) (pc' := 10) rfl (hb hby own_d7_2) rfl (XT.i0_eq_t (by decide)) (by decide) (by decide) k) ?_
      refine own_via (g' := s₁.setTop (mkF m 11 #[.val (.ref a1), .val (.ref a2)] [(.long (0 : Int64))])) (fun t k => XT.lconst X0.here hx rfl (hb hby own_d7_10) k) ?_
      exact own_retJ X0 hx hlk Bd.returns (hb hby own_d7_11) ⟨rfl, N0, e0⟩ (by decide) (by decide)
    · have A1 : own_Ar Z h0 a1 .long [] := A_a1
      have A2 : own_Ar Z h0 a2 .long [(.long y0), (.long y1)] := A_a2
      refine own_via (g' := s₁.setTop (mkF m 1 #[.val (.ref a1), .val (.ref a2)] [(.ref a1)])) (fun t k => XS.aloadN X0.here hx rfl (hb hby own_d7_0) rfl (rfl) k) ?_
      refine own_via (g' := s₁.setTop (mkF m 2 #[.val (.ref a1), .val (.ref a2)] [(.int (0 : Int32))])) (fun t k => own_len X0 hx hZ e0 A1 (n := (0 : Int32)) rfl (g := (mkF m 1 #[.val (.ref a1), .val (.ref a2)] [(.ref a1)])) rfl rfl (hb hby own_d7_1) _ k) ?_
      refine own_via (g' := s₁.setTop (mkF m 10 #[.val (.ref a1), .val (.ref a2)] [])) (fun t k => XS.ifYes X0.here hx rfl (pc0 := 2) (pc' := 10) rfl (hb hby own_d7_2) rfl (XT.i0_eq_t (by decide)) (by decide) (by decide) k) ?_
      refine own_via (g' := s₁.setTop (mkF m 11 #[.val (.ref a1), .val (.ref a2)] [(.long (0 : Int64))])) (fun t k => XT.lconst X0.here hx rfl (hb hby own_d7_10) k) ?_
      exact own_retJ X0 hx hlk Bd.returns (hb hby own_d7_11) ⟨rfl, N0, e0⟩ (by decide) (by decide)
    · exact absurd hlB (by simp)
  · rcases LB with _ | ⟨y0, _ | ⟨y1, _ | ⟨y2, LB⟩⟩⟩
    · have A1 : own_Ar Z h0 a1 .long [(.long x0)] := A_a1
      have A2 : own_Ar Z h0 a2 .long [] := A_a2
      refine own_via (g' := s₁.setTop (mkF m 1 #[.val (.ref a1), .val (.ref a2)] [(.ref a1)])) (fun t k => XS.aloadN X0.here hx rfl (hb hby own_d7_0) rfl (rfl) k) ?_
      refine own_via (g' := s₁.setTop (mkF m 2 #[.val (.ref a1), .val (.ref a2)] [(.int (1 : Int32))])) (fun t k => own_len X0 hx hZ e0 A1 (n := (1 : Int32)) rfl (g := (mkF m 1 #[.val (.ref a1), .val (.ref a2)] [(.ref a1)])) rfl rfl (hb hby own_d7_1) _ k) ?_
      refine own_via (g' := s₁.setTop (mkF m 5 #[.val (.ref a1), .val (.ref a2)] [])) (fun t k => XS.ifNo X0.here hx rfl (hb hby own_d7_2) rfl (XT.i0_eq_f (by decide)) k) ?_
      refine own_via (g' := s₁.setTop (mkF m 6 #[.val (.ref a1), .val (.ref a2)] [(.ref a2)])) (fun t k => XS.aloadN X0.here hx rfl (hb hby own_d7_5) rfl (rfl) k) ?_
      refine own_via (g' := s₁.setTop (mkF m 7 #[.val (.ref a1), .val (.ref a2)] [(.int (0 : Int32))])) (fun t k => own_len X0 hx hZ e0 A2 (n := (0 : Int32)) rfl (g := (mkF m 6 #[.val (.ref a1), .val (.ref a2)] [(.ref a2)])) rfl rfl (hb hby own_d7_6) _ k) ?_
      refine own_via (g' := s₁.setTop (mkF m 10 #[.val (.ref a1), .val (.ref a2)] [])) (fun t k => XS.ifNo X0.here hx rfl (hb hby own_d7_7) rfl (XT.i0_ne_f (by decide)) k) ?_
      refine own_via (g' := s₁.setTop (mkF m 11 #[.val (.ref a1), .val (.ref a2)] [(.long (0 : Int64))])) (fun t k => XT.lconst X0.here hx rfl (hb hby own_d7_10) k) ?_
      exact own_retJ X0 hx hlk Bd.returns (hb hby own_d7_11) ⟨rfl, N0, e0⟩ (by decide) (by decide)
    · have A1 : own_Ar Z h0 a1 .long [(.long x0)] := A_a1
      have A2 : own_Ar Z h0 a2 .long [(.long y0)] := A_a2
      refine own_via (g' := s₁.setTop (mkF m 1 #[.val (.ref a1), .val (.ref a2)] [(.ref a1)])) (fun t k => XS.aloadN X0.here hx rfl (hb hby own_d7_0) rfl (rfl) k) ?_
      refine own_via (g' := s₁.setTop (mkF m 2 #[.val (.ref a1), .val (.ref a2)] [(.int (1 : Int32))])) (fun t k => own_len X0 hx hZ e0 A1 (n := (1 : Int32)) rfl (g := (mkF m 1 #[.val (.ref a1), .val (.ref a2)] [(.ref a1)])) rfl rfl (hb hby own_d7_1) _ k) ?_
      refine own_via (g' := s₁.setTop (mkF m 5 #[.val (.ref a1), .val (.ref a2)] [])) (fun t k => XS.ifNo X0.here hx rfl (hb hby own_d7_2) rfl (XT.i0_eq_f (by decide)) k) ?_
      refine own_via (g' := s₁.setTop (mkF m 6 #[.val (.ref a1), .val (.ref a2)] [(.ref a2)])) (fun t k => XS.aloadN X0.here hx rfl (hb hby own_d7_5) rfl (rfl) k) ?_
      refine own_via (g' := s₁.setTop (mkF m 7 #[.val (.ref a1), .val (.ref a2)] [(.int (1 : Int32))])) (fun t k => own_len X0 hx hZ e0 A2 (n := (1 : Int32)) rfl (g := (mkF m 6 #[.val (.ref a1), .val (.ref a2)] [(.ref a2)])) rfl rfl (hb hby own_d7_6) _ k) ?_
      refine own_via (g' := s₁.setTop (mkF m 12 #[.val (.ref a1), .val (.ref a2)] [])) (fun t k => XS.ifYes X0.here hx rfl (pc0 := 7) (pc' := 12) rfl (hb hby own_d7_7) rfl (XT.i0_ne_t (by decide)) (by decide) (by decide) k) ?_
      refine own_via (g' := s₁.setTop (mkF m 13 #[.val (.ref a1), .val (.ref a2)] [(.ref a1)])) (fun t k => XS.aloadN X0.here hx rfl (hb hby own_d7_12) rfl (rfl) k) ?_
      refine own_via (g' := s₁.setTop (mkF m 14 #[.val (.ref a1), .val (.ref a2)] [(.int (1 : Int32))])) (fun t k => own_len X0 hx hZ e0 A1 (n := (1 : Int32)) rfl (g := (mkF m 13 #[.val (.ref a1), .val (.ref a2)] [(.ref a1)])) rfl rfl (hb hby own_d7_13) _ k) ?_
      refine own_via (g' := s₁.setTop (mkF m 15 #[.val (.ref a1), .val (.ref a2)] [(.int (1 : Int32)), (.int (1 : Int32))])) (fun t k => XS.iconst X0.here hx rfl (hb hby own_d7_14) k) ?_
      refine own_via (g' := s₁.setTop (mkF m 18 #[.val (.ref a1), .val (.ref a2)] [])) (fun t k => XS.icmpNo X0.here hx rfl (hb hby own_d7_15) rfl (XT.ii_ne_f (by decide)) k) ?_
      refine own_via (g' := s₁.setTop (mkF m 19 #[.val (.ref a1), .val (.ref a2)] [(.ref a1)])) (fun t k => XS.aloadN X0.here hx rfl (hb hby own_d7_18) rfl (rfl) k) ?_
      refine own_via (g' := s₁.setTop (mkF m 20 #[.val (.ref a1), .val (.ref a2)] [(.int (0 : Int32)), (.ref a1)])) (fun t k => XS.iconst X0.here hx rfl (hb hby own_d7_19) k) ?_
      refine own_via (g' := s₁.setTop (mkF m 21 #[.val (.ref a1), .val (.ref a2)] [(.long x0)])) (fun t k => own_ldJ X0 hx hZ e0 A1 (j := (0 : Int32)) (v := (.long x0)) (by decide) rfl (g := (mkF m 20 #[.val (.ref a1), .val (.ref a2)] [(.int (0 : Int32)), (.ref a1)])) rfl rfl (hb hby own_d7_20) _ k) ?_
      refine own_via (g' := s₁.setTop (mkF m 22 #[.val (.ref a1), .val (.ref a2)] [(.ref a2), (.long x0)])) (fun t k => XS.aloadN X0.here hx rfl (hb hby own_d7_21) rfl (rfl) k) ?_
      refine own_via (g' := s₁.setTop (mkF m 23 #[.val (.ref a1), .val (.ref a2)] [(.int (0 : Int32)), (.ref a2), (.long x0)])) (fun t k => XS.iconst X0.here hx rfl (hb hby own_d7_22) k) ?_
      refine own_via (g' := s₁.setTop (mkF m 24 #[.val (.ref a1), .val (.ref a2)] [(.long y0), (.long x0)])) (fun t k => own_ldJ X0 hx hZ e0 A2 (j := (0 : Int32)) (v := (.long y0)) (by decide) rfl (g := (mkF m 23 #[.val (.ref a1), .val (.ref a2)] [(.int (0 : Int32)), (.ref a2), (.long x0)])) rfl rfl (hb hby own_d7_23) _ k) ?_
      refine own_via (g' := s₁.setTop (mkF m 25 #[.val (.ref a1), .val (.ref a2)] [(.int (XT.cmpL x0 y0))])) (fun t k => XT.lcmp X0.here hx rfl (hb hby own_d7_24) rfl k) ?_
      by_cases hc25_101 : x0 = y0
      · refine own_via (g' := s₁.setTop (mkF m 44 #[.val (.ref a1), .val (.ref a2)] [])) (fun t k => XS.ifYes X0.here hx rfl (pc0 := 25) (pc' := 44) rfl (hb hby own_d7_25) rfl (XT.ll_eq_t hc25_101) (by decide) (by decide) k) ?_
        refine own_via (g' := s₁.setTop (mkF m 45 #[.val (.ref a1), .val (.ref a2)] [(.long (1 : Int64))])) (fun t k => XT.lconst X0.here hx rfl (hb hby own_d7_44) k) ?_
        refine own_via (g' := s₁.setTop (mkF m 49 #[.val (.ref a1), .val (.ref a2)] [(.long (1 : Int64))])) (fun t k => XS.goto X0.here hx rfl (pc0 := 45) (pc' := 49) rfl (hb hby own_d7_45) (by decide) (by decide) k) ?_
        exact own_retJ X0 hx hlk Bd.returns (hb hby own_d7_49) ⟨(by first | (rw [own_inter, if_pos hc25_101]; done) | (rw [own_inter, if_pos hc25_101]; rfl) | (simp [own_inter, hc25_101]; done)), N0, e0⟩ (by decide) (by decide)
      · refine own_via (g' := s₁.setTop (mkF m 28 #[.val (.ref a1), .val (.ref a2)] [])) (fun t k => XS.ifNo X0.here hx rfl (hb hby own_d7_25) rfl (XT.ll_eq_f hc25_101) k) ?_
        refine own_via (g' := s₁.setTop (mkF m 29 #[.val (.ref a1), .val (.ref a2)] [(.ref a2)])) (fun t k => XS.aloadN X0.here hx rfl (hb hby own_d7_28) rfl (rfl) k) ?_
        refine own_via (g' := s₁.setTop (mkF m 30 #[.val (.ref a1), .val (.ref a2)] [(.int (1 : Int32))])) (fun t k => own_len X0 hx hZ e0 A2 (n := (1 : Int32)) rfl (g := (mkF m 29 #[.val (.ref a1), .val (.ref a2)] [(.ref a2)])) rfl rfl (hb hby own_d7_29) _ k) ?_
        refine own_via (g' := s₁.setTop (mkF m 31 #[.val (.ref a1), .val (.ref a2)] [(.int (2 : Int32)), (.int (1 : Int32))])) (fun t k => XS.iconst X0.here hx rfl (hb hby own_d7_30) k) ?_
        refine own_via (g' := s₁.setTop (mkF m 48 #[.val (.ref a1), .val (.ref a2)] [])) (fun t k => XS.icmpYes X0.here hx rfl (pc0 := 31) (pc' := 48) rfl (hb hby own_d7_31) rfl (XT.ii_ne_t (by decide)) (by decide) (by decide) k) ?_
        refine own_via (g' := s₁.setTop (mkF m 49 #[.val (.ref a1), .val (.ref a2)] [(.long (0 : Int64))])) (fun t k => XT.lconst X0.here hx rfl (hb hby own_d7_48) k) ?_
        exact own_retJ X0 hx hlk Bd.returns (hb hby own_d7_49) ⟨(by first | (rw [own_inter, if_neg hc25_101]; done) | (rw [own_inter, if_neg hc25_101]; rfl) | (simp [own_inter, hc25_101]; done)), N0, e0⟩ (by decide) (by decide)
    · have A1 : own_Ar Z h0 a1 .long [(.long x0)] := A_a1
      have A2 : own_Ar Z h0 a2 .long [(.long y0), (.long y1)] := A_a2
      refine own_via (g' := s₁.setTop (mkF m 1 #[.val (.ref a1), .val (.ref a2)] [(.ref a1)])) (fun t k => XS.aloadN X0.here hx rfl (hb hby own_d7_0) rfl (rfl) k) ?_
      refine own_via (g' := s₁.setTop (mkF m 2 #[.val (.ref a1), .val (.ref a2)] [(.int (1 : Int32))])) (fun t k => own_len X0 hx hZ e0 A1 (n := (1 : Int32)) rfl (g := (mkF m 1 #[.val (.ref a1), .val (.ref a2)] [(.ref a1)])) rfl rfl (hb hby own_d7_1) _ k) ?_
      refine own_via (g' := s₁.setTop (mkF m 5 #[.val (.ref a1), .val (.ref a2)] [])) (fun t k => XS.ifNo X0.here hx rfl (hb hby own_d7_2) rfl (XT.i0_eq_f (by decide)) k) ?_
      refine own_via (g' := s₁.setTop (mkF m 6 #[.val (.ref a1), .val (.ref a2)] [(.ref a2)])) (fun t k => XS.aloadN X0.here hx rfl (hb hby own_d7_5) rfl (rfl) k) ?_
      refine own_via (g' := s₁.setTop (mkF m 7 #[.val (.ref a1), .val (.ref a2)] [(.int (2 : Int32))])) (fun t k => own_len X0 hx hZ e0 A2 (n := (2 : Int32)) rfl (g := (mkF m 6 #[.val (.ref a1), .val (.ref a2)] [(.ref a2)])) rfl rfl (hb hby own_d7_6) _ k) ?_
      refine own_via (g' := s₁.setTop (mkF m 12 #[.val (.ref a1), .val (.ref a2)] [])) (fun t k => XS.ifYes X0.here hx rfl (pc0 := 7) (pc' := 12) rfl (hb hby own_d7_7) rfl (XT.i0_ne_t (by decide)) (by decide) (by decide) k) ?_
      refine own_via (g' := s₁.setTop (mkF m 13 #[.val (.ref a1), .val (.ref a2)] [(.ref a1)])) (fun t k => XS.aloadN X0.here hx rfl (hb hby own_d7_12) rfl (rfl) k) ?_
      refine own_via (g' := s₁.setTop (mkF m 14 #[.val (.ref a1), .val (.ref a2)] [(.int (1 : Int32))])) (fun t k => own_len X0 hx hZ e0 A1 (n := (1 : Int32)) rfl (g := (mkF m 13 #[.val (.ref a1), .val (.ref a2)] [(.ref a1)])) rfl rfl (hb hby own_d7_13) _ k) ?_
      refine own_via (g' := s₁.setTop (mkF m 15 #[.val (.ref a1), .val (.ref a2)] [(.int (1 : Int32)), (.int (1 : Int32))])) (fun t k => XS.iconst X0.here hx rfl (hb hby own_d7_14) k) ?_
      refine own_via (g' := s₁.setTop (mkF m 18 #[.val (.ref a1), .val (.ref a2)] [])) (fun t k => XS.icmpNo X0.here hx rfl (hb hby own_d7_15) rfl (XT.ii_ne_f (by decide)) k) ?_
      refine own_via (g' := s₁.setTop (mkF m 19 #[.val (.ref a1), .val (.ref a2)] [(.ref a1)])) (fun t k => XS.aloadN X0.here hx rfl (hb hby own_d7_18) rfl (rfl) k) ?_
      refine own_via (g' := s₁.setTop (mkF m 20 #[.val (.ref a1), .val (.ref a2)] [(.int (0 : Int32)), (.ref a1)])) (fun t k => XS.iconst X0.here hx rfl (hb hby own_d7_19) k) ?_
      refine own_via (g' := s₁.setTop (mkF m 21 #[.val (.ref a1), .val (.ref a2)] [(.long x0)])) (fun t k => own_ldJ X0 hx hZ e0 A1 (j := (0 : Int32)) (v := (.long x0)) (by decide) rfl (g := (mkF m 20 #[.val (.ref a1), .val (.ref a2)] [(.int (0 : Int32)), (.ref a1)])) rfl rfl (hb hby own_d7_20) _ k) ?_
      refine own_via (g' := s₁.setTop (mkF m 22 #[.val (.ref a1), .val (.ref a2)] [(.ref a2), (.long x0)])) (fun t k => XS.aloadN X0.here hx rfl (hb hby own_d7_21) rfl (rfl) k) ?_
      refine own_via (g' := s₁.setTop (mkF m 23 #[.val (.ref a1), .val (.ref a2)] [(.int (0 : Int32)), (.ref a2), (.long x0)])) (fun t k => XS.iconst X0.here hx rfl (hb hby own_d7_22) k) ?_
      refine own_via (g' := s₁.setTop (mkF m 24 #[.val (.ref a1), .val (.ref a2)] [(.long y0), (.long x0)])) (fun t k => own_ldJ X0 hx hZ e0 A2 (j := (0 : Int32)) (v := (.long y0)) (by decide) rfl (g := (mkF m 23 #[.val (.ref a1), .val (.ref a2)] [(.int (0 : Int32)), (.ref a2), (.long x0)])) rfl rfl (hb hby own_d7_23) _ k) ?_
      refine own_via (g' := s₁.setTop (mkF m 25 #[.val (.ref a1), .val (.ref a2)] [(.int (XT.cmpL x0 y0))])) (fun t k => XT.lcmp X0.here hx rfl (hb hby own_d7_24) rfl k) ?_
      by_cases hc25_102 : x0 = y0
      · refine own_via (g' := s₁.setTop (mkF m 44 #[.val (.ref a1), .val (.ref a2)] [])) (fun t k => XS.ifYes X0.here hx rfl (pc0 := 25) (pc' := 44) rfl (hb hby own_d7_25) rfl (XT.ll_eq_t hc25_102) (by decide) (by decide) k) ?_
        refine own_via (g' := s₁.setTop (mkF m 45 #[.val (.ref a1), .val (.ref a2)] [(.long (1 : Int64))])) (fun t k => XT.lconst X0.here hx rfl (hb hby own_d7_44) k) ?_
        refine own_via (g' := s₁.setTop (mkF m 49 #[.val (.ref a1), .val (.ref a2)] [(.long (1 : Int64))])) (fun t k => XS.goto X0.here hx rfl (pc0 := 45) (pc' := 49) rfl (hb hby own_d7_45) (by decide) (by decide) k) ?_
        exact own_retJ X0 hx hlk Bd.returns (hb hby own_d7_49) ⟨(by first | (rw [own_inter, if_pos hc25_102]; done) | (rw [own_inter, if_pos hc25_102]; rfl) | (simp [own_inter, hc25_102]; done)), N0, e0⟩ (by decide) (by decide)
      · refine own_via (g' := s₁.setTop (mkF m 28 #[.val (.ref a1), .val (.ref a2)] [])) (fun t k => XS.ifNo X0.here hx rfl (hb hby own_d7_25) rfl (XT.ll_eq_f hc25_102) k) ?_
        refine own_via (g' := s₁.setTop (mkF m 29 #[.val (.ref a1), .val (.ref a2)] [(.ref a2)])) (fun t k => XS.aloadN X0.here hx rfl (hb hby own_d7_28) rfl (rfl) k) ?_
        refine own_via (g' := s₁.setTop (mkF m 30 #[.val (.ref a1), .val (.ref a2)] [(.int (2 : Int32))])) (fun t k => own_len X0 hx hZ e0 A2 (n := (2 : Int32)) rfl (g := (mkF m 29 #[.val (.ref a1), .val (.ref a2)] [(.ref a2)])) rfl rfl (hb hby own_d7_29) _ k) ?_
        refine own_via (g' := s₁.setTop (mkF m 31 #[.val (.ref a1), .val (.ref a2)] [(.int (2 : Int32)), (.int (2 : Int32))])) (fun t k => XS.iconst X0.here hx rfl (hb hby own_d7_30) k) ?_
        refine own_via (g' := s₁.setTop (mkF m 34 #[.val (.ref a1), .val (.ref a2)] [])) (fun t k => XS.icmpNo X0.here hx rfl (hb hby own_d7_31) rfl (XT.ii_ne_f (by decide)) k) ?_
        refine own_via (g' := s₁.setTop (mkF m 35 #[.val (.ref a1), .val (.ref a2)] [(.ref a1)])) (fun t k => XS.aloadN X0.here hx rfl (hb hby own_d7_34) rfl (rfl) k) ?_
        refine own_via (g' := s₁.setTop (mkF m 36 #[.val (.ref a1), .val (.ref a2)] [(.int (0 : Int32)), (.ref a1)])) (fun t k => XS.iconst X0.here hx rfl (hb hby own_d7_35) k) ?_
        refine own_via (g' := s₁.setTop (mkF m 37 #[.val (.ref a1), .val (.ref a2)] [(.long x0)])) (fun t k => own_ldJ X0 hx hZ e0 A1 (j := (0 : Int32)) (v := (.long x0)) (by decide) rfl (g := (mkF m 36 #[.val (.ref a1), .val (.ref a2)] [(.int (0 : Int32)), (.ref a1)])) rfl rfl (hb hby own_d7_36) _ k) ?_
        refine own_via (g' := s₁.setTop (mkF m 38 #[.val (.ref a1), .val (.ref a2)] [(.ref a2), (.long x0)])) (fun t k => XS.aloadN X0.here hx rfl (hb hby own_d7_37) rfl (rfl) k) ?_
        refine own_via (g' := s₁.setTop (mkF m 39 #[.val (.ref a1), .val (.ref a2)] [(.int (1 : Int32)), (.ref a2), (.long x0)])) (fun t k => XS.iconst X0.here hx rfl (hb hby own_d7_38) k) ?_
        refine own_via (g' := s₁.setTop (mkF m 40 #[.val (.ref a1), .val (.ref a2)] [(.long y1), (.long x0)])) (fun t k => own_ldJ X0 hx hZ e0 A2 (j := (1 : Int32)) (v := (.long y1)) (by decide) rfl (g := (mkF m 39 #[.val (.ref a1), .val (.ref a2)] [(.int (1 : Int32)), (.ref a2), (.long x0)])) rfl rfl (hb hby own_d7_39) _ k) ?_
        refine own_via (g' := s₁.setTop (mkF m 41 #[.val (.ref a1), .val (.ref a2)] [(.int (XT.cmpL x0 y1))])) (fun t k => XT.lcmp X0.here hx rfl (hb hby own_d7_40) rfl k) ?_
        by_cases hc41_103 : x0 = y1
        · refine own_via (g' := s₁.setTop (mkF m 44 #[.val (.ref a1), .val (.ref a2)] [])) (fun t k => XS.ifNo X0.here hx rfl (hb hby own_d7_41) rfl (XT.ll_ne_f hc41_103) k) ?_
          refine own_via (g' := s₁.setTop (mkF m 45 #[.val (.ref a1), .val (.ref a2)] [(.long (1 : Int64))])) (fun t k => XT.lconst X0.here hx rfl (hb hby own_d7_44) k) ?_
          refine own_via (g' := s₁.setTop (mkF m 49 #[.val (.ref a1), .val (.ref a2)] [(.long (1 : Int64))])) (fun t k => XS.goto X0.here hx rfl (pc0 := 45) (pc' := 49) rfl (hb hby own_d7_45) (by decide) (by decide) k) ?_
          exact own_retJ X0 hx hlk Bd.returns (hb hby own_d7_49) ⟨(by first | (rw [own_inter, if_neg hc25_102, if_pos hc41_103]; done) | (rw [own_inter, if_neg hc25_102, if_pos hc41_103]; rfl) | (simp [own_inter, hc25_102, hc41_103]; done)), N0, e0⟩ (by decide) (by decide)
        · refine own_via (g' := s₁.setTop (mkF m 48 #[.val (.ref a1), .val (.ref a2)] [])) (fun t k => XS.ifYes X0.here hx rfl (pc0 := 41) (pc' := 48) rfl (hb hby own_d7_41) rfl (XT.ll_ne_t hc41_103) (by decide) (by decide) k) ?_
          refine own_via (g' := s₁.setTop (mkF m 49 #[.val (.ref a1), .val (.ref a2)] [(.long (0 : Int64))])) (fun t k => XT.lconst X0.here hx rfl (hb hby own_d7_48) k) ?_
          exact own_retJ X0 hx hlk Bd.returns (hb hby own_d7_49) ⟨(by first | (rw [own_inter, if_neg hc25_102, if_neg hc41_103]; done) | (rw [own_inter, if_neg hc25_102, if_neg hc41_103]; rfl) | (simp [own_inter, hc25_102, hc41_103]; done)), N0, e0⟩ (by decide) (by decide)
    · exact absurd hlB (by simp)
  · rcases LB with _ | ⟨y0, _ | ⟨y1, _ | ⟨y2, LB⟩⟩⟩
    · have A1 : own_Ar Z h0 a1 .long [(.long x0), (.long x1)] := A_a1
      have A2 : own_Ar Z h0 a2 .long [] := A_a2
      refine own_via (g' := s₁.setTop (mkF m 1 #[.val (.ref a1), .val (.ref a2)] [(.ref a1)])) (fun t k => XS.aloadN X0.here hx rfl (hb hby own_d7_0) rfl (rfl) k) ?_
      refine own_via (g' := s₁.setTop (mkF m 2 #[.val (.ref a1), .val (.ref a2)] [(.int (2 : Int32))])) (fun t k => own_len X0 hx hZ e0 A1 (n := (2 : Int32)) rfl (g := (mkF m 1 #[.val (.ref a1), .val (.ref a2)] [(.ref a1)])) rfl rfl (hb hby own_d7_1) _ k) ?_
      refine own_via (g' := s₁.setTop (mkF m 5 #[.val (.ref a1), .val (.ref a2)] [])) (fun t k => XS.ifNo X0.here hx rfl (hb hby own_d7_2) rfl (XT.i0_eq_f (by decide)) k) ?_
      refine own_via (g' := s₁.setTop (mkF m 6 #[.val (.ref a1), .val (.ref a2)] [(.ref a2)])) (fun t k => XS.aloadN X0.here hx rfl (hb hby own_d7_5) rfl (rfl) k) ?_
      refine own_via (g' := s₁.setTop (mkF m 7 #[.val (.ref a1), .val (.ref a2)] [(.int (0 : Int32))])) (fun t k => own_len X0 hx hZ e0 A2 (n := (0 : Int32)) rfl (g := (mkF m 6 #[.val (.ref a1), .val (.ref a2)] [(.ref a2)])) rfl rfl (hb hby own_d7_6) _ k) ?_
      refine own_via (g' := s₁.setTop (mkF m 10 #[.val (.ref a1), .val (.ref a2)] [])) (fun t k => XS.ifNo X0.here hx rfl (hb hby own_d7_7) rfl (XT.i0_ne_f (by decide)) k) ?_
      refine own_via (g' := s₁.setTop (mkF m 11 #[.val (.ref a1), .val (.ref a2)] [(.long (0 : Int64))])) (fun t k => XT.lconst X0.here hx rfl (hb hby own_d7_10) k) ?_
      exact own_retJ X0 hx hlk Bd.returns (hb hby own_d7_11) ⟨rfl, N0, e0⟩ (by decide) (by decide)
    · have A1 : own_Ar Z h0 a1 .long [(.long x0), (.long x1)] := A_a1
      have A2 : own_Ar Z h0 a2 .long [(.long y0)] := A_a2
      refine own_via (g' := s₁.setTop (mkF m 1 #[.val (.ref a1), .val (.ref a2)] [(.ref a1)])) (fun t k => XS.aloadN X0.here hx rfl (hb hby own_d7_0) rfl (rfl) k) ?_
      refine own_via (g' := s₁.setTop (mkF m 2 #[.val (.ref a1), .val (.ref a2)] [(.int (2 : Int32))])) (fun t k => own_len X0 hx hZ e0 A1 (n := (2 : Int32)) rfl (g := (mkF m 1 #[.val (.ref a1), .val (.ref a2)] [(.ref a1)])) rfl rfl (hb hby own_d7_1) _ k) ?_
      refine own_via (g' := s₁.setTop (mkF m 5 #[.val (.ref a1), .val (.ref a2)] [])) (fun t k => XS.ifNo X0.here hx rfl (hb hby own_d7_2) rfl (XT.i0_eq_f (by decide)) k) ?_
      refine own_via (g' := s₁.setTop (mkF m 6 #[.val (.ref a1), .val (.ref a2)] [(.ref a2)])) (fun t k => XS.aloadN X0.here hx rfl (hb hby own_d7_5) rfl (rfl) k) ?_
      refine own_via (g' := s₁.setTop (mkF m 7 #[.val (.ref a1), .val (.ref a2)] [(.int (1 : Int32))])) (fun t k => own_len X0 hx hZ e0 A2 (n := (1 : Int32)) rfl (g := (mkF m 6 #[.val (.ref a1), .val (.ref a2)] [(.ref a2)])) rfl rfl (hb hby own_d7_6) _ k) ?_
      refine own_via (g' := s₁.setTop (mkF m 12 #[.val (.ref a1), .val (.ref a2)] [])) (fun t k => XS.ifYes X0.here hx rfl (pc0 := 7) (pc' := 12) rfl (hb hby own_d7_7) rfl (XT.i0_ne_t (by decide)) (by decide) (by decide) k) ?_
      refine own_via (g' := s₁.setTop (mkF m 13 #[.val (.ref a1), .val (.ref a2)] [(.ref a1)])) (fun t k => XS.aloadN X0.here hx rfl (hb hby own_d7_12) rfl (rfl) k) ?_
      refine own_via (g' := s₁.setTop (mkF m 14 #[.val (.ref a1), .val (.ref a2)] [(.int (2 : Int32))])) (fun t k => own_len X0 hx hZ e0 A1 (n := (2 : Int32)) rfl (g := (mkF m 13 #[.val (.ref a1), .val (.ref a2)] [(.ref a1)])) rfl rfl (hb hby own_d7_13) _ k) ?_
      refine own_via (g' := s₁.setTop (mkF m 15 #[.val (.ref a1), .val (.ref a2)] [(.int (1 : Int32)), (.int (2 : Int32))])) (fun t k => XS.iconst X0.here hx rfl (hb hby own_d7_14) k) ?_
      refine own_via (g' := s₁.setTop (mkF m 50 #[.val (.ref a1), .val (.ref a2)] [])) (fun t k => XS.icmpYes X0.here hx rfl (pc0 := 15) (pc' := 50) rfl (hb hby own_d7_15) rfl (XT.ii_ne_t (by decide)) (by decide) (by decide) k) ?_
      refine own_via (g' := s₁.setTop (mkF m 51 #[.val (.ref a1), .val (.ref a2)] [(.ref a2)])) (fun t k => XS.aloadN X0.here hx rfl (hb hby own_d7_50) rfl (rfl) k) ?_
      refine own_via (g' := s₁.setTop (mkF m 52 #[.val (.ref a1), .val (.ref a2)] [(.int (1 : Int32))])) (fun t k => own_len X0 hx hZ e0 A2 (n := (1 : Int32)) rfl (g := (mkF m 51 #[.val (.ref a1), .val (.ref a2)] [(.ref a2)])) rfl rfl (hb hby own_d7_51) _ k) ?_
      refine own_via (g' := s₁.setTop (mkF m 53 #[.val (.ref a1), .val (.ref a2)] [(.int (1 : Int32)), (.int (1 : Int32))])) (fun t k => XS.iconst X0.here hx rfl (hb hby own_d7_52) k) ?_
      refine own_via (g' := s₁.setTop (mkF m 56 #[.val (.ref a1), .val (.ref a2)] [])) (fun t k => XS.icmpNo X0.here hx rfl (hb hby own_d7_53) rfl (XT.ii_ne_f (by decide)) k) ?_
      refine own_via (g' := s₁.setTop (mkF m 57 #[.val (.ref a1), .val (.ref a2)] [(.ref a2)])) (fun t k => XS.aloadN X0.here hx rfl (hb hby own_d7_56) rfl (rfl) k) ?_
      refine own_via (g' := s₁.setTop (mkF m 58 #[.val (.ref a1), .val (.ref a2)] [(.int (0 : Int32)), (.ref a2)])) (fun t k => XS.iconst X0.here hx rfl (hb hby own_d7_57) k) ?_
      refine own_via (g' := s₁.setTop (mkF m 59 #[.val (.ref a1), .val (.ref a2)] [(.long y0)])) (fun t k => own_ldJ X0 hx hZ e0 A2 (j := (0 : Int32)) (v := (.long y0)) (by decide) rfl (g := (mkF m 58 #[.val (.ref a1), .val (.ref a2)] [(.int (0 : Int32)), (.ref a2)])) rfl rfl (hb hby own_d7_58) _ k) ?_
      refine own_via (g' := s₁.setTop (mkF m 60 #[.val (.ref a1), .val (.ref a2)] [(.ref a1), (.long y0)])) (fun t k => XS.aloadN X0.here hx rfl (hb hby own_d7_59) rfl (rfl) k) ?_
      refine own_via (g' := s₁.setTop (mkF m 61 #[.val (.ref a1), .val (.ref a2)] [(.int (0 : Int32)), (.ref a1), (.long y0)])) (fun t k => XS.iconst X0.here hx rfl (hb hby own_d7_60) k) ?_
      refine own_via (g' := s₁.setTop (mkF m 62 #[.val (.ref a1), .val (.ref a2)] [(.long x0), (.long y0)])) (fun t k => own_ldJ X0 hx hZ e0 A1 (j := (0 : Int32)) (v := (.long x0)) (by decide) rfl (g := (mkF m 61 #[.val (.ref a1), .val (.ref a2)] [(.int (0 : Int32)), (.ref a1), (.long y0)])) rfl rfl (hb hby own_d7_61) _ k) ?_
      refine own_via (g' := s₁.setTop (mkF m 63 #[.val (.ref a1), .val (.ref a2)] [(.int (XT.cmpL y0 x0))])) (fun t k => XT.lcmp X0.here hx rfl (hb hby own_d7_62) rfl k) ?_
      by_cases hc63_104 : y0 = x0
      · refine own_via (g' := s₁.setTop (mkF m 76 #[.val (.ref a1), .val (.ref a2)] [])) (fun t k => XS.ifYes X0.here hx rfl (pc0 := 63) (pc' := 76) rfl (hb hby own_d7_63) rfl (XT.ll_eq_t hc63_104) (by decide) (by decide) k) ?_
        refine own_via (g' := s₁.setTop (mkF m 77 #[.val (.ref a1), .val (.ref a2)] [(.long (1 : Int64))])) (fun t k => XT.lconst X0.here hx rfl (hb hby own_d7_76) k) ?_
        refine own_via (g' := s₁.setTop (mkF m 81 #[.val (.ref a1), .val (.ref a2)] [(.long (1 : Int64))])) (fun t k => XS.goto X0.here hx rfl (pc0 := 77) (pc' := 81) rfl (hb hby own_d7_77) (by decide) (by decide) k) ?_
        exact own_retJ X0 hx hlk Bd.returns (hb hby own_d7_81) ⟨(by first | (rw [own_inter, if_pos hc63_104]; done) | (rw [own_inter, if_pos hc63_104]; rfl) | (simp [own_inter, hc63_104]; done)), N0, e0⟩ (by decide) (by decide)
      · refine own_via (g' := s₁.setTop (mkF m 66 #[.val (.ref a1), .val (.ref a2)] [])) (fun t k => XS.ifNo X0.here hx rfl (hb hby own_d7_63) rfl (XT.ll_eq_f hc63_104) k) ?_
        refine own_via (g' := s₁.setTop (mkF m 67 #[.val (.ref a1), .val (.ref a2)] [(.ref a2)])) (fun t k => XS.aloadN X0.here hx rfl (hb hby own_d7_66) rfl (rfl) k) ?_
        refine own_via (g' := s₁.setTop (mkF m 68 #[.val (.ref a1), .val (.ref a2)] [(.int (0 : Int32)), (.ref a2)])) (fun t k => XS.iconst X0.here hx rfl (hb hby own_d7_67) k) ?_
        refine own_via (g' := s₁.setTop (mkF m 69 #[.val (.ref a1), .val (.ref a2)] [(.long y0)])) (fun t k => own_ldJ X0 hx hZ e0 A2 (j := (0 : Int32)) (v := (.long y0)) (by decide) rfl (g := (mkF m 68 #[.val (.ref a1), .val (.ref a2)] [(.int (0 : Int32)), (.ref a2)])) rfl rfl (hb hby own_d7_68) _ k) ?_
        refine own_via (g' := s₁.setTop (mkF m 70 #[.val (.ref a1), .val (.ref a2)] [(.ref a1), (.long y0)])) (fun t k => XS.aloadN X0.here hx rfl (hb hby own_d7_69) rfl (rfl) k) ?_
        refine own_via (g' := s₁.setTop (mkF m 71 #[.val (.ref a1), .val (.ref a2)] [(.int (1 : Int32)), (.ref a1), (.long y0)])) (fun t k => XS.iconst X0.here hx rfl (hb hby own_d7_70) k) ?_
        refine own_via (g' := s₁.setTop (mkF m 72 #[.val (.ref a1), .val (.ref a2)] [(.long x1), (.long y0)])) (fun t k => own_ldJ X0 hx hZ e0 A1 (j := (1 : Int32)) (v := (.long x1)) (by decide) rfl (g := (mkF m 71 #[.val (.ref a1), .val (.ref a2)] [(.int (1 : Int32)), (.ref a1), (.long y0)])) rfl rfl (hb hby own_d7_71) _ k) ?_
        refine own_via (g' := s₁.setTop (mkF m 73 #[.val (.ref a1), .val (.ref a2)] [(.int (XT.cmpL y0 x1))])) (fun t k => XT.lcmp X0.here hx rfl (hb hby own_d7_72) rfl k) ?_
        by_cases hc73_105 : y0 = x1
        · refine own_via (g' := s₁.setTop (mkF m 76 #[.val (.ref a1), .val (.ref a2)] [])) (fun t k => XS.ifNo X0.here hx rfl (hb hby own_d7_73) rfl (XT.ll_ne_f hc73_105) k) ?_
          refine own_via (g' := s₁.setTop (mkF m 77 #[.val (.ref a1), .val (.ref a2)] [(.long (1 : Int64))])) (fun t k => XT.lconst X0.here hx rfl (hb hby own_d7_76) k) ?_
          refine own_via (g' := s₁.setTop (mkF m 81 #[.val (.ref a1), .val (.ref a2)] [(.long (1 : Int64))])) (fun t k => XS.goto X0.here hx rfl (pc0 := 77) (pc' := 81) rfl (hb hby own_d7_77) (by decide) (by decide) k) ?_
          exact own_retJ X0 hx hlk Bd.returns (hb hby own_d7_81) ⟨(by first | (rw [own_inter, if_neg hc63_104, if_pos hc73_105]; done) | (rw [own_inter, if_neg hc63_104, if_pos hc73_105]; rfl) | (simp [own_inter, hc63_104, hc73_105]; done)), N0, e0⟩ (by decide) (by decide)
        · refine own_via (g' := s₁.setTop (mkF m 80 #[.val (.ref a1), .val (.ref a2)] [])) (fun t k => XS.ifYes X0.here hx rfl (pc0 := 73) (pc' := 80) rfl (hb hby own_d7_73) rfl (XT.ll_ne_t hc73_105) (by decide) (by decide) k) ?_
          refine own_via (g' := s₁.setTop (mkF m 81 #[.val (.ref a1), .val (.ref a2)] [(.long (0 : Int64))])) (fun t k => XT.lconst X0.here hx rfl (hb hby own_d7_80) k) ?_
          exact own_retJ X0 hx hlk Bd.returns (hb hby own_d7_81) ⟨(by first | (rw [own_inter, if_neg hc63_104, if_neg hc73_105]; done) | (rw [own_inter, if_neg hc63_104, if_neg hc73_105]; rfl) | (simp [own_inter, hc63_104, hc73_105]; done)), N0, e0⟩ (by decide) (by decide)
    · have A1 : own_Ar Z h0 a1 .long [(.long x0), (.long x1)] := A_a1
      have A2 : own_Ar Z h0 a2 .long [(.long y0), (.long y1)] := A_a2
      refine own_via (g' := s₁.setTop (mkF m 1 #[.val (.ref a1), .val (.ref a2)] [(.ref a1)])) (fun t k => XS.aloadN X0.here hx rfl (hb hby own_d7_0) rfl (rfl) k) ?_
      refine own_via (g' := s₁.setTop (mkF m 2 #[.val (.ref a1), .val (.ref a2)] [(.int (2 : Int32))])) (fun t k => own_len X0 hx hZ e0 A1 (n := (2 : Int32)) rfl (g := (mkF m 1 #[.val (.ref a1), .val (.ref a2)] [(.ref a1)])) rfl rfl (hb hby own_d7_1) _ k) ?_
      refine own_via (g' := s₁.setTop (mkF m 5 #[.val (.ref a1), .val (.ref a2)] [])) (fun t k => XS.ifNo X0.here hx rfl (hb hby own_d7_2) rfl (XT.i0_eq_f (by decide)) k) ?_
      refine own_via (g' := s₁.setTop (mkF m 6 #[.val (.ref a1), .val (.ref a2)] [(.ref a2)])) (fun t k => XS.aloadN X0.here hx rfl (hb hby own_d7_5) rfl (rfl) k) ?_
      refine own_via (g' := s₁.setTop (mkF m 7 #[.val (.ref a1), .val (.ref a2)] [(.int (2 : Int32))])) (fun t k => own_len X0 hx hZ e0 A2 (n := (2 : Int32)) rfl (g := (mkF m 6 #[.val (.ref a1), .val (.ref a2)] [(.ref a2)])) rfl rfl (hb hby own_d7_6) _ k) ?_
      refine own_via (g' := s₁.setTop (mkF m 12 #[.val (.ref a1), .val (.ref a2)] [])) (fun t k => XS.ifYes X0.here hx rfl (pc0 := 7) (pc' := 12) rfl (hb hby own_d7_7) rfl (XT.i0_ne_t (by decide)) (by decide) (by decide) k) ?_
      refine own_via (g' := s₁.setTop (mkF m 13 #[.val (.ref a1), .val (.ref a2)] [(.ref a1)])) (fun t k => XS.aloadN X0.here hx rfl (hb hby own_d7_12) rfl (rfl) k) ?_
      refine own_via (g' := s₁.setTop (mkF m 14 #[.val (.ref a1), .val (.ref a2)] [(.int (2 : Int32))])) (fun t k => own_len X0 hx hZ e0 A1 (n := (2 : Int32)) rfl (g := (mkF m 13 #[.val (.ref a1), .val (.ref a2)] [(.ref a1)])) rfl rfl (hb hby own_d7_13) _ k) ?_
      refine own_via (g' := s₁.setTop (mkF m 15 #[.val (.ref a1), .val (.ref a2)] [(.int (1 : Int32)), (.int (2 : Int32))])) (fun t k => XS.iconst X0.here hx rfl (hb hby own_d7_14) k) ?_
      refine own_via (g' := s₁.setTop (mkF m 50 #[.val (.ref a1), .val (.ref a2)] [])) (fun t k => XS.icmpYes X0.here hx rfl (pc0 := 15) (pc' := 50) rfl (hb hby own_d7_15) rfl (XT.ii_ne_t (by decide)) (by decide) (by decide) k) ?_
      refine own_via (g' := s₁.setTop (mkF m 51 #[.val (.ref a1), .val (.ref a2)] [(.ref a2)])) (fun t k => XS.aloadN X0.here hx rfl (hb hby own_d7_50) rfl (rfl) k) ?_
      refine own_via (g' := s₁.setTop (mkF m 52 #[.val (.ref a1), .val (.ref a2)] [(.int (2 : Int32))])) (fun t k => own_len X0 hx hZ e0 A2 (n := (2 : Int32)) rfl (g := (mkF m 51 #[.val (.ref a1), .val (.ref a2)] [(.ref a2)])) rfl rfl (hb hby own_d7_51) _ k) ?_
      refine own_via (g' := s₁.setTop (mkF m 53 #[.val (.ref a1), .val (.ref a2)] [(.int (1 : Int32)), (.int (2 : Int32))])) (fun t k => XS.iconst X0.here hx rfl (hb hby own_d7_52) k) ?_
      refine own_via (g' := s₁.setTop (mkF m 82 #[.val (.ref a1), .val (.ref a2)] [])) (fun t k => XS.icmpYes X0.here hx rfl (pc0 := 53) (pc' := 82) rfl (hb hby own_d7_53) rfl (XT.ii_ne_t (by decide)) (by decide) (by decide) k) ?_
      refine own_via (g' := s₁.setTop (mkF m 83 #[.val (.ref a1), .val (.ref a2)] [(.ref a1)])) (fun t k => XS.aloadN X0.here hx rfl (hb hby own_d7_82) rfl (rfl) k) ?_
      refine own_via (g' := s₁.setTop (mkF m 84 #[.val (.ref a1), .val (.ref a2)] [(.int (0 : Int32)), (.ref a1)])) (fun t k => XS.iconst X0.here hx rfl (hb hby own_d7_83) k) ?_
      refine own_via (g' := s₁.setTop (mkF m 85 #[.val (.ref a1), .val (.ref a2)] [(.long x0)])) (fun t k => own_ldJ X0 hx hZ e0 A1 (j := (0 : Int32)) (v := (.long x0)) (by decide) rfl (g := (mkF m 84 #[.val (.ref a1), .val (.ref a2)] [(.int (0 : Int32)), (.ref a1)])) rfl rfl (hb hby own_d7_84) _ k) ?_
      refine own_via (g' := s₁.setTop (mkF m 86 #[.val (.ref a1), .val (.ref a2)] [(.ref a2), (.long x0)])) (fun t k => XS.aloadN X0.here hx rfl (hb hby own_d7_85) rfl (rfl) k) ?_
      refine own_via (g' := s₁.setTop (mkF m 87 #[.val (.ref a1), .val (.ref a2)] [(.int (0 : Int32)), (.ref a2), (.long x0)])) (fun t k => XS.iconst X0.here hx rfl (hb hby own_d7_86) k) ?_
      refine own_via (g' := s₁.setTop (mkF m 88 #[.val (.ref a1), .val (.ref a2)] [(.long y0), (.long x0)])) (fun t k => own_ldJ X0 hx hZ e0 A2 (j := (0 : Int32)) (v := (.long y0)) (by decide) rfl (g := (mkF m 87 #[.val (.ref a1), .val (.ref a2)] [(.int (0 : Int32)), (.ref a2), (.long x0)])) rfl rfl (hb hby own_d7_87) _ k) ?_
      refine own_via (g' := s₁.setTop (mkF m 89 #[.val (.ref a1), .val (.ref a2)] [(.int (XT.cmpL x0 y0))])) (fun t k => XT.lcmp X0.here hx rfl (hb hby own_d7_88) rfl k) ?_
      by_cases hc89_106 : x0 = y0
      · refine own_via (g' := s₁.setTop (mkF m 92 #[.val (.ref a1), .val (.ref a2)] [])) (fun t k => XS.ifNo X0.here hx rfl (hb hby own_d7_89) rfl (XT.ll_ne_f hc89_106) k) ?_
        refine own_via (g' := s₁.setTop (mkF m 93 #[.val (.ref a1), .val (.ref a2)] [(.int (1 : Int32))])) (fun t k => XS.iconst X0.here hx rfl (hb hby own_d7_92) k) ?_
        refine own_via (g' := s₁.setTop (mkF m 94 #[.val (.ref a1), .val (.ref a2)] [(.ref a1), (.int (1 : Int32))])) (fun t k => XS.aloadN X0.here hx rfl (hb hby own_d7_93) rfl (rfl) k) ?_
        refine own_via (g' := s₁.setTop (mkF m 95 #[.val (.ref a1), .val (.ref a2)] [(.int (1 : Int32)), (.ref a1), (.int (1 : Int32))])) (fun t k => XS.iconst X0.here hx rfl (hb hby own_d7_94) k) ?_
        refine own_via (g' := s₁.setTop (mkF m 96 #[.val (.ref a1), .val (.ref a2)] [(.long x1), (.int (1 : Int32))])) (fun t k => own_ldJ X0 hx hZ e0 A1 (j := (1 : Int32)) (v := (.long x1)) (by decide) rfl (g := (mkF m 95 #[.val (.ref a1), .val (.ref a2)] [(.int (1 : Int32)), (.ref a1), (.int (1 : Int32))])) rfl rfl (hb hby own_d7_95) _ k) ?_
        refine own_via (g' := s₁.setTop (mkF m 97 #[.val (.ref a1), .val (.ref a2)] [(.ref a2), (.long x1), (.int (1 : Int32))])) (fun t k => XS.aloadN X0.here hx rfl (hb hby own_d7_96) rfl (rfl) k) ?_
        refine own_via (g' := s₁.setTop (mkF m 98 #[.val (.ref a1), .val (.ref a2)] [(.int (1 : Int32)), (.ref a2), (.long x1), (.int (1 : Int32))])) (fun t k => XS.iconst X0.here hx rfl (hb hby own_d7_97) k) ?_
        refine own_via (g' := s₁.setTop (mkF m 99 #[.val (.ref a1), .val (.ref a2)] [(.long y1), (.long x1), (.int (1 : Int32))])) (fun t k => own_ldJ X0 hx hZ e0 A2 (j := (1 : Int32)) (v := (.long y1)) (by decide) rfl (g := (mkF m 98 #[.val (.ref a1), .val (.ref a2)] [(.int (1 : Int32)), (.ref a2), (.long x1), (.int (1 : Int32))])) rfl rfl (hb hby own_d7_98) _ k) ?_
        refine own_via (g' := s₁.setTop (mkF m 100 #[.val (.ref a1), .val (.ref a2)] [(.int (XT.cmpL x1 y1)), (.int (1 : Int32))])) (fun t k => XT.lcmp X0.here hx rfl (hb hby own_d7_99) rfl k) ?_
        by_cases hc100_107 : x1 = y1
        · refine own_via (g' := s₁.setTop (mkF m 103 #[.val (.ref a1), .val (.ref a2)] [(.int (1 : Int32))])) (fun t k => XS.ifNo X0.here hx rfl (hb hby own_d7_100) rfl (XT.ll_ne_f hc100_107) k) ?_
          refine own_via (g' := s₁.setTop (mkF m 104 #[.val (.ref a1), .val (.ref a2)] [(.int (1 : Int32)), (.int (1 : Int32))])) (fun t k => XS.iconst X0.here hx rfl (hb hby own_d7_103) k) ?_
          refine own_via (g' := s₁.setTop (mkF m 108 #[.val (.ref a1), .val (.ref a2)] [(.int (1 : Int32)), (.int (1 : Int32))])) (fun t k => XS.goto X0.here hx rfl (pc0 := 104) (pc' := 108) rfl (hb hby own_d7_104) (by decide) (by decide) k) ?_
          refine own_via (g' := s₁.setTop (mkF m 109 #[.val (.ref a1), .val (.ref a2)] [(.int ((1 : Int32) + (1 : Int32)))])) (fun t k => XS.iadd X0.here hx rfl (hb hby own_d7_108) rfl k) ?_
          rw [show ((1 : Int32) + (1 : Int32)) = (2 : Int32) from by decide]
          refine own_via (g' := s₁.setTop (mkF m 110 #[.val (.ref a1), .val (.ref a2)] [(.long ((2 : Int32).toInt64))])) (fun t k => XT.i2l X0.here hx rfl (hb hby own_d7_109) rfl k) ?_
          exact own_retJ X0 hx hlk Bd.returns (hb hby own_d7_110) ⟨(by first | (rw [own_inter, if_pos hc89_106, if_pos hc100_107]; done) | (rw [own_inter, if_pos hc89_106, if_pos hc100_107]; rfl) | (simp [own_inter, hc89_106, hc100_107]; done)), N0, e0⟩ (by decide) (by decide)
        · refine own_via (g' := s₁.setTop (mkF m 107 #[.val (.ref a1), .val (.ref a2)] [(.int (1 : Int32))])) (fun t k => XS.ifYes X0.here hx rfl (pc0 := 100) (pc' := 107) rfl (hb hby own_d7_100) rfl (XT.ll_ne_t hc100_107) (by decide) (by decide) k) ?_
          refine own_via (g' := s₁.setTop (mkF m 108 #[.val (.ref a1), .val (.ref a2)] [(.int (0 : Int32)), (.int (1 : Int32))])) (fun t k => XS.iconst X0.here hx rfl (hb hby own_d7_107) k) ?_
          refine own_via (g' := s₁.setTop (mkF m 109 #[.val (.ref a1), .val (.ref a2)] [(.int ((1 : Int32) + (0 : Int32)))])) (fun t k => XS.iadd X0.here hx rfl (hb hby own_d7_108) rfl k) ?_
          rw [show ((1 : Int32) + (0 : Int32)) = (1 : Int32) from by decide]
          refine own_via (g' := s₁.setTop (mkF m 110 #[.val (.ref a1), .val (.ref a2)] [(.long ((1 : Int32).toInt64))])) (fun t k => XT.i2l X0.here hx rfl (hb hby own_d7_109) rfl k) ?_
          exact own_retJ X0 hx hlk Bd.returns (hb hby own_d7_110) ⟨(by first | (rw [own_inter, if_pos hc89_106, if_neg hc100_107]; done) | (rw [own_inter, if_pos hc89_106, if_neg hc100_107]; rfl) | (simp [own_inter, hc89_106, hc100_107]; done)), N0, e0⟩ (by decide) (by decide)
      · refine own_via (g' := s₁.setTop (mkF m 111 #[.val (.ref a1), .val (.ref a2)] [])) (fun t k => XS.ifYes X0.here hx rfl (pc0 := 89) (pc' := 111) rfl (hb hby own_d7_89) rfl (XT.ll_ne_t hc89_106) (by decide) (by decide) k) ?_
        refine own_via (g' := s₁.setTop (mkF m 112 #[.val (.ref a1), .val (.ref a2)] [(.ref a1)])) (fun t k => XS.aloadN X0.here hx rfl (hb hby own_d7_111) rfl (rfl) k) ?_
        refine own_via (g' := s₁.setTop (mkF m 113 #[.val (.ref a1), .val (.ref a2)] [(.int (0 : Int32)), (.ref a1)])) (fun t k => XS.iconst X0.here hx rfl (hb hby own_d7_112) k) ?_
        refine own_via (g' := s₁.setTop (mkF m 114 #[.val (.ref a1), .val (.ref a2)] [(.long x0)])) (fun t k => own_ldJ X0 hx hZ e0 A1 (j := (0 : Int32)) (v := (.long x0)) (by decide) rfl (g := (mkF m 113 #[.val (.ref a1), .val (.ref a2)] [(.int (0 : Int32)), (.ref a1)])) rfl rfl (hb hby own_d7_113) _ k) ?_
        refine own_via (g' := s₁.setTop (mkF m 115 #[.val (.ref a1), .val (.ref a2)] [(.ref a2), (.long x0)])) (fun t k => XS.aloadN X0.here hx rfl (hb hby own_d7_114) rfl (rfl) k) ?_
        refine own_via (g' := s₁.setTop (mkF m 116 #[.val (.ref a1), .val (.ref a2)] [(.int (1 : Int32)), (.ref a2), (.long x0)])) (fun t k => XS.iconst X0.here hx rfl (hb hby own_d7_115) k) ?_
        refine own_via (g' := s₁.setTop (mkF m 117 #[.val (.ref a1), .val (.ref a2)] [(.long y1), (.long x0)])) (fun t k => own_ldJ X0 hx hZ e0 A2 (j := (1 : Int32)) (v := (.long y1)) (by decide) rfl (g := (mkF m 116 #[.val (.ref a1), .val (.ref a2)] [(.int (1 : Int32)), (.ref a2), (.long x0)])) rfl rfl (hb hby own_d7_116) _ k) ?_
        refine own_via (g' := s₁.setTop (mkF m 118 #[.val (.ref a1), .val (.ref a2)] [(.int (XT.cmpL x0 y1))])) (fun t k => XT.lcmp X0.here hx rfl (hb hby own_d7_117) rfl k) ?_
        by_cases hc118_108 : x0 = y1
        · refine own_via (g' := s₁.setTop (mkF m 121 #[.val (.ref a1), .val (.ref a2)] [])) (fun t k => XS.ifNo X0.here hx rfl (hb hby own_d7_118) rfl (XT.ll_ne_f hc118_108) k) ?_
          refine own_via (g' := s₁.setTop (mkF m 122 #[.val (.ref a1), .val (.ref a2)] [(.int (1 : Int32))])) (fun t k => XS.iconst X0.here hx rfl (hb hby own_d7_121) k) ?_
          refine own_via (g' := s₁.setTop (mkF m 123 #[.val (.ref a1), .val (.ref a2)] [(.ref a1), (.int (1 : Int32))])) (fun t k => XS.aloadN X0.here hx rfl (hb hby own_d7_122) rfl (rfl) k) ?_
          refine own_via (g' := s₁.setTop (mkF m 124 #[.val (.ref a1), .val (.ref a2)] [(.int (1 : Int32)), (.ref a1), (.int (1 : Int32))])) (fun t k => XS.iconst X0.here hx rfl (hb hby own_d7_123) k) ?_
          refine own_via (g' := s₁.setTop (mkF m 125 #[.val (.ref a1), .val (.ref a2)] [(.long x1), (.int (1 : Int32))])) (fun t k => own_ldJ X0 hx hZ e0 A1 (j := (1 : Int32)) (v := (.long x1)) (by decide) rfl (g := (mkF m 124 #[.val (.ref a1), .val (.ref a2)] [(.int (1 : Int32)), (.ref a1), (.int (1 : Int32))])) rfl rfl (hb hby own_d7_124) _ k) ?_
          refine own_via (g' := s₁.setTop (mkF m 126 #[.val (.ref a1), .val (.ref a2)] [(.ref a2), (.long x1), (.int (1 : Int32))])) (fun t k => XS.aloadN X0.here hx rfl (hb hby own_d7_125) rfl (rfl) k) ?_
          refine own_via (g' := s₁.setTop (mkF m 127 #[.val (.ref a1), .val (.ref a2)] [(.int (0 : Int32)), (.ref a2), (.long x1), (.int (1 : Int32))])) (fun t k => XS.iconst X0.here hx rfl (hb hby own_d7_126) k) ?_
          refine own_via (g' := s₁.setTop (mkF m 128 #[.val (.ref a1), .val (.ref a2)] [(.long y0), (.long x1), (.int (1 : Int32))])) (fun t k => own_ldJ X0 hx hZ e0 A2 (j := (0 : Int32)) (v := (.long y0)) (by decide) rfl (g := (mkF m 127 #[.val (.ref a1), .val (.ref a2)] [(.int (0 : Int32)), (.ref a2), (.long x1), (.int (1 : Int32))])) rfl rfl (hb hby own_d7_127) _ k) ?_
          refine own_via (g' := s₁.setTop (mkF m 129 #[.val (.ref a1), .val (.ref a2)] [(.int (XT.cmpL x1 y0)), (.int (1 : Int32))])) (fun t k => XT.lcmp X0.here hx rfl (hb hby own_d7_128) rfl k) ?_
          by_cases hc129_109 : x1 = y0
          · refine own_via (g' := s₁.setTop (mkF m 132 #[.val (.ref a1), .val (.ref a2)] [(.int (1 : Int32))])) (fun t k => XS.ifNo X0.here hx rfl (hb hby own_d7_129) rfl (XT.ll_ne_f hc129_109) k) ?_
            refine own_via (g' := s₁.setTop (mkF m 133 #[.val (.ref a1), .val (.ref a2)] [(.int (1 : Int32)), (.int (1 : Int32))])) (fun t k => XS.iconst X0.here hx rfl (hb hby own_d7_132) k) ?_
            refine own_via (g' := s₁.setTop (mkF m 137 #[.val (.ref a1), .val (.ref a2)] [(.int (1 : Int32)), (.int (1 : Int32))])) (fun t k => XS.goto X0.here hx rfl (pc0 := 133) (pc' := 137) rfl (hb hby own_d7_133) (by decide) (by decide) k) ?_
            refine own_via (g' := s₁.setTop (mkF m 138 #[.val (.ref a1), .val (.ref a2)] [(.int ((1 : Int32) + (1 : Int32)))])) (fun t k => XS.iadd X0.here hx rfl (hb hby own_d7_137) rfl k) ?_
            rw [show ((1 : Int32) + (1 : Int32)) = (2 : Int32) from by decide]
            refine own_via (g' := s₁.setTop (mkF m 139 #[.val (.ref a1), .val (.ref a2)] [(.long ((2 : Int32).toInt64))])) (fun t k => XT.i2l X0.here hx rfl (hb hby own_d7_138) rfl k) ?_
            exact own_retJ X0 hx hlk Bd.returns (hb hby own_d7_139) ⟨(by first | (rw [own_inter, if_neg hc89_106, if_pos hc118_108, if_pos hc129_109]; done) | (rw [own_inter, if_neg hc89_106, if_pos hc118_108, if_pos hc129_109]; rfl) | (simp [own_inter, hc89_106, hc118_108, hc129_109]; done)), N0, e0⟩ (by decide) (by decide)
          · refine own_via (g' := s₁.setTop (mkF m 136 #[.val (.ref a1), .val (.ref a2)] [(.int (1 : Int32))])) (fun t k => XS.ifYes X0.here hx rfl (pc0 := 129) (pc' := 136) rfl (hb hby own_d7_129) rfl (XT.ll_ne_t hc129_109) (by decide) (by decide) k) ?_
            refine own_via (g' := s₁.setTop (mkF m 137 #[.val (.ref a1), .val (.ref a2)] [(.int (0 : Int32)), (.int (1 : Int32))])) (fun t k => XS.iconst X0.here hx rfl (hb hby own_d7_136) k) ?_
            refine own_via (g' := s₁.setTop (mkF m 138 #[.val (.ref a1), .val (.ref a2)] [(.int ((1 : Int32) + (0 : Int32)))])) (fun t k => XS.iadd X0.here hx rfl (hb hby own_d7_137) rfl k) ?_
            rw [show ((1 : Int32) + (0 : Int32)) = (1 : Int32) from by decide]
            refine own_via (g' := s₁.setTop (mkF m 139 #[.val (.ref a1), .val (.ref a2)] [(.long ((1 : Int32).toInt64))])) (fun t k => XT.i2l X0.here hx rfl (hb hby own_d7_138) rfl k) ?_
            exact own_retJ X0 hx hlk Bd.returns (hb hby own_d7_139) ⟨(by first | (rw [own_inter, if_neg hc89_106, if_pos hc118_108, if_neg hc129_109]; done) | (rw [own_inter, if_neg hc89_106, if_pos hc118_108, if_neg hc129_109]; rfl) | (simp [own_inter, hc89_106, hc118_108, hc129_109]; done)), N0, e0⟩ (by decide) (by decide)
        · refine own_via (g' := s₁.setTop (mkF m 140 #[.val (.ref a1), .val (.ref a2)] [])) (fun t k => XS.ifYes X0.here hx rfl (pc0 := 118) (pc' := 140) rfl (hb hby own_d7_118) rfl (XT.ll_ne_t hc118_108) (by decide) (by decide) k) ?_
          refine own_via (g' := s₁.setTop (mkF m 141 #[.val (.ref a1), .val (.ref a2)] [(.ref a1)])) (fun t k => XS.aloadN X0.here hx rfl (hb hby own_d7_140) rfl (rfl) k) ?_
          refine own_via (g' := s₁.setTop (mkF m 142 #[.val (.ref a1), .val (.ref a2)] [(.int (1 : Int32)), (.ref a1)])) (fun t k => XS.iconst X0.here hx rfl (hb hby own_d7_141) k) ?_
          refine own_via (g' := s₁.setTop (mkF m 143 #[.val (.ref a1), .val (.ref a2)] [(.long x1)])) (fun t k => own_ldJ X0 hx hZ e0 A1 (j := (1 : Int32)) (v := (.long x1)) (by decide) rfl (g := (mkF m 142 #[.val (.ref a1), .val (.ref a2)] [(.int (1 : Int32)), (.ref a1)])) rfl rfl (hb hby own_d7_142) _ k) ?_
          refine own_via (g' := s₁.setTop (mkF m 144 #[.val (.ref a1), .val (.ref a2)] [(.ref a2), (.long x1)])) (fun t k => XS.aloadN X0.here hx rfl (hb hby own_d7_143) rfl (rfl) k) ?_
          refine own_via (g' := s₁.setTop (mkF m 145 #[.val (.ref a1), .val (.ref a2)] [(.int (0 : Int32)), (.ref a2), (.long x1)])) (fun t k => XS.iconst X0.here hx rfl (hb hby own_d7_144) k) ?_
          refine own_via (g' := s₁.setTop (mkF m 146 #[.val (.ref a1), .val (.ref a2)] [(.long y0), (.long x1)])) (fun t k => own_ldJ X0 hx hZ e0 A2 (j := (0 : Int32)) (v := (.long y0)) (by decide) rfl (g := (mkF m 145 #[.val (.ref a1), .val (.ref a2)] [(.int (0 : Int32)), (.ref a2), (.long x1)])) rfl rfl (hb hby own_d7_145) _ k) ?_
          refine own_via (g' := s₁.setTop (mkF m 147 #[.val (.ref a1), .val (.ref a2)] [(.int (XT.cmpL x1 y0))])) (fun t k => XT.lcmp X0.here hx rfl (hb hby own_d7_146) rfl k) ?_
          by_cases hc147_110 : x1 = y0
          · refine own_via (g' := s₁.setTop (mkF m 160 #[.val (.ref a1), .val (.ref a2)] [])) (fun t k => XS.ifYes X0.here hx rfl (pc0 := 147) (pc' := 160) rfl (hb hby own_d7_147) rfl (XT.ll_eq_t hc147_110) (by decide) (by decide) k) ?_
            refine own_via (g' := s₁.setTop (mkF m 161 #[.val (.ref a1), .val (.ref a2)] [(.long (1 : Int64))])) (fun t k => XT.lconst X0.here hx rfl (hb hby own_d7_160) k) ?_
            exact own_retJ X0 hx hlk Bd.returns (hb hby own_d7_161) ⟨(by first | (rw [own_inter, if_neg hc89_106, if_neg hc118_108, if_pos hc147_110]; done) | (rw [own_inter, if_neg hc89_106, if_neg hc118_108, if_pos hc147_110]; rfl) | (simp [own_inter, hc89_106, hc118_108, hc147_110]; done)), N0, e0⟩ (by decide) (by decide)
          · refine own_via (g' := s₁.setTop (mkF m 150 #[.val (.ref a1), .val (.ref a2)] [])) (fun t k => XS.ifNo X0.here hx rfl (hb hby own_d7_147) rfl (XT.ll_eq_f hc147_110) k) ?_
            refine own_via (g' := s₁.setTop (mkF m 151 #[.val (.ref a1), .val (.ref a2)] [(.ref a1)])) (fun t k => XS.aloadN X0.here hx rfl (hb hby own_d7_150) rfl (rfl) k) ?_
            refine own_via (g' := s₁.setTop (mkF m 152 #[.val (.ref a1), .val (.ref a2)] [(.int (1 : Int32)), (.ref a1)])) (fun t k => XS.iconst X0.here hx rfl (hb hby own_d7_151) k) ?_
            refine own_via (g' := s₁.setTop (mkF m 153 #[.val (.ref a1), .val (.ref a2)] [(.long x1)])) (fun t k => own_ldJ X0 hx hZ e0 A1 (j := (1 : Int32)) (v := (.long x1)) (by decide) rfl (g := (mkF m 152 #[.val (.ref a1), .val (.ref a2)] [(.int (1 : Int32)), (.ref a1)])) rfl rfl (hb hby own_d7_152) _ k) ?_
            refine own_via (g' := s₁.setTop (mkF m 154 #[.val (.ref a1), .val (.ref a2)] [(.ref a2), (.long x1)])) (fun t k => XS.aloadN X0.here hx rfl (hb hby own_d7_153) rfl (rfl) k) ?_
            refine own_via (g' := s₁.setTop (mkF m 155 #[.val (.ref a1), .val (.ref a2)] [(.int (1 : Int32)), (.ref a2), (.long x1)])) (fun t k => XS.iconst X0.here hx rfl (hb hby own_d7_154) k) ?_
            refine own_via (g' := s₁.setTop (mkF m 156 #[.val (.ref a1), .val (.ref a2)] [(.long y1), (.long x1)])) (fun t k => own_ldJ X0 hx hZ e0 A2 (j := (1 : Int32)) (v := (.long y1)) (by decide) rfl (g := (mkF m 155 #[.val (.ref a1), .val (.ref a2)] [(.int (1 : Int32)), (.ref a2), (.long x1)])) rfl rfl (hb hby own_d7_155) _ k) ?_
            refine own_via (g' := s₁.setTop (mkF m 157 #[.val (.ref a1), .val (.ref a2)] [(.int (XT.cmpL x1 y1))])) (fun t k => XT.lcmp X0.here hx rfl (hb hby own_d7_156) rfl k) ?_
            by_cases hc157_111 : x1 = y1
            · refine own_via (g' := s₁.setTop (mkF m 160 #[.val (.ref a1), .val (.ref a2)] [])) (fun t k => XS.ifNo X0.here hx rfl (hb hby own_d7_157) rfl (XT.ll_ne_f hc157_111) k) ?_
              refine own_via (g' := s₁.setTop (mkF m 161 #[.val (.ref a1), .val (.ref a2)] [(.long (1 : Int64))])) (fun t k => XT.lconst X0.here hx rfl (hb hby own_d7_160) k) ?_
              exact own_retJ X0 hx hlk Bd.returns (hb hby own_d7_161) ⟨(by first | (rw [own_inter, if_neg hc89_106, if_neg hc118_108, if_neg hc147_110, if_pos hc157_111]; done) | (rw [own_inter, if_neg hc89_106, if_neg hc118_108, if_neg hc147_110, if_pos hc157_111]; rfl) | (simp [own_inter, hc89_106, hc118_108, hc147_110, hc157_111]; done)), N0, e0⟩ (by decide) (by decide)
            · refine own_via (g' := s₁.setTop (mkF m 162 #[.val (.ref a1), .val (.ref a2)] [])) (fun t k => XS.ifYes X0.here hx rfl (pc0 := 157) (pc' := 162) rfl (hb hby own_d7_157) rfl (XT.ll_ne_t hc157_111) (by decide) (by decide) k) ?_
              refine own_via (g' := s₁.setTop (mkF m 163 #[.val (.ref a1), .val (.ref a2)] [(.long (0 : Int64))])) (fun t k => XT.lconst X0.here hx rfl (hb hby own_d7_162) k) ?_
              exact own_retJ X0 hx hlk Bd.returns (hb hby own_d7_163) ⟨(by first | (rw [own_inter, if_neg hc89_106, if_neg hc118_108, if_neg hc147_110, if_neg hc157_111]; done) | (rw [own_inter, if_neg hc89_106, if_neg hc118_108, if_neg hc147_110, if_neg hc157_111]; rfl) | (simp [own_inter, hc89_106, hc118_108, hc147_110, hc157_111]; done)), N0, e0⟩ (by decide) (by decide)
    · exact absurd hlB (by simp)
  · exact absurd hlA (by simp)
theorem own_pd2 : parseMethodDescriptor "([J[J)J" = some ⟨[(.array .long), (.array .long)], some .long⟩ := by decide +kernel
theorem own_d8_0 : decode prog_69_method_5_code 0 = .ok (.aload_n 0, 1) := by decide +kernel
theorem own_d8_1 : decode prog_69_method_5_code 1 = .ok (.getfield 7, 3) := by decide +kernel
theorem own_d8_4 : decode prog_69_method_5_code 4 = .ok (.aload_n 1, 1) := by decide +kernel
theorem own_d8_5 : decode prog_69_method_5_code 5 = .ok (.getfield 7, 3) := by decide +kernel
theorem own_d8_8 : decode prog_69_method_5_code 8 = .ok (.invokestatic 75, 3) := by decide +kernel
theorem own_d8_11 : decode prog_69_method_5_code 11 = .ok (.aload_n 0, 1) := by decide +kernel
theorem own_d8_12 : decode prog_69_method_5_code 12 = .ok (.getfield 13, 3) := by decide +kernel
theorem own_d8_15 : decode prog_69_method_5_code 15 = .ok (.aload_n 1, 1) := by decide +kernel
theorem own_d8_16 : decode prog_69_method_5_code 16 = .ok (.getfield 13, 3) := by decide +kernel
theorem own_d8_19 : decode prog_69_method_5_code 19 = .ok (.invokestatic 75, 3) := by decide +kernel
theorem own_d8_22 : decode prog_69_method_5_code 22 = .ok (.ladd, 1) := by decide +kernel
theorem own_d8_23 : decode prog_69_method_5_code 23 = .ok (.lreturn, 1) := by decide +kernel
theorem ef_own_rm8 (m : MethodId) (a1 : Addr) (a2 : Addr) : entryFrame m #[(.ref a1), (.ref a2)] 2 = mkF m 0 #[.val (.ref a1), .val (.ref a2)] [] := by first | (simp [entryFrame, mkF, argsToLocals, Value.category]; done) | rfl
def own_rm8_Q (Z : State) (a1 : Addr) (a2 : Addr) (la : Addr) (va : Addr) (lb : Addr) (vb : Addr) (LA : List Int64) (VA : List Int64) (LB : List Int64) (VB : List Int64) (h0 : Heap) (n0 : Nat) (v : Option Value) (h : Heap) (L : List Loc) : Prop := v = some (.long (own_common LA LB + own_common VA VB)) ∧ Fr n0 L ∧ h = h0
set_option maxRecDepth 65536 in
set_option maxHeartbeats 40000000 in
theorem own_rm8 (l : Launch) (Z : State) (a0 : Array Value) (hw : ∀ d ∈ tables_1, d.before a0 Z = true) (ws : List Jvm.Cond) (a1 : Addr) (a2 : Addr) (la : Addr) (va : Addr) (lb : Addr) (vb : Addr) (LA : List Int64) (VA : List Int64) (LB : List Int64) (VB : List Int64) (h0 : Heap) (n0 : Nat) (Z0 : n0 ≤ h0.size) (F_la : Fld Z h0 a1 "com/example/arbordelta/arbordelta/SubtreeLabels" "labels" "[J" (.ref la)) (F_va : Fld Z h0 a1 "com/example/arbordelta/arbordelta/SubtreeLabels" "labelledValues" "[J" (.ref va)) (F_lb : Fld Z h0 a2 "com/example/arbordelta/arbordelta/SubtreeLabels" "labels" "[J" (.ref lb)) (F_vb : Fld Z h0 a2 "com/example/arbordelta/arbordelta/SubtreeLabels" "labelledValues" "[J" (.ref vb)) (A_la : own_Ar Z h0 la .long (LA.map Value.long)) (A_va : own_Ar Z h0 va .long (VA.map Value.long)) (A_lb : own_Ar Z h0 lb .long (LB.map Value.long)) (A_vb : own_Ar Z h0 vb .long (VB.map Value.long)) (hl_la : LA.length < 2147483648) (hl_va : VA.length < 2147483648) (hl_lb : LB.length < 2147483648) (hl_vb : VB.length < 2147483648) :
    MetFree l (⟨"com/example/arbordelta/arbordelta/SubtreeLabels", "mostSavedWith", "(Lcom/example/arbordelta/arbordelta/SubtreeLabels;)J"⟩ : MethodName) (head1 (Jvm.Cond.code (⟨"com/example/arbordelta/arbordelta/SubtreeLabels", "mostSavedWith", "(Lcom/example/arbordelta/arbordelta/SubtreeLabels;)J"⟩ : MethodName) prog_69_method_5_code 2 (some .long) :: ws) ({ frames := 1, cells := 0, slots := 0, locals := 19 } : Room)) (fun a U => a = #[(.ref a1), (.ref a2)] ∧ Z.Warmed39 U.vm ∧ U.heap = h0) (fun _ _ _ _ _ => True) (fun _ U o U' => ∃ v L, o = .returned v ∧ own_rm8_Q Z a1 a2 la va lb vb LA VA LB VB h0 n0 v U'.heap L ∧ FrameEnd U o U' L ({ frames := 1, cells := 0, slots := 0, locals := 19 } : Room).cells ({ frames := 1, cells := 0, slots := 0, locals := 19 } : Room).slots) := by
  refine MetFree.of_bodySF (plainFor_of_name own_pn0) hisR ?_
  intro p e s m args below meth c s₁ Bd hml0 hP hK
  obtain ⟨rfl, hZ, hh⟩ := hP
  have hx := Bd.exec
  have hby := Bd.bytes
  have hml : c.maxLocals = 2 := hml0
  have hown : s.vm.findClass "com/example/arbordelta/arbordelta/SubtreeLabels" = some m.cls := findClass_of_methodNamed Bd.named
  have hnm := (name_of_methodNamed Bd.named Bd.method).1
  have hlk : meth.locks = false := BodyLoose.notSynchronized Bd
  have X0 : Stand p l e ({ frames := 1, cells := 0, slots := 0, locals := 19 } : Room) s m #[(.ref a1), (.ref a2)] below meth c s₁ [] 0 0 := Stand.of_body Bd
  have e0 : s₁.heap = h0 := by rw [← hh, Bd.state]; rfl
  have N0 := Fr.nil n0
  have K0 : Keep h0 h0 [] := Keep.refl h0 []
  show own_Fin p e below (own_P (own_rm8_Q Z a1 a2 la va lb vb LA VA LB VB h0 n0) s ({ frames := 1, cells := 0, slots := 0, locals := 19 } : Room).cells ({ frames := 1, cells := 0, slots := 0, locals := 19 } : Room).slots) (s₁.setTop (entryFrame m #[(.ref a1), (.ref a2)] 2))
  refine own_via (g' := s₁.setTop (mkF m 0 #[.val (.ref a1), .val (.ref a2)] [])) (fun t k => castTop (ef_own_rm8 m a1 a2) k) ?_
  refine own_via (g' := s₁.setTop (mkF m 1 #[.val (.ref a1), .val (.ref a2)] [(.ref a1)])) (fun t k => XS.aloadN X0.here hx rfl (hb hby own_d8_0) rfl (rfl) k) ?_
  obtain ⟨T101, X101, e101, st101⟩ := getF X0 hx hZ hown (host := "") (Or.inl (hw _ (List.mem_of_getElem? (i := 26) rfl))) Via.refl e0 F_la (g := (mkF m 1 #[.val (.ref a1), .val (.ref a2)] [(.ref a1)])) rfl rfl (hb hby own_d8_1)
  refine own_via (g' := T101.setTop (mkF m 4 #[.val (.ref a1), .val (.ref a2)] [(.ref la)])) (fun t k => st101 _ k) ?_
  refine own_via (g' := T101.setTop (mkF m 5 #[.val (.ref a1), .val (.ref a2)] [(.ref a2), (.ref la)])) (fun t k => XS.aloadN X101.here hx rfl (hb hby own_d8_4) rfl (rfl) k) ?_
  obtain ⟨T102, X102, e102, st102⟩ := getF X101 hx hZ hown (host := "") (Or.inl (hw _ (List.mem_of_getElem? (i := 26) rfl))) Via.refl e101 F_lb (g := (mkF m 5 #[.val (.ref a1), .val (.ref a2)] [(.ref a2), (.ref la)])) rfl rfl (hb hby own_d8_5)
  refine own_via (g' := T102.setTop (mkF m 8 #[.val (.ref a1), .val (.ref a2)] [(.ref lb), (.ref la)])) (fun t k => st102 _ k) ?_
  obtain ⟨v103, _, ⟨T103, L103, k103, n103⟩, -, X103, ⟨Lc103, hQ103, l103, y103, z103⟩, st103⟩ := Jvm.LawKit.callS X102 hx (y := (⟨"com/example/arbordelta/arbordelta/SubtreeLabels", "common", "([J[J)J"⟩ : MethodName)) hown (mvT hZ (hw _ (List.mem_of_getElem? (i := 40) rfl))) (mvT hZ (hw _ (List.mem_of_getElem? (i := 41) rfl))) (mvT hZ (hw _ (List.mem_of_getElem? (i := 14) rfl))) (mvT hZ (hw _ (List.mem_of_getElem? (i := 42) rfl))) (by decide) (backOf (W := 0) (own_rm9 l Z a0 hw [] la lb LA LB h0 n0 (Nat.le_trans Z0 K0.1) A_la A_lb hl_la hl_lb) hZ (hw _ (List.mem_of_getElem? (i := 42) rfl)) (hw _ (List.mem_of_getElem? (i := 14) rfl)) (by decide) (by decide)) (g := (mkF m 8 #[.val (.ref a1), .val (.ref a2)] [(.ref lb), (.ref la)])) rfl (by rw [hml]; rfl) (argsL := [(.ref la), (.ref lb)]) (rest := []) (lenOf own_pd2 rfl) rfl (by show 2 * 0 + _ ≤ _; exact Nat.le_of_eq rfl) (hb hby own_d8_8) (fun _ _ => ⟨rfl, e102, (by decide : 0 + 0 ≤ _), (by decide : 0 + 0 ≤ _)⟩)
  dsimp only [Pt.U, Pt.locs, Pt.cells, Pt.slots] at X103 l103 y103 z103 st103 hQ103
  subst l103 y103 z103
  obtain ⟨rfl, N103q, e103⟩ := hQ103
  have N103 := Fr.app N0 N103q
  refine own_via (g' := T103.setTop (mkF m 11 #[.val (.ref a1), .val (.ref a2)] [(.long (own_common LA LB))])) (fun t k => st103 _ k) ?_
  refine own_via (g' := T103.setTop (mkF m 12 #[.val (.ref a1), .val (.ref a2)] [(.ref a1), (.long (own_common LA LB))])) (fun t k => XS.aloadN X103.here hx rfl (hb hby own_d8_11) rfl (rfl) k) ?_
  obtain ⟨T104, X104, e104, st104⟩ := getF X103 hx hZ hown (host := "") (Or.inl (hw _ (List.mem_of_getElem? (i := 28) rfl))) Via.refl e103 F_va (g := (mkF m 12 #[.val (.ref a1), .val (.ref a2)] [(.ref a1), (.long (own_common LA LB))])) rfl rfl (hb hby own_d8_12)
  refine own_via (g' := T104.setTop (mkF m 15 #[.val (.ref a1), .val (.ref a2)] [(.ref va), (.long (own_common LA LB))])) (fun t k => st104 _ k) ?_
  refine own_via (g' := T104.setTop (mkF m 16 #[.val (.ref a1), .val (.ref a2)] [(.ref a2), (.ref va), (.long (own_common LA LB))])) (fun t k => XS.aloadN X104.here hx rfl (hb hby own_d8_15) rfl (rfl) k) ?_
  obtain ⟨T105, X105, e105, st105⟩ := getF X104 hx hZ hown (host := "") (Or.inl (hw _ (List.mem_of_getElem? (i := 28) rfl))) Via.refl e104 F_vb (g := (mkF m 16 #[.val (.ref a1), .val (.ref a2)] [(.ref a2), (.ref va), (.long (own_common LA LB))])) rfl rfl (hb hby own_d8_16)
  refine own_via (g' := T105.setTop (mkF m 19 #[.val (.ref a1), .val (.ref a2)] [(.ref vb), (.ref va), (.long (own_common LA LB))])) (fun t k => st105 _ k) ?_
  obtain ⟨v106, _, ⟨T106, L106, k106, n106⟩, -, X106, ⟨Lc106, hQ106, l106, y106, z106⟩, st106⟩ := Jvm.LawKit.callS X105 hx (y := (⟨"com/example/arbordelta/arbordelta/SubtreeLabels", "common", "([J[J)J"⟩ : MethodName)) hown (mvT hZ (hw _ (List.mem_of_getElem? (i := 40) rfl))) (mvT hZ (hw _ (List.mem_of_getElem? (i := 41) rfl))) (mvT hZ (hw _ (List.mem_of_getElem? (i := 14) rfl))) (mvT hZ (hw _ (List.mem_of_getElem? (i := 42) rfl))) (by decide) (backOf (W := 2) (own_rm9 l Z a0 hw [] va vb VA VB h0 n0 (Nat.le_trans Z0 K0.1) A_va A_vb hl_va hl_vb) hZ (hw _ (List.mem_of_getElem? (i := 42) rfl)) (hw _ (List.mem_of_getElem? (i := 14) rfl)) (by decide) (by decide)) (g := (mkF m 19 #[.val (.ref a1), .val (.ref a2)] [(.ref vb), (.ref va), (.long (own_common LA LB))])) rfl (by rw [hml]; rfl) (argsL := [(.ref va), (.ref vb)]) (rest := [(.long (own_common LA LB))]) (lenOf own_pd2 rfl) rfl (by show 2 * 0 + _ ≤ _; exact Nat.le_of_eq rfl) (hb hby own_d8_19) (fun _ _ => ⟨rfl, e105, (by decide : 0 + 0 ≤ _), (by decide : 0 + 0 ≤ _)⟩)
  dsimp only [Pt.U, Pt.locs, Pt.cells, Pt.slots] at X106 l106 y106 z106 st106 hQ106
  subst l106 y106 z106
  obtain ⟨rfl, N106q, e106⟩ := hQ106
  have N106 := Fr.app N103 N106q
  refine own_via (g' := T106.setTop (mkF m 22 #[.val (.ref a1), .val (.ref a2)] [(.long (own_common VA VB)), (.long (own_common LA LB))])) (fun t k => st106 _ k) ?_
  refine own_via (g' := T106.setTop (mkF m 23 #[.val (.ref a1), .val (.ref a2)] [(.long ((own_common LA LB) + (own_common VA VB)))])) (fun t k => XT.ladd X106.here hx rfl (hb hby own_d8_22) rfl k) ?_
  exact own_retJ X106 hx hlk Bd.returns (hb hby own_d8_23) ⟨rfl, N106, e106⟩ (by decide) (by decide)
theorem own_pd3 : parseMethodDescriptor "(II)I" = some ⟨[.int, .int], some .int⟩ := by decide +kernel
theorem own_pd4 : parseMethodDescriptor "(IIJJJ)J" = some ⟨[.int, .int, .long, .long, .long], some .long⟩ := by decide +kernel
theorem own_pd5 : parseMethodDescriptor "(IJJ)[J" = some ⟨[.int, .long, .long], some (.array .long)⟩ := by decide +kernel
theorem own_pd6 : parseMethodDescriptor "([J[J[J)V" = some ⟨[(.array .long), (.array .long), (.array .long)], none⟩ := by decide +kernel
theorem own_pd7 : parseMethodDescriptor "(Lcom/example/arbordelta/arbordelta/SubtreeLabels;)J" = some ⟨[(.object "com/example/arbordelta/arbordelta/SubtreeLabels")], some .long⟩ := by decide +kernel
theorem ef_own_rm0 (m : MethodId) (i0 : Int32) (i1 : Int32) (i2 : Int32) (j3 : Int64) (j4 : Int64) (j5 : Int64) : entryFrame m #[(.int i0), (.int i1), (.int i2), (.long j3), (.long j4), (.long j5)] maxLocals = mkF m 0 #[.val (.int i0), .val (.int i1), .val (.int i2), .val (.long j3), .second, .val (.long j4), .second, .val (.long j5), .second, .unset, .unset, .unset, .unset, .unset, .unset, .unset, .unset] [] := by first | (simp [entryFrame, mkF, argsToLocals, Value.category, maxLocals]; done) | rfl
def own_rm0_Q (Z : State) (i0 : Int32) (i1 : Int32) (i2 : Int32) (j3 : Int64) (j4 : Int64) (j5 : Int64)  (h0 : Heap) (n0 : Nat) (v : Option Value) (h : Heap) (L : List Loc) : Prop := v = some (.int 1) ∧ Fr n0 L
set_option maxRecDepth 65536 in
set_option maxHeartbeats 40000000 in
theorem own_rm0 (l : Launch) (Z : State) (a0 : Array Value) (hw : ∀ d ∈ tables_1, d.before a0 Z = true) (ws : List Jvm.Cond) (i0 : Int32) (i1 : Int32) (i2 : Int32) (j3 : Int64) (j4 : Int64) (j5 : Int64)  (h0 : Heap) (n0 : Nat) (Z0 : n0 ≤ h0.size) :
    MetFree l x (head1 (Jvm.Cond.code x code maxLocals ret :: ws) room_1) (fun a U => a = #[(.int i0), (.int i1), (.int i2), (.long j3), (.long j4), (.long j5)] ∧ Z.Warmed39 U.vm ∧ U.heap = h0) (fun _ _ _ _ _ => True) (fun _ U o U' => ∃ v L, o = .returned v ∧ own_rm0_Q Z i0 i1 i2 j3 j4 j5  h0 n0 v U'.heap L ∧ FrameEnd U o U' L room_1.cells room_1.slots) := by
  refine MetFree.of_bodySF (plainFor_of_name own_pn2) hisR ?_
  intro p e s m args below meth c s₁ Bd hml0 hP hK
  obtain ⟨rfl, hZ, hh⟩ := hP
  have hx := Bd.exec
  have hby := Bd.bytes
  have hml : c.maxLocals = 17 := hml0
  have hown : s.vm.findClass "com/example/arbordelta/arbordelta/SubtreeLabelsMostSavedWithPinLaw" = some m.cls := findClass_of_methodNamed Bd.named
  have hnm := (name_of_methodNamed Bd.named Bd.method).1
  have hlk : meth.locks = false := BodyLoose.notSynchronized Bd
  have X0 : Stand p l e room_1 s m #[(.int i0), (.int i1), (.int i2), (.long j3), (.long j4), (.long j5)] below meth c s₁ [] 0 0 := Stand.of_body Bd
  have e0 : s₁.heap = h0 := by rw [← hh, Bd.state]; rfl
  have N0 := Fr.nil n0
  have K0 : Keep h0 h0 [] := Keep.refl h0 []
  show own_Fin p e below (own_P (own_rm0_Q Z i0 i1 i2 j3 j4 j5  h0 n0) s room_1.cells room_1.slots) (s₁.setTop (entryFrame m #[(.int i0), (.int i1), (.int i2), (.long j3), (.long j4), (.long j5)] maxLocals))
  refine own_via (g' := s₁.setTop (mkF m 0 #[.val (.int i0), .val (.int i1), .val (.int i2), .val (.long j3), .second, .val (.long j4), .second, .val (.long j5), .second, .unset, .unset, .unset, .unset, .unset, .unset, .unset, .unset] [])) (fun t k => castTop (ef_own_rm0 m i0 i1 i2 j3 j4 j5) k) ?_
  refine own_via (g' := s₁.setTop (mkF m 1 #[.val (.int i0), .val (.int i1), .val (.int i2), .val (.long j3), .second, .val (.long j4), .second, .val (.long j5), .second, .unset, .unset, .unset, .unset, .unset, .unset, .unset, .unset] [(.int i0)])) (fun t k => XS.iloadN X0.here hx rfl (hb hby at_0) rfl k) ?_
  refine own_via (g' := s₁.setTop (mkF m 2 #[.val (.int i0), .val (.int i1), .val (.int i2), .val (.long j3), .second, .val (.long j4), .second, .val (.long j5), .second, .unset, .unset, .unset, .unset, .unset, .unset, .unset, .unset] [(.int (0 : Int32)), (.int i0)])) (fun t k => XS.iconst X0.here hx rfl (hb hby at_1) k) ?_
  obtain ⟨v101, _, ⟨T101, L101, k101, n101⟩, -, X101, ⟨Lc101, hQ101, l101, y101, z101⟩, st101⟩ := Jvm.LawKit.callS X0 hx (y := (⟨"com/example/arbordelta/arbordelta/SubtreeLabelsMostSavedWithPinLaw", "len", "(II)I"⟩ : MethodName)) hown (mvT hZ (hw _ (List.mem_of_getElem? (i := 0) rfl))) (mvT hZ (hw _ (List.mem_of_getElem? (i := 1) rfl))) (mvT hZ (hw _ (List.mem_of_getElem? (i := 2) rfl))) (mvT hZ (hw _ (List.mem_of_getElem? (i := 3) rfl))) (by decide) (backOf (W := 0) (own_rm1 l Z a0 hw [] i0 (0 : Int32) h0 n0 (Nat.le_trans Z0 K0.1) ) hZ (hw _ (List.mem_of_getElem? (i := 3) rfl)) (hw _ (List.mem_of_getElem? (i := 2) rfl)) (by decide) (by decide)) (g := (mkF m 2 #[.val (.int i0), .val (.int i1), .val (.int i2), .val (.long j3), .second, .val (.long j4), .second, .val (.long j5), .second, .unset, .unset, .unset, .unset, .unset, .unset, .unset, .unset] [(.int (0 : Int32)), (.int i0)])) rfl (by rw [hml]; rfl) (argsL := [(.int i0), (.int (0 : Int32))]) (rest := []) (lenOf own_pd3 rfl) rfl (by show 2 * 0 + _ ≤ _; exact Nat.le_of_eq rfl) (hb hby at_2) (fun _ _ => ⟨rfl, e0, (by decide : 0 + 0 ≤ _), (by decide : 0 + 0 ≤ _)⟩)
  dsimp only [Pt.U, Pt.locs, Pt.cells, Pt.slots] at X101 l101 y101 z101 st101 hQ101
  subst l101 y101 z101
  obtain ⟨r101, rfl, N101q, e101, hr101⟩ := hQ101
  have N101 := Fr.app N0 N101q
  refine own_via (g' := T101.setTop (mkF m 5 #[.val (.int i0), .val (.int i1), .val (.int i2), .val (.long j3), .second, .val (.long j4), .second, .val (.long j5), .second, .unset, .unset, .unset, .unset, .unset, .unset, .unset, .unset] [(.int r101)])) (fun t k => st101 _ k) ?_
  refine own_via (g' := T101.setTop (mkF m 6 #[.val (.int i0), .val (.int i1), .val (.int i2), .val (.long j3), .second, .val (.long j4), .second, .val (.long j5), .second, .unset, .unset, .unset, .unset, .unset, .unset, .unset, .unset] [(.int i1), (.int r101)])) (fun t k => XS.iloadN X101.here hx rfl (hb hby at_5) rfl k) ?_
  refine own_via (g' := T101.setTop (mkF m 7 #[.val (.int i0), .val (.int i1), .val (.int i2), .val (.long j3), .second, .val (.long j4), .second, .val (.long j5), .second, .unset, .unset, .unset, .unset, .unset, .unset, .unset, .unset] [(.int (0 : Int32)), (.int i1), (.int r101)])) (fun t k => XS.iconst X101.here hx rfl (hb hby at_6) k) ?_
  refine own_via (g' := T101.setTop (mkF m 8 #[.val (.int i0), .val (.int i1), .val (.int i2), .val (.long j3), .second, .val (.long j4), .second, .val (.long j5), .second, .unset, .unset, .unset, .unset, .unset, .unset, .unset, .unset] [(.long j3), (.int (0 : Int32)), (.int i1), (.int r101)])) (fun t k => XT.lloadN X101.here hx rfl (hb hby at_7) rfl k) ?_
  refine own_via (g' := T101.setTop (mkF m 10 #[.val (.int i0), .val (.int i1), .val (.int i2), .val (.long j3), .second, .val (.long j4), .second, .val (.long j5), .second, .unset, .unset, .unset, .unset, .unset, .unset, .unset, .unset] [(.long j4), (.long j3), (.int (0 : Int32)), (.int i1), (.int r101)])) (fun t k => XT.lload X101.here hx rfl (hb hby at_8) rfl k) ?_
  refine own_via (g' := T101.setTop (mkF m 12 #[.val (.int i0), .val (.int i1), .val (.int i2), .val (.long j3), .second, .val (.long j4), .second, .val (.long j5), .second, .unset, .unset, .unset, .unset, .unset, .unset, .unset, .unset] [(.long j5), (.long j4), (.long j3), (.int (0 : Int32)), (.int i1), (.int r101)])) (fun t k => XT.lload X101.here hx rfl (hb hby at_10) rfl k) ?_
  obtain ⟨v102, _, ⟨T102, L102, k102, n102⟩, -, X102, ⟨Lc102, hQ102, l102, y102, z102⟩, st102⟩ := Jvm.LawKit.callS X101 hx (y := (⟨"com/example/arbordelta/arbordelta/SubtreeLabelsMostSavedWithPinLaw", "pick", "(IIJJJ)J"⟩ : MethodName)) hown (mvT hZ (hw _ (List.mem_of_getElem? (i := 4) rfl))) (mvT hZ (hw _ (List.mem_of_getElem? (i := 5) rfl))) (mvT hZ (hw _ (List.mem_of_getElem? (i := 2) rfl))) (mvT hZ (hw _ (List.mem_of_getElem? (i := 6) rfl))) (by decide) (backOf (W := 1) (own_rm2 l Z a0 hw [] i1 (0 : Int32) j3 j4 j5 h0 n0 (Nat.le_trans Z0 K0.1) ) hZ (hw _ (List.mem_of_getElem? (i := 6) rfl)) (hw _ (List.mem_of_getElem? (i := 2) rfl)) (by decide) (by decide)) (g := (mkF m 12 #[.val (.int i0), .val (.int i1), .val (.int i2), .val (.long j3), .second, .val (.long j4), .second, .val (.long j5), .second, .unset, .unset, .unset, .unset, .unset, .unset, .unset, .unset] [(.long j5), (.long j4), (.long j3), (.int (0 : Int32)), (.int i1), (.int r101)])) rfl (by rw [hml]; rfl) (argsL := [(.int i1), (.int (0 : Int32)), (.long j3), (.long j4), (.long j5)]) (rest := [(.int r101)]) (lenOf own_pd4 rfl) rfl (by show 2 * 0 + _ ≤ _; exact Nat.le_of_eq rfl) (hb hby at_12) (fun _ _ => ⟨rfl, e101, (by decide : 0 + 0 ≤ _), (by decide : 0 + 0 ≤ _)⟩)
  dsimp only [Pt.U, Pt.locs, Pt.cells, Pt.slots] at X102 l102 y102 z102 st102 hQ102
  subst l102 y102 z102
  obtain ⟨r102, rfl, N102q, e102⟩ := hQ102
  have N102 := Fr.app N101 N102q
  refine own_via (g' := T102.setTop (mkF m 15 #[.val (.int i0), .val (.int i1), .val (.int i2), .val (.long j3), .second, .val (.long j4), .second, .val (.long j5), .second, .unset, .unset, .unset, .unset, .unset, .unset, .unset, .unset] [(.long r102), (.int r101)])) (fun t k => st102 _ k) ?_
  refine own_via (g' := T102.setTop (mkF m 16 #[.val (.int i0), .val (.int i1), .val (.int i2), .val (.long j3), .second, .val (.long j4), .second, .val (.long j5), .second, .unset, .unset, .unset, .unset, .unset, .unset, .unset, .unset] [(.int i1), (.long r102), (.int r101)])) (fun t k => XS.iloadN X102.here hx rfl (hb hby at_15) rfl k) ?_
  refine own_via (g' := T102.setTop (mkF m 17 #[.val (.int i0), .val (.int i1), .val (.int i2), .val (.long j3), .second, .val (.long j4), .second, .val (.long j5), .second, .unset, .unset, .unset, .unset, .unset, .unset, .unset, .unset] [(.int (1 : Int32)), (.int i1), (.long r102), (.int r101)])) (fun t k => XS.iconst X102.here hx rfl (hb hby at_16) k) ?_
  refine own_via (g' := T102.setTop (mkF m 18 #[.val (.int i0), .val (.int i1), .val (.int i2), .val (.long j3), .second, .val (.long j4), .second, .val (.long j5), .second, .unset, .unset, .unset, .unset, .unset, .unset, .unset, .unset] [(.long j3), (.int (1 : Int32)), (.int i1), (.long r102), (.int r101)])) (fun t k => XT.lloadN X102.here hx rfl (hb hby at_17) rfl k) ?_
  refine own_via (g' := T102.setTop (mkF m 20 #[.val (.int i0), .val (.int i1), .val (.int i2), .val (.long j3), .second, .val (.long j4), .second, .val (.long j5), .second, .unset, .unset, .unset, .unset, .unset, .unset, .unset, .unset] [(.long j4), (.long j3), (.int (1 : Int32)), (.int i1), (.long r102), (.int r101)])) (fun t k => XT.lload X102.here hx rfl (hb hby at_18) rfl k) ?_
  refine own_via (g' := T102.setTop (mkF m 22 #[.val (.int i0), .val (.int i1), .val (.int i2), .val (.long j3), .second, .val (.long j4), .second, .val (.long j5), .second, .unset, .unset, .unset, .unset, .unset, .unset, .unset, .unset] [(.long j5), (.long j4), (.long j3), (.int (1 : Int32)), (.int i1), (.long r102), (.int r101)])) (fun t k => XT.lload X102.here hx rfl (hb hby at_20) rfl k) ?_
  obtain ⟨v103, _, ⟨T103, L103, k103, n103⟩, -, X103, ⟨Lc103, hQ103, l103, y103, z103⟩, st103⟩ := Jvm.LawKit.callS X102 hx (y := (⟨"com/example/arbordelta/arbordelta/SubtreeLabelsMostSavedWithPinLaw", "pick", "(IIJJJ)J"⟩ : MethodName)) hown (mvT hZ (hw _ (List.mem_of_getElem? (i := 4) rfl))) (mvT hZ (hw _ (List.mem_of_getElem? (i := 5) rfl))) (mvT hZ (hw _ (List.mem_of_getElem? (i := 2) rfl))) (mvT hZ (hw _ (List.mem_of_getElem? (i := 6) rfl))) (by decide) (backOf (W := 3) (own_rm2 l Z a0 hw [] i1 (1 : Int32) j3 j4 j5 h0 n0 (Nat.le_trans Z0 K0.1) ) hZ (hw _ (List.mem_of_getElem? (i := 6) rfl)) (hw _ (List.mem_of_getElem? (i := 2) rfl)) (by decide) (by decide)) (g := (mkF m 22 #[.val (.int i0), .val (.int i1), .val (.int i2), .val (.long j3), .second, .val (.long j4), .second, .val (.long j5), .second, .unset, .unset, .unset, .unset, .unset, .unset, .unset, .unset] [(.long j5), (.long j4), (.long j3), (.int (1 : Int32)), (.int i1), (.long r102), (.int r101)])) rfl (by rw [hml]; rfl) (argsL := [(.int i1), (.int (1 : Int32)), (.long j3), (.long j4), (.long j5)]) (rest := [(.long r102), (.int r101)]) (lenOf own_pd4 rfl) rfl (by show 2 * 0 + _ ≤ _; exact Nat.le_of_eq rfl) (hb hby at_22) (fun _ _ => ⟨rfl, e102, (by decide : 0 + 0 ≤ _), (by decide : 0 + 0 ≤ _)⟩)
  dsimp only [Pt.U, Pt.locs, Pt.cells, Pt.slots] at X103 l103 y103 z103 st103 hQ103
  subst l103 y103 z103
  obtain ⟨r103, rfl, N103q, e103⟩ := hQ103
  have N103 := Fr.app N102 N103q
  refine own_via (g' := T103.setTop (mkF m 25 #[.val (.int i0), .val (.int i1), .val (.int i2), .val (.long j3), .second, .val (.long j4), .second, .val (.long j5), .second, .unset, .unset, .unset, .unset, .unset, .unset, .unset, .unset] [(.long r103), (.long r102), (.int r101)])) (fun t k => st103 _ k) ?_
  obtain ⟨v104, _, ⟨T104, L104, k104, n104⟩, -, X104, ⟨Lc104, hQ104, l104, y104, z104⟩, st104⟩ := Jvm.LawKit.callS X103 hx (y := (⟨"com/example/arbordelta/arbordelta/SubtreeLabelsMostSavedWithPinLaw", "arr", "(IJJ)[J"⟩ : MethodName)) hown (mvT hZ (hw _ (List.mem_of_getElem? (i := 8) rfl))) (mvT hZ (hw _ (List.mem_of_getElem? (i := 9) rfl))) (mvT hZ (hw _ (List.mem_of_getElem? (i := 2) rfl))) (mvT hZ (hw _ (List.mem_of_getElem? (i := 10) rfl))) (by decide) (backOf (W := 0) (own_rm3 l Z a0 hw [] r101 r102 r103 h0 n0 (Nat.le_trans Z0 K0.1) hr101) hZ (hw _ (List.mem_of_getElem? (i := 10) rfl)) (hw _ (List.mem_of_getElem? (i := 2) rfl)) (by decide) (by decide)) (g := (mkF m 25 #[.val (.int i0), .val (.int i1), .val (.int i2), .val (.long j3), .second, .val (.long j4), .second, .val (.long j5), .second, .unset, .unset, .unset, .unset, .unset, .unset, .unset, .unset] [(.long r103), (.long r102), (.int r101)])) rfl (by rw [hml]; rfl) (argsL := [(.int r101), (.long r102), (.long r103)]) (rest := []) (lenOf own_pd5 rfl) rfl (by show 2 * 0 + _ ≤ _; exact Nat.le_of_eq rfl) (hb hby at_25) (fun _ _ => ⟨rfl, e103, (by decide : 0 + 1 ≤ _), (by decide : 0 + 2 ≤ _)⟩)
  dsimp only [Pt.U, Pt.locs, Pt.cells, Pt.slots] at X104 l104 y104 z104 st104 hQ104
  subst l104 y104 z104
  obtain ⟨b104, rfl, N104q, szq104, K104, V104⟩ := hQ104
  have Kc104 : Keep h0 T104.heap [] := K0.trans K104 all0
  have sz_b104 : h0.size ≤ b104 := Nat.le_trans K0.1 szq104
  have g_b104 : n0 ≤ b104 := Nat.le_trans Z0 sz_b104
  obtain ⟨Lb104, qLb104⟩ : ∃ L', L' = (own_arr r101 r102 r103) := ⟨_, rfl⟩
  rw [← qLb104] at V104
  have csb104 := own_arr_cases r101 r102 r103
  rw [← qLb104] at csb104
  have lnb104 : Lb104.length ≤ 2 := qLb104 ▸ own_arr_len _ _ _
  have N104 := Fr.app N103 N104q
  refine own_via (g' := T104.setTop (mkF m 28 #[.val (.int i0), .val (.int i1), .val (.int i2), .val (.long j3), .second, .val (.long j4), .second, .val (.long j5), .second, .unset, .unset, .unset, .unset, .unset, .unset, .unset, .unset] [(.ref b104)])) (fun t k => st104 _ k) ?_
  refine own_via (g' := T104.setTop (mkF m 30 #[.val (.int i0), .val (.int i1), .val (.int i2), .val (.long j3), .second, .val (.long j4), .second, .val (.long j5), .second, .val (.ref b104), .unset, .unset, .unset, .unset, .unset, .unset, .unset] [])) (fun t k => XS.astore X104.here hx rfl (hb hby at_28) rfl (rfl) (l' := #[.val (.int i0), .val (.int i1), .val (.int i2), .val (.long j3), .second, .val (.long j4), .second, .val (.long j5), .second, .val (.ref b104), .unset, .unset, .unset, .unset, .unset, .unset, .unset]) rfl k) ?_
  refine own_via (g' := T104.setTop (mkF m 31 #[.val (.int i0), .val (.int i1), .val (.int i2), .val (.long j3), .second, .val (.long j4), .second, .val (.long j5), .second, .val (.ref b104), .unset, .unset, .unset, .unset, .unset, .unset, .unset] [(.int i0)])) (fun t k => XS.iloadN X104.here hx rfl (hb hby at_30) rfl k) ?_
  refine own_via (g' := T104.setTop (mkF m 32 #[.val (.int i0), .val (.int i1), .val (.int i2), .val (.long j3), .second, .val (.long j4), .second, .val (.long j5), .second, .val (.ref b104), .unset, .unset, .unset, .unset, .unset, .unset, .unset] [(.int (1 : Int32)), (.int i0)])) (fun t k => XS.iconst X104.here hx rfl (hb hby at_31) k) ?_
  obtain ⟨v105, _, ⟨T105, L105, k105, n105⟩, -, X105, ⟨Lc105, hQ105, l105, y105, z105⟩, st105⟩ := Jvm.LawKit.callS X104 hx (y := (⟨"com/example/arbordelta/arbordelta/SubtreeLabelsMostSavedWithPinLaw", "len", "(II)I"⟩ : MethodName)) hown (mvT hZ (hw _ (List.mem_of_getElem? (i := 0) rfl))) (mvT hZ (hw _ (List.mem_of_getElem? (i := 1) rfl))) (mvT hZ (hw _ (List.mem_of_getElem? (i := 2) rfl))) (mvT hZ (hw _ (List.mem_of_getElem? (i := 3) rfl))) (by decide) (backOf (W := 0) (own_rm1 l Z a0 hw [] i0 (1 : Int32) T104.heap n0 (Nat.le_trans Z0 Kc104.1) ) hZ (hw _ (List.mem_of_getElem? (i := 3) rfl)) (hw _ (List.mem_of_getElem? (i := 2) rfl)) (by decide) (by decide)) (g := (mkF m 32 #[.val (.int i0), .val (.int i1), .val (.int i2), .val (.long j3), .second, .val (.long j4), .second, .val (.long j5), .second, .val (.ref b104), .unset, .unset, .unset, .unset, .unset, .unset, .unset] [(.int (1 : Int32)), (.int i0)])) rfl (by rw [hml]; rfl) (argsL := [(.int i0), (.int (1 : Int32))]) (rest := []) (lenOf own_pd3 rfl) rfl (by show 2 * 0 + _ ≤ _; exact Nat.le_of_eq rfl) (hb hby at_32) (fun _ _ => ⟨rfl, rfl, (by decide : 1 + 0 ≤ _), (by decide : 2 + 0 ≤ _)⟩)
  dsimp only [Pt.U, Pt.locs, Pt.cells, Pt.slots] at X105 l105 y105 z105 st105 hQ105
  subst l105 y105 z105
  obtain ⟨r105, rfl, N105q, e105, hr105⟩ := hQ105
  have N105 := Fr.app N104 N105q
  refine own_via (g' := T105.setTop (mkF m 35 #[.val (.int i0), .val (.int i1), .val (.int i2), .val (.long j3), .second, .val (.long j4), .second, .val (.long j5), .second, .val (.ref b104), .unset, .unset, .unset, .unset, .unset, .unset, .unset] [(.int r105)])) (fun t k => st105 _ k) ?_
  refine own_via (g' := T105.setTop (mkF m 36 #[.val (.int i0), .val (.int i1), .val (.int i2), .val (.long j3), .second, .val (.long j4), .second, .val (.long j5), .second, .val (.ref b104), .unset, .unset, .unset, .unset, .unset, .unset, .unset] [(.int i1), (.int r105)])) (fun t k => XS.iloadN X105.here hx rfl (hb hby at_35) rfl k) ?_
  refine own_via (g' := T105.setTop (mkF m 37 #[.val (.int i0), .val (.int i1), .val (.int i2), .val (.long j3), .second, .val (.long j4), .second, .val (.long j5), .second, .val (.ref b104), .unset, .unset, .unset, .unset, .unset, .unset, .unset] [(.int (2 : Int32)), (.int i1), (.int r105)])) (fun t k => XS.iconst X105.here hx rfl (hb hby at_36) k) ?_
  refine own_via (g' := T105.setTop (mkF m 38 #[.val (.int i0), .val (.int i1), .val (.int i2), .val (.long j3), .second, .val (.long j4), .second, .val (.long j5), .second, .val (.ref b104), .unset, .unset, .unset, .unset, .unset, .unset, .unset] [(.long j3), (.int (2 : Int32)), (.int i1), (.int r105)])) (fun t k => XT.lloadN X105.here hx rfl (hb hby at_37) rfl k) ?_
  refine own_via (g' := T105.setTop (mkF m 40 #[.val (.int i0), .val (.int i1), .val (.int i2), .val (.long j3), .second, .val (.long j4), .second, .val (.long j5), .second, .val (.ref b104), .unset, .unset, .unset, .unset, .unset, .unset, .unset] [(.long j4), (.long j3), (.int (2 : Int32)), (.int i1), (.int r105)])) (fun t k => XT.lload X105.here hx rfl (hb hby at_38) rfl k) ?_
  refine own_via (g' := T105.setTop (mkF m 42 #[.val (.int i0), .val (.int i1), .val (.int i2), .val (.long j3), .second, .val (.long j4), .second, .val (.long j5), .second, .val (.ref b104), .unset, .unset, .unset, .unset, .unset, .unset, .unset] [(.long j5), (.long j4), (.long j3), (.int (2 : Int32)), (.int i1), (.int r105)])) (fun t k => XT.lload X105.here hx rfl (hb hby at_40) rfl k) ?_
  obtain ⟨v106, _, ⟨T106, L106, k106, n106⟩, -, X106, ⟨Lc106, hQ106, l106, y106, z106⟩, st106⟩ := Jvm.LawKit.callS X105 hx (y := (⟨"com/example/arbordelta/arbordelta/SubtreeLabelsMostSavedWithPinLaw", "pick", "(IIJJJ)J"⟩ : MethodName)) hown (mvT hZ (hw _ (List.mem_of_getElem? (i := 4) rfl))) (mvT hZ (hw _ (List.mem_of_getElem? (i := 5) rfl))) (mvT hZ (hw _ (List.mem_of_getElem? (i := 2) rfl))) (mvT hZ (hw _ (List.mem_of_getElem? (i := 6) rfl))) (by decide) (backOf (W := 1) (own_rm2 l Z a0 hw [] i1 (2 : Int32) j3 j4 j5 T104.heap n0 (Nat.le_trans Z0 Kc104.1) ) hZ (hw _ (List.mem_of_getElem? (i := 6) rfl)) (hw _ (List.mem_of_getElem? (i := 2) rfl)) (by decide) (by decide)) (g := (mkF m 42 #[.val (.int i0), .val (.int i1), .val (.int i2), .val (.long j3), .second, .val (.long j4), .second, .val (.long j5), .second, .val (.ref b104), .unset, .unset, .unset, .unset, .unset, .unset, .unset] [(.long j5), (.long j4), (.long j3), (.int (2 : Int32)), (.int i1), (.int r105)])) rfl (by rw [hml]; rfl) (argsL := [(.int i1), (.int (2 : Int32)), (.long j3), (.long j4), (.long j5)]) (rest := [(.int r105)]) (lenOf own_pd4 rfl) rfl (by show 2 * 0 + _ ≤ _; exact Nat.le_of_eq rfl) (hb hby at_42) (fun _ _ => ⟨rfl, e105, (by decide : 1 + 0 ≤ _), (by decide : 2 + 0 ≤ _)⟩)
  dsimp only [Pt.U, Pt.locs, Pt.cells, Pt.slots] at X106 l106 y106 z106 st106 hQ106
  subst l106 y106 z106
  obtain ⟨r106, rfl, N106q, e106⟩ := hQ106
  have N106 := Fr.app N105 N106q
  refine own_via (g' := T106.setTop (mkF m 45 #[.val (.int i0), .val (.int i1), .val (.int i2), .val (.long j3), .second, .val (.long j4), .second, .val (.long j5), .second, .val (.ref b104), .unset, .unset, .unset, .unset, .unset, .unset, .unset] [(.long r106), (.int r105)])) (fun t k => st106 _ k) ?_
  refine own_via (g' := T106.setTop (mkF m 46 #[.val (.int i0), .val (.int i1), .val (.int i2), .val (.long j3), .second, .val (.long j4), .second, .val (.long j5), .second, .val (.ref b104), .unset, .unset, .unset, .unset, .unset, .unset, .unset] [(.int i1), (.long r106), (.int r105)])) (fun t k => XS.iloadN X106.here hx rfl (hb hby at_45) rfl k) ?_
  refine own_via (g' := T106.setTop (mkF m 47 #[.val (.int i0), .val (.int i1), .val (.int i2), .val (.long j3), .second, .val (.long j4), .second, .val (.long j5), .second, .val (.ref b104), .unset, .unset, .unset, .unset, .unset, .unset, .unset] [(.int (3 : Int32)), (.int i1), (.long r106), (.int r105)])) (fun t k => XS.iconst X106.here hx rfl (hb hby at_46) k) ?_
  refine own_via (g' := T106.setTop (mkF m 48 #[.val (.int i0), .val (.int i1), .val (.int i2), .val (.long j3), .second, .val (.long j4), .second, .val (.long j5), .second, .val (.ref b104), .unset, .unset, .unset, .unset, .unset, .unset, .unset] [(.long j3), (.int (3 : Int32)), (.int i1), (.long r106), (.int r105)])) (fun t k => XT.lloadN X106.here hx rfl (hb hby at_47) rfl k) ?_
  refine own_via (g' := T106.setTop (mkF m 50 #[.val (.int i0), .val (.int i1), .val (.int i2), .val (.long j3), .second, .val (.long j4), .second, .val (.long j5), .second, .val (.ref b104), .unset, .unset, .unset, .unset, .unset, .unset, .unset] [(.long j4), (.long j3), (.int (3 : Int32)), (.int i1), (.long r106), (.int r105)])) (fun t k => XT.lload X106.here hx rfl (hb hby at_48) rfl k) ?_
  refine own_via (g' := T106.setTop (mkF m 52 #[.val (.int i0), .val (.int i1), .val (.int i2), .val (.long j3), .second, .val (.long j4), .second, .val (.long j5), .second, .val (.ref b104), .unset, .unset, .unset, .unset, .unset, .unset, .unset] [(.long j5), (.long j4), (.long j3), (.int (3 : Int32)), (.int i1), (.long r106), (.int r105)])) (fun t k => XT.lload X106.here hx rfl (hb hby at_50) rfl k) ?_
  obtain ⟨v107, _, ⟨T107, L107, k107, n107⟩, -, X107, ⟨Lc107, hQ107, l107, y107, z107⟩, st107⟩ := Jvm.LawKit.callS X106 hx (y := (⟨"com/example/arbordelta/arbordelta/SubtreeLabelsMostSavedWithPinLaw", "pick", "(IIJJJ)J"⟩ : MethodName)) hown (mvT hZ (hw _ (List.mem_of_getElem? (i := 4) rfl))) (mvT hZ (hw _ (List.mem_of_getElem? (i := 5) rfl))) (mvT hZ (hw _ (List.mem_of_getElem? (i := 2) rfl))) (mvT hZ (hw _ (List.mem_of_getElem? (i := 6) rfl))) (by decide) (backOf (W := 3) (own_rm2 l Z a0 hw [] i1 (3 : Int32) j3 j4 j5 T104.heap n0 (Nat.le_trans Z0 Kc104.1) ) hZ (hw _ (List.mem_of_getElem? (i := 6) rfl)) (hw _ (List.mem_of_getElem? (i := 2) rfl)) (by decide) (by decide)) (g := (mkF m 52 #[.val (.int i0), .val (.int i1), .val (.int i2), .val (.long j3), .second, .val (.long j4), .second, .val (.long j5), .second, .val (.ref b104), .unset, .unset, .unset, .unset, .unset, .unset, .unset] [(.long j5), (.long j4), (.long j3), (.int (3 : Int32)), (.int i1), (.long r106), (.int r105)])) rfl (by rw [hml]; rfl) (argsL := [(.int i1), (.int (3 : Int32)), (.long j3), (.long j4), (.long j5)]) (rest := [(.long r106), (.int r105)]) (lenOf own_pd4 rfl) rfl (by show 2 * 0 + _ ≤ _; exact Nat.le_of_eq rfl) (hb hby at_52) (fun _ _ => ⟨rfl, e106, (by decide : 1 + 0 ≤ _), (by decide : 2 + 0 ≤ _)⟩)
  dsimp only [Pt.U, Pt.locs, Pt.cells, Pt.slots] at X107 l107 y107 z107 st107 hQ107
  subst l107 y107 z107
  obtain ⟨r107, rfl, N107q, e107⟩ := hQ107
  have N107 := Fr.app N106 N107q
  refine own_via (g' := T107.setTop (mkF m 55 #[.val (.int i0), .val (.int i1), .val (.int i2), .val (.long j3), .second, .val (.long j4), .second, .val (.long j5), .second, .val (.ref b104), .unset, .unset, .unset, .unset, .unset, .unset, .unset] [(.long r107), (.long r106), (.int r105)])) (fun t k => st107 _ k) ?_
  obtain ⟨v108, _, ⟨T108, L108, k108, n108⟩, -, X108, ⟨Lc108, hQ108, l108, y108, z108⟩, st108⟩ := Jvm.LawKit.callS X107 hx (y := (⟨"com/example/arbordelta/arbordelta/SubtreeLabelsMostSavedWithPinLaw", "arr", "(IJJ)[J"⟩ : MethodName)) hown (mvT hZ (hw _ (List.mem_of_getElem? (i := 8) rfl))) (mvT hZ (hw _ (List.mem_of_getElem? (i := 9) rfl))) (mvT hZ (hw _ (List.mem_of_getElem? (i := 2) rfl))) (mvT hZ (hw _ (List.mem_of_getElem? (i := 10) rfl))) (by decide) (backOf (W := 0) (own_rm3 l Z a0 hw [] r105 r106 r107 T104.heap n0 (Nat.le_trans Z0 Kc104.1) hr105) hZ (hw _ (List.mem_of_getElem? (i := 10) rfl)) (hw _ (List.mem_of_getElem? (i := 2) rfl)) (by decide) (by decide)) (g := (mkF m 55 #[.val (.int i0), .val (.int i1), .val (.int i2), .val (.long j3), .second, .val (.long j4), .second, .val (.long j5), .second, .val (.ref b104), .unset, .unset, .unset, .unset, .unset, .unset, .unset] [(.long r107), (.long r106), (.int r105)])) rfl (by rw [hml]; rfl) (argsL := [(.int r105), (.long r106), (.long r107)]) (rest := []) (lenOf own_pd5 rfl) rfl (by show 2 * 0 + _ ≤ _; exact Nat.le_of_eq rfl) (hb hby at_55) (fun _ _ => ⟨rfl, e107, (by decide : 1 + 1 ≤ _), (by decide : 2 + 2 ≤ _)⟩)
  dsimp only [Pt.U, Pt.locs, Pt.cells, Pt.slots] at X108 l108 y108 z108 st108 hQ108
  subst l108 y108 z108
  obtain ⟨b108, rfl, N108q, szq108, K108, V108⟩ := hQ108
  have ne_b104_b108 : b104 ≠ b108 := Nat.ne_of_lt (Nat.lt_of_lt_of_le V104.lt szq108)
  have Kc108 : Keep h0 T108.heap [] := Kc104.trans K108 all0
  have sz_b108 : h0.size ≤ b108 := Nat.le_trans Kc104.1 szq108
  have g_b108 : n0 ≤ b108 := Nat.le_trans Z0 sz_b108
  obtain ⟨Lb108, qLb108⟩ : ∃ L', L' = (own_arr r105 r106 r107) := ⟨_, rfl⟩
  rw [← qLb108] at V108
  have csb108 := own_arr_cases r105 r106 r107
  rw [← qLb108] at csb108
  have lnb108 : Lb108.length ≤ 2 := qLb108 ▸ own_arr_len _ _ _
  have N108 := Fr.app N107 N108q
  refine own_via (g' := T108.setTop (mkF m 58 #[.val (.int i0), .val (.int i1), .val (.int i2), .val (.long j3), .second, .val (.long j4), .second, .val (.long j5), .second, .val (.ref b104), .unset, .unset, .unset, .unset, .unset, .unset, .unset] [(.ref b108)])) (fun t k => st108 _ k) ?_
  refine own_via (g' := T108.setTop (mkF m 60 #[.val (.int i0), .val (.int i1), .val (.int i2), .val (.long j3), .second, .val (.long j4), .second, .val (.long j5), .second, .val (.ref b104), .val (.ref b108), .unset, .unset, .unset, .unset, .unset, .unset] [])) (fun t k => XS.astore X108.here hx rfl (hb hby at_58) rfl (rfl) (l' := #[.val (.int i0), .val (.int i1), .val (.int i2), .val (.long j3), .second, .val (.long j4), .second, .val (.long j5), .second, .val (.ref b104), .val (.ref b108), .unset, .unset, .unset, .unset, .unset, .unset]) rfl k) ?_
  refine own_via (g' := T108.setTop (mkF m 61 #[.val (.int i0), .val (.int i1), .val (.int i2), .val (.long j3), .second, .val (.long j4), .second, .val (.long j5), .second, .val (.ref b104), .val (.ref b108), .unset, .unset, .unset, .unset, .unset, .unset] [(.int i0)])) (fun t k => XS.iloadN X108.here hx rfl (hb hby at_60) rfl k) ?_
  refine own_via (g' := T108.setTop (mkF m 62 #[.val (.int i0), .val (.int i1), .val (.int i2), .val (.long j3), .second, .val (.long j4), .second, .val (.long j5), .second, .val (.ref b104), .val (.ref b108), .unset, .unset, .unset, .unset, .unset, .unset] [(.int (2 : Int32)), (.int i0)])) (fun t k => XS.iconst X108.here hx rfl (hb hby at_61) k) ?_
  obtain ⟨v109, _, ⟨T109, L109, k109, n109⟩, -, X109, ⟨Lc109, hQ109, l109, y109, z109⟩, st109⟩ := Jvm.LawKit.callS X108 hx (y := (⟨"com/example/arbordelta/arbordelta/SubtreeLabelsMostSavedWithPinLaw", "len", "(II)I"⟩ : MethodName)) hown (mvT hZ (hw _ (List.mem_of_getElem? (i := 0) rfl))) (mvT hZ (hw _ (List.mem_of_getElem? (i := 1) rfl))) (mvT hZ (hw _ (List.mem_of_getElem? (i := 2) rfl))) (mvT hZ (hw _ (List.mem_of_getElem? (i := 3) rfl))) (by decide) (backOf (W := 0) (own_rm1 l Z a0 hw [] i0 (2 : Int32) T108.heap n0 (Nat.le_trans Z0 Kc108.1) ) hZ (hw _ (List.mem_of_getElem? (i := 3) rfl)) (hw _ (List.mem_of_getElem? (i := 2) rfl)) (by decide) (by decide)) (g := (mkF m 62 #[.val (.int i0), .val (.int i1), .val (.int i2), .val (.long j3), .second, .val (.long j4), .second, .val (.long j5), .second, .val (.ref b104), .val (.ref b108), .unset, .unset, .unset, .unset, .unset, .unset] [(.int (2 : Int32)), (.int i0)])) rfl (by rw [hml]; rfl) (argsL := [(.int i0), (.int (2 : Int32))]) (rest := []) (lenOf own_pd3 rfl) rfl (by show 2 * 0 + _ ≤ _; exact Nat.le_of_eq rfl) (hb hby at_62) (fun _ _ => ⟨rfl, rfl, (by decide : 2 + 0 ≤ _), (by decide : 4 + 0 ≤ _)⟩)
  dsimp only [Pt.U, Pt.locs, Pt.cells, Pt.slots] at X109 l109 y109 z109 st109 hQ109
  subst l109 y109 z109
  obtain ⟨r109, rfl, N109q, e109, hr109⟩ := hQ109
  have N109 := Fr.app N108 N109q
  refine own_via (g' := T109.setTop (mkF m 65 #[.val (.int i0), .val (.int i1), .val (.int i2), .val (.long j3), .second, .val (.long j4), .second, .val (.long j5), .second, .val (.ref b104), .val (.ref b108), .unset, .unset, .unset, .unset, .unset, .unset] [(.int r109)])) (fun t k => st109 _ k) ?_
  refine own_via (g' := T109.setTop (mkF m 66 #[.val (.int i0), .val (.int i1), .val (.int i2), .val (.long j3), .second, .val (.long j4), .second, .val (.long j5), .second, .val (.ref b104), .val (.ref b108), .unset, .unset, .unset, .unset, .unset, .unset] [(.int i2), (.int r109)])) (fun t k => XS.iloadN X109.here hx rfl (hb hby at_65) rfl k) ?_
  refine own_via (g' := T109.setTop (mkF m 67 #[.val (.int i0), .val (.int i1), .val (.int i2), .val (.long j3), .second, .val (.long j4), .second, .val (.long j5), .second, .val (.ref b104), .val (.ref b108), .unset, .unset, .unset, .unset, .unset, .unset] [(.int (0 : Int32)), (.int i2), (.int r109)])) (fun t k => XS.iconst X109.here hx rfl (hb hby at_66) k) ?_
  refine own_via (g' := T109.setTop (mkF m 68 #[.val (.int i0), .val (.int i1), .val (.int i2), .val (.long j3), .second, .val (.long j4), .second, .val (.long j5), .second, .val (.ref b104), .val (.ref b108), .unset, .unset, .unset, .unset, .unset, .unset] [(.long j3), (.int (0 : Int32)), (.int i2), (.int r109)])) (fun t k => XT.lloadN X109.here hx rfl (hb hby at_67) rfl k) ?_
  refine own_via (g' := T109.setTop (mkF m 70 #[.val (.int i0), .val (.int i1), .val (.int i2), .val (.long j3), .second, .val (.long j4), .second, .val (.long j5), .second, .val (.ref b104), .val (.ref b108), .unset, .unset, .unset, .unset, .unset, .unset] [(.long j4), (.long j3), (.int (0 : Int32)), (.int i2), (.int r109)])) (fun t k => XT.lload X109.here hx rfl (hb hby at_68) rfl k) ?_
  refine own_via (g' := T109.setTop (mkF m 72 #[.val (.int i0), .val (.int i1), .val (.int i2), .val (.long j3), .second, .val (.long j4), .second, .val (.long j5), .second, .val (.ref b104), .val (.ref b108), .unset, .unset, .unset, .unset, .unset, .unset] [(.long j5), (.long j4), (.long j3), (.int (0 : Int32)), (.int i2), (.int r109)])) (fun t k => XT.lload X109.here hx rfl (hb hby at_70) rfl k) ?_
  obtain ⟨v110, _, ⟨T110, L110, k110, n110⟩, -, X110, ⟨Lc110, hQ110, l110, y110, z110⟩, st110⟩ := Jvm.LawKit.callS X109 hx (y := (⟨"com/example/arbordelta/arbordelta/SubtreeLabelsMostSavedWithPinLaw", "pick", "(IIJJJ)J"⟩ : MethodName)) hown (mvT hZ (hw _ (List.mem_of_getElem? (i := 4) rfl))) (mvT hZ (hw _ (List.mem_of_getElem? (i := 5) rfl))) (mvT hZ (hw _ (List.mem_of_getElem? (i := 2) rfl))) (mvT hZ (hw _ (List.mem_of_getElem? (i := 6) rfl))) (by decide) (backOf (W := 1) (own_rm2 l Z a0 hw [] i2 (0 : Int32) j3 j4 j5 T108.heap n0 (Nat.le_trans Z0 Kc108.1) ) hZ (hw _ (List.mem_of_getElem? (i := 6) rfl)) (hw _ (List.mem_of_getElem? (i := 2) rfl)) (by decide) (by decide)) (g := (mkF m 72 #[.val (.int i0), .val (.int i1), .val (.int i2), .val (.long j3), .second, .val (.long j4), .second, .val (.long j5), .second, .val (.ref b104), .val (.ref b108), .unset, .unset, .unset, .unset, .unset, .unset] [(.long j5), (.long j4), (.long j3), (.int (0 : Int32)), (.int i2), (.int r109)])) rfl (by rw [hml]; rfl) (argsL := [(.int i2), (.int (0 : Int32)), (.long j3), (.long j4), (.long j5)]) (rest := [(.int r109)]) (lenOf own_pd4 rfl) rfl (by show 2 * 0 + _ ≤ _; exact Nat.le_of_eq rfl) (hb hby at_72) (fun _ _ => ⟨rfl, e109, (by decide : 2 + 0 ≤ _), (by decide : 4 + 0 ≤ _)⟩)
  dsimp only [Pt.U, Pt.locs, Pt.cells, Pt.slots] at X110 l110 y110 z110 st110 hQ110
  subst l110 y110 z110
  obtain ⟨r110, rfl, N110q, e110⟩ := hQ110
  have N110 := Fr.app N109 N110q
  refine own_via (g' := T110.setTop (mkF m 75 #[.val (.int i0), .val (.int i1), .val (.int i2), .val (.long j3), .second, .val (.long j4), .second, .val (.long j5), .second, .val (.ref b104), .val (.ref b108), .unset, .unset, .unset, .unset, .unset, .unset] [(.long r110), (.int r109)])) (fun t k => st110 _ k) ?_
  refine own_via (g' := T110.setTop (mkF m 76 #[.val (.int i0), .val (.int i1), .val (.int i2), .val (.long j3), .second, .val (.long j4), .second, .val (.long j5), .second, .val (.ref b104), .val (.ref b108), .unset, .unset, .unset, .unset, .unset, .unset] [(.int i2), (.long r110), (.int r109)])) (fun t k => XS.iloadN X110.here hx rfl (hb hby at_75) rfl k) ?_
  refine own_via (g' := T110.setTop (mkF m 77 #[.val (.int i0), .val (.int i1), .val (.int i2), .val (.long j3), .second, .val (.long j4), .second, .val (.long j5), .second, .val (.ref b104), .val (.ref b108), .unset, .unset, .unset, .unset, .unset, .unset] [(.int (1 : Int32)), (.int i2), (.long r110), (.int r109)])) (fun t k => XS.iconst X110.here hx rfl (hb hby at_76) k) ?_
  refine own_via (g' := T110.setTop (mkF m 78 #[.val (.int i0), .val (.int i1), .val (.int i2), .val (.long j3), .second, .val (.long j4), .second, .val (.long j5), .second, .val (.ref b104), .val (.ref b108), .unset, .unset, .unset, .unset, .unset, .unset] [(.long j3), (.int (1 : Int32)), (.int i2), (.long r110), (.int r109)])) (fun t k => XT.lloadN X110.here hx rfl (hb hby at_77) rfl k) ?_
  refine own_via (g' := T110.setTop (mkF m 80 #[.val (.int i0), .val (.int i1), .val (.int i2), .val (.long j3), .second, .val (.long j4), .second, .val (.long j5), .second, .val (.ref b104), .val (.ref b108), .unset, .unset, .unset, .unset, .unset, .unset] [(.long j4), (.long j3), (.int (1 : Int32)), (.int i2), (.long r110), (.int r109)])) (fun t k => XT.lload X110.here hx rfl (hb hby at_78) rfl k) ?_
  refine own_via (g' := T110.setTop (mkF m 82 #[.val (.int i0), .val (.int i1), .val (.int i2), .val (.long j3), .second, .val (.long j4), .second, .val (.long j5), .second, .val (.ref b104), .val (.ref b108), .unset, .unset, .unset, .unset, .unset, .unset] [(.long j5), (.long j4), (.long j3), (.int (1 : Int32)), (.int i2), (.long r110), (.int r109)])) (fun t k => XT.lload X110.here hx rfl (hb hby at_80) rfl k) ?_
  obtain ⟨v111, _, ⟨T111, L111, k111, n111⟩, -, X111, ⟨Lc111, hQ111, l111, y111, z111⟩, st111⟩ := Jvm.LawKit.callS X110 hx (y := (⟨"com/example/arbordelta/arbordelta/SubtreeLabelsMostSavedWithPinLaw", "pick", "(IIJJJ)J"⟩ : MethodName)) hown (mvT hZ (hw _ (List.mem_of_getElem? (i := 4) rfl))) (mvT hZ (hw _ (List.mem_of_getElem? (i := 5) rfl))) (mvT hZ (hw _ (List.mem_of_getElem? (i := 2) rfl))) (mvT hZ (hw _ (List.mem_of_getElem? (i := 6) rfl))) (by decide) (backOf (W := 3) (own_rm2 l Z a0 hw [] i2 (1 : Int32) j3 j4 j5 T108.heap n0 (Nat.le_trans Z0 Kc108.1) ) hZ (hw _ (List.mem_of_getElem? (i := 6) rfl)) (hw _ (List.mem_of_getElem? (i := 2) rfl)) (by decide) (by decide)) (g := (mkF m 82 #[.val (.int i0), .val (.int i1), .val (.int i2), .val (.long j3), .second, .val (.long j4), .second, .val (.long j5), .second, .val (.ref b104), .val (.ref b108), .unset, .unset, .unset, .unset, .unset, .unset] [(.long j5), (.long j4), (.long j3), (.int (1 : Int32)), (.int i2), (.long r110), (.int r109)])) rfl (by rw [hml]; rfl) (argsL := [(.int i2), (.int (1 : Int32)), (.long j3), (.long j4), (.long j5)]) (rest := [(.long r110), (.int r109)]) (lenOf own_pd4 rfl) rfl (by show 2 * 0 + _ ≤ _; exact Nat.le_of_eq rfl) (hb hby at_82) (fun _ _ => ⟨rfl, e110, (by decide : 2 + 0 ≤ _), (by decide : 4 + 0 ≤ _)⟩)
  dsimp only [Pt.U, Pt.locs, Pt.cells, Pt.slots] at X111 l111 y111 z111 st111 hQ111
  subst l111 y111 z111
  obtain ⟨r111, rfl, N111q, e111⟩ := hQ111
  have N111 := Fr.app N110 N111q
  refine own_via (g' := T111.setTop (mkF m 85 #[.val (.int i0), .val (.int i1), .val (.int i2), .val (.long j3), .second, .val (.long j4), .second, .val (.long j5), .second, .val (.ref b104), .val (.ref b108), .unset, .unset, .unset, .unset, .unset, .unset] [(.long r111), (.long r110), (.int r109)])) (fun t k => st111 _ k) ?_
  obtain ⟨v112, _, ⟨T112, L112, k112, n112⟩, -, X112, ⟨Lc112, hQ112, l112, y112, z112⟩, st112⟩ := Jvm.LawKit.callS X111 hx (y := (⟨"com/example/arbordelta/arbordelta/SubtreeLabelsMostSavedWithPinLaw", "arr", "(IJJ)[J"⟩ : MethodName)) hown (mvT hZ (hw _ (List.mem_of_getElem? (i := 8) rfl))) (mvT hZ (hw _ (List.mem_of_getElem? (i := 9) rfl))) (mvT hZ (hw _ (List.mem_of_getElem? (i := 2) rfl))) (mvT hZ (hw _ (List.mem_of_getElem? (i := 10) rfl))) (by decide) (backOf (W := 0) (own_rm3 l Z a0 hw [] r109 r110 r111 T108.heap n0 (Nat.le_trans Z0 Kc108.1) hr109) hZ (hw _ (List.mem_of_getElem? (i := 10) rfl)) (hw _ (List.mem_of_getElem? (i := 2) rfl)) (by decide) (by decide)) (g := (mkF m 85 #[.val (.int i0), .val (.int i1), .val (.int i2), .val (.long j3), .second, .val (.long j4), .second, .val (.long j5), .second, .val (.ref b104), .val (.ref b108), .unset, .unset, .unset, .unset, .unset, .unset] [(.long r111), (.long r110), (.int r109)])) rfl (by rw [hml]; rfl) (argsL := [(.int r109), (.long r110), (.long r111)]) (rest := []) (lenOf own_pd5 rfl) rfl (by show 2 * 0 + _ ≤ _; exact Nat.le_of_eq rfl) (hb hby at_85) (fun _ _ => ⟨rfl, e111, (by decide : 2 + 1 ≤ _), (by decide : 4 + 2 ≤ _)⟩)
  dsimp only [Pt.U, Pt.locs, Pt.cells, Pt.slots] at X112 l112 y112 z112 st112 hQ112
  subst l112 y112 z112
  obtain ⟨b112, rfl, N112q, szq112, K112, V112⟩ := hQ112
  have ne_b104_b112 : b104 ≠ b112 := Nat.ne_of_lt (Nat.lt_of_lt_of_le (V104.keep K108 nin0).lt szq112)
  have ne_b108_b112 : b108 ≠ b112 := Nat.ne_of_lt (Nat.lt_of_lt_of_le V108.lt szq112)
  have Kc112 : Keep h0 T112.heap [] := Kc108.trans K112 all0
  have sz_b112 : h0.size ≤ b112 := Nat.le_trans Kc108.1 szq112
  have g_b112 : n0 ≤ b112 := Nat.le_trans Z0 sz_b112
  obtain ⟨Lb112, qLb112⟩ : ∃ L', L' = (own_arr r109 r110 r111) := ⟨_, rfl⟩
  rw [← qLb112] at V112
  have csb112 := own_arr_cases r109 r110 r111
  rw [← qLb112] at csb112
  have lnb112 : Lb112.length ≤ 2 := qLb112 ▸ own_arr_len _ _ _
  have N112 := Fr.app N111 N112q
  refine own_via (g' := T112.setTop (mkF m 88 #[.val (.int i0), .val (.int i1), .val (.int i2), .val (.long j3), .second, .val (.long j4), .second, .val (.long j5), .second, .val (.ref b104), .val (.ref b108), .unset, .unset, .unset, .unset, .unset, .unset] [(.ref b112)])) (fun t k => st112 _ k) ?_
  refine own_via (g' := T112.setTop (mkF m 90 #[.val (.int i0), .val (.int i1), .val (.int i2), .val (.long j3), .second, .val (.long j4), .second, .val (.long j5), .second, .val (.ref b104), .val (.ref b108), .val (.ref b112), .unset, .unset, .unset, .unset, .unset] [])) (fun t k => XS.astore X112.here hx rfl (hb hby at_88) rfl (rfl) (l' := #[.val (.int i0), .val (.int i1), .val (.int i2), .val (.long j3), .second, .val (.long j4), .second, .val (.long j5), .second, .val (.ref b104), .val (.ref b108), .val (.ref b112), .unset, .unset, .unset, .unset, .unset]) rfl k) ?_
  refine own_via (g' := T112.setTop (mkF m 91 #[.val (.int i0), .val (.int i1), .val (.int i2), .val (.long j3), .second, .val (.long j4), .second, .val (.long j5), .second, .val (.ref b104), .val (.ref b108), .val (.ref b112), .unset, .unset, .unset, .unset, .unset] [(.int i0)])) (fun t k => XS.iloadN X112.here hx rfl (hb hby at_90) rfl k) ?_
  refine own_via (g' := T112.setTop (mkF m 92 #[.val (.int i0), .val (.int i1), .val (.int i2), .val (.long j3), .second, .val (.long j4), .second, .val (.long j5), .second, .val (.ref b104), .val (.ref b108), .val (.ref b112), .unset, .unset, .unset, .unset, .unset] [(.int (3 : Int32)), (.int i0)])) (fun t k => XS.iconst X112.here hx rfl (hb hby at_91) k) ?_
  obtain ⟨v113, _, ⟨T113, L113, k113, n113⟩, -, X113, ⟨Lc113, hQ113, l113, y113, z113⟩, st113⟩ := Jvm.LawKit.callS X112 hx (y := (⟨"com/example/arbordelta/arbordelta/SubtreeLabelsMostSavedWithPinLaw", "len", "(II)I"⟩ : MethodName)) hown (mvT hZ (hw _ (List.mem_of_getElem? (i := 0) rfl))) (mvT hZ (hw _ (List.mem_of_getElem? (i := 1) rfl))) (mvT hZ (hw _ (List.mem_of_getElem? (i := 2) rfl))) (mvT hZ (hw _ (List.mem_of_getElem? (i := 3) rfl))) (by decide) (backOf (W := 0) (own_rm1 l Z a0 hw [] i0 (3 : Int32) T112.heap n0 (Nat.le_trans Z0 Kc112.1) ) hZ (hw _ (List.mem_of_getElem? (i := 3) rfl)) (hw _ (List.mem_of_getElem? (i := 2) rfl)) (by decide) (by decide)) (g := (mkF m 92 #[.val (.int i0), .val (.int i1), .val (.int i2), .val (.long j3), .second, .val (.long j4), .second, .val (.long j5), .second, .val (.ref b104), .val (.ref b108), .val (.ref b112), .unset, .unset, .unset, .unset, .unset] [(.int (3 : Int32)), (.int i0)])) rfl (by rw [hml]; rfl) (argsL := [(.int i0), (.int (3 : Int32))]) (rest := []) (lenOf own_pd3 rfl) rfl (by show 2 * 0 + _ ≤ _; exact Nat.le_of_eq rfl) (hb hby at_92) (fun _ _ => ⟨rfl, rfl, (by decide : 3 + 0 ≤ _), (by decide : 6 + 0 ≤ _)⟩)
  dsimp only [Pt.U, Pt.locs, Pt.cells, Pt.slots] at X113 l113 y113 z113 st113 hQ113
  subst l113 y113 z113
  obtain ⟨r113, rfl, N113q, e113, hr113⟩ := hQ113
  have N113 := Fr.app N112 N113q
  refine own_via (g' := T113.setTop (mkF m 95 #[.val (.int i0), .val (.int i1), .val (.int i2), .val (.long j3), .second, .val (.long j4), .second, .val (.long j5), .second, .val (.ref b104), .val (.ref b108), .val (.ref b112), .unset, .unset, .unset, .unset, .unset] [(.int r113)])) (fun t k => st113 _ k) ?_
  refine own_via (g' := T113.setTop (mkF m 96 #[.val (.int i0), .val (.int i1), .val (.int i2), .val (.long j3), .second, .val (.long j4), .second, .val (.long j5), .second, .val (.ref b104), .val (.ref b108), .val (.ref b112), .unset, .unset, .unset, .unset, .unset] [(.int i2), (.int r113)])) (fun t k => XS.iloadN X113.here hx rfl (hb hby at_95) rfl k) ?_
  refine own_via (g' := T113.setTop (mkF m 97 #[.val (.int i0), .val (.int i1), .val (.int i2), .val (.long j3), .second, .val (.long j4), .second, .val (.long j5), .second, .val (.ref b104), .val (.ref b108), .val (.ref b112), .unset, .unset, .unset, .unset, .unset] [(.int (2 : Int32)), (.int i2), (.int r113)])) (fun t k => XS.iconst X113.here hx rfl (hb hby at_96) k) ?_
  refine own_via (g' := T113.setTop (mkF m 98 #[.val (.int i0), .val (.int i1), .val (.int i2), .val (.long j3), .second, .val (.long j4), .second, .val (.long j5), .second, .val (.ref b104), .val (.ref b108), .val (.ref b112), .unset, .unset, .unset, .unset, .unset] [(.long j3), (.int (2 : Int32)), (.int i2), (.int r113)])) (fun t k => XT.lloadN X113.here hx rfl (hb hby at_97) rfl k) ?_
  refine own_via (g' := T113.setTop (mkF m 100 #[.val (.int i0), .val (.int i1), .val (.int i2), .val (.long j3), .second, .val (.long j4), .second, .val (.long j5), .second, .val (.ref b104), .val (.ref b108), .val (.ref b112), .unset, .unset, .unset, .unset, .unset] [(.long j4), (.long j3), (.int (2 : Int32)), (.int i2), (.int r113)])) (fun t k => XT.lload X113.here hx rfl (hb hby at_98) rfl k) ?_
  refine own_via (g' := T113.setTop (mkF m 102 #[.val (.int i0), .val (.int i1), .val (.int i2), .val (.long j3), .second, .val (.long j4), .second, .val (.long j5), .second, .val (.ref b104), .val (.ref b108), .val (.ref b112), .unset, .unset, .unset, .unset, .unset] [(.long j5), (.long j4), (.long j3), (.int (2 : Int32)), (.int i2), (.int r113)])) (fun t k => XT.lload X113.here hx rfl (hb hby at_100) rfl k) ?_
  obtain ⟨v114, _, ⟨T114, L114, k114, n114⟩, -, X114, ⟨Lc114, hQ114, l114, y114, z114⟩, st114⟩ := Jvm.LawKit.callS X113 hx (y := (⟨"com/example/arbordelta/arbordelta/SubtreeLabelsMostSavedWithPinLaw", "pick", "(IIJJJ)J"⟩ : MethodName)) hown (mvT hZ (hw _ (List.mem_of_getElem? (i := 4) rfl))) (mvT hZ (hw _ (List.mem_of_getElem? (i := 5) rfl))) (mvT hZ (hw _ (List.mem_of_getElem? (i := 2) rfl))) (mvT hZ (hw _ (List.mem_of_getElem? (i := 6) rfl))) (by decide) (backOf (W := 1) (own_rm2 l Z a0 hw [] i2 (2 : Int32) j3 j4 j5 T112.heap n0 (Nat.le_trans Z0 Kc112.1) ) hZ (hw _ (List.mem_of_getElem? (i := 6) rfl)) (hw _ (List.mem_of_getElem? (i := 2) rfl)) (by decide) (by decide)) (g := (mkF m 102 #[.val (.int i0), .val (.int i1), .val (.int i2), .val (.long j3), .second, .val (.long j4), .second, .val (.long j5), .second, .val (.ref b104), .val (.ref b108), .val (.ref b112), .unset, .unset, .unset, .unset, .unset] [(.long j5), (.long j4), (.long j3), (.int (2 : Int32)), (.int i2), (.int r113)])) rfl (by rw [hml]; rfl) (argsL := [(.int i2), (.int (2 : Int32)), (.long j3), (.long j4), (.long j5)]) (rest := [(.int r113)]) (lenOf own_pd4 rfl) rfl (by show 2 * 0 + _ ≤ _; exact Nat.le_of_eq rfl) (hb hby at_102) (fun _ _ => ⟨rfl, e113, (by decide : 3 + 0 ≤ _), (by decide : 6 + 0 ≤ _)⟩)
  dsimp only [Pt.U, Pt.locs, Pt.cells, Pt.slots] at X114 l114 y114 z114 st114 hQ114
  subst l114 y114 z114
  obtain ⟨r114, rfl, N114q, e114⟩ := hQ114
  have N114 := Fr.app N113 N114q
  refine own_via (g' := T114.setTop (mkF m 105 #[.val (.int i0), .val (.int i1), .val (.int i2), .val (.long j3), .second, .val (.long j4), .second, .val (.long j5), .second, .val (.ref b104), .val (.ref b108), .val (.ref b112), .unset, .unset, .unset, .unset, .unset] [(.long r114), (.int r113)])) (fun t k => st114 _ k) ?_
  refine own_via (g' := T114.setTop (mkF m 106 #[.val (.int i0), .val (.int i1), .val (.int i2), .val (.long j3), .second, .val (.long j4), .second, .val (.long j5), .second, .val (.ref b104), .val (.ref b108), .val (.ref b112), .unset, .unset, .unset, .unset, .unset] [(.int i2), (.long r114), (.int r113)])) (fun t k => XS.iloadN X114.here hx rfl (hb hby at_105) rfl k) ?_
  refine own_via (g' := T114.setTop (mkF m 107 #[.val (.int i0), .val (.int i1), .val (.int i2), .val (.long j3), .second, .val (.long j4), .second, .val (.long j5), .second, .val (.ref b104), .val (.ref b108), .val (.ref b112), .unset, .unset, .unset, .unset, .unset] [(.int (3 : Int32)), (.int i2), (.long r114), (.int r113)])) (fun t k => XS.iconst X114.here hx rfl (hb hby at_106) k) ?_
  refine own_via (g' := T114.setTop (mkF m 108 #[.val (.int i0), .val (.int i1), .val (.int i2), .val (.long j3), .second, .val (.long j4), .second, .val (.long j5), .second, .val (.ref b104), .val (.ref b108), .val (.ref b112), .unset, .unset, .unset, .unset, .unset] [(.long j3), (.int (3 : Int32)), (.int i2), (.long r114), (.int r113)])) (fun t k => XT.lloadN X114.here hx rfl (hb hby at_107) rfl k) ?_
  refine own_via (g' := T114.setTop (mkF m 110 #[.val (.int i0), .val (.int i1), .val (.int i2), .val (.long j3), .second, .val (.long j4), .second, .val (.long j5), .second, .val (.ref b104), .val (.ref b108), .val (.ref b112), .unset, .unset, .unset, .unset, .unset] [(.long j4), (.long j3), (.int (3 : Int32)), (.int i2), (.long r114), (.int r113)])) (fun t k => XT.lload X114.here hx rfl (hb hby at_108) rfl k) ?_
  refine own_via (g' := T114.setTop (mkF m 112 #[.val (.int i0), .val (.int i1), .val (.int i2), .val (.long j3), .second, .val (.long j4), .second, .val (.long j5), .second, .val (.ref b104), .val (.ref b108), .val (.ref b112), .unset, .unset, .unset, .unset, .unset] [(.long j5), (.long j4), (.long j3), (.int (3 : Int32)), (.int i2), (.long r114), (.int r113)])) (fun t k => XT.lload X114.here hx rfl (hb hby at_110) rfl k) ?_
  obtain ⟨v115, _, ⟨T115, L115, k115, n115⟩, -, X115, ⟨Lc115, hQ115, l115, y115, z115⟩, st115⟩ := Jvm.LawKit.callS X114 hx (y := (⟨"com/example/arbordelta/arbordelta/SubtreeLabelsMostSavedWithPinLaw", "pick", "(IIJJJ)J"⟩ : MethodName)) hown (mvT hZ (hw _ (List.mem_of_getElem? (i := 4) rfl))) (mvT hZ (hw _ (List.mem_of_getElem? (i := 5) rfl))) (mvT hZ (hw _ (List.mem_of_getElem? (i := 2) rfl))) (mvT hZ (hw _ (List.mem_of_getElem? (i := 6) rfl))) (by decide) (backOf (W := 3) (own_rm2 l Z a0 hw [] i2 (3 : Int32) j3 j4 j5 T112.heap n0 (Nat.le_trans Z0 Kc112.1) ) hZ (hw _ (List.mem_of_getElem? (i := 6) rfl)) (hw _ (List.mem_of_getElem? (i := 2) rfl)) (by decide) (by decide)) (g := (mkF m 112 #[.val (.int i0), .val (.int i1), .val (.int i2), .val (.long j3), .second, .val (.long j4), .second, .val (.long j5), .second, .val (.ref b104), .val (.ref b108), .val (.ref b112), .unset, .unset, .unset, .unset, .unset] [(.long j5), (.long j4), (.long j3), (.int (3 : Int32)), (.int i2), (.long r114), (.int r113)])) rfl (by rw [hml]; rfl) (argsL := [(.int i2), (.int (3 : Int32)), (.long j3), (.long j4), (.long j5)]) (rest := [(.long r114), (.int r113)]) (lenOf own_pd4 rfl) rfl (by show 2 * 0 + _ ≤ _; exact Nat.le_of_eq rfl) (hb hby at_112) (fun _ _ => ⟨rfl, e114, (by decide : 3 + 0 ≤ _), (by decide : 6 + 0 ≤ _)⟩)
  dsimp only [Pt.U, Pt.locs, Pt.cells, Pt.slots] at X115 l115 y115 z115 st115 hQ115
  subst l115 y115 z115
  obtain ⟨r115, rfl, N115q, e115⟩ := hQ115
  have N115 := Fr.app N114 N115q
  refine own_via (g' := T115.setTop (mkF m 115 #[.val (.int i0), .val (.int i1), .val (.int i2), .val (.long j3), .second, .val (.long j4), .second, .val (.long j5), .second, .val (.ref b104), .val (.ref b108), .val (.ref b112), .unset, .unset, .unset, .unset, .unset] [(.long r115), (.long r114), (.int r113)])) (fun t k => st115 _ k) ?_
  obtain ⟨v116, _, ⟨T116, L116, k116, n116⟩, -, X116, ⟨Lc116, hQ116, l116, y116, z116⟩, st116⟩ := Jvm.LawKit.callS X115 hx (y := (⟨"com/example/arbordelta/arbordelta/SubtreeLabelsMostSavedWithPinLaw", "arr", "(IJJ)[J"⟩ : MethodName)) hown (mvT hZ (hw _ (List.mem_of_getElem? (i := 8) rfl))) (mvT hZ (hw _ (List.mem_of_getElem? (i := 9) rfl))) (mvT hZ (hw _ (List.mem_of_getElem? (i := 2) rfl))) (mvT hZ (hw _ (List.mem_of_getElem? (i := 10) rfl))) (by decide) (backOf (W := 0) (own_rm3 l Z a0 hw [] r113 r114 r115 T112.heap n0 (Nat.le_trans Z0 Kc112.1) hr113) hZ (hw _ (List.mem_of_getElem? (i := 10) rfl)) (hw _ (List.mem_of_getElem? (i := 2) rfl)) (by decide) (by decide)) (g := (mkF m 115 #[.val (.int i0), .val (.int i1), .val (.int i2), .val (.long j3), .second, .val (.long j4), .second, .val (.long j5), .second, .val (.ref b104), .val (.ref b108), .val (.ref b112), .unset, .unset, .unset, .unset, .unset] [(.long r115), (.long r114), (.int r113)])) rfl (by rw [hml]; rfl) (argsL := [(.int r113), (.long r114), (.long r115)]) (rest := []) (lenOf own_pd5 rfl) rfl (by show 2 * 0 + _ ≤ _; exact Nat.le_of_eq rfl) (hb hby at_115) (fun _ _ => ⟨rfl, e115, (by decide : 3 + 1 ≤ _), (by decide : 6 + 2 ≤ _)⟩)
  dsimp only [Pt.U, Pt.locs, Pt.cells, Pt.slots] at X116 l116 y116 z116 st116 hQ116
  subst l116 y116 z116
  obtain ⟨b116, rfl, N116q, szq116, K116, V116⟩ := hQ116
  have ne_b104_b116 : b104 ≠ b116 := Nat.ne_of_lt (Nat.lt_of_lt_of_le ((V104.keep K108 nin0).keep K112 nin0).lt szq116)
  have ne_b108_b116 : b108 ≠ b116 := Nat.ne_of_lt (Nat.lt_of_lt_of_le (V108.keep K112 nin0).lt szq116)
  have ne_b112_b116 : b112 ≠ b116 := Nat.ne_of_lt (Nat.lt_of_lt_of_le V112.lt szq116)
  have Kc116 : Keep h0 T116.heap [] := Kc112.trans K116 all0
  have sz_b116 : h0.size ≤ b116 := Nat.le_trans Kc112.1 szq116
  have g_b116 : n0 ≤ b116 := Nat.le_trans Z0 sz_b116
  obtain ⟨Lb116, qLb116⟩ : ∃ L', L' = (own_arr r113 r114 r115) := ⟨_, rfl⟩
  rw [← qLb116] at V116
  have csb116 := own_arr_cases r113 r114 r115
  rw [← qLb116] at csb116
  have lnb116 : Lb116.length ≤ 2 := qLb116 ▸ own_arr_len _ _ _
  have N116 := Fr.app N115 N116q
  refine own_via (g' := T116.setTop (mkF m 118 #[.val (.int i0), .val (.int i1), .val (.int i2), .val (.long j3), .second, .val (.long j4), .second, .val (.long j5), .second, .val (.ref b104), .val (.ref b108), .val (.ref b112), .unset, .unset, .unset, .unset, .unset] [(.ref b116)])) (fun t k => st116 _ k) ?_
  refine own_via (g' := T116.setTop (mkF m 120 #[.val (.int i0), .val (.int i1), .val (.int i2), .val (.long j3), .second, .val (.long j4), .second, .val (.long j5), .second, .val (.ref b104), .val (.ref b108), .val (.ref b112), .val (.ref b116), .unset, .unset, .unset, .unset] [])) (fun t k => XS.astore X116.here hx rfl (hb hby at_118) rfl (rfl) (l' := #[.val (.int i0), .val (.int i1), .val (.int i2), .val (.long j3), .second, .val (.long j4), .second, .val (.long j5), .second, .val (.ref b104), .val (.ref b108), .val (.ref b112), .val (.ref b116), .unset, .unset, .unset, .unset]) rfl k) ?_
  obtain ⟨T117, h117, X117, e117, E117, A117, D117, -, st117⟩ := newO X116 hx hZ hown (hw _ (List.mem_of_getElem? (i := 12) rfl)) (hw _ (List.mem_of_getElem? (i := 13) rfl)) (hw _ (List.mem_of_getElem? (i := 14) rfl)) rfl (g := (mkF m 120 #[.val (.int i0), .val (.int i1), .val (.int i2), .val (.long j3), .second, .val (.long j4), .second, .val (.long j5), .second, .val (.ref b104), .val (.ref b108), .val (.ref b112), .val (.ref b116), .unset, .unset, .unset, .unset] [])) rfl (hb hby at_120) (by decide) (by decide)
  obtain ⟨b117, g117⟩ : ∃ z, z = T116.heap.size := ⟨_, rfl⟩
  rw [← g117] at A117 D117 st117
  have ne_b104_b117 : b104 ≠ b117 := Nat.ne_of_lt (Nat.lt_of_lt_of_le (((V104.keep K108 nin0).keep K112 nin0).keep K116 nin0).lt (Nat.le_of_eq g117.symm))
  have ne_b108_b117 : b108 ≠ b117 := Nat.ne_of_lt (Nat.lt_of_lt_of_le ((V108.keep K112 nin0).keep K116 nin0).lt (Nat.le_of_eq g117.symm))
  have ne_b112_b117 : b112 ≠ b117 := Nat.ne_of_lt (Nat.lt_of_lt_of_le (V112.keep K116 nin0).lt (Nat.le_of_eq g117.symm))
  have ne_b116_b117 : b116 ≠ b117 := Nat.ne_of_lt (Nat.lt_of_lt_of_le V116.lt (Nat.le_of_eq g117.symm))
  have sz_b117 : h0.size ≤ b117 := Nat.le_trans Kc116.1 (Nat.le_of_eq g117.symm)
  have g_b117 : n0 ≤ b117 := Nat.le_trans Z0 sz_b117
  have Kc117 : Keep h0 h117 [] := Kc116.ext E117
  have F117_27 : Fld Z h117 b117 "com/example/arbordelta/arbordelta/SubtreeLabels" "labels" "[J" .null := D117 (Or.inr (hw _ (List.mem_of_getElem? (i := 27) rfl))) (ty := (.array .long)) (by decide)
  have F117_29 : Fld Z h117 b117 "com/example/arbordelta/arbordelta/SubtreeLabels" "labelledValues" "[J" .null := D117 (Or.inr (hw _ (List.mem_of_getElem? (i := 29) rfl))) (ty := (.array .long)) (by decide)
  have F117_31 : Fld Z h117 b117 "com/example/arbordelta/arbordelta/SubtreeLabels" "leftOut" "[J" .null := D117 (Or.inr (hw _ (List.mem_of_getElem? (i := 31) rfl))) (ty := (.array .long)) (by decide)
  refine own_via (g' := T117.setTop (mkF m 123 #[.val (.int i0), .val (.int i1), .val (.int i2), .val (.long j3), .second, .val (.long j4), .second, .val (.long j5), .second, .val (.ref b104), .val (.ref b108), .val (.ref b112), .val (.ref b116), .unset, .unset, .unset, .unset] [(.ref b117)])) (fun t k => st117 _ k) ?_
  refine own_via (g' := T117.setTop (mkF m 124 #[.val (.int i0), .val (.int i1), .val (.int i2), .val (.long j3), .second, .val (.long j4), .second, .val (.long j5), .second, .val (.ref b104), .val (.ref b108), .val (.ref b112), .val (.ref b116), .unset, .unset, .unset, .unset] [(.ref b117), (.ref b117)])) (fun t k => XS.dup X117.here hx rfl (hb hby at_123) rfl (rfl) k) ?_
  refine own_via (g' := T117.setTop (mkF m 126 #[.val (.int i0), .val (.int i1), .val (.int i2), .val (.long j3), .second, .val (.long j4), .second, .val (.long j5), .second, .val (.ref b104), .val (.ref b108), .val (.ref b112), .val (.ref b116), .unset, .unset, .unset, .unset] [(.ref b104), (.ref b117), (.ref b117)])) (fun t k => XS.aload X117.here hx rfl (hb hby at_124) rfl (rfl) k) ?_
  refine own_via (g' := T117.setTop (mkF m 128 #[.val (.int i0), .val (.int i1), .val (.int i2), .val (.long j3), .second, .val (.long j4), .second, .val (.long j5), .second, .val (.ref b104), .val (.ref b108), .val (.ref b112), .val (.ref b116), .unset, .unset, .unset, .unset] [(.ref b112), (.ref b104), (.ref b117), (.ref b117)])) (fun t k => XS.aload X117.here hx rfl (hb hby at_126) rfl (rfl) k) ?_
  refine own_via (g' := T117.setTop (mkF m 129 #[.val (.int i0), .val (.int i1), .val (.int i2), .val (.long j3), .second, .val (.long j4), .second, .val (.long j5), .second, .val (.ref b104), .val (.ref b108), .val (.ref b112), .val (.ref b116), .unset, .unset, .unset, .unset] [(.int (0 : Int32)), (.ref b112), (.ref b104), (.ref b117), (.ref b117)])) (fun t k => XS.iconst X117.here hx rfl (hb hby at_128) k) ?_
  obtain ⟨T118, h118, X118, e118, E118, A118, st118⟩ := own_newP X117 hx hZ (aty := .long) (hw _ (List.mem_of_getElem? (i := 11) rfl)) e117 (g := (mkF m 129 #[.val (.int i0), .val (.int i1), .val (.int i2), .val (.long j3), .second, .val (.long j4), .second, .val (.long j5), .second, .val (.ref b104), .val (.ref b108), .val (.ref b112), .val (.ref b116), .unset, .unset, .unset, .unset] [(.int (0 : Int32)), (.ref b112), (.ref b104), (.ref b117), (.ref b117)])) rfl (hb hby at_129) rfl (by decide) (cap := 0) (by decide) (by decide) (by decide) (by decide)
  obtain ⟨b118, g118⟩ : ∃ z, z = h117.size := ⟨_, rfl⟩
  rw [← g118] at A118 st118
  have V118 : own_Ar Z h118 b118 .long [] := A118
  have ne_b104_b118 : b104 ≠ b118 := Nat.ne_of_lt (Nat.lt_of_lt_of_le ((((V104.keep K108 nin0).keep K112 nin0).keep K116 nin0).ext E117).lt (Nat.le_of_eq g118.symm))
  have ne_b108_b118 : b108 ≠ b118 := Nat.ne_of_lt (Nat.lt_of_lt_of_le (((V108.keep K112 nin0).keep K116 nin0).ext E117).lt (Nat.le_of_eq g118.symm))
  have ne_b112_b118 : b112 ≠ b118 := Nat.ne_of_lt (Nat.lt_of_lt_of_le ((V112.keep K116 nin0).ext E117).lt (Nat.le_of_eq g118.symm))
  have ne_b116_b118 : b116 ≠ b118 := Nat.ne_of_lt (Nat.lt_of_lt_of_le (V116.ext E117).lt (Nat.le_of_eq g118.symm))
  have ne_b117_b118 : b117 ≠ b118 := Nat.ne_of_lt (Nat.lt_of_lt_of_le A117.lt (Nat.le_of_eq g118.symm))
  have sz_b118 : h0.size ≤ b118 := Nat.le_trans Kc117.1 (Nat.le_of_eq g118.symm)
  have g_b118 : n0 ≤ b118 := Nat.le_trans Z0 sz_b118
  have Kc118 : Keep h0 h118 [] := Kc117.ext E118
  refine own_via (g' := T118.setTop (mkF m 131 #[.val (.int i0), .val (.int i1), .val (.int i2), .val (.long j3), .second, .val (.long j4), .second, .val (.long j5), .second, .val (.ref b104), .val (.ref b108), .val (.ref b112), .val (.ref b116), .unset, .unset, .unset, .unset] [(.ref b118), (.ref b112), (.ref b104), (.ref b117), (.ref b117)])) (fun t k => st118 _ k) ?_
  obtain ⟨v119, _, ⟨T119, L119, k119, n119⟩, -, X119, ⟨Lc119, hQ119, l119, y119, z119⟩, st119⟩ := X118.specialBack hx (y := (⟨"com/example/arbordelta/arbordelta/SubtreeLabels", "<init>", "([J[J[J)V"⟩ : MethodName)) rfl hown (mvT hZ (hw _ (List.mem_of_getElem? (i := 15) rfl))) (mvT hZ (hw _ (List.mem_of_getElem? (i := 16) rfl))) (mvT hZ (hw _ (List.mem_of_getElem? (i := 17) rfl))) (by decide) (backOf (W := 1) (own_rm4 l Z a0 hw [] b117 b104 b112 b118 h118 n0 (Nat.le_trans Z0 Kc118.1) (A117.ext E118) (F117_27.ext E118) (F117_29.ext E118) (F117_31.ext E118) g_b117) hZ (hw _ (List.mem_of_getElem? (i := 17) rfl)) (hw _ (List.mem_of_getElem? (i := 14) rfl)) (by decide) (by decide)) (g := (mkF m 131 #[.val (.int i0), .val (.int i1), .val (.int i2), .val (.long j3), .second, .val (.long j4), .second, .val (.long j5), .second, .val (.ref b104), .val (.ref b108), .val (.ref b112), .val (.ref b116), .unset, .unset, .unset, .unset] [(.ref b118), (.ref b112), (.ref b104), (.ref b117), (.ref b117)])) rfl (by rw [hml]; rfl) (Steps.refl _) (a := b117) (argsL := [(.ref b104), (.ref b112), (.ref b118)]) (rest := [(.ref b117)]) (lenOf own_pd6 rfl) rfl (by show 2 * 0 + _ ≤ _; exact Nat.le_of_eq rfl) (hb hby at_131) (fun _ _ => ⟨rfl, e118, (by decide : 6 + 0 ≤ _), (by decide : 11 + 0 ≤ _)⟩)
  dsimp only [Pt.U, Pt.locs, Pt.cells, Pt.slots] at X119 l119 y119 z119 st119 hQ119
  subst l119 y119 z119
  obtain ⟨rfl, N119q, K119, A119, Fa119_0, Fa119_1, Fa119_2⟩ := hQ119
  have Kc119 : Keep h0 T119.heap [] := Kc118.trans K119 (allS (Or.inr sz_b117) all0)
  have N119 := Fr.app N116 N119q
  refine own_via (g' := T119.setTop (mkF m 134 #[.val (.int i0), .val (.int i1), .val (.int i2), .val (.long j3), .second, .val (.long j4), .second, .val (.long j5), .second, .val (.ref b104), .val (.ref b108), .val (.ref b112), .val (.ref b116), .unset, .unset, .unset, .unset] [(.ref b117)])) (fun t k => st119.trans k) ?_
  refine own_via (g' := T119.setTop (mkF m 136 #[.val (.int i0), .val (.int i1), .val (.int i2), .val (.long j3), .second, .val (.long j4), .second, .val (.long j5), .second, .val (.ref b104), .val (.ref b108), .val (.ref b112), .val (.ref b116), .val (.ref b117), .unset, .unset, .unset] [])) (fun t k => XS.astore X119.here hx rfl (hb hby at_134) rfl (rfl) (l' := #[.val (.int i0), .val (.int i1), .val (.int i2), .val (.long j3), .second, .val (.long j4), .second, .val (.long j5), .second, .val (.ref b104), .val (.ref b108), .val (.ref b112), .val (.ref b116), .val (.ref b117), .unset, .unset, .unset]) rfl k) ?_
  obtain ⟨T120, h120, X120, e120, E120, A120, D120, -, st120⟩ := newO X119 hx hZ hown (hw _ (List.mem_of_getElem? (i := 12) rfl)) (hw _ (List.mem_of_getElem? (i := 13) rfl)) (hw _ (List.mem_of_getElem? (i := 14) rfl)) rfl (g := (mkF m 136 #[.val (.int i0), .val (.int i1), .val (.int i2), .val (.long j3), .second, .val (.long j4), .second, .val (.long j5), .second, .val (.ref b104), .val (.ref b108), .val (.ref b112), .val (.ref b116), .val (.ref b117), .unset, .unset, .unset] [])) rfl (hb hby at_136) (by decide) (by decide)
  obtain ⟨b120, g120⟩ : ∃ z, z = T119.heap.size := ⟨_, rfl⟩
  rw [← g120] at A120 D120 st120
  have ne_b104_b120 : b104 ≠ b120 := Nat.ne_of_lt (Nat.lt_of_lt_of_le ((((((V104.keep K108 nin0).keep K112 nin0).keep K116 nin0).ext E117).ext E118).keep K119 (ninS ne_b104_b117 nin0)).lt (Nat.le_of_eq g120.symm))
  have ne_b108_b120 : b108 ≠ b120 := Nat.ne_of_lt (Nat.lt_of_lt_of_le (((((V108.keep K112 nin0).keep K116 nin0).ext E117).ext E118).keep K119 (ninS ne_b108_b117 nin0)).lt (Nat.le_of_eq g120.symm))
  have ne_b112_b120 : b112 ≠ b120 := Nat.ne_of_lt (Nat.lt_of_lt_of_le ((((V112.keep K116 nin0).ext E117).ext E118).keep K119 (ninS ne_b112_b117 nin0)).lt (Nat.le_of_eq g120.symm))
  have ne_b116_b120 : b116 ≠ b120 := Nat.ne_of_lt (Nat.lt_of_lt_of_le (((V116.ext E117).ext E118).keep K119 (ninS ne_b116_b117 nin0)).lt (Nat.le_of_eq g120.symm))
  have ne_b117_b120 : b117 ≠ b120 := Nat.ne_of_lt (Nat.lt_of_lt_of_le A119.lt (Nat.le_of_eq g120.symm))
  have ne_b118_b120 : b118 ≠ b120 := Nat.ne_of_lt (Nat.lt_of_lt_of_le (V118.keep K119 (ninS (Ne.symm ne_b117_b118) nin0)).lt (Nat.le_of_eq g120.symm))
  have sz_b120 : h0.size ≤ b120 := Nat.le_trans Kc119.1 (Nat.le_of_eq g120.symm)
  have g_b120 : n0 ≤ b120 := Nat.le_trans Z0 sz_b120
  have Kc120 : Keep h0 h120 [] := Kc119.ext E120
  have F120_27 : Fld Z h120 b120 "com/example/arbordelta/arbordelta/SubtreeLabels" "labels" "[J" .null := D120 (Or.inr (hw _ (List.mem_of_getElem? (i := 27) rfl))) (ty := (.array .long)) (by decide)
  have F120_29 : Fld Z h120 b120 "com/example/arbordelta/arbordelta/SubtreeLabels" "labelledValues" "[J" .null := D120 (Or.inr (hw _ (List.mem_of_getElem? (i := 29) rfl))) (ty := (.array .long)) (by decide)
  have F120_31 : Fld Z h120 b120 "com/example/arbordelta/arbordelta/SubtreeLabels" "leftOut" "[J" .null := D120 (Or.inr (hw _ (List.mem_of_getElem? (i := 31) rfl))) (ty := (.array .long)) (by decide)
  refine own_via (g' := T120.setTop (mkF m 139 #[.val (.int i0), .val (.int i1), .val (.int i2), .val (.long j3), .second, .val (.long j4), .second, .val (.long j5), .second, .val (.ref b104), .val (.ref b108), .val (.ref b112), .val (.ref b116), .val (.ref b117), .unset, .unset, .unset] [(.ref b120)])) (fun t k => st120 _ k) ?_
  refine own_via (g' := T120.setTop (mkF m 140 #[.val (.int i0), .val (.int i1), .val (.int i2), .val (.long j3), .second, .val (.long j4), .second, .val (.long j5), .second, .val (.ref b104), .val (.ref b108), .val (.ref b112), .val (.ref b116), .val (.ref b117), .unset, .unset, .unset] [(.ref b120), (.ref b120)])) (fun t k => XS.dup X120.here hx rfl (hb hby at_139) rfl (rfl) k) ?_
  refine own_via (g' := T120.setTop (mkF m 142 #[.val (.int i0), .val (.int i1), .val (.int i2), .val (.long j3), .second, .val (.long j4), .second, .val (.long j5), .second, .val (.ref b104), .val (.ref b108), .val (.ref b112), .val (.ref b116), .val (.ref b117), .unset, .unset, .unset] [(.ref b108), (.ref b120), (.ref b120)])) (fun t k => XS.aload X120.here hx rfl (hb hby at_140) rfl (rfl) k) ?_
  refine own_via (g' := T120.setTop (mkF m 144 #[.val (.int i0), .val (.int i1), .val (.int i2), .val (.long j3), .second, .val (.long j4), .second, .val (.long j5), .second, .val (.ref b104), .val (.ref b108), .val (.ref b112), .val (.ref b116), .val (.ref b117), .unset, .unset, .unset] [(.ref b116), (.ref b108), (.ref b120), (.ref b120)])) (fun t k => XS.aload X120.here hx rfl (hb hby at_142) rfl (rfl) k) ?_
  refine own_via (g' := T120.setTop (mkF m 145 #[.val (.int i0), .val (.int i1), .val (.int i2), .val (.long j3), .second, .val (.long j4), .second, .val (.long j5), .second, .val (.ref b104), .val (.ref b108), .val (.ref b112), .val (.ref b116), .val (.ref b117), .unset, .unset, .unset] [(.int (0 : Int32)), (.ref b116), (.ref b108), (.ref b120), (.ref b120)])) (fun t k => XS.iconst X120.here hx rfl (hb hby at_144) k) ?_
  obtain ⟨T121, h121, X121, e121, E121, A121, st121⟩ := own_newP X120 hx hZ (aty := .long) (hw _ (List.mem_of_getElem? (i := 11) rfl)) e120 (g := (mkF m 145 #[.val (.int i0), .val (.int i1), .val (.int i2), .val (.long j3), .second, .val (.long j4), .second, .val (.long j5), .second, .val (.ref b104), .val (.ref b108), .val (.ref b112), .val (.ref b116), .val (.ref b117), .unset, .unset, .unset] [(.int (0 : Int32)), (.ref b116), (.ref b108), (.ref b120), (.ref b120)])) rfl (hb hby at_145) rfl (by decide) (cap := 0) (by decide) (by decide) (by decide) (by decide)
  obtain ⟨b121, g121⟩ : ∃ z, z = h120.size := ⟨_, rfl⟩
  rw [← g121] at A121 st121
  have V121 : own_Ar Z h121 b121 .long [] := A121
  have ne_b104_b121 : b104 ≠ b121 := Nat.ne_of_lt (Nat.lt_of_lt_of_le (((((((V104.keep K108 nin0).keep K112 nin0).keep K116 nin0).ext E117).ext E118).keep K119 (ninS ne_b104_b117 nin0)).ext E120).lt (Nat.le_of_eq g121.symm))
  have ne_b108_b121 : b108 ≠ b121 := Nat.ne_of_lt (Nat.lt_of_lt_of_le ((((((V108.keep K112 nin0).keep K116 nin0).ext E117).ext E118).keep K119 (ninS ne_b108_b117 nin0)).ext E120).lt (Nat.le_of_eq g121.symm))
  have ne_b112_b121 : b112 ≠ b121 := Nat.ne_of_lt (Nat.lt_of_lt_of_le (((((V112.keep K116 nin0).ext E117).ext E118).keep K119 (ninS ne_b112_b117 nin0)).ext E120).lt (Nat.le_of_eq g121.symm))
  have ne_b116_b121 : b116 ≠ b121 := Nat.ne_of_lt (Nat.lt_of_lt_of_le ((((V116.ext E117).ext E118).keep K119 (ninS ne_b116_b117 nin0)).ext E120).lt (Nat.le_of_eq g121.symm))
  have ne_b117_b121 : b117 ≠ b121 := Nat.ne_of_lt (Nat.lt_of_lt_of_le (A119.ext E120).lt (Nat.le_of_eq g121.symm))
  have ne_b118_b121 : b118 ≠ b121 := Nat.ne_of_lt (Nat.lt_of_lt_of_le ((V118.keep K119 (ninS (Ne.symm ne_b117_b118) nin0)).ext E120).lt (Nat.le_of_eq g121.symm))
  have ne_b120_b121 : b120 ≠ b121 := Nat.ne_of_lt (Nat.lt_of_lt_of_le A120.lt (Nat.le_of_eq g121.symm))
  have sz_b121 : h0.size ≤ b121 := Nat.le_trans Kc120.1 (Nat.le_of_eq g121.symm)
  have g_b121 : n0 ≤ b121 := Nat.le_trans Z0 sz_b121
  have Kc121 : Keep h0 h121 [] := Kc120.ext E121
  refine own_via (g' := T121.setTop (mkF m 147 #[.val (.int i0), .val (.int i1), .val (.int i2), .val (.long j3), .second, .val (.long j4), .second, .val (.long j5), .second, .val (.ref b104), .val (.ref b108), .val (.ref b112), .val (.ref b116), .val (.ref b117), .unset, .unset, .unset] [(.ref b121), (.ref b116), (.ref b108), (.ref b120), (.ref b120)])) (fun t k => st121 _ k) ?_
  obtain ⟨v122, _, ⟨T122, L122, k122, n122⟩, -, X122, ⟨Lc122, hQ122, l122, y122, z122⟩, st122⟩ := X121.specialBack hx (y := (⟨"com/example/arbordelta/arbordelta/SubtreeLabels", "<init>", "([J[J[J)V"⟩ : MethodName)) rfl hown (mvT hZ (hw _ (List.mem_of_getElem? (i := 15) rfl))) (mvT hZ (hw _ (List.mem_of_getElem? (i := 16) rfl))) (mvT hZ (hw _ (List.mem_of_getElem? (i := 17) rfl))) (by decide) (backOf (W := 1) (own_rm4 l Z a0 hw [] b120 b108 b116 b121 h121 n0 (Nat.le_trans Z0 Kc121.1) (A120.ext E121) (F120_27.ext E121) (F120_29.ext E121) (F120_31.ext E121) g_b120) hZ (hw _ (List.mem_of_getElem? (i := 17) rfl)) (hw _ (List.mem_of_getElem? (i := 14) rfl)) (by decide) (by decide)) (g := (mkF m 147 #[.val (.int i0), .val (.int i1), .val (.int i2), .val (.long j3), .second, .val (.long j4), .second, .val (.long j5), .second, .val (.ref b104), .val (.ref b108), .val (.ref b112), .val (.ref b116), .val (.ref b117), .unset, .unset, .unset] [(.ref b121), (.ref b116), (.ref b108), (.ref b120), (.ref b120)])) rfl (by rw [hml]; rfl) (Steps.refl _) (a := b120) (argsL := [(.ref b108), (.ref b116), (.ref b121)]) (rest := [(.ref b120)]) (lenOf own_pd6 rfl) rfl (by show 2 * 0 + _ ≤ _; exact Nat.le_of_eq rfl) (hb hby at_147) (fun _ _ => ⟨rfl, e121, (by decide : 8 + 0 ≤ _), (by decide : 14 + 0 ≤ _)⟩)
  dsimp only [Pt.U, Pt.locs, Pt.cells, Pt.slots] at X122 l122 y122 z122 st122 hQ122
  subst l122 y122 z122
  obtain ⟨rfl, N122q, K122, A122, Fa122_0, Fa122_1, Fa122_2⟩ := hQ122
  have Kc122 : Keep h0 T122.heap [] := Kc121.trans K122 (allS (Or.inr sz_b120) all0)
  have N122 := Fr.app N119 N122q
  refine own_via (g' := T122.setTop (mkF m 150 #[.val (.int i0), .val (.int i1), .val (.int i2), .val (.long j3), .second, .val (.long j4), .second, .val (.long j5), .second, .val (.ref b104), .val (.ref b108), .val (.ref b112), .val (.ref b116), .val (.ref b117), .unset, .unset, .unset] [(.ref b120)])) (fun t k => st122.trans k) ?_
  refine own_via (g' := T122.setTop (mkF m 152 #[.val (.int i0), .val (.int i1), .val (.int i2), .val (.long j3), .second, .val (.long j4), .second, .val (.long j5), .second, .val (.ref b104), .val (.ref b108), .val (.ref b112), .val (.ref b116), .val (.ref b117), .val (.ref b120), .unset, .unset] [])) (fun t k => XS.astore X122.here hx rfl (hb hby at_150) rfl (rfl) (l' := #[.val (.int i0), .val (.int i1), .val (.int i2), .val (.long j3), .second, .val (.long j4), .second, .val (.long j5), .second, .val (.ref b104), .val (.ref b108), .val (.ref b112), .val (.ref b116), .val (.ref b117), .val (.ref b120), .unset, .unset]) rfl k) ?_
  refine own_via (g' := T122.setTop (mkF m 154 #[.val (.int i0), .val (.int i1), .val (.int i2), .val (.long j3), .second, .val (.long j4), .second, .val (.long j5), .second, .val (.ref b104), .val (.ref b108), .val (.ref b112), .val (.ref b116), .val (.ref b117), .val (.ref b120), .unset, .unset] [(.ref b104)])) (fun t k => XS.aload X122.here hx rfl (hb hby at_152) rfl (rfl) k) ?_
  refine own_via (g' := T122.setTop (mkF m 156 #[.val (.int i0), .val (.int i1), .val (.int i2), .val (.long j3), .second, .val (.long j4), .second, .val (.long j5), .second, .val (.ref b104), .val (.ref b108), .val (.ref b112), .val (.ref b116), .val (.ref b117), .val (.ref b120), .unset, .unset] [(.ref b108), (.ref b104)])) (fun t k => XS.aload X122.here hx rfl (hb hby at_154) rfl (rfl) k) ?_
  obtain ⟨v123, _, ⟨T123, L123, k123, n123⟩, -, X123, ⟨Lc123, hQ123, l123, y123, z123⟩, st123⟩ := Jvm.LawKit.callS X122 hx (y := (⟨"com/example/arbordelta/arbordelta/SubtreeLabelsMostSavedWithPinLaw", "inter", "([J[J)J"⟩ : MethodName)) hown (mvT hZ (hw _ (List.mem_of_getElem? (i := 32) rfl))) (mvT hZ (hw _ (List.mem_of_getElem? (i := 33) rfl))) (mvT hZ (hw _ (List.mem_of_getElem? (i := 2) rfl))) (mvT hZ (hw _ (List.mem_of_getElem? (i := 34) rfl))) (by decide) (backOf (W := 0) (own_rm7 l Z a0 hw [] b104 b108 Lb104 Lb108 T122.heap n0 (Nat.le_trans Z0 Kc122.1) (((((((((V104.keep K108 nin0).keep K112 nin0).keep K116 nin0).ext E117).ext E118).keep K119 (ninS ne_b104_b117 nin0)).ext E120).ext E121).keep K122 (ninS ne_b104_b120 nin0)) ((((((((V108.keep K112 nin0).keep K116 nin0).ext E117).ext E118).keep K119 (ninS ne_b108_b117 nin0)).ext E120).ext E121).keep K122 (ninS ne_b108_b120 nin0)) lnb104 lnb108) hZ (hw _ (List.mem_of_getElem? (i := 34) rfl)) (hw _ (List.mem_of_getElem? (i := 2) rfl)) (by decide) (by decide)) (g := (mkF m 156 #[.val (.int i0), .val (.int i1), .val (.int i2), .val (.long j3), .second, .val (.long j4), .second, .val (.long j5), .second, .val (.ref b104), .val (.ref b108), .val (.ref b112), .val (.ref b116), .val (.ref b117), .val (.ref b120), .unset, .unset] [(.ref b108), (.ref b104)])) rfl (by rw [hml]; rfl) (argsL := [(.ref b104), (.ref b108)]) (rest := []) (lenOf own_pd2 rfl) rfl (by show 2 * 0 + _ ≤ _; exact Nat.le_of_eq rfl) (hb hby at_156) (fun _ _ => ⟨rfl, rfl, (by decide : 8 + 0 ≤ _), (by decide : 14 + 0 ≤ _)⟩)
  dsimp only [Pt.U, Pt.locs, Pt.cells, Pt.slots] at X123 l123 y123 z123 st123 hQ123
  subst l123 y123 z123
  obtain ⟨rfl, N123q, e123⟩ := hQ123
  have N123 := Fr.app N122 N123q
  refine own_via (g' := T123.setTop (mkF m 159 #[.val (.int i0), .val (.int i1), .val (.int i2), .val (.long j3), .second, .val (.long j4), .second, .val (.long j5), .second, .val (.ref b104), .val (.ref b108), .val (.ref b112), .val (.ref b116), .val (.ref b117), .val (.ref b120), .unset, .unset] [(.long (own_inter Lb104 Lb108))])) (fun t k => st123 _ k) ?_
  refine own_via (g' := T123.setTop (mkF m 161 #[.val (.int i0), .val (.int i1), .val (.int i2), .val (.long j3), .second, .val (.long j4), .second, .val (.long j5), .second, .val (.ref b104), .val (.ref b108), .val (.ref b112), .val (.ref b116), .val (.ref b117), .val (.ref b120), .unset, .unset] [(.ref b112), (.long (own_inter Lb104 Lb108))])) (fun t k => XS.aload X123.here hx rfl (hb hby at_159) rfl (rfl) k) ?_
  refine own_via (g' := T123.setTop (mkF m 163 #[.val (.int i0), .val (.int i1), .val (.int i2), .val (.long j3), .second, .val (.long j4), .second, .val (.long j5), .second, .val (.ref b104), .val (.ref b108), .val (.ref b112), .val (.ref b116), .val (.ref b117), .val (.ref b120), .unset, .unset] [(.ref b116), (.ref b112), (.long (own_inter Lb104 Lb108))])) (fun t k => XS.aload X123.here hx rfl (hb hby at_161) rfl (rfl) k) ?_
  obtain ⟨v124, _, ⟨T124, L124, k124, n124⟩, -, X124, ⟨Lc124, hQ124, l124, y124, z124⟩, st124⟩ := Jvm.LawKit.callS X123 hx (y := (⟨"com/example/arbordelta/arbordelta/SubtreeLabelsMostSavedWithPinLaw", "inter", "([J[J)J"⟩ : MethodName)) hown (mvT hZ (hw _ (List.mem_of_getElem? (i := 32) rfl))) (mvT hZ (hw _ (List.mem_of_getElem? (i := 33) rfl))) (mvT hZ (hw _ (List.mem_of_getElem? (i := 2) rfl))) (mvT hZ (hw _ (List.mem_of_getElem? (i := 34) rfl))) (by decide) (backOf (W := 2) (own_rm7 l Z a0 hw [] b112 b116 Lb112 Lb116 T122.heap n0 (Nat.le_trans Z0 Kc122.1) (((((((V112.keep K116 nin0).ext E117).ext E118).keep K119 (ninS ne_b112_b117 nin0)).ext E120).ext E121).keep K122 (ninS ne_b112_b120 nin0)) ((((((V116.ext E117).ext E118).keep K119 (ninS ne_b116_b117 nin0)).ext E120).ext E121).keep K122 (ninS ne_b116_b120 nin0)) lnb112 lnb116) hZ (hw _ (List.mem_of_getElem? (i := 34) rfl)) (hw _ (List.mem_of_getElem? (i := 2) rfl)) (by decide) (by decide)) (g := (mkF m 163 #[.val (.int i0), .val (.int i1), .val (.int i2), .val (.long j3), .second, .val (.long j4), .second, .val (.long j5), .second, .val (.ref b104), .val (.ref b108), .val (.ref b112), .val (.ref b116), .val (.ref b117), .val (.ref b120), .unset, .unset] [(.ref b116), (.ref b112), (.long (own_inter Lb104 Lb108))])) rfl (by rw [hml]; rfl) (argsL := [(.ref b112), (.ref b116)]) (rest := [(.long (own_inter Lb104 Lb108))]) (lenOf own_pd2 rfl) rfl (by show 2 * 0 + _ ≤ _; exact Nat.le_of_eq rfl) (hb hby at_163) (fun _ _ => ⟨rfl, e123, (by decide : 8 + 0 ≤ _), (by decide : 14 + 0 ≤ _)⟩)
  dsimp only [Pt.U, Pt.locs, Pt.cells, Pt.slots] at X124 l124 y124 z124 st124 hQ124
  subst l124 y124 z124
  obtain ⟨rfl, N124q, e124⟩ := hQ124
  have N124 := Fr.app N123 N124q
  refine own_via (g' := T124.setTop (mkF m 166 #[.val (.int i0), .val (.int i1), .val (.int i2), .val (.long j3), .second, .val (.long j4), .second, .val (.long j5), .second, .val (.ref b104), .val (.ref b108), .val (.ref b112), .val (.ref b116), .val (.ref b117), .val (.ref b120), .unset, .unset] [(.long (own_inter Lb112 Lb116)), (.long (own_inter Lb104 Lb108))])) (fun t k => st124 _ k) ?_
  refine own_via (g' := T124.setTop (mkF m 167 #[.val (.int i0), .val (.int i1), .val (.int i2), .val (.long j3), .second, .val (.long j4), .second, .val (.long j5), .second, .val (.ref b104), .val (.ref b108), .val (.ref b112), .val (.ref b116), .val (.ref b117), .val (.ref b120), .unset, .unset] [(.long ((own_inter Lb104 Lb108) + (own_inter Lb112 Lb116)))])) (fun t k => XT.ladd X124.here hx rfl (hb hby at_166) rfl k) ?_
  refine own_via (g' := T124.setTop (mkF m 169 #[.val (.int i0), .val (.int i1), .val (.int i2), .val (.long j3), .second, .val (.long j4), .second, .val (.long j5), .second, .val (.ref b104), .val (.ref b108), .val (.ref b112), .val (.ref b116), .val (.ref b117), .val (.ref b120), .val (.long ((own_inter Lb104 Lb108) + (own_inter Lb112 Lb116))), .second] [])) (fun t k => XT.lstore X124.here hx rfl (hb hby at_167) rfl (l' := #[.val (.int i0), .val (.int i1), .val (.int i2), .val (.long j3), .second, .val (.long j4), .second, .val (.long j5), .second, .val (.ref b104), .val (.ref b108), .val (.ref b112), .val (.ref b116), .val (.ref b117), .val (.ref b120), .val (.long ((own_inter Lb104 Lb108) + (own_inter Lb112 Lb116))), .second]) rfl k) ?_
  refine own_via (g' := T124.setTop (mkF m 171 #[.val (.int i0), .val (.int i1), .val (.int i2), .val (.long j3), .second, .val (.long j4), .second, .val (.long j5), .second, .val (.ref b104), .val (.ref b108), .val (.ref b112), .val (.ref b116), .val (.ref b117), .val (.ref b120), .val (.long ((own_inter Lb104 Lb108) + (own_inter Lb112 Lb116))), .second] [(.ref b117)])) (fun t k => XS.aload X124.here hx rfl (hb hby at_169) rfl (rfl) k) ?_
  refine own_via (g' := T124.setTop (mkF m 173 #[.val (.int i0), .val (.int i1), .val (.int i2), .val (.long j3), .second, .val (.long j4), .second, .val (.long j5), .second, .val (.ref b104), .val (.ref b108), .val (.ref b112), .val (.ref b116), .val (.ref b117), .val (.ref b120), .val (.long ((own_inter Lb104 Lb108) + (own_inter Lb112 Lb116))), .second] [(.ref b120), (.ref b117)])) (fun t k => XS.aload X124.here hx rfl (hb hby at_171) rfl (rfl) k) ?_
  obtain ⟨cq125, kq125, q125a, q125b, q125c⟩ := isOf hZ e124 (((A119.ext E120).ext E121).keep K122)
  obtain ⟨v125, _, ⟨T125, L125, k125, n125⟩, -, X125, ⟨Lc125, hQ125, l125, y125, z125⟩, st125⟩ := X124.virtualBack hx (y := (⟨"com/example/arbordelta/arbordelta/SubtreeLabels", "mostSavedWith", "(Lcom/example/arbordelta/arbordelta/SubtreeLabels;)J"⟩ : MethodName)) (z := (⟨"com/example/arbordelta/arbordelta/SubtreeLabels", "mostSavedWith", "(Lcom/example/arbordelta/arbordelta/SubtreeLabels;)J"⟩ : MethodName)) hown (mvT hZ (hw _ (List.mem_of_getElem? (i := 35) rfl))) (mvT hZ (hw _ (List.mem_of_getElem? (i := 36) rfl))) (notFace_of_selects (args := #[]) (mvT hZ (hw _ (List.mem_of_getElem? (i := 38) rfl)))) (mvT hZ (hw _ (List.mem_of_getElem? (i := 38) rfl))) (mvT hZ (hw _ (List.mem_of_getElem? (i := 37) rfl))) (by decide) (backOf (W := 0) (own_rm8 l Z a0 hw [] b117 b120 b104 b112 b108 b116 Lb104 Lb112 Lb108 Lb116 T122.heap n0 (Nat.le_trans Z0 Kc122.1) (((Fa119_0.ext E120).ext E121).keep K122 (ninS ne_b117_b120 nin0)) (((Fa119_1.ext E120).ext E121).keep K122 (ninS ne_b117_b120 nin0)) Fa122_0 Fa122_1 (((((((((V104.keep K108 nin0).keep K112 nin0).keep K116 nin0).ext E117).ext E118).keep K119 (ninS ne_b104_b117 nin0)).ext E120).ext E121).keep K122 (ninS ne_b104_b120 nin0)) (((((((V112.keep K116 nin0).ext E117).ext E118).keep K119 (ninS ne_b112_b117 nin0)).ext E120).ext E121).keep K122 (ninS ne_b112_b120 nin0)) ((((((((V108.keep K112 nin0).keep K116 nin0).ext E117).ext E118).keep K119 (ninS ne_b108_b117 nin0)).ext E120).ext E121).keep K122 (ninS ne_b108_b120 nin0)) ((((((V116.ext E117).ext E118).keep K119 (ninS ne_b116_b117 nin0)).ext E120).ext E121).keep K122 (ninS ne_b116_b120 nin0)) (by omega : Lb104.length < 2147483648) (by omega : Lb112.length < 2147483648) (by omega : Lb108.length < 2147483648) (by omega : Lb116.length < 2147483648)) hZ (hw _ (List.mem_of_getElem? (i := 39) rfl)) (hw _ (List.mem_of_getElem? (i := 14) rfl)) (by decide) (by decide)) q125a q125c (g := (mkF m 173 #[.val (.int i0), .val (.int i1), .val (.int i2), .val (.long j3), .second, .val (.long j4), .second, .val (.long j5), .second, .val (.ref b104), .val (.ref b108), .val (.ref b112), .val (.ref b116), .val (.ref b117), .val (.ref b120), .val (.long ((own_inter Lb104 Lb108) + (own_inter Lb112 Lb116))), .second] [(.ref b120), (.ref b117)])) rfl (by rw [hml]; rfl) (Steps.refl _) (argsL := [(.ref b120)]) (rest := []) (lenOf own_pd7 rfl) rfl (by show 2 * 0 + _ ≤ _; exact Nat.le_of_eq rfl) (hb hby at_173) (fun _ _ => ⟨rfl, e124, (by decide : 8 + 0 ≤ _), (by decide : 14 + 0 ≤ _)⟩)
  dsimp only [Pt.U, Pt.locs, Pt.cells, Pt.slots] at X125 l125 y125 z125 st125 hQ125
  subst l125 y125 z125
  obtain ⟨rfl, N125q, e125⟩ := hQ125
  have N125 := Fr.app N124 N125q
  refine own_via (g' := T125.setTop (mkF m 176 #[.val (.int i0), .val (.int i1), .val (.int i2), .val (.long j3), .second, .val (.long j4), .second, .val (.long j5), .second, .val (.ref b104), .val (.ref b108), .val (.ref b112), .val (.ref b116), .val (.ref b117), .val (.ref b120), .val (.long ((own_inter Lb104 Lb108) + (own_inter Lb112 Lb116))), .second] [(.long (own_common Lb104 Lb108 + own_common Lb112 Lb116))])) (fun t k => st125.trans k) ?_
  refine own_via (g' := T125.setTop (mkF m 178 #[.val (.int i0), .val (.int i1), .val (.int i2), .val (.long j3), .second, .val (.long j4), .second, .val (.long j5), .second, .val (.ref b104), .val (.ref b108), .val (.ref b112), .val (.ref b116), .val (.ref b117), .val (.ref b120), .val (.long ((own_inter Lb104 Lb108) + (own_inter Lb112 Lb116))), .second] [(.long ((own_inter Lb104 Lb108) + (own_inter Lb112 Lb116))), (.long (own_common Lb104 Lb108 + own_common Lb112 Lb116))])) (fun t k => XT.lload X125.here hx rfl (hb hby at_176) rfl k) ?_
  refine own_via (g' := T125.setTop (mkF m 179 #[.val (.int i0), .val (.int i1), .val (.int i2), .val (.long j3), .second, .val (.long j4), .second, .val (.long j5), .second, .val (.ref b104), .val (.ref b108), .val (.ref b112), .val (.ref b116), .val (.ref b117), .val (.ref b120), .val (.long ((own_inter Lb104 Lb108) + (own_inter Lb112 Lb116))), .second] [(.int (XT.cmpL (own_common Lb104 Lb108 + own_common Lb112 Lb116) ((own_inter Lb104 Lb108) + (own_inter Lb112 Lb116))))])) (fun t k => XT.lcmp X125.here hx rfl (hb hby at_178) rfl k) ?_
  refine own_via (g' := T125.setTop (mkF m 182 #[.val (.int i0), .val (.int i1), .val (.int i2), .val (.long j3), .second, .val (.long j4), .second, .val (.long j5), .second, .val (.ref b104), .val (.ref b108), .val (.ref b112), .val (.ref b116), .val (.ref b117), .val (.ref b120), .val (.long ((own_inter Lb104 Lb108) + (own_inter Lb112 Lb116))), .second] [])) (fun t k => XS.ifNo X125.here hx rfl (hb hby at_179) rfl (XT.ll_ne_f (by rw [(own_ci csb104 csb108).1, (own_ci csb112 csb116).1])) k) ?_
  refine own_via (g' := T125.setTop (mkF m 184 #[.val (.int i0), .val (.int i1), .val (.int i2), .val (.long j3), .second, .val (.long j4), .second, .val (.long j5), .second, .val (.ref b104), .val (.ref b108), .val (.ref b112), .val (.ref b116), .val (.ref b117), .val (.ref b120), .val (.long ((own_inter Lb104 Lb108) + (own_inter Lb112 Lb116))), .second] [(.ref b120)])) (fun t k => XS.aload X125.here hx rfl (hb hby at_182) rfl (rfl) k) ?_
  refine own_via (g' := T125.setTop (mkF m 186 #[.val (.int i0), .val (.int i1), .val (.int i2), .val (.long j3), .second, .val (.long j4), .second, .val (.long j5), .second, .val (.ref b104), .val (.ref b108), .val (.ref b112), .val (.ref b116), .val (.ref b117), .val (.ref b120), .val (.long ((own_inter Lb104 Lb108) + (own_inter Lb112 Lb116))), .second] [(.ref b117), (.ref b120)])) (fun t k => XS.aload X125.here hx rfl (hb hby at_184) rfl (rfl) k) ?_
  obtain ⟨cq126, kq126, q126a, q126b, q126c⟩ := isOf hZ e125 A122
  obtain ⟨v126, _, ⟨T126, L126, k126, n126⟩, -, X126, ⟨Lc126, hQ126, l126, y126, z126⟩, st126⟩ := X125.virtualBack hx (y := (⟨"com/example/arbordelta/arbordelta/SubtreeLabels", "mostSavedWith", "(Lcom/example/arbordelta/arbordelta/SubtreeLabels;)J"⟩ : MethodName)) (z := (⟨"com/example/arbordelta/arbordelta/SubtreeLabels", "mostSavedWith", "(Lcom/example/arbordelta/arbordelta/SubtreeLabels;)J"⟩ : MethodName)) hown (mvT hZ (hw _ (List.mem_of_getElem? (i := 35) rfl))) (mvT hZ (hw _ (List.mem_of_getElem? (i := 36) rfl))) (notFace_of_selects (args := #[]) (mvT hZ (hw _ (List.mem_of_getElem? (i := 38) rfl)))) (mvT hZ (hw _ (List.mem_of_getElem? (i := 38) rfl))) (mvT hZ (hw _ (List.mem_of_getElem? (i := 37) rfl))) (by decide) (backOf (W := 0) (own_rm8 l Z a0 hw [] b120 b117 b108 b116 b104 b112 Lb108 Lb116 Lb104 Lb112 T122.heap n0 (Nat.le_trans Z0 Kc122.1) Fa122_0 Fa122_1 (((Fa119_0.ext E120).ext E121).keep K122 (ninS ne_b117_b120 nin0)) (((Fa119_1.ext E120).ext E121).keep K122 (ninS ne_b117_b120 nin0)) ((((((((V108.keep K112 nin0).keep K116 nin0).ext E117).ext E118).keep K119 (ninS ne_b108_b117 nin0)).ext E120).ext E121).keep K122 (ninS ne_b108_b120 nin0)) ((((((V116.ext E117).ext E118).keep K119 (ninS ne_b116_b117 nin0)).ext E120).ext E121).keep K122 (ninS ne_b116_b120 nin0)) (((((((((V104.keep K108 nin0).keep K112 nin0).keep K116 nin0).ext E117).ext E118).keep K119 (ninS ne_b104_b117 nin0)).ext E120).ext E121).keep K122 (ninS ne_b104_b120 nin0)) (((((((V112.keep K116 nin0).ext E117).ext E118).keep K119 (ninS ne_b112_b117 nin0)).ext E120).ext E121).keep K122 (ninS ne_b112_b120 nin0)) (by omega : Lb108.length < 2147483648) (by omega : Lb116.length < 2147483648) (by omega : Lb104.length < 2147483648) (by omega : Lb112.length < 2147483648)) hZ (hw _ (List.mem_of_getElem? (i := 39) rfl)) (hw _ (List.mem_of_getElem? (i := 14) rfl)) (by decide) (by decide)) q126a q126c (g := (mkF m 186 #[.val (.int i0), .val (.int i1), .val (.int i2), .val (.long j3), .second, .val (.long j4), .second, .val (.long j5), .second, .val (.ref b104), .val (.ref b108), .val (.ref b112), .val (.ref b116), .val (.ref b117), .val (.ref b120), .val (.long ((own_inter Lb104 Lb108) + (own_inter Lb112 Lb116))), .second] [(.ref b117), (.ref b120)])) rfl (by rw [hml]; rfl) (Steps.refl _) (argsL := [(.ref b117)]) (rest := []) (lenOf own_pd7 rfl) rfl (by show 2 * 0 + _ ≤ _; exact Nat.le_of_eq rfl) (hb hby at_186) (fun _ _ => ⟨rfl, e125, (by decide : 8 + 0 ≤ _), (by decide : 14 + 0 ≤ _)⟩)
  dsimp only [Pt.U, Pt.locs, Pt.cells, Pt.slots] at X126 l126 y126 z126 st126 hQ126
  subst l126 y126 z126
  obtain ⟨rfl, N126q, e126⟩ := hQ126
  have N126 := Fr.app N125 N126q
  refine own_via (g' := T126.setTop (mkF m 189 #[.val (.int i0), .val (.int i1), .val (.int i2), .val (.long j3), .second, .val (.long j4), .second, .val (.long j5), .second, .val (.ref b104), .val (.ref b108), .val (.ref b112), .val (.ref b116), .val (.ref b117), .val (.ref b120), .val (.long ((own_inter Lb104 Lb108) + (own_inter Lb112 Lb116))), .second] [(.long (own_common Lb108 Lb104 + own_common Lb116 Lb112))])) (fun t k => st126.trans k) ?_
  refine own_via (g' := T126.setTop (mkF m 191 #[.val (.int i0), .val (.int i1), .val (.int i2), .val (.long j3), .second, .val (.long j4), .second, .val (.long j5), .second, .val (.ref b104), .val (.ref b108), .val (.ref b112), .val (.ref b116), .val (.ref b117), .val (.ref b120), .val (.long ((own_inter Lb104 Lb108) + (own_inter Lb112 Lb116))), .second] [(.long ((own_inter Lb104 Lb108) + (own_inter Lb112 Lb116))), (.long (own_common Lb108 Lb104 + own_common Lb116 Lb112))])) (fun t k => XT.lload X126.here hx rfl (hb hby at_189) rfl k) ?_
  refine own_via (g' := T126.setTop (mkF m 192 #[.val (.int i0), .val (.int i1), .val (.int i2), .val (.long j3), .second, .val (.long j4), .second, .val (.long j5), .second, .val (.ref b104), .val (.ref b108), .val (.ref b112), .val (.ref b116), .val (.ref b117), .val (.ref b120), .val (.long ((own_inter Lb104 Lb108) + (own_inter Lb112 Lb116))), .second] [(.int (XT.cmpL (own_common Lb108 Lb104 + own_common Lb116 Lb112) ((own_inter Lb104 Lb108) + (own_inter Lb112 Lb116))))])) (fun t k => XT.lcmp X126.here hx rfl (hb hby at_191) rfl k) ?_
  refine own_via (g' := T126.setTop (mkF m 195 #[.val (.int i0), .val (.int i1), .val (.int i2), .val (.long j3), .second, .val (.long j4), .second, .val (.long j5), .second, .val (.ref b104), .val (.ref b108), .val (.ref b112), .val (.ref b116), .val (.ref b117), .val (.ref b120), .val (.long ((own_inter Lb104 Lb108) + (own_inter Lb112 Lb116))), .second] [])) (fun t k => XS.ifNo X126.here hx rfl (hb hby at_192) rfl (XT.ll_ne_f (by rw [(own_ci csb104 csb108).2, (own_ci csb112 csb116).2])) k) ?_
  refine own_via (g' := T126.setTop (mkF m 196 #[.val (.int i0), .val (.int i1), .val (.int i2), .val (.long j3), .second, .val (.long j4), .second, .val (.long j5), .second, .val (.ref b104), .val (.ref b108), .val (.ref b112), .val (.ref b116), .val (.ref b117), .val (.ref b120), .val (.long ((own_inter Lb104 Lb108) + (own_inter Lb112 Lb116))), .second] [(.int (1 : Int32))])) (fun t k => XS.iconst X126.here hx rfl (hb hby at_195) k) ?_
  refine own_via (g' := T126.setTop (mkF m 200 #[.val (.int i0), .val (.int i1), .val (.int i2), .val (.long j3), .second, .val (.long j4), .second, .val (.long j5), .second, .val (.ref b104), .val (.ref b108), .val (.ref b112), .val (.ref b116), .val (.ref b117), .val (.ref b120), .val (.long ((own_inter Lb104 Lb108) + (own_inter Lb112 Lb116))), .second] [(.int (1 : Int32))])) (fun t k => XS.goto X126.here hx rfl (pc0 := 196) (pc' := 200) rfl (hb hby at_196) (by decide) (by decide) k) ?_
  exact own_retB X126 hx hlk (t := .boolean) Bd.returns (by simp) (hb hby at_200) ⟨rfl, N126⟩ (by decide) (by decide)
set_option maxRecDepth 65536 in
set_option maxHeartbeats 40000000 in
theorem comes_1 {Post : Tables → Env → Array Value → State → Outcome → State → Prop} (hpost : ∀ tb e args s v u, (limb_1_1.after args s (.returned v) u = true ∧ limb_1_2.after args s (.returned v) u = true ∧ True) → FrameEnd s (.returned v) u (Jvm.fieldLocs frame_1_writes args s ++ Jvm.arrayLocs frame_1_arrays args s ++ Jvm.staticLocs frame_1_statics s) 24 128 → Post tb e args s (.returned v) u) :
    ArmFor flags0 classFile x code maxLocals ret World_1 tables_1 room_1 Calls_1 rest_1 Pre_1 Post := by
  intro l hfl _ _ p e ha hc hk s m args below hf hA hF happ hP
  obtain ⟨hcalls, hrest, hpre⟩ := hP
  obtain ⟨-, -, -, hnamed, -, -, -, hat⟩ := (Spec.applies_iff hf).mp happ
  obtain ⟨hg, hn⟩ := and_e (Cond.before_iff.mp (show (Jvm.Cond.and given_1 narrow_1).before args s = true from hpre))
  obtain ⟨g1, g2⟩ := and_e hg
  obtain ⟨g3, g4⟩ := and_e g2
  obtain ⟨g5, g6⟩ := and_e g4
  obtain ⟨g7, g8⟩ := and_e g6
  obtain ⟨g9, g10⟩ := and_e g8
  obtain ⟨g11, g12⟩ := and_e g10
  obtain ⟨w0, w1, w2, w3, w4, w5, rfl⟩ : ∃ w0 w1 w2 w3 w4 w5 : Value, args = #[w0, w1, w2, w3, w4, w5] := by
    have hs : args.size = 6 := by simpa [Cond.value, given_1] using g1
    obtain ⟨L⟩ := args
    match L, hs with
    | [w0, w1, w2, w3, w4, w5], _ => exact ⟨w0, w1, w2, w3, w4, w5, rfl⟩
  have hw := fun d (hd : d ∈ tables_1) => atoms_spec (ws := Jvm.Cond.code x code maxLocals ret :: tables_1) hat d (List.mem_cons_of_mem _ hd)
  have hfit : Fit s := fun {y c} hc i hi => by
    obtain ⟨ha, rfl⟩ := Array.getElem?_eq_some_iff.mp hc
    have q := List.all_eq_true.mp ((Array.all_eq_true_iff_forall_mem.mp hF) _ (Array.getElem_mem ha)) i (List.mem_range.mpr hi)
    simpa [Array.getElem?_eq_getElem hi] using q
  obtain ⟨i0, ei0⟩ := is_v g3
  obtain rfl : w0 = (.int i0) := Option.some.inj ei0
  obtain ⟨i1, ei1⟩ := is_v g5
  obtain rfl : w1 = (.int i1) := Option.some.inj ei1
  obtain ⟨i2, ei2⟩ := is_v g7
  obtain rfl : w2 = (.int i2) := Option.some.inj ei2
  obtain ⟨i3, ei3⟩ := isL_v g9
  obtain rfl : w3 = (.long i3) := Option.some.inj ei3
  obtain ⟨i4, ei4⟩ := isL_v g11
  obtain rfl : w4 = (.long i4) := Option.some.inj ei4
  obtain ⟨i5, ei5⟩ := isL_v g12
  obtain rfl : w5 = (.long i5) := Option.some.inj ei5
  obtain ⟨n, o, h1, h2, h3, _, L, rfl, ⟨rfl, N⟩, hq⟩ := own_rm0 l s _ hw tables_1 i0 i1 i2 i3 i4 i5 s.heap s.heap.size (Nat.le_refl _)  p e ha hc hk s m _ below hf ((Spec.applies_iff_loose hf).mp happ).1 ⟨rfl, State.Warmed39.refl s, rfl⟩ trivial
  refine ⟨n, _, h1, h2, h3, hpost _ _ _ _ _ _ ⟨Cond.after_iff.mpr rfl, Cond.after_iff.mpr (eq_i res_at (Term.int_eval (1)) rfl), trivial⟩ ⟨hq.1, hq.2.1, (hq.2.2.sift fun y hy => Or.inr (N y hy)).mono (by decide) (by decide)⟩⟩
theorem main_1_1 : Claimed_1_1 := comes_1 fun _ _ _ _ _ _ h hF => ⟨h.1, hF⟩
theorem main_1_2 : Claimed_1_2 := comes_1 fun _ _ _ _ _ _ h hF => ⟨h.2.1, hF⟩
end Jvm.Pilot.@@N@@
namespace Jvm.Pilot.@@N@@
open Jvm Jvm.ClassFile Sem Op Lib Jvm.Free Jvm.Stand Jvm.Pilot.@@N@@.Jvm.D
/-! MADE BY PROGRAM (witnessworld.py) out of the Statement's table words and the real class files: 13 classes; the members and pool entries that the words name. The judged class is class 1, her method 5. -/
namespace start1
open Jvm.ClassFile
def u (s : String) : CpInfo := .utf8 (stringToUtf16 s)
/-- a pool by its gaps: so many unusable entries, then the entry; so many at the end -/
def gap : Nat → List CpInfo → List CpInfo
  | 0, r => r
  | n + 1, r => .unusable :: gap n r
def poolList (es : List (Nat × CpInfo)) (last : Nat) : List CpInfo := es.foldr (fun e r => gap e.1 (e.2 :: r)) (gap last [])
def pool (es : List (Nat × CpInfo)) (last : Nat) : Array CpInfo := ⟨poolList es last⟩
def fileOf (pool : Array CpInfo) (this : Nat) (attrs : Array Attribute := #[]) (ms : Array MethodInfo := #[]) (fl : Nat := 33) (sup : Nat := 0) (ifs : Array Nat := #[]) (fds : Array FieldInfo := #[]) : ClassFile where
  minorVersion := 0
  majorVersion := 65
  constantPool := pool
  accessFlags := fl
  thisClass := this
  superClass := sup
  interfaces := ifs
  fields := fds
  methods := ms
  attributes := attrs
def plain (name : String) (sup : Option ClassId) : Class where
  name := name
  kind := .ordinary
  loader := none
  accessFlags := 33
  super := sup
  interfaces := #[]
  cf := none
  fields := #[]
  methods := #[]
  instanceTypes := #[]
  staticTypes := #[]
  resolved := #[]
  callSites := []
  init := .initialized
  statics := none
  mirror := none

def pool0 : Array CpInfo := pool [(5, u "<init>"), (0, u "()V"), (1, .class_ 10), (1, u "java/lang/Object")] 113

def k0c0 : Code := { maxStack := 0, maxLocals := 1, code := object_method_1_code, exceptionTable := #[], attributes := #[] }
def k0m0 : Method := { name := "<init>", desc := "()V", sig := { parameters := [], returnType := none }, accessFlags := 1, code := some k0c0 }
/-- java/lang/Object -/
def k0 : Class := { plain "java/lang/Object" none with
  accessFlags := 33
  interfaces := #[]
  cf := some (fileOf pool0 8 #[] #[{ accessFlags := 1, nameIndex := 5, descriptorIndex := 6, attributes := #[] }] 33 0 #[] #[])
  fields := #[]
  methods := #[k0m0]
  instanceTypes := #[]
  staticTypes := #[]
  resolved := Array.replicate 124 none
  statics := none }

def pool1 : Array CpInfo := pool [(2, .class_ 4), (1, u "java/lang/Object"), (0, u "<init>"), (0, u "()V"), (2, .long 9223372036854775808), (1, .methodref 12 13), (0, .class_ 14), (0, .nameAndType 15 16), (0, u "java/lang/Math"), (0, u "min"), (0, u "(JJ)J"), (0, .methodref 12 18), (0, .nameAndType 19 16), (0, u "max"), (0, .methodref 21 22), (0, .class_ 23), (0, .nameAndType 24 25), (0, u "com/example/arbordelta/arbordelta/SubtreeLabelsMostSavedWithPinLaw"), (0, u "len"), (0, u "(II)I"), (0, .methodref 21 27), (0, .nameAndType 28 29), (0, u "pick"), (0, u "(IIJJJ)J"), (0, .methodref 21 31), (0, .nameAndType 32 33), (0, u "arr"), (0, u "(IJJ)[J"), (0, .class_ 35), (0, u "com/example/arbordelta/arbordelta/SubtreeLabels"), (0, .methodref 34 37), (0, .nameAndType 5 38), (0, u "([J[J[J)V"), (0, .methodref 21 40), (0, .nameAndType 41 42), (0, u "inter"), (0, u "([J[J)J"), (0, .methodref 34 44), (0, .nameAndType 45 46), (0, u "mostSavedWith"), (0, u "(Lcom/example/arbordelta/arbordelta/SubtreeLabels;)J"), (5, u "law"), (0, u "(IIIJJJ)Z")] 2

def k1m0 : Method := { name := "<init>", desc := "()V", sig := { parameters := [], returnType := none }, accessFlags := 2, code := none }
def k1c1 : Code := { maxStack := 3, maxLocals := 9, code := method_2_code, exceptionTable := #[], attributes := #[] }
def k1m1 : Method := { name := "pick", desc := "(IIJJJ)J", sig := { parameters := [.int, .int, .long, .long, .long], returnType := some .long }, accessFlags := 10, code := some k1c1 }
def k1c2 : Code := { maxStack := 3, maxLocals := 2, code := method_3_code, exceptionTable := #[], attributes := #[] }
def k1m2 : Method := { name := "len", desc := "(II)I", sig := { parameters := [.int, .int], returnType := some .int }, accessFlags := 10, code := some k1c2 }
def k1c3 : Code := { maxStack := 6, maxLocals := 6, code := method_4_code, exceptionTable := #[], attributes := #[] }
def k1m3 : Method := { name := "arr", desc := "(IJJ)[J", sig := { parameters := [.int, .long, .long], returnType := some (.array .long) }, accessFlags := 10, code := some k1c3 }
def k1c4 : Code := { maxStack := 5, maxLocals := 2, code := method_5_code, exceptionTable := #[], attributes := #[] }
def k1m4 : Method := { name := "inter", desc := "([J[J)J", sig := { parameters := [(.array .long), (.array .long)], returnType := some .long }, accessFlags := 10, code := some k1c4 }
def k1c5 : Code := { maxStack := 11, maxLocals := 17, code := code, exceptionTable := #[], attributes := #[] }
def k1m5 : Method := { name := "law", desc := "(IIIJJJ)Z", sig := { parameters := [.int, .int, .int, .long, .long, .long], returnType := some .boolean }, accessFlags := 9, code := some k1c5 }
/-- com/example/arbordelta/arbordelta/SubtreeLabelsMostSavedWithPinLaw -/
def k1 : Class := { plain "com/example/arbordelta/arbordelta/SubtreeLabelsMostSavedWithPinLaw" (some 0) with
  accessFlags := 49
  interfaces := #[]
  cf := some (fileOf pool1 21 #[] #[{ accessFlags := 2, nameIndex := 5, descriptorIndex := 6, attributes := #[] }, { accessFlags := 10, nameIndex := 28, descriptorIndex := 29, attributes := #[] }, { accessFlags := 10, nameIndex := 24, descriptorIndex := 25, attributes := #[] }, { accessFlags := 10, nameIndex := 32, descriptorIndex := 33, attributes := #[] }, { accessFlags := 10, nameIndex := 41, descriptorIndex := 42, attributes := #[] }, { accessFlags := 9, nameIndex := 52, descriptorIndex := 53, attributes := #[] }] 49 2 #[] #[])
  fields := #[]
  methods := #[k1m0, k1m1, k1m2, k1m3, k1m4, k1m5]
  instanceTypes := #[]
  staticTypes := #[]
  resolved := Array.replicate 56 none
  statics := none }

def pool2 : Array CpInfo := pool [(1, .methodref 2 3), (0, .class_ 4), (0, .nameAndType 5 6), (0, u "java/lang/Object"), (0, u "<init>"), (0, u "()V"), (0, .class_ 8), (0, u "java/lang/Record")] 13

def k2c0 : Code := { maxStack := 1, maxLocals := 1, code := jdk_30_method_1_code, exceptionTable := #[], attributes := #[] }
def k2m0 : Method := { name := "<init>", desc := "()V", sig := { parameters := [], returnType := none }, accessFlags := 4, code := some k2c0 }
/-- java/lang/Record -/
def k2 : Class := { plain "java/lang/Record" (some 0) with
  accessFlags := 1057
  interfaces := #[]
  cf := some (fileOf pool2 7 #[] #[{ accessFlags := 4, nameIndex := 5, descriptorIndex := 6, attributes := #[] }] 1057 2 #[] #[])
  fields := #[]
  methods := #[k2m0]
  instanceTypes := #[]
  staticTypes := #[]
  resolved := Array.replicate 22 none
  statics := none }

def pool3 : Array CpInfo := pool [(1, .methodref 2 3), (0, .class_ 4), (0, .nameAndType 5 6), (0, u "java/lang/Record"), (0, u "<init>"), (0, u "()V"), (0, .fieldref 8 9), (0, .class_ 10), (0, .nameAndType 11 12), (0, u "com/example/arbordelta/arbordelta/SubtreeLabels"), (0, u "labels"), (0, u "[J"), (0, .fieldref 8 14), (0, .nameAndType 15 12), (0, u "labelledValues"), (0, .fieldref 8 17), (0, .nameAndType 18 12), (0, u "leftOut"), (17, .class_ 37), (0, u "com/example/arbordelta/arbordelta/SubtreeLabels$1"), (36, u "([J[J[J)V"), (0, .methodref 8 76), (0, .nameAndType 77 78), (0, u "common"), (0, u "([J[J)J"), (28, u "mostSavedWith"), (0, u "(Lcom/example/arbordelta/arbordelta/SubtreeLabels;)J")] 44

def k3c0 : Code := { maxStack := 2, maxLocals := 4, code := prog_69_method_1_code, exceptionTable := #[], attributes := #[] }
def k3m0 : Method := { name := "<init>", desc := "([J[J[J)V", sig := { parameters := [(.array .long), (.array .long), (.array .long)], returnType := none }, accessFlags := 0, code := some k3c0 }
def k3c1 : Code := { maxStack := 4, maxLocals := 2, code := prog_69_method_5_code, exceptionTable := #[], attributes := #[] }
def k3m1 : Method := { name := "mostSavedWith", desc := "(Lcom/example/arbordelta/arbordelta/SubtreeLabels;)J", sig := { parameters := [(.object "com/example/arbordelta/arbordelta/SubtreeLabels")], returnType := some .long }, accessFlags := 0, code := some k3c1 }
def k3c2 : Code := { maxStack := 4, maxLocals := 6, code := prog_69_method_7_code, exceptionTable := #[], attributes := #[] }
def k3m2 : Method := { name := "common", desc := "([J[J)J", sig := { parameters := [(.array .long), (.array .long)], returnType := some .long }, accessFlags := 10, code := some k3c2 }
/-- com/example/arbordelta/arbordelta/SubtreeLabels -/
def k3 : Class := { plain "com/example/arbordelta/arbordelta/SubtreeLabels" (some 2) with
  accessFlags := 48
  interfaces := #[]
  cf := some (fileOf pool3 8 #[.nestMembers #[36]] #[{ accessFlags := 0, nameIndex := 5, descriptorIndex := 74, attributes := #[] }, { accessFlags := 0, nameIndex := 107, descriptorIndex := 108, attributes := #[] }, { accessFlags := 10, nameIndex := 77, descriptorIndex := 78, attributes := #[] }] 48 2 #[] #[{ accessFlags := 18, nameIndex := 11, descriptorIndex := 12, attributes := #[] }, { accessFlags := 18, nameIndex := 15, descriptorIndex := 12, attributes := #[] }, { accessFlags := 18, nameIndex := 18, descriptorIndex := 12, attributes := #[] }])
  fields := #[{ name := "labels", type := (.array .long), accessFlags := 18, slot := 0, constantValue := 0 }, { name := "labelledValues", type := (.array .long), accessFlags := 18, slot := 1, constantValue := 0 }, { name := "leftOut", type := (.array .long), accessFlags := 18, slot := 2, constantValue := 0 }]
  methods := #[k3m0, k3m1, k3m2]
  instanceTypes := #[(.array .long), (.array .long), (.array .long)]
  staticTypes := #[]
  resolved := Array.replicate 153 none
  statics := none }

def pool4 : Array CpInfo := pool [(1, .class_ 2), (0, u "java/lang/Math"), (1, .class_ 6), (1, u "java/lang/Object"), (0, u "<init>"), (0, u "()V"), (89, .class_ 100), (1, u "java/lang/Math$RandomNumberGeneratorHolder"), (20, u "(JJ)J"), (50, u "negativeZeroFloatBits"), (0, u "J"), (2, u "negativeZeroDoubleBits"), (21, u "max"), (2, u "min"), (43, u "$assertionsDisabled"), (0, u "Z"), (91, u "twoToTheDoubleScaleDown"), (0, u "D"), (4, u "twoToTheDoubleScaleUp"), (9, u "E"), (3, u "PI"), (2, u "TAU"), (2, u "DEGREES_TO_RADIANS"), (0, u "RADIANS_TO_DEGREES")] 94

def k4m0 : Method := { name := "<init>", desc := "()V", sig := { parameters := [], returnType := none }, accessFlags := 2, code := none }
def k4c1 : Code := { maxStack := 4, maxLocals := 4, code := jdk_29_method_66_code, exceptionTable := #[], attributes := #[] }
def k4m1 : Method := { name := "max", desc := "(JJ)J", sig := { parameters := [.long, .long], returnType := some .long }, accessFlags := 9, code := some k4c1 }
def k4c2 : Code := { maxStack := 4, maxLocals := 4, code := jdk_29_method_70_code, exceptionTable := #[], attributes := #[] }
def k4m2 : Method := { name := "min", desc := "(JJ)J", sig := { parameters := [.long, .long], returnType := some .long }, accessFlags := 9, code := some k4c2 }
/-- java/lang/Math -/
def k4 : Class := { plain "java/lang/Math" (some 0) with
  accessFlags := 49
  interfaces := #[]
  cf := some (fileOf pool4 1 #[.nestMembers #[98]] #[{ accessFlags := 2, nameIndex := 7, descriptorIndex := 8, attributes := #[] }, { accessFlags := 9, nameIndex := 198, descriptorIndex := 121, attributes := #[] }, { accessFlags := 9, nameIndex := 201, descriptorIndex := 121, attributes := #[] }] 49 4 #[] #[{ accessFlags := 25, nameIndex := 354, descriptorIndex := 339, attributes := #[] }, { accessFlags := 25, nameIndex := 358, descriptorIndex := 339, attributes := #[] }, { accessFlags := 25, nameIndex := 361, descriptorIndex := 339, attributes := #[] }, { accessFlags := 26, nameIndex := 364, descriptorIndex := 339, attributes := #[] }, { accessFlags := 26, nameIndex := 365, descriptorIndex := 339, attributes := #[] }, { accessFlags := 26, nameIndex := 172, descriptorIndex := 173, attributes := #[] }, { accessFlags := 26, nameIndex := 176, descriptorIndex := 173, attributes := #[] }, { accessFlags := 8, nameIndex := 344, descriptorIndex := 339, attributes := #[] }, { accessFlags := 8, nameIndex := 338, descriptorIndex := 339, attributes := #[] }, { accessFlags := 4120, nameIndex := 245, descriptorIndex := 246, attributes := #[] }])
  fields := #[{ name := "E", type := .double, accessFlags := 25, slot := 0, constantValue := 0 }, { name := "PI", type := .double, accessFlags := 25, slot := 1, constantValue := 0 }, { name := "TAU", type := .double, accessFlags := 25, slot := 2, constantValue := 0 }, { name := "DEGREES_TO_RADIANS", type := .double, accessFlags := 26, slot := 3, constantValue := 0 }, { name := "RADIANS_TO_DEGREES", type := .double, accessFlags := 26, slot := 4, constantValue := 0 }, { name := "negativeZeroFloatBits", type := .long, accessFlags := 26, slot := 5, constantValue := 0 }, { name := "negativeZeroDoubleBits", type := .long, accessFlags := 26, slot := 6, constantValue := 0 }, { name := "twoToTheDoubleScaleUp", type := .double, accessFlags := 8, slot := 7, constantValue := 0 }, { name := "twoToTheDoubleScaleDown", type := .double, accessFlags := 8, slot := 8, constantValue := 0 }, { name := "$assertionsDisabled", type := .boolean, accessFlags := 4120, slot := 9, constantValue := 0 }]
  methods := #[k4m0, k4m1, k4m2]
  instanceTypes := #[]
  staticTypes := #[.double, .double, .double, .double, .double, .long, .long, .double, .double, .boolean]
  resolved := Array.replicate 460 none
  statics := none }

def pool5 : Array CpInfo := pool [(1, u "java/lang/Cloneable"), (0, .class_ 1), (0, u "java/lang/Object"), (0, .class_ 3)] 3

/-- java/lang/Cloneable -/
def k5 : Class := { plain "java/lang/Cloneable" (some 0) with
  accessFlags := 1537
  interfaces := #[]
  cf := some (fileOf pool5 2 #[] #[] 1537 4 #[] #[])
  fields := #[]
  methods := #[]
  instanceTypes := #[]
  staticTypes := #[]
  resolved := Array.replicate 8 none
  statics := none }

def pool6 : Array CpInfo := pool [(1, u "java/io/Serializable"), (0, .class_ 1), (0, u "java/lang/Object"), (0, .class_ 3)] 3

/-- java/io/Serializable -/
def k6 : Class := { plain "java/io/Serializable" (some 0) with
  accessFlags := 1537
  interfaces := #[]
  cf := some (fileOf pool6 2 #[] #[] 1537 4 #[] #[])
  fields := #[]
  methods := #[]
  instanceTypes := #[]
  staticTypes := #[]
  resolved := Array.replicate 8 none
  statics := none }

/-- the primitive byte -/
def k7 : Class := { plain "byte" none with kind := .primitive 'B', accessFlags := 0x411 }
/-- [B -/
def k8 : Class := { plain "[B" (some 0) with kind := .array 7 .byte, interfaces := #[5, 6], accessFlags := 1041 }

/-- the primitive int -/
def k9 : Class := { plain "int" none with kind := .primitive 'I', accessFlags := 0x411 }
/-- [I -/
def k10 : Class := { plain "[I" (some 0) with kind := .array 9 .int, interfaces := #[5, 6], accessFlags := 1041 }

/-- the primitive long -/
def k11 : Class := { plain "long" none with kind := .primitive 'J', accessFlags := 0x411 }
/-- [J -/
def k12 : Class := { plain "[J" (some 0) with kind := .array 11 .long, interfaces := #[5, 6], accessFlags := 1041 }

def heap : Heap := #[]
def classes : Array Class := #[k0, k1, k2, k3, k4, k5, k6, k7, k8, k9, k10, k11, k12]
def interned : List (Array UInt16 × Addr) := []
def slotsUsed : Nat := 0
def theMethod : MethodId := ⟨1, 5⟩
def args0 : Array Value := #[.int 0, .int 3, .int 2, .long (-2115241738514810617), .long 2, .long 3]
def aboutOver (below : List Frame) : State where
  vm := { classes := classes, interned := interned.toArray }
  heap := heap
  slotsUsed := slotsUsed
  threads := #[{ frames := .invoking theMethod args0 :: below }]
def below0 : List Frame := [.native { method := ⟨0, 0⟩, args := #[] }]
def about1 : State := aboutOver below0
def p0 : Program := .bare "" "" ""
def e0 : Env := launch0.env 0 0 0
theorem w_frames : about1.frames = Frame.invoking theMethod args0 :: below0 := rfl
set_option maxRecDepth 65536 in
theorem w_args : argsFit about1.vm theMethod args0 = true := by decide +kernel
set_option maxRecDepth 65536 in
theorem w_heap : heapFits about1 = true := by decide +kernel
set_option maxRecDepth 65536 in
theorem w_runnable : about1.curStatus? = some .runnable := by decide +kernel
set_option maxRecDepth 65536 in
theorem w_alone : about1.alone = true := by decide +kernel
set_option maxRecDepth 65536 in
theorem w_named : about1.methodNamed? x = some theMethod := by decide +kernel
set_option maxRecDepth 65536 in
theorem w_hears : about1.hears theMethod below0 = true := by decide +kernel
set_option maxRecDepth 65536 in
theorem w_ripe : about1.ripe theMethod args0 below0 = true := by decide +kernel
theorem w_running : about1.status = .running := rfl
set_option maxRecDepth 65536 in
theorem w_room : about1.hasRoom e0.platform room_1 = true :=
  launch0.hasRoom_least _ room_1 (by decide +kernel) (by decide +kernel) (by decide +kernel) (by decide +kernel) (by decide +kernel) (by decide +kernel)
theorem allAtoms_all (ts : List Jvm.Cond) (a : Array Jvm.Value) (st : Jvm.State) : (allAtoms ts).before a st = ts.all (fun c => c.before a st) := by
  induction ts with
  | nil => rfl
  | cons c t ih =>
    show (Jvm.Cond.and c (allAtoms t)).before a st = _
    rw [Jvm.Cond.before_and, ih, List.all_cons]
def words1 : List Jvm.Cond := Jvm.Cond.code x code maxLocals ret :: tables_1
/-- a 'code' word, met by the world's own term for the bytes: nothing is compared byte by byte -/
theorem code_word {y : MethodName} {bytes : ByteArray} {mx : Nat} {rt : Option FieldType} {a : Array Value} {s : State} {m : MethodId} {meth : Method} {c : Code} (h1 : s.methodNamed? y = some m) (h2 : s.vm.method? m = some meth) (h3 : meth.code = some c) (h4 : c.code = bytes)
    (h5 : (c.maxLocals == mx && c.exceptionTable.isEmpty && decide (c.maxStack ≤ mostOperands) && decide (meth.sig.returnType = rt) && !meth.locks && decide (parseMethodDescriptor y.desc = some meth.sig)) = true) : (Jvm.Cond.code y bytes mx rt).before a s = true := by
  simp only [Bool.and_eq_true, beq_iff_eq, Bool.not_eq_true', decide_eq_true_eq] at h5
  obtain ⟨⟨⟨⟨⟨g1, g2⟩, g3⟩, g4⟩, g5⟩, g6⟩ := h5
  simp [Cond.before, Cond.holds, Cond.value, h1, h2, h3, h4, g1, g2, g3, g4, g5, g6]
def isCode : Jvm.Cond → Bool
  | .code _ _ _ _ => true
  | _ => false
theorem all_split {L : List Jvm.Cond} {P : Jvm.Cond → Bool} (h1 : L.all (fun c => isCode c || P c) = true) (h2 : ∀ c ∈ L.filter isCode, P c = true) : L.all P = true := by
  refine List.all_eq_true.mpr fun c hc => ?_
  have h := List.all_eq_true.mp h1 c hc
  rcases Bool.eq_false_or_eq_true (isCode c) with hi | hi
  · exact h2 c (List.mem_filter.mpr ⟨hc, hi⟩)
  · simpa [hi] using h
set_option maxRecDepth 65536 in
theorem w_c0 : (Jvm.Cond.code x code maxLocals ret).before args0 about1 = true := code_word (m := ⟨1, 5⟩) (meth := k1m5) (c := k1c5) (by decide +kernel) rfl rfl rfl (by decide +kernel)
set_option maxRecDepth 65536 in
theorem w_c1 : (Jvm.Cond.code ({ cls := "com/example/arbordelta/arbordelta/SubtreeLabelsMostSavedWithPinLaw", name := "len", desc := "(II)I" } : Jvm.MethodName) method_3_code (2 : Nat) (Option.some Jvm.ClassFile.FieldType.int)).before args0 about1 = true := code_word (m := ⟨1, 2⟩) (meth := k1m2) (c := k1c2) (by decide +kernel) rfl rfl rfl (by decide +kernel)
set_option maxRecDepth 65536 in
theorem w_c2 : (Jvm.Cond.code ({ cls := "com/example/arbordelta/arbordelta/SubtreeLabelsMostSavedWithPinLaw", name := "pick", desc := "(IIJJJ)J" } : Jvm.MethodName) method_2_code (9 : Nat) (Option.some Jvm.ClassFile.FieldType.long)).before args0 about1 = true := code_word (m := ⟨1, 1⟩) (meth := k1m1) (c := k1c1) (by decide +kernel) rfl rfl rfl (by decide +kernel)
set_option maxRecDepth 65536 in
theorem w_c3 : (Jvm.Cond.code ({ cls := "com/example/arbordelta/arbordelta/SubtreeLabelsMostSavedWithPinLaw", name := "arr", desc := "(IJJ)[J" } : Jvm.MethodName) method_4_code (6 : Nat) (Option.some (Jvm.ClassFile.FieldType.array Jvm.ClassFile.FieldType.long))).before args0 about1 = true := code_word (m := ⟨1, 3⟩) (meth := k1m3) (c := k1c3) (by decide +kernel) rfl rfl rfl (by decide +kernel)
set_option maxRecDepth 65536 in
theorem w_c4 : (Jvm.Cond.code ({ cls := "com/example/arbordelta/arbordelta/SubtreeLabels", name := "<init>", desc := "([J[J[J)V" } : Jvm.MethodName) prog_69_method_1_code (4 : Nat) (Option.none : Option Jvm.ClassFile.FieldType)).before args0 about1 = true := code_word (m := ⟨3, 0⟩) (meth := k3m0) (c := k3c0) (by decide +kernel) rfl rfl rfl (by decide +kernel)
set_option maxRecDepth 65536 in
theorem w_c5 : (Jvm.Cond.code ({ cls := "java/lang/Record", name := "<init>", desc := "()V" } : Jvm.MethodName) jdk_30_method_1_code (1 : Nat) (Option.none : Option Jvm.ClassFile.FieldType)).before args0 about1 = true := code_word (m := ⟨2, 0⟩) (meth := k2m0) (c := k2c0) (by decide +kernel) rfl rfl rfl (by decide +kernel)
set_option maxRecDepth 65536 in
theorem w_c6 : (Jvm.Cond.code ({ cls := "java/lang/Object", name := "<init>", desc := "()V" } : Jvm.MethodName) object_method_1_code (1 : Nat) (Option.none : Option Jvm.ClassFile.FieldType)).before args0 about1 = true := code_word (m := ⟨0, 0⟩) (meth := k0m0) (c := k0c0) (by decide +kernel) rfl rfl rfl (by decide +kernel)
set_option maxRecDepth 65536 in
theorem w_c7 : (Jvm.Cond.code ({ cls := "com/example/arbordelta/arbordelta/SubtreeLabelsMostSavedWithPinLaw", name := "inter", desc := "([J[J)J" } : Jvm.MethodName) method_5_code (2 : Nat) (Option.some Jvm.ClassFile.FieldType.long)).before args0 about1 = true := code_word (m := ⟨1, 4⟩) (meth := k1m4) (c := k1c4) (by decide +kernel) rfl rfl rfl (by decide +kernel)
set_option maxRecDepth 65536 in
theorem w_c8 : (Jvm.Cond.code ({ cls := "com/example/arbordelta/arbordelta/SubtreeLabels", name := "mostSavedWith", desc := "(Lcom/example/arbordelta/arbordelta/SubtreeLabels;)J" } : Jvm.MethodName) prog_69_method_5_code (2 : Nat) (Option.some Jvm.ClassFile.FieldType.long)).before args0 about1 = true := code_word (m := ⟨3, 1⟩) (meth := k3m1) (c := k3c1) (by decide +kernel) rfl rfl rfl (by decide +kernel)
set_option maxRecDepth 65536 in
theorem w_c9 : (Jvm.Cond.code ({ cls := "com/example/arbordelta/arbordelta/SubtreeLabels", name := "common", desc := "([J[J)J" } : Jvm.MethodName) prog_69_method_7_code (6 : Nat) (Option.some Jvm.ClassFile.FieldType.long)).before args0 about1 = true := code_word (m := ⟨3, 2⟩) (meth := k3m2) (c := k3c2) (by decide +kernel) rfl rfl rfl (by decide +kernel)
set_option maxRecDepth 65536 in
theorem w_c10 : (Jvm.Cond.code ({ cls := "java/lang/Math", name := "min", desc := "(JJ)J" } : Jvm.MethodName) jdk_29_method_70_code (4 : Nat) (Option.some Jvm.ClassFile.FieldType.long)).before args0 about1 = true := code_word (m := ⟨4, 2⟩) (meth := k4m2) (c := k4c2) (by decide +kernel) rfl rfl rfl (by decide +kernel)
set_option maxRecDepth 65536 in
theorem w_c11 : (Jvm.Cond.code ({ cls := "java/lang/Math", name := "max", desc := "(JJ)J" } : Jvm.MethodName) jdk_29_method_66_code (4 : Nat) (Option.some Jvm.ClassFile.FieldType.long)).before args0 about1 = true := code_word (m := ⟨4, 1⟩) (meth := k4m1) (c := k4c1) (by decide +kernel) rfl rfl rfl (by decide +kernel)
def codes1 : List Jvm.Cond := [Jvm.Cond.code x code maxLocals ret, Jvm.Cond.code ({ cls := "com/example/arbordelta/arbordelta/SubtreeLabelsMostSavedWithPinLaw", name := "len", desc := "(II)I" } : Jvm.MethodName) method_3_code (2 : Nat) (Option.some Jvm.ClassFile.FieldType.int), Jvm.Cond.code ({ cls := "com/example/arbordelta/arbordelta/SubtreeLabelsMostSavedWithPinLaw", name := "pick", desc := "(IIJJJ)J" } : Jvm.MethodName) method_2_code (9 : Nat) (Option.some Jvm.ClassFile.FieldType.long), Jvm.Cond.code ({ cls := "com/example/arbordelta/arbordelta/SubtreeLabelsMostSavedWithPinLaw", name := "arr", desc := "(IJJ)[J" } : Jvm.MethodName) method_4_code (6 : Nat) (Option.some (Jvm.ClassFile.FieldType.array Jvm.ClassFile.FieldType.long)), Jvm.Cond.code ({ cls := "com/example/arbordelta/arbordelta/SubtreeLabels", name := "<init>", desc := "([J[J[J)V" } : Jvm.MethodName) prog_69_method_1_code (4 : Nat) (Option.none : Option Jvm.ClassFile.FieldType), Jvm.Cond.code ({ cls := "java/lang/Record", name := "<init>", desc := "()V" } : Jvm.MethodName) jdk_30_method_1_code (1 : Nat) (Option.none : Option Jvm.ClassFile.FieldType), Jvm.Cond.code ({ cls := "java/lang/Object", name := "<init>", desc := "()V" } : Jvm.MethodName) object_method_1_code (1 : Nat) (Option.none : Option Jvm.ClassFile.FieldType), Jvm.Cond.code ({ cls := "com/example/arbordelta/arbordelta/SubtreeLabelsMostSavedWithPinLaw", name := "inter", desc := "([J[J)J" } : Jvm.MethodName) method_5_code (2 : Nat) (Option.some Jvm.ClassFile.FieldType.long), Jvm.Cond.code ({ cls := "com/example/arbordelta/arbordelta/SubtreeLabels", name := "mostSavedWith", desc := "(Lcom/example/arbordelta/arbordelta/SubtreeLabels;)J" } : Jvm.MethodName) prog_69_method_5_code (2 : Nat) (Option.some Jvm.ClassFile.FieldType.long), Jvm.Cond.code ({ cls := "com/example/arbordelta/arbordelta/SubtreeLabels", name := "common", desc := "([J[J)J" } : Jvm.MethodName) prog_69_method_7_code (6 : Nat) (Option.some Jvm.ClassFile.FieldType.long), Jvm.Cond.code ({ cls := "java/lang/Math", name := "min", desc := "(JJ)J" } : Jvm.MethodName) jdk_29_method_70_code (4 : Nat) (Option.some Jvm.ClassFile.FieldType.long), Jvm.Cond.code ({ cls := "java/lang/Math", name := "max", desc := "(JJ)J" } : Jvm.MethodName) jdk_29_method_66_code (4 : Nat) (Option.some Jvm.ClassFile.FieldType.long)]
set_option maxRecDepth 65536 in
theorem codes_eq : words1.filter isCode = codes1 := rfl
theorem w_codes : ∀ c ∈ words1.filter isCode, c.before args0 about1 = true := by
  rw [codes_eq]
  intro c hc
  simp only [codes1, List.mem_cons, List.not_mem_nil, or_false] at hc
  rcases hc with rfl | rfl | rfl | rfl | rfl | rfl | rfl | rfl | rfl | rfl | rfl | rfl
  · exact w_c0
  · exact w_c1
  · exact w_c2
  · exact w_c3
  · exact w_c4
  · exact w_c5
  · exact w_c6
  · exact w_c7
  · exact w_c8
  · exact w_c9
  · exact w_c10
  · exact w_c11
set_option maxRecDepth 65536 in
theorem w_t1 : (words1.take 24).all (fun c => isCode c || c.before args0 about1) = true := by decide +kernel
set_option maxRecDepth 65536 in
theorem w_t2 : ((words1.drop 24).take 24).all (fun c => isCode c || c.before args0 about1) = true := by decide +kernel
set_option maxRecDepth 65536 in
theorem w_t3 : ((words1.drop 24).drop 24).all (fun c => isCode c || c.before args0 about1) = true := by decide +kernel
theorem w_tables : (allAtoms (Jvm.Cond.code x code maxLocals ret :: tables_1)).before args0 about1 = true := by
  rw [allAtoms_all]
  show words1.all (fun c => c.before args0 about1) = true
  refine all_split ?_ w_codes
  rw [← List.take_append_drop 24 words1, List.all_append, w_t1, ← List.take_append_drop 24 (words1.drop 24), List.all_append, w_t2, w_t3]
  rfl
set_option maxRecDepth 65536 in
theorem w_case : (Jvm.Cond.and given_1 narrow_1).before args0 about1 = true := by decide +kernel
theorem w_applies : (headSpec (Jvm.Cond.code x code maxLocals ret :: tables_1) room_1).applies x e0.platform about1 = true :=
  (Spec.applies_iff w_frames).mpr ⟨w_running, w_runnable, w_alone, w_named, w_hears, w_ripe, w_room, w_tables⟩
theorem atStart : AtStart classFile x code maxLocals ret World_1 tables_1 room_1 Calls_1 rest_1 Pre_1 launch0 p0 e0 about1 theMethod args0 below0 :=
  ⟨lists_1, trivial, launch0.admits_env _ _ _, launch0.least_env, fairChoices_fair.cas, fairChoices_fair.clock, w_frames, w_args, w_heap, w_applies, trivial, trivial, w_case⟩
end start1
theorem witness_1 : WitnessClaimed_1 := ⟨start1.p0, start1.e0, start1.about1, start1.theMethod, start1.args0, start1.below0, start1.atStart⟩
end Jvm.Pilot.@@N@@
