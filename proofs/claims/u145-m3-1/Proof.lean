import JvmDerived
import JvmDerived.Pilot.@@N@@Statement
import JvmDerived.Pilot.@@N@@Code
set_option linter.unusedVariables false
set_option linter.unusedSimpArgs false
set_option maxRecDepth 65536
set_option maxHeartbeats 40000000
namespace Jvm.Own
open Sem ClassFile Op Lib Bundle Jvm.Stand Jvm.Free Jvm.LawKit Jvm.RoadKit
section Base
variable {p : Program} {l : Launch} {e : Env} {R : Room} {s : State} {m : MethodId} {args : Array Value} {below : List Frame} {meth : Method} {c : Code} {own : String} {Z : State} {a0 : Array Value} {EL : List (String × Nat)} {vm0 vm1 : Vm} {T T' : State} {h h' h1 : Heap} {k n : Nat} {G : Outcome → State → Prop} {pc : Nat} {Ls : Array Slot} {rest : List Value}
/-- the walk comes to an end that G allows -/
def OEnds (p : Program) (e : Env) (below : List Frame) (G : Outcome → State → Prop) (T : State) (g : JFrame) : Prop := ∃ (s₂ : State) (o : Outcome), Steps p.tables e below (T.setTop g) s₂ ∧ s₂.status = .running ∧ Ended s₂ below o ∧ G o s₂
theorem OEnds.go {g g' : JFrame} (st : ∀ t, Steps p.tables e below (T'.setTop g') t → Steps p.tables e below (T.setTop g) t) (q : OEnds p e below G T' g') : OEnds p e below G T g := by
  obtain ⟨s₂, o, h1, r⟩ := q; exact ⟨s₂, o, st _ h1, r⟩
theorem OEnds.tr {g g' : JFrame} (st : Steps p.tables e below (T.setTop g) (T'.setTop g')) (q : OEnds p e below G T' g') : OEnds p e below G T g := by
  obtain ⟨s₂, o, h1, r⟩ := q; exact ⟨s₂, o, st.trans h1, r⟩
theorem OEnds.cast {g g' : JFrame} (q : g = g') (r : OEnds p e below G T g') : OEnds p e below G T g := q ▸ r
theorem ext_refl (h : Heap) : Ext h h := ⟨Nat.le_refl _, fun _ _ q => q⟩
theorem ext_trans (A : Ext h h1) (B : Ext h1 h') : Ext h h' := ⟨Nat.le_trans A.1 B.1, fun a c q => B.2 a c (A.2 a c q)⟩
/-- what was written lies above h: h stands -/
theorem ext_keep {ws : List Addr} (A : Ext h h1) (K : Keep h1 h' ws) (q : ∀ x ∈ ws, h.size ≤ x) : Ext h h' := ⟨Nat.le_trans A.1 K.1, fun a c r => K.2.1 a c (A.2 a c r) fun z => absurd (Array.getElem?_eq_some_iff.mp r).1 (Nat.not_lt.mpr (q a z))⟩
theorem ext_wr {a : Addr} {sl : Nat} {v : Value} (A : Ext h h1) (W : Wr h1 h' a sl v) (q : h.size ≤ a) : Ext h h' := ext_keep A (Keep.of_wr W) (allS q all0)
/-- where the walk stands: the tables vm0, the heap h, at most k cells and n slots made -/
def OSt (p : Program) (l : Launch) (e : Env) (R : Room) (s : State) (m : MethodId) (args : Array Value) (below : List Frame) (meth : Method) (c : Code) (own : String) (Z : State) (EL : List (String × Nat)) (vm0 : Vm) (T : State) (h : Heap) (k n : Nat) : Prop :=
  ∃ locs : List Loc, Stand p l e R (s.setVm vm0) m args below meth c T locs k n ∧ Fr Z.heap.size locs ∧ T.heap = h ∧ (∃ k0, s.Since vm0 k0 ∧ k0 ≤ h.size) ∧ Z.Warmed39 vm0 ∧ vm0.findClass own = some m.cls ∧ CHr Z EL s.vm s.heap vm0 h ∧ Ext Z.heap h ∧ p.tables.exec = Jvm.exec
theorem OSt.here (X : OSt p l e R s m args below meth c own Z EL vm0 T h k n) : At T m c below := by obtain ⟨_, X, _⟩ := X; exact X.here
theorem OSt.hx (X : OSt p l e R s m args below meth c own Z EL vm0 T h k n) : p.tables.exec = Jvm.exec := by obtain ⟨_, _, _, _, _, _, _, _, _, q⟩ := X; exact q
theorem OSt.old (X : OSt p l e R s m args below meth c own Z EL vm0 T h k n) : Ext Z.heap h := by obtain ⟨_, _, _, _, _, _, _, _, q, _⟩ := X; exact q
theorem OSt.hZ (X : OSt p l e R s m args below meth c own Z EL vm0 T h k n) : Z.Warmed39 vm0 := by obtain ⟨_, _, _, _, _, q, _⟩ := X; exact q
theorem OSt.al (X : OSt p l e R s m args below meth c own Z EL vm0 T h k n) : Z.vm.Alike vm0 := X.hZ.alike
theorem OSt.chr (X : OSt p l e R s m args below meth c own Z EL vm0 T h k n) : CHr Z EL s.vm s.heap vm0 h := by obtain ⟨_, _, _, _, _, _, _, q, _⟩ := X; exact q
theorem OSt.chv (X : OSt p l e R s m args below meth c own Z EL vm0 T h k n) : CHv Z EL vm0 h := X.chr.1
theorem OSt.mono (X : OSt p l e R s m args below meth c own Z EL vm0 T h k n) {k' n' : Nat} (hk : k ≤ k') (hn : n ≤ n') : OSt p l e R s m args below meth c own Z EL vm0 T h k' n' := by
  obtain ⟨L, X, r⟩ := X; exact ⟨L, X.mono hk hn, r⟩
theorem OSt.getF (X : OSt p l e R s m args below meth c own Z EL vm0 T h k n) {R0 O nm d : String} {index : Nat} (w : (Cond.fieldLink own index R0 nm d).before a0 Z = true) (via : Via Z R0 O nm d) {a : Addr} {v : Value} (F : Fld Z h a O nm d v) (hd : decode c.code pc = .ok (.getfield index, 3))
    (q : ∀ T', OSt p l e R s m args below meth c own Z EL vm0 T' h k n → OEnds p e below G T' (mkF m (pc + 3) Ls (v :: rest))) : OEnds p e below G T (mkF m pc Ls (.ref a :: rest)) := by
  obtain ⟨L, X, hF, hh, hS, hZ, ho, hC, hO, hx⟩ := X
  obtain ⟨T', X', e', st⟩ := RoadKit.getF (host := "") X hx hZ ho (Or.inl w) via hh F (g := mkF m pc Ls (.ref a :: rest)) rfl rfl hd
  exact (q T' ⟨L, X', hF, e', hS, hZ, ho, hC, hO, hx⟩).go st
theorem OSt.getS (X : OSt p l e R s m args below meth c own Z EL vm0 T h k n) {R0 O nm d : String} {index : Nat} (w : (Cond.fieldLink own index R0 nm d).before a0 Z = true) (via : Via Z R0 O nm d) {v : Value} (F : Sta Z h O nm d v) (hd : decode c.code pc = .ok (.getstatic index, 3))
    (q : ∀ T', OSt p l e R s m args below meth c own Z EL vm0 T' h k n → OEnds p e below G T' (mkF m (pc + 3) Ls (v :: rest))) : OEnds p e below G T (mkF m pc Ls rest) := by
  obtain ⟨L, X, hF, hh, hS, hZ, ho, hC, hO, hx⟩ := X
  obtain ⟨T', X', e', st⟩ := RoadKit.getS (host := "") X hx hZ ho w via hh F (g := mkF m pc Ls rest) rfl hd
  exact (q T' ⟨L, X', hF, e', hS, hZ, ho, hC, hO, hx⟩).go st
theorem Since_le {k0 : Nat} (hk : k0 ≤ h.size) (q : h.size ≤ h'.size) : k0 ≤ h'.size := Nat.le_trans hk q
theorem OSt.putF (X : OSt p l e R s m args below meth c own Z EL vm0 T h k n) {R0 O nm d C : String} {index kk : Nat} {ty : FieldType} (w : (Cond.fieldLink own index R0 nm d).before a0 Z = true) (via : Via Z R0 O nm d) {a : Addr} {v old : Value} (F : Fld Z h a O nm d old) (E : Exa Z h a C)
    (Lw : (Cond.lays C O nm d).before a0 Z = true ∨ ((Cond.laysFinal C O nm d).before a0 Z = true ∧ own = O ∧ meth.name = "<init>")) (wi : (Cond.instantiable C kk).before a0 Z = true) (hty : parseFieldDescriptor d = some ty) (hn : narrow ty v = v) (hf : fits ty v = true)
    (hS : Safe Z EL vm0 h a) (ha : Z.heap.size ≤ a) (hd : decode c.code pc = .ok (.putfield index, 3))
    (q : ∀ T' h', OSt p l e R s m args below meth c own Z EL vm0 T' h' k n → Wr h h' a (Jvm.RoadKit.slotOf Z O nm d) v → OEnds p e below G T' (mkF m (pc + 3) Ls rest)) : OEnds p e below G T (mkF m pc Ls (v :: .ref a :: rest)) := by
  obtain ⟨L, X, hF, hh, ⟨k0, hS0, hk0⟩, hZ, ho, hC, hO, hx⟩ := X
  obtain ⟨T', h', X', e', W, st⟩ := RoadKit.putF (host := "") X hx hZ ho (Or.inl w) via hh F E Lw wi hty hn hf (g := mkF m pc Ls (v :: .ref a :: rest)) rfl rfl hd
  exact (q T' h' ⟨_, X', Fr.snoc X' hF ha, e', ⟨k0, hS0, by rw [W.size]; exact hk0⟩, hZ, ho, hC.trans (CHr.wr W hS hC.1), ext_wr hO W ha, hx⟩ W).go st
theorem OSt.newO (X : OSt p l e R s m args below meth c own Z EL vm0 T h k n) {C : String} {index j : Nat} (w : (Cond.classLink own index C).before a0 Z = true) (wi : (Cond.instantiable C j).before a0 Z = true) (wz : (Cond.initialized C).before a0 Z = true) (hd : decode c.code pc = .ok (.new index, 3)) (hc : k + 1 ≤ R.cells) (hl : n + j ≤ R.slots)
    (q : ∀ T' h' a, h.size = a → OSt p l e R s m args below meth c own Z EL vm0 T' h' (k + 1) (n + j) → Ext h h' → Exa Z h' a C → (∀ {O nm d : String} {ty : FieldType}, Laid Z a0 C O nm d → parseFieldDescriptor d = some ty → Fld Z h' a O nm d (defaultValue ty)) → Unt h' a → OEnds p e below G T' (mkF m (pc + 3) Ls (.ref a :: rest))) : OEnds p e below G T (mkF m pc Ls rest) := by
  obtain ⟨L, X, hF, hh, ⟨k0, hS0, hk0⟩, hZ, ho, hC, hO, hx⟩ := X
  obtain ⟨T', h', X', e', E, A, D, U, st⟩ := RoadKit.newO X hx hZ ho w wi wz hh (g := mkF m pc Ls rest) rfl hd hc hl
  exact (q T' h' _ rfl ⟨_, X', hF, e', ⟨k0, hS0, Nat.le_trans hk0 E.1⟩, hZ, ho, hC.trans (CHr.ext E hC.1), ext_trans hO E, hx⟩ E A D U).go st
theorem OSt.newP (X : OSt p l e R s m args below meth c own Z EL vm0 T h k n) {aty : ArrayType} (w : (Cond.arrayClass (newarray.typeOf aty)).before a0 Z = true) {z : Int32} (hd : decode c.code pc = .ok (.newarray aty, 2)) (hz : ¬ z < 0) {cap : Nat} (hcap : z.toNatClampNeg ≤ cap) (hb : cap * 8 ≤ 536870912) (hc : k + 1 ≤ R.cells) (hl : n + cap ≤ R.slots)
    (q : ∀ T' h' a kc, h.size = a → OSt p l e R s m args below meth c own Z EL vm0 T' h' (k + 1) (n + cap) → Ext h h' → Arv Z h' a kc (newarray.typeOf aty) z [] (defaultValue (newarray.typeOf aty)) → OEnds p e below G T' (mkF m (pc + 2) Ls (.ref a :: rest))) : OEnds p e below G T (mkF m pc Ls (.int z :: rest)) := by
  obtain ⟨L, X, hF, hh, ⟨k0, hS0, hk0⟩, hZ, ho, hC, hO, hx⟩ := X
  obtain ⟨T', h', kc, X', e', E, A, st⟩ := RoadKit.newP X hx hZ w hh (g := mkF m pc Ls (.int z :: rest)) rfl hd rfl hz hcap hb hc hl
  exact (q T' h' _ kc rfl ⟨_, X', hF, e', ⟨k0, hS0, Nat.le_trans hk0 E.1⟩, hZ, ho, hC.trans (CHr.ext E hC.1), ext_trans hO E, hx⟩ E (Arv.new A hz)).go st
theorem OSt.castY (X : OSt p l e R s m args below meth c own Z EL vm0 T h k n) {K : String} {index : Nat} (w : (Cond.classLink own index K).before a0 Z = true) {a : Addr} (F : Ins Z h a K true) (hd : decode c.code pc = .ok (.checkcast index, 3))
    (q : ∀ T', OSt p l e R s m args below meth c own Z EL vm0 T' h k n → OEnds p e below G T' (mkF m (pc + 3) Ls (.ref a :: rest))) : OEnds p e below G T (mkF m pc Ls (.ref a :: rest)) := by
  obtain ⟨L, X, hF, hh, hS, hZ, ho, hC, hO, hx⟩ := X
  obtain ⟨T', X', e', st⟩ := RoadKit.castY X hx hZ ho w hh F (g := mkF m pc Ls (.ref a :: rest)) rfl rfl hd
  exact (q T' ⟨L, X', hF, e', hS, hZ, ho, hC, hO, hx⟩).go st
theorem OSt.instY (X : OSt p l e R s m args below meth c own Z EL vm0 T h k n) {K : String} {index : Nat} (w : (Cond.classLink own index K).before a0 Z = true) {a : Addr} (F : Ins Z h a K true) (hd : decode c.code pc = .ok (.instanceof index, 3))
    (q : ∀ T', OSt p l e R s m args below meth c own Z EL vm0 T' h k n → OEnds p e below G T' (mkF m (pc + 3) Ls (.int 1 :: rest))) : OEnds p e below G T (mkF m pc Ls (.ref a :: rest)) := by
  obtain ⟨L, X, hF, hh, hS, hZ, ho, hC, hO, hx⟩ := X
  obtain ⟨T', X', e', st⟩ := RoadKit.instY X hx hZ ho w hh F (g := mkF m pc Ls (.ref a :: rest)) rfl rfl hd
  exact (q T' ⟨L, X', hF, e', hS, hZ, ho, hC, hO, hx⟩).go st
theorem OSt.instNo (X : OSt p l e R s m args below meth c own Z EL vm0 T h k n) {K C : String} {index : Nat} (w : (Cond.classLink own index K).before a0 Z = true) {a : Addr} (E : Exa Z h a C) (F : ∃ c t, Z.vm.findClass C = some c ∧ Z.vm.findClass K = some t ∧ Z.vm.assignable c t = false) (hd : decode c.code pc = .ok (.instanceof index, 3))
    (q : ∀ T', OSt p l e R s m args below meth c own Z EL vm0 T' h k n → OEnds p e below G T' (mkF m (pc + 3) Ls (.int 0 :: rest))) : OEnds p e below G T (mkF m pc Ls (.ref a :: rest)) := by
  obtain ⟨L, X, hF, hh, hS, hZ, ho, hC, hO, hx⟩ := X
  obtain ⟨T', X', e', st⟩ := RoadKit.instNo X hx hZ ho w hh E F (g := mkF m pc Ls (.ref a :: rest)) rfl rfl hd
  exact (q T' ⟨L, X', hF, e', hS, hZ, ho, hC, hO, hx⟩).go st
theorem OSt.initO (X : OSt p l e R s m args below meth c own Z EL vm0 T h k n) {idx : Nat} (w1 : (Cond.methodLink own idx Lib.objectInit).before a0 Z = true) (w2 : (Cond.instanceMethod Lib.objectInit).before a0 Z = true) (w3 : (Cond.code Lib.objectInit ⟨#[0xb1]⟩ 1 none).before a0 Z = true) {a : Addr} (hsize : Ls.size = c.maxLocals) (hd : decode c.code pc = .ok (.invokespecial idx, 3)) (hf : 1 ≤ R.frames) {W : Nat} (hW : (rest.map fun v => v.category).sum ≤ W) (hl : W + 12 ≤ R.locals)
    (q : ∀ T', OSt p l e R s m args below meth c own Z EL vm0 T' h k n → OEnds p e below G T' (mkF m (pc + 3) Ls rest)) : OEnds p e below G T (mkF m pc Ls (.ref a :: rest)) := by
  obtain ⟨L, X, hF, hh, hS, hZ, ho, hC, hO, hx⟩ := X
  obtain ⟨T', X', e', st⟩ := RoadKit.initO X hx hZ ho w1 w2 w3 hh (g := mkF m pc Ls (.ref a :: rest)) rfl hsize rfl hd hf (W := W) (by show 2 * 0 + _ ≤ _; rw [Nat.mul_zero, Nat.zero_add]; exact hW) hl
  exact (q T' ⟨L, X', hF, e', hS, hZ, ho, hC, hO, hx⟩).go st
end Base
end Jvm.Own
namespace Jvm.Own
open Sem ClassFile Op Lib Bundle Jvm.Stand Jvm.Free Jvm.LawKit Jvm.RoadKit
section Arrays
variable {p : Program} {l : Launch} {e : Env} {R : Room} {s : State} {m : MethodId} {args : Array Value} {below : List Frame} {meth : Method} {c : Code} {own : String} {Z : State} {a0 : Array Value} {EL : List (String × Nat)} {vm0 vm1 : Vm} {T T' : State} {h h' h1 : Heap} {k n : Nat} {G : Outcome → State → Prop} {pc : Nat} {Ls : Array Slot} {rest : List Value}
theorem i2c_id {x : Int32} (h0 : ¬ x < 0) (h1 : ¬ 65535 < x) : x.toUInt32.toUInt16.toUInt32.toInt32 = x := by
  have q := c_i2c x
  have r : (0 : Int32).toInt = 0 := rfl
  have r' : (65535 : Int32).toInt = 65535 := rfl
  simp only [Int32.lt_iff_toInt_lt, r, r'] at h0 h1
  apply Int32.toInt_inj.mp
  omega
theorem OSt.ldcI (X : OSt p l e R s m args below meth c own Z EL vm0 T h k n) {index : Nat} {v : Int32} (w : (Cond.constant own index v).before a0 Z = true) (hd : decode c.code pc = .ok (.ldc index, 2)) (q : OEnds p e below G T (mkF m (pc + 2) Ls (.int v :: rest))) : OEnds p e below G T (mkF m pc Ls rest) := by
  obtain ⟨L, X, hF, hh, hS, hZ, ho, hC, hO, hx⟩ := X
  exact q.go fun t => X.ldcInt hx ho (mvT (s := s.setVm vm0) hZ w) (g := mkF m pc Ls rest) rfl hd t
theorem OSt.ldcJ (X : OSt p l e R s m args below meth c own Z EL vm0 T h k n) {index : Nat} {v : Int64} (w : (Cond.constantLong own index v).before a0 Z = true) (hd : decode c.code pc = .ok (.ldc2_w index, 3)) (q : OEnds p e below G T (mkF m (pc + 3) Ls (.long v :: rest))) : OEnds p e below G T (mkF m pc Ls rest) := by
  obtain ⟨L, X, hF, hh, hS, hZ, ho, hC, hO, hx⟩ := X
  exact q.go fun t => X.ldc2Long hx ho (mvT (s := s.setVm vm0) hZ w) (g := mkF m pc Ls rest) rfl hd t
theorem OSt.alen (X : OSt p l e R s m args below meth c own Z EL vm0 T h k n) {a : Addr} {kc : ClassId} {ty : FieldType} {z : Int32} {vs : List Value} {d : Value} (K : Arv Z h a kc ty z vs d) (hd : decode c.code pc = .ok (.arraylength, 1)) (q : OEnds p e below G T (mkF m (pc + 1) Ls (.int z :: rest))) : OEnds p e below G T (mkF m pc Ls (.ref a :: rest)) := by
  obtain ⟨L, X, hF, hh, hS, hZ, ho, hC, hO, hx⟩ := X
  obtain ⟨cl, A, -, S, hz, -, -⟩ := K
  refine q.go fun t r => X.arraylength hx (by rw [hh]; exact A.1) (State.isArrayOf_alike hZ.alike A.2.1) (g := mkF m pc Ls (.ref a :: rest)) rfl rfl hd t ?_
  rw [len_of S hz]; exact r
theorem OSt.cald (X : OSt p l e R s m args below meth c own Z EL vm0 T h k n) {a : Addr} {kc : ClassId} {z j : Int32} {vs : List Value} {d v : Value} (K : Arv Z h a kc .char z vs d) (hj : ¬ j < 0 ∧ j < z) (u : vs.getD j.toNatClampNeg d = v) (hd : decode c.code pc = .ok (.caload, 1)) (q : OEnds p e below G T (mkF m (pc + 1) Ls (v :: rest))) : OEnds p e below G T (mkF m pc Ls (.int j :: .ref a :: rest)) := by
  obtain ⟨L, X, hF, hh, hS, hZ, ho, hC, hO, hx⟩ := X
  obtain ⟨cl, A, -, S, hz, H, -⟩ := K
  exact q.go fun t => X.caload hx (by rw [hh]; exact A.1) (State.isArrayOf_alike hZ.alike A.2.1) A.2.2 (inb_of S hj) (H.at (inb_of S hj) u) (g := mkF m pc Ls (.int j :: .ref a :: rest)) rfl rfl hd t
theorem OSt.bald (X : OSt p l e R s m args below meth c own Z EL vm0 T h k n) {a : Addr} {kc : ClassId} {z j : Int32} {vs : List Value} {d v : Value} (K : Arv Z h a kc .byte z vs d) (hj : ¬ j < 0 ∧ j < z) (u : vs.getD j.toNatClampNeg d = v) (hd : decode c.code pc = .ok (.baload, 1)) (q : OEnds p e below G T (mkF m (pc + 1) Ls (v :: rest))) : OEnds p e below G T (mkF m pc Ls (.int j :: .ref a :: rest)) := by
  obtain ⟨L, X, hF, hh, hS, hZ, ho, hC, hO, hx⟩ := X
  obtain ⟨cl, A, -, S, hz, H, -⟩ := K
  exact q.go fun t => X.baloadBytes hx (by rw [hh]; exact A.1) (State.isArrayOf_alike hZ.alike A.2.1) A.2.2 (inb_of S hj) (H.at (inb_of S hj) u) (g := mkF m pc Ls (.int j :: .ref a :: rest)) rfl rfl hd t
theorem OSt.stC (X : OSt p l e R s m args below meth c own Z EL vm0 T h k n) {a : Addr} {kc : ClassId} {z j x : Int32} {vs : List Value} {d : Value} (K : Arv Z h a kc .char z vs d) (hj : ¬ j < 0 ∧ j < z) (hx1 : ¬ x < 0 ∧ ¬ 65535 < x) {i : Nat} (hi : j.toNatClampNeg = i) (hl : i < vs.length) (ha : Z.heap.size ≤ a) (hd : decode c.code pc = .ok (.castore, 1))
    (q : ∀ T' h', OSt p l e R s m args below meth c own Z EL vm0 T' h' k n → Wr h h' a i (.int x) → Arv Z h' a kc .char z (vs.set i (.int x)) d → OEnds p e below G T' (mkF m (pc + 1) Ls rest)) : OEnds p e below G T (mkF m pc Ls (.int x :: .int j :: .ref a :: rest)) := by
  have hSf : Safe Z EL vm0 h a := Safe.arv X.al K (by decide)
  obtain ⟨L, X, hF, hh, ⟨k0, hS0, hk0⟩, hZ, ho, hC, hO, hx⟩ := X
  obtain ⟨cl, A, e1, S, hz, H, Gf⟩ := K
  obtain ⟨T', h', X', e', W, st⟩ := RoadKit.stC X hx hZ hh A (inb_of S hj) (x := x) (g := mkF m pc Ls (.int x :: .int j :: .ref a :: rest)) rfl rfl hd
  have hn : nar .char x = x := i2c_id hx1.1 hx1.2
  have hfit : fits .char (.int x) = true := by have := fits_nar_char x; rwa [hn] at this
  rw [hn] at W
  subst hi
  exact (q T' h' ⟨_, X', Fr.snoc X' hF ha, e', ⟨k0, hS0, by rw [W.size]; exact hk0⟩, hZ, ho, hC.trans (CHr.wr W hSf hC.1), ext_wr hO W ha, hx⟩ W (Arv.set A e1 S hz H Gf hfit W _ rfl hl)).go st
theorem OSt.stB (X : OSt p l e R s m args below meth c own Z EL vm0 T h k n) {a : Addr} {kc : ClassId} {z j x : Int32} {vs : List Value} {d : Value} (K : Arv Z h a kc .byte z vs d) (hSf : Safe Z EL vm0 h a) (hj : ¬ j < 0 ∧ j < z) {i : Nat} (hi : j.toNatClampNeg = i) (hl : i < vs.length) (ha : Z.heap.size ≤ a) (hd : decode c.code pc = .ok (.bastore, 1))
    (q : ∀ T' h', OSt p l e R s m args below meth c own Z EL vm0 T' h' k n → Wr h h' a i (.int x.toInt8.toInt32) → Arv Z h' a kc .byte z (vs.set i (.int x.toInt8.toInt32)) d → OEnds p e below G T' (mkF m (pc + 1) Ls rest)) : OEnds p e below G T (mkF m pc Ls (.int x :: .int j :: .ref a :: rest)) := by
  obtain ⟨L, X, hF, hh, ⟨k0, hS0, hk0⟩, hZ, ho, hC, hO, hx⟩ := X
  obtain ⟨cl, A, e1, S, hz, H, Gf⟩ := K
  obtain ⟨T', h', X', e', W, st⟩ := RoadKit.stB X hx hZ hh A (inb_of S hj) (x := x) (g := mkF m pc Ls (.int x :: .int j :: .ref a :: rest)) rfl rfl hd
  subst hi
  exact (q T' h' ⟨_, X', Fr.snoc X' hF ha, e', ⟨k0, hS0, by rw [W.size]; exact hk0⟩, hZ, ho, hC.trans (CHr.wr W hSf hC.1), ext_wr hO W ha, hx⟩ W (Arv.set A e1 S hz H Gf (fits_nar_byte x) W _ rfl hl)).go st
/-- ldc of a String constant whose text is read -/
theorem OSt.ldcR (X : OSt p l e R s m args below meth c own Z EL vm0 T h k n) (hE : EW Z a0 EL) {index : Nat} {text : String} (w : (Cond.stringLink own index text).before a0 Z = true) (wS : ∀ a ∈ Bundle.stringAtoms, a.before a0 Z = true) (hmem : (own, index) ∈ EL)
    {vs : List Value} {z : Int32} (ht : (∀ c ∈ text.toList, c.toNat < 256) ∧ text.toList.map (fun c => Value.int (Jvm.Lit.byteI c.toNat.toUInt16)) = vs) (hz : ¬ z < 0) (hl : z.toNatClampNeg = vs.length) (hd : decode c.code pc = .ok (.ldc index, 2)) {j : Nat} (hj : 4 * text.toList.length ≤ j) (hbig : j ≤ 536870912) (hc : k + 2 ≤ R.cells) (hl' : n + (j + 4) ≤ R.slots)
    (q : ∀ vm1 T' h' a b kb, OSt p l e R s m args below meth c own Z EL vm1 T' h' (k + 2) (n + (j + 4)) → Ext h h' → CHr Z EL vm0 h vm1 h' → Exa Z h' a "java/lang/String" → Fld Z h' a "java/lang/String" "coder" "B" (.int 0) → Fld Z h' a "java/lang/String" "value" "[B" (.ref b) → Arv Z h' b kb .byte z vs (.int 0) → (∀ x, Safe Z EL vm1 h' x → x ≠ a ∧ x ≠ b) → OEnds p e below G T' (mkF m (pc + 2) Ls (.ref a :: rest))) : OEnds p e below G T (mkF m pc Ls rest) := by
  obtain ⟨L, X, hF, hh, ⟨k0, hS0, hk0⟩, hZ, ho, hC, hO, hx⟩ := X
  obtain ⟨a, T', h', k1, b, kb, X', e', E, hS1, hk1, hZ1, ho1, E1, C1, V1, K1, -, -, hC1, -, hne, st⟩ := ldcCH X hx hZ ho w wS hh hS0 hk0 hE hmem hC.1 ht hz hl (g := mkF m pc Ls rest) rfl hd hj hbig hc hl'
  exact (q T'.vm T' h' a b kb ⟨_, X', hF, e', ⟨k1, hS1, hk1⟩, hZ1, ho1, hC.trans hC1, ext_trans hO E, hx⟩ E hC1 E1 C1 V1 K1 hne).go st
/-- ldc of a String constant whose text isn't read -/
theorem OSt.ldcO (X : OSt p l e R s m args below meth c own Z EL vm0 T h k n) (hE : EW Z a0 EL) {index : Nat} {text : String} (w : (Cond.stringLink own index text).before a0 Z = true) (wS : ∀ a ∈ Bundle.stringAtoms, a.before a0 Z = true) (hd : decode c.code pc = .ok (.ldc index, 2)) {j : Nat} (hj : 4 * text.toList.length ≤ j) (hbig : j ≤ 536870912) (hc : k + 2 ≤ R.cells) (hl' : n + (j + 4) ≤ R.slots)
    (q : ∀ vm1 T' h' a, OSt p l e R s m args below meth c own Z EL vm1 T' h' (k + 2) (n + (j + 4)) → Ext h h' → CHr Z EL vm0 h vm1 h' → OEnds p e below G T' (mkF m (pc + 2) Ls (.ref a :: rest))) : OEnds p e below G T (mkF m pc Ls rest) := by
  obtain ⟨L, X, hF, hh, ⟨k0, hS0, hk0⟩, hZ, ho, hC, hO, hx⟩ := X
  obtain ⟨a, T', h', k1, X', e', E, hS1, hk1, hZ1, ho1, hC1, -, st⟩ := ldcOH X hx hZ ho w wS hh hS0 hk0 hE hC.1 (g := mkF m pc Ls rest) rfl hd hj hbig hc hl'
  exact (q T'.vm T' h' a ⟨_, X', hF, e', ⟨k1, hS1, hk1⟩, hZ1, ho1, hC.trans hC1, ext_trans hO E, hx⟩ E hC1).go st
end Arrays
section Ret
variable {p : Program} {l : Launch} {e : Env} {R : Room} {s : State} {m : MethodId} {args : Array Value} {below : List Frame} {meth : Method} {c : Code} {own : String} {Z : State} {a0 : Array Value} {EL : List (String × Nat)} {vm0 vm1 : Vm} {T T' : State} {h h' h1 : Heap} {k n k' n' : Nat} {pc : Nat} {Ls : Array Slot} {rest : List Value} {Q : Option Value → Heap → Prop}
/-- how a walk over s ends: the answer and the heap by Q; the wide frame -/
def GW (Z : State) (EL : List (String × Nat)) (s : State) (Q : Option Value → Heap → Prop) (k n : Nat) (o : Outcome) (u : State) : Prop :=
  ∃ v L, o = .returned v ∧ (Q v u.heap ∧ Fr Z.heap.size L ∧ Ext Z.heap u.heap) ∧ CHr Z EL s.vm s.heap u.vm u.heap ∧ ReturnedEndW s o u L k n
theorem rew_mono {u : State} {o : Outcome} {L : List Loc} (q : ReturnedEndW s o u L k n) (hk : k ≤ k') (hn : n ≤ n') : ReturnedEndW s o u L k' n' := ⟨q.1, q.2.1, q.2.2.1, q.2.2.2.mono hk hn⟩
theorem OSt.retV (X : OSt p l e R s m args below meth c own Z EL vm0 T h k n) (hE : EW Z a0 EL) (hlk : meth.locks = false) {w : Value} {t : FieldType} {i : Instr} (hret : meth.sig.returnType = some t) (hn : narrow t w = w)
    (hi : (i = .ireturn ∧ (t = .int ∨ t = .boolean ∨ t = .byte ∨ t = .char ∨ t = .short) ∧ ∃ z, w = .int z) ∨ (i = .lreturn ∧ t = .long ∧ ∃ z, w = .long z) ∨ (i = .dreturn ∧ t = .double ∧ ∃ z, w = .double z) ∨ (i = .freturn ∧ t = .float ∧ ∃ z, w = .float z) ∨ (i = .areturn ∧ t.isReference = true ∧ w.isRef = true))
    (hd : decode c.code pc = .ok (i, 1)) (hk : k ≤ k') (hn' : n ≤ n') (hQ : Q (some w) h) : OEnds p e below (GW Z EL s Q k' n') T (mkF m pc Ls (w :: rest)) := by
  obtain ⟨L, X, hF, hh, ⟨k0, hS0, hk0⟩, hZ, ho, hC, hO, hx⟩ := X
  have hA := CHv.at X hZ hE hC.1
  obtain ⟨fs, hr, hrun, hended, hend⟩ := X.leaveW hS0 (by rw [hh]; exact hk0) (v := some w) (fun q => by rw [hret] at q; cases q) hlk
  refine ⟨_, _, retOut X hx hret hn hi hd hr, hrun, hended, _, L, rfl, ⟨?_, hF, ?_⟩, ?_, rew_mono hend hk hn'⟩
  · show Q _ T.heap; rw [hh]; exact hQ
  · show Ext _ T.heap; rw [hh]; exact hO
  · show CHr Z EL s.vm s.heap T.vm T.heap; rw [hh]; exact hC.trans hA
theorem OSt.retInt (X : OSt p l e R s m args below meth c own Z EL vm0 T h k n) (hE : EW Z a0 EL) (hlk : meth.locks = false) {z : Int32} (hret : meth.sig.returnType = some .int) (hd : decode c.code pc = .ok (.ireturn, 1)) (hk : k ≤ k') (hn' : n ≤ n') (hQ : Q (some (.int z)) h) : OEnds p e below (GW Z EL s Q k' n') T (mkF m pc Ls (.int z :: rest)) :=
  X.retV hE hlk hret rfl (Or.inl ⟨rfl, Or.inl rfl, z, rfl⟩) hd hk hn' hQ
theorem OSt.retBool (X : OSt p l e R s m args below meth c own Z EL vm0 T h k n) (hE : EW Z a0 EL) (hlk : meth.locks = false) {z : Int32} (hz : z = 0 ∨ z = 1) (hret : meth.sig.returnType = some .boolean) (hd : decode c.code pc = .ok (.ireturn, 1)) (hk : k ≤ k') (hn' : n ≤ n') (hQ : Q (some (.int z)) h) : OEnds p e below (GW Z EL s Q k' n') T (mkF m pc Ls (.int z :: rest)) :=
  X.retV hE hlk hret (by rcases hz with rfl | rfl <;> rfl) (Or.inl ⟨rfl, Or.inr (Or.inl rfl), z, rfl⟩) hd hk hn' hQ
theorem OSt.retByte (X : OSt p l e R s m args below meth c own Z EL vm0 T h k n) (hE : EW Z a0 EL) (hlk : meth.locks = false) {z : Int32} (hz : z.toInt8.toInt32 = z) (hret : meth.sig.returnType = some .byte) (hd : decode c.code pc = .ok (.ireturn, 1)) (hk : k ≤ k') (hn' : n ≤ n') (hQ : Q (some (.int z)) h) : OEnds p e below (GW Z EL s Q k' n') T (mkF m pc Ls (.int z :: rest)) :=
  X.retV hE hlk hret (by show Value.int z.toInt8.toInt32 = _; rw [hz]) (Or.inl ⟨rfl, Or.inr (Or.inr (Or.inl rfl)), z, rfl⟩) hd hk hn' hQ
theorem OSt.retChar (X : OSt p l e R s m args below meth c own Z EL vm0 T h k n) (hE : EW Z a0 EL) (hlk : meth.locks = false) {z : Int32} (hz : ¬ z < 0 ∧ ¬ 65535 < z) (hret : meth.sig.returnType = some .char) (hd : decode c.code pc = .ok (.ireturn, 1)) (hk : k ≤ k') (hn' : n ≤ n') (hQ : Q (some (.int z)) h) : OEnds p e below (GW Z EL s Q k' n') T (mkF m pc Ls (.int z :: rest)) :=
  X.retV hE hlk hret (by show Value.int z.toUInt32.toUInt16.toUInt32.toInt32 = _; rw [i2c_id hz.1 hz.2]) (Or.inl ⟨rfl, Or.inr (Or.inr (Or.inr (Or.inl rfl))), z, rfl⟩) hd hk hn' hQ
theorem narrow_obj {t : FieldType} {w : Value} (h1 : t.isReference = true) : narrow t w = w := by cases t <;> first | rfl | cases h1
theorem OSt.retRef (X : OSt p l e R s m args below meth c own Z EL vm0 T h k n) (hE : EW Z a0 EL) (hlk : meth.locks = false) {w : Value} (hw : w.isRef = true) {t : FieldType} (ht : t.isReference = true) (hret : meth.sig.returnType = some t) (hd : decode c.code pc = .ok (.areturn, 1)) (hk : k ≤ k') (hn' : n ≤ n') (hQ : Q (some w) h) : OEnds p e below (GW Z EL s Q k' n') T (mkF m pc Ls (w :: rest)) :=
  X.retV hE hlk hret (narrow_obj ht) (Or.inr (Or.inr (Or.inr (Or.inr ⟨rfl, ht, hw⟩)))) hd hk hn' hQ
theorem OSt.ret0 (X : OSt p l e R s m args below meth c own Z EL vm0 T h k n) (hE : EW Z a0 EL) (hlk : meth.locks = false) (hret : meth.sig.returnType = none) (hd : decode c.code pc = .ok (.return_, 1)) (hk : k ≤ k') (hn' : n ≤ n') (hQ : Q none h) : OEnds p e below (GW Z EL s Q k' n') T (mkF m pc Ls []) := by
  obtain ⟨L, X, hF, hh, ⟨k0, hS0, hk0⟩, hZ, ho, hC, hO, hx⟩ := X
  have hA := CHv.at X hZ hE hC.1
  obtain ⟨fs, hr, hrun, hended, hend⟩ := X.leaveW hS0 (by rw [hh]; exact hk0) (v := none) (fun _ => rfl) hlk
  refine ⟨_, _, X.returnOut hx hret hd hr, hrun, hended, _, L, rfl, ⟨?_, hF, ?_⟩, ?_, rew_mono hend hk hn'⟩
  · show Q _ T.heap; rw [hh]; exact hQ
  · show Ext _ T.heap; rw [hh]; exact hO
  · show CHr Z EL s.vm s.heap T.vm T.heap; rw [hh]; exact hC.trans hA
end Ret
section Cons
variable {p : Program} {l : Launch} {e : Env} {R : Room} {s : State} {m : MethodId} {args : Array Value} {below : List Frame} {meth : Method} {c : Code} {own : String} {Z : State} {a0 : Array Value} {EL : List (String × Nat)} {vm0 vm1 : Vm} {T T' : State} {h h' h1 : Heap} {k n k' n' : Nat} {G : Outcome → State → Prop} {pc : Nat} {Ls : Array Slot} {rest : List Value} {Q : Option Value → Heap → Prop}
  {y : MethodName} {bytes : ByteArray} {maxL : Nat} {ret : Option FieldType} {rm : Room} {as' : Array Value} {ws : List Cond}
/-- a method's contract, of one call: the arguments as', the heap h at the call -/
def ConX (l : Launch) (Z : State) (EL : List (String × Nat)) (y : MethodName) (bytes : ByteArray) (maxL : Nat) (ret : Option FieldType) (ws : List Cond) (rm : Room) (as' : Array Value) (h : Heap) (Q : Option Value → Heap → Prop) : Prop := Ext Z.heap h →
  MetFree l y (head1 (Cond.code y bytes maxL ret :: ws) rm) (fun a U => a = as' ∧ Z.Warmed39 U.vm ∧ U.heap = h ∧ CHv Z EL U.vm h) (fun _ _ _ _ _ => True) (fun _ U o U' => ∃ v L, o = .returned v ∧ (Q v U'.heap ∧ Fr Z.heap.size L ∧ Ext Z.heap U'.heap) ∧ CHr Z EL U.vm U.heap U'.vm U'.heap ∧ ReturnedEndW U o U' L rm.cells rm.slots)
abbrev Con (l : Launch) (Z : State) (EL : List (String × Nat)) (y : MethodName) (bytes : ByteArray) (maxL : Nat) (ret : Option FieldType) (rm : Room) (as' : Array Value) (h : Heap) (Q : Option Value → Heap → Prop) : Prop := ConX l Z EL y bytes maxL ret [] rm as' h Q
theorem ConX.of (hy : plainFor y = true) (body : ∀ (p : Program) (e : Env) (s : State) (m : MethodId) (below : List Frame) (meth : Method) (c : Code) (T : State), c.code = bytes → c.maxLocals = maxL → meth.sig.returnType = ret → meth.locks = false → meth.name = y.name → OSt p l e rm s m as' below meth c y.cls Z EL s.vm T h 0 0 → OEnds p e below (GW Z EL s Q rm.cells rm.slots) T (entryFrame m as' maxL)) :
    ConX l Z EL y bytes maxL ret ws rm as' h Q := by
  intro hO
  refine MetFree.of_bodySF hy hisR ?_
  intro p e s m args below meth c s₁ Bd hml hP _
  obtain ⟨rfl, hZ, hh, hC⟩ := hP
  have e0 : s₁.heap = h := by rw [← hh, Bd.state]; rfl
  have X0 : Stand p l e rm s m args below meth c s₁ [] 0 0 := Stand.of_body Bd
  have hown : s.vm.findClass y.cls = some m.cls := findClass_of_methodNamed Bd.named
  obtain ⟨s₂, o, h1, h2, h3, v, L, rfl, h4, h5, h6⟩ := body p e s m below meth c s₁ Bd.bytes hml Bd.returns Bd.notSynchronized (name_of_methodNamed Bd.named Bd.method).1
    ⟨[], X0, Fr.nil _, e0, ⟨_, (State.WarmedH.refl s).since 0, Nat.zero_le _⟩, hZ, hown, by rw [hh]; exact CHr.refl hC, hO, Bd.exec⟩
  exact ⟨s₂, _, h1, h2, h3, v, L, rfl, h4, h5, h6⟩
/-- the shape of a payer's premise and answer -/
abbrev PreB (R : Room) (as' : Array Value) (h : Heap) (kc ns : Nat) (A : Pt) (a : Array Value) : Prop := a = as' ∧ A.U.heap = h ∧ A.cells + kc ≤ R.cells ∧ A.slots + ns ≤ R.slots
abbrev PostB (Q : Option Value → Heap → List Loc → Prop) (kc ns : Nat) (A : Pt) (_ : Array Value) (v : Option Value) (B : Pt) : Prop := ∃ L, Q v B.U.heap L ∧ B.locs = A.locs ++ L ∧ B.cells = A.cells + kc ∧ B.slots = A.slots + ns
abbrev PostS (Q : Option Value → Heap → Prop) (Z : State) (EL : List (String × Nat)) (vm0 : Vm) (h : Heap) (kc ns : Nat) (A : Pt) (_ : Array Value) (v : Option Value) (B : Pt) : Prop :=
  ∃ L, (Q v B.U.heap ∧ Fr Z.heap.size L ∧ Ext Z.heap B.U.heap) ∧ B.locs = A.locs ++ L ∧ B.cells = A.cells + kc ∧ B.slots = A.slots + ns ∧ CHr Z EL vm0 h B.U.vm B.U.heap
/-- what a call by contract asks of the caller -/
theorem Con.back {W len : Nat} (K : Con l Z EL y bytes maxL ret rm as' h Q) (hO : Ext Z.heap h) (hZ : Z.Warmed39 vm0) (hE : EW Z a0 EL) (hC : CHv Z EL vm0 h) (wc : (Cond.code y bytes maxL ret).before a0 Z = true) (wz : (Cond.initialized y.cls).before a0 Z = true) (hf : rm.frames + 1 ≤ R.frames) (hl : W + (maxL + 11) + rm.locals ≤ R.locals) :
    BackS l R p e below (s.setVm vm0) args y len W (PreB R as' h rm.cells rm.slots) (PostS Q Z EL vm0 h rm.cells rm.slots) :=
  backOfSH (Q := fun v h' L => Q v h' ∧ Fr Z.heap.size L ∧ Ext Z.heap h') (K hO) hZ wc wz hf hl hE hC
/-- OSt behind a payer that may have interned -/
theorem OSt.behindS (X : OSt p l e R s m args below meth c own Z EL vm0 T h k n) {B : Pt} {v : Option Value} {L0 L : List Loc} (hF0 : Fr Z.heap.size L0) (X' : Stand p l e R (s.setVm B.U.vm) m args below meth c B.U B.locs B.cells B.slots) (hS : (s.setVm vm0).Since B.U.vm B.U.heap.size) (hg : T.heap.size ≤ B.U.heap.size)
    (hF : Fr Z.heap.size L) (hO : Ext Z.heap B.U.heap) (e1 : B.locs = L0 ++ L) (e2 : B.cells = k') (e3 : B.slots = n') (hC' : CHr Z EL vm0 h B.U.vm B.U.heap) : OSt p l e R s m args below meth c own Z EL B.U.vm B.U B.U.heap k' n' := by
  obtain ⟨_, X, -, hh, ⟨k0, hS0, hk0⟩, hZ, ho, hC, -, hx⟩ := X
  obtain ⟨r1, r2, r3, r4⟩ := rebS (own := own) hS0 hk0 X' hS (by rw [← hh]; exact hg) hZ ho
  subst e2 e3
  rw [e1] at r1
  exact ⟨_, r1, hF0.app hF, rfl, ⟨_, r2, Nat.le_refl _⟩, r3, r4, hC.trans hC', hO, hx⟩
theorem OSt.callS (X : OSt p l e R s m args below meth c own Z EL vm0 T h k n) (hE : EW Z a0 EL) (K : Con l Z EL y bytes maxL ret rm as' h Q) {index : Nat} (w1 : (Cond.methodLink own index y).before a0 Z = true) (w2 : (Cond.static y).before a0 Z = true) (wz : (Cond.initialized y.cls).before a0 Z = true) (wc : (Cond.code y bytes maxL ret).before a0 Z = true)
    (hy : y.cls ≠ "java/lang/invoke/MethodHandle" ∧ y.cls ≠ "java/lang/invoke/VarHandle") {W : Nat} (hf : rm.frames + 1 ≤ R.frames) (hl : W + (maxL + 11) + rm.locals ≤ R.locals) {argsL stack : List Value} (ha : argsL.toArray = as') (hlen : ∀ sig, parseMethodDescriptor y.desc = some sig → argsL.length = sig.parameters.length) (hst : stack = argsL.reverse ++ rest) (hsize : Ls.size = c.maxLocals) (hW : (rest.map fun v => v.category).sum ≤ W)
    (hd : decode c.code pc = .ok (.invokestatic index, 3)) (hk : k + rm.cells ≤ R.cells) (hn : n + rm.slots ≤ R.slots)
    (q : ∀ v vm1 T' h', OSt p l e R s m args below meth c own Z EL vm1 T' h' (k + rm.cells) (n + rm.slots) → CHr Z EL vm0 h vm1 h' → Q v h' → OEnds p e below G T' (mkF m (pc + 3) Ls (v.toList ++ rest))) : OEnds p e below G T (mkF m pc Ls stack) := by
  have X1 := X
  obtain ⟨L, X, hF, hh, ⟨k0, hS0, hk0⟩, hZ, ho, hC, hO, hx⟩ := X
  obtain ⟨v, vmx, B, -, X', hS, hgr, ⟨L', ⟨hq, hF', hO'⟩, e1, e2, e3, hC'⟩, st⟩ := callSS X hx ho (mvT (s := s.setVm vm0) hZ w1) (mvT (s := s.setVm vm0) hZ w2) (mvT (s := s.setVm vm0) hZ wz) (mvT (s := s.setVm vm0) hZ wc) hy (K.back hO hZ hE hC.1 wc wz hf hl) (g := mkF m pc Ls stack) rfl hsize (argsL := argsL) (rest := rest) hlen hst (by show 2 * 0 + _ ≤ _; rw [Nat.mul_zero, Nat.zero_add]; exact hW) hd (fun _ _ => ⟨ha, hh, hk, hn⟩)
  exact (q v _ _ _ (X1.behindS (v := v) hF X' hS hgr hF' hO' e1 e2 e3 hC') hC' hq).tr st
theorem OSt.callI (X : OSt p l e R s m args below meth c own Z EL vm0 T h k n) (hE : EW Z a0 EL) (K : Con l Z EL y bytes maxL none rm as' h Q) {index : Nat} (w1 : (Cond.methodLink own index y).before a0 Z = true) (w2 : (Cond.instanceMethod y).before a0 Z = true) (wz : (Cond.initialized y.cls).before a0 Z = true) (wc : (Cond.code y bytes maxL none).before a0 Z = true)
    (hi : y.name = "<init>") (hy : y.cls ≠ "java/lang/invoke/MethodHandle" ∧ y.cls ≠ "java/lang/invoke/VarHandle") {W : Nat} (hf : rm.frames + 1 ≤ R.frames) (hl : W + (maxL + 11) + rm.locals ≤ R.locals) {a : Addr} {argsL stack : List Value} (ha : (.ref a :: argsL).toArray = as') (hlen : ∀ sig, parseMethodDescriptor y.desc = some sig → argsL.length = sig.parameters.length) (hst : stack = argsL.reverse ++ .ref a :: rest) (hsize : Ls.size = c.maxLocals) (hW : (rest.map fun v => v.category).sum ≤ W)
    (hd : decode c.code pc = .ok (.invokespecial index, 3)) (hk : k + rm.cells ≤ R.cells) (hn : n + rm.slots ≤ R.slots)
    (q : ∀ v vm1 T' h', OSt p l e R s m args below meth c own Z EL vm1 T' h' (k + rm.cells) (n + rm.slots) → CHr Z EL vm0 h vm1 h' → Q v h' → OEnds p e below G T' (mkF m (pc + 3) Ls (v.toList ++ rest))) : OEnds p e below G T (mkF m pc Ls stack) := by
  have X1 := X
  obtain ⟨L, X, hF, hh, ⟨k0, hS0, hk0⟩, hZ, ho, hC, hO, hx⟩ := X
  obtain ⟨v, vmx, B, -, X', hS, hgr, ⟨L', ⟨hq, hF', hO'⟩, e1, e2, e3, hC'⟩, st⟩ := X.specialBackS hx hi ho (mvT (s := s.setVm vm0) hZ w1) (mvT (s := s.setVm vm0) hZ w2) (mvT (s := s.setVm vm0) hZ wc) hy (K.back hO hZ hE hC.1 wc wz hf hl) (g := mkF m pc Ls stack) rfl hsize (Steps.refl _) (a := a) (argsL := argsL) (rest := rest) hlen hst (by show 2 * 0 + _ ≤ _; rw [Nat.mul_zero, Nat.zero_add]; exact hW) hd (fun _ _ => ⟨ha, hh, hk, hn⟩)
  exact (q v _ _ _ (X1.behindS (v := v) hF X' hS hgr hF' hO' e1 e2 e3 hC') hC' hq).tr st
theorem OSt.callV (X : OSt p l e R s m args below meth c own Z EL vm0 T h k n) (hE : EW Z a0 EL) {z : MethodName} (K : Con l Z EL z bytes maxL ret rm as' h Q) {C : String} {index : Nat} (w1 : (Cond.methodLink own index y).before a0 Z = true) (w2 : (Cond.declares y).before a0 Z = true) (w3 : (Cond.selects C y z).before a0 Z = true) (w4 : (Cond.instanceMethod z).before a0 Z = true) (wz : (Cond.initialized z.cls).before a0 Z = true) (wc : (Cond.code z bytes maxL ret).before a0 Z = true) (nf : NotFace (s.setVm vm0) y)
    (hy : y.cls ≠ "java/lang/invoke/MethodHandle" ∧ y.cls ≠ "java/lang/invoke/VarHandle") {W : Nat} (hf : rm.frames + 1 ≤ R.frames) (hl : W + (maxL + 11) + rm.locals ≤ R.locals) {a : Addr} (E : Exa Z h a C) {argsL stack : List Value} (ha : (.ref a :: argsL).toArray = as') (hlen : ∀ sig, parseMethodDescriptor y.desc = some sig → argsL.length = sig.parameters.length) (hst : stack = argsL.reverse ++ .ref a :: rest) (hsize : Ls.size = c.maxLocals) (hW : (rest.map fun v => v.category).sum ≤ W)
    (hd : decode c.code pc = .ok (.invokevirtual index, 3)) (hk : k + rm.cells ≤ R.cells) (hn : n + rm.slots ≤ R.slots)
    (q : ∀ v vm1 T' h', OSt p l e R s m args below meth c own Z EL vm1 T' h' (k + rm.cells) (n + rm.slots) → CHr Z EL vm0 h vm1 h' → Q v h' → OEnds p e below G T' (mkF m (pc + 3) Ls (v.toList ++ rest))) : OEnds p e below G T (mkF m pc Ls stack) := by
  have X1 := X
  obtain ⟨L, X, hF, hh, ⟨k0, hS0, hk0⟩, hZ, ho, hC, hO, hx⟩ := X
  obtain ⟨cB, kB, q1, -, q3⟩ := isOf (s := s.setVm vm0) hZ hh E
  obtain ⟨v, vmx, B, -, X', hS, hgr, ⟨L', ⟨hq, hF', hO'⟩, e1, e2, e3, hC'⟩, st⟩ := X.virtualBackS hx ho (mvT (s := s.setVm vm0) hZ w1) (mvT (s := s.setVm vm0) hZ w2) nf (mvT (s := s.setVm vm0) hZ w3) (mvT (s := s.setVm vm0) hZ w4) hy (K.back hO hZ hE hC.1 wc wz hf hl) q1 q3 (g := mkF m pc Ls stack) rfl hsize (Steps.refl _) (argsL := argsL) (rest := rest) hlen hst (by show 2 * 0 + _ ≤ _; rw [Nat.mul_zero, Nat.zero_add]; exact hW) hd (fun _ _ => ⟨ha, hh, hk, hn⟩)
  exact (q v _ _ _ (X1.behindS (v := v) hF X' hS hgr hF' hO' e1 e2 e3 hC') hC' hq).tr st
end Cons
end Jvm.Own
namespace Jvm.Own
open Sem ClassFile Op Lib Bundle Jvm.Stand Jvm.Free Jvm.LawKit Jvm.RoadKit
section Pay
variable {p : Program} {l : Launch} {e : Env} {R : Room} {s : State} {m : MethodId} {args : Array Value} {below : List Frame} {meth : Method} {c : Code} {own : String} {Z : State} {a0 : Array Value} {EL : List (String × Nat)} {vm0 vm1 : Vm} {T T' : State} {h h' h1 : Heap} {k n k' n' : Nat} {G : Outcome → State → Prop} {pc : Nat} {Ls : Array Slot} {rest : List Value} {Q : Option Value → Heap → Prop} {Q3 : Option Value → Heap → List Loc → Prop} {kc ns : Nat}
  {y : MethodName} {bytes : ByteArray} {maxL : Nat} {ret : Option FieldType} {rm : Room} {as' : Array Value} {ws : List Cond}
/-- what the walk must know of a payer's answer -/
abbrev OkB (Z : State) (EL : List (String × Nat)) (vm0 : Vm) (h : Heap) (Q3 : Option Value → Heap → List Loc → Prop) : Prop := ∀ v h' L, Q3 v h' L → Fr Z.heap.size L ∧ Ext Z.heap h' ∧ CHr Z EL vm0 h vm0 h'
theorem OSt.behind (X : OSt p l e R s m args below meth c own Z EL vm0 T h k n) {B : Pt} {L0 L : List Loc} (hF0 : Fr Z.heap.size L0) (X' : Stand p l e R (s.setVm vm0) m args below meth c B.U B.locs B.cells B.slots)
    (hF : Fr Z.heap.size L) (hO : Ext Z.heap B.U.heap) (e1 : B.locs = L0 ++ L) (e2 : B.cells = k') (e3 : B.slots = n') (hC' : CHr Z EL vm0 h vm0 B.U.heap) : OSt p l e R s m args below meth c own Z EL vm0 B.U B.U.heap k' n' := by
  obtain ⟨_, X, -, hh, ⟨k0, hS0, hk0⟩, hZ, ho, hC, -, hx⟩ := X
  subst e2 e3
  rw [e1] at X'
  exact ⟨_, X', hF0.app hF, rfl, ⟨_, hS0, Nat.le_trans hk0 hC'.2.1⟩, hZ, ho, hC.trans hC', hO, hx⟩
theorem OSt.payS (X : OSt p l e R s m args below meth c own Z EL vm0 T h k n) {W : Nat} (K : Back l R p e below (s.setVm vm0) args y 3 W (PreB R as' h kc ns) (PostB Q3 kc ns)) (hK : OkB Z EL vm0 h Q3) {index : Nat} (w1 : (Cond.methodLink own index y).before a0 Z = true) (w2 : (Cond.static y).before a0 Z = true) (wz : (Cond.initialized y.cls).before a0 Z = true) (wc : (Cond.code y bytes maxL ret).before a0 Z = true)
    (hy : y.cls ≠ "java/lang/invoke/MethodHandle" ∧ y.cls ≠ "java/lang/invoke/VarHandle") {argsL stack : List Value} (ha : argsL.toArray = as') (hlen : ∀ sig, parseMethodDescriptor y.desc = some sig → argsL.length = sig.parameters.length) (hst : stack = argsL.reverse ++ rest) (hsize : Ls.size = c.maxLocals) (hW : (rest.map fun v => v.category).sum ≤ W)
    (hd : decode c.code pc = .ok (.invokestatic index, 3)) (hk : k + kc ≤ R.cells) (hn : n + ns ≤ R.slots)
    (q : ∀ v T' h' L, OSt p l e R s m args below meth c own Z EL vm0 T' h' (k + kc) (n + ns) → Q3 v h' L → OEnds p e below G T' (mkF m (pc + 3) Ls (v.toList ++ rest))) : OEnds p e below G T (mkF m pc Ls stack) := by
  have X1 := X
  obtain ⟨L, X, hF, hh, ⟨k0, hS0, hk0⟩, hZ, ho, hC, hO, hx⟩ := X
  obtain ⟨v, vmx, B, -, X', ⟨L', hq, e1, e2, e3⟩, st⟩ := Jvm.LawKit.callS X hx ho (mvT (s := s.setVm vm0) hZ w1) (mvT (s := s.setVm vm0) hZ w2) (mvT (s := s.setVm vm0) hZ wz) (mvT (s := s.setVm vm0) hZ wc) hy K (g := mkF m pc Ls stack) rfl hsize (argsL := argsL) (rest := rest) hlen hst (by show 2 * 0 + _ ≤ _; rw [Nat.mul_zero, Nat.zero_add]; exact hW) hd (fun _ _ => ⟨ha, hh, hk, hn⟩)
  obtain ⟨r1, r2, r3⟩ := hK _ _ _ hq
  exact (q v _ _ _ (X1.behind hF X' r1 r2 e1 e2 e3 r3) hq).go st
theorem OSt.payI (X : OSt p l e R s m args below meth c own Z EL vm0 T h k n) {W : Nat} (K : Back l R p e below (s.setVm vm0) args y 3 W (PreB R as' h kc ns) (PostB Q3 kc ns)) (hK : OkB Z EL vm0 h Q3) {index : Nat} (w1 : (Cond.methodLink own index y).before a0 Z = true) (w2 : (Cond.instanceMethod y).before a0 Z = true) (wc : (Cond.code y bytes maxL none).before a0 Z = true)
    (hi : y.name = "<init>") (hy : y.cls ≠ "java/lang/invoke/MethodHandle" ∧ y.cls ≠ "java/lang/invoke/VarHandle") {a : Addr} {argsL stack : List Value} (ha : (.ref a :: argsL).toArray = as') (hlen : ∀ sig, parseMethodDescriptor y.desc = some sig → argsL.length = sig.parameters.length) (hst : stack = argsL.reverse ++ .ref a :: rest) (hsize : Ls.size = c.maxLocals) (hW : (rest.map fun v => v.category).sum ≤ W)
    (hd : decode c.code pc = .ok (.invokespecial index, 3)) (hk : k + kc ≤ R.cells) (hn : n + ns ≤ R.slots)
    (q : ∀ v T' h' L, OSt p l e R s m args below meth c own Z EL vm0 T' h' (k + kc) (n + ns) → Q3 v h' L → OEnds p e below G T' (mkF m (pc + 3) Ls (v.toList ++ rest))) : OEnds p e below G T (mkF m pc Ls stack) := by
  have X1 := X
  obtain ⟨L, X, hF, hh, ⟨k0, hS0, hk0⟩, hZ, ho, hC, hO, hx⟩ := X
  obtain ⟨v, vmx, B, -, X', ⟨L', hq, e1, e2, e3⟩, st⟩ := X.specialBack hx hi ho (mvT (s := s.setVm vm0) hZ w1) (mvT (s := s.setVm vm0) hZ w2) (mvT (s := s.setVm vm0) hZ wc) hy K (g := mkF m pc Ls stack) rfl hsize (Steps.refl _) (a := a) (argsL := argsL) (rest := rest) hlen hst (by show 2 * 0 + _ ≤ _; rw [Nat.mul_zero, Nat.zero_add]; exact hW) hd (fun _ _ => ⟨ha, hh, hk, hn⟩)
  obtain ⟨r1, r2, r3⟩ := hK _ _ _ hq
  exact (q v _ _ _ (X1.behind hF X' r1 r2 e1 e2 e3 r3) hq).tr st
theorem OSt.payV (X : OSt p l e R s m args below meth c own Z EL vm0 T h k n) {z : MethodName} {W : Nat} (K : Back l R p e below (s.setVm vm0) args z 3 W (PreB R as' h kc ns) (PostB Q3 kc ns)) (hK : OkB Z EL vm0 h Q3) {C : String} {index : Nat} (w1 : (Cond.methodLink own index y).before a0 Z = true) (w2 : (Cond.declares y).before a0 Z = true) (w3 : (Cond.selects C y z).before a0 Z = true) (w4 : (Cond.instanceMethod z).before a0 Z = true) (nf : NotFace (s.setVm vm0) y)
    (hy : y.cls ≠ "java/lang/invoke/MethodHandle" ∧ y.cls ≠ "java/lang/invoke/VarHandle") {a : Addr} (E : Exa Z h a C) {argsL stack : List Value} (ha : (.ref a :: argsL).toArray = as') (hlen : ∀ sig, parseMethodDescriptor y.desc = some sig → argsL.length = sig.parameters.length) (hst : stack = argsL.reverse ++ .ref a :: rest) (hsize : Ls.size = c.maxLocals) (hW : (rest.map fun v => v.category).sum ≤ W)
    (hd : decode c.code pc = .ok (.invokevirtual index, 3)) (hk : k + kc ≤ R.cells) (hn : n + ns ≤ R.slots)
    (q : ∀ v T' h' L, OSt p l e R s m args below meth c own Z EL vm0 T' h' (k + kc) (n + ns) → Q3 v h' L → OEnds p e below G T' (mkF m (pc + 3) Ls (v.toList ++ rest))) : OEnds p e below G T (mkF m pc Ls stack) := by
  have X1 := X
  obtain ⟨L, X, hF, hh, ⟨k0, hS0, hk0⟩, hZ, ho, hC, hO, hx⟩ := X
  obtain ⟨cB, kB, q1, -, q3⟩ := isOf (s := s.setVm vm0) hZ hh E
  obtain ⟨v, vmx, B, -, X', ⟨L', hq, e1, e2, e3⟩, st⟩ := X.virtualBack hx ho (mvT (s := s.setVm vm0) hZ w1) (mvT (s := s.setVm vm0) hZ w2) nf (mvT (s := s.setVm vm0) hZ w3) (mvT (s := s.setVm vm0) hZ w4) hy K q1 q3 (g := mkF m pc Ls stack) rfl hsize (Steps.refl _) (argsL := argsL) (rest := rest) hlen hst (by show 2 * 0 + _ ≤ _; rw [Nat.mul_zero, Nat.zero_add]; exact hW) hd (fun _ _ => ⟨ha, hh, hk, hn⟩)
  obtain ⟨r1, r2, r3⟩ := hK _ _ _ hq
  exact (q v _ _ _ (X1.behind hF X' r1 r2 e1 e2 e3 r3) hq).tr st
theorem OSt.nf (X : OSt p l e R s m args below meth c own Z EL vm0 T h k n) {C : String} (w : (Cond.selects C y y).before a0 Z = true) : NotFace (s.setVm vm0) y := notFace_of_selects (args := #[]) (mvT (s := s.setVm vm0) X.hZ w)
/-- a payer that leaves the heap as it was -/
theorem okPure {Q2 : Option Value → Prop} (X : OSt p l e R s m args below meth c own Z EL vm0 T h k n) : OkB Z EL vm0 h (fun v h' L => Q2 v ∧ L = [] ∧ h' = h) := fun v h' L ⟨_, e1, e2⟩ => by
  subst e1 e2; exact ⟨Fr.nil _, X.old, CHr.refl X.chv⟩
theorem chr_nil {vm : Vm} (q : h.size ≤ h'.size) : CHr Z [] vm h vm h' := ⟨(fun _ hp => (nomatch hp)), q, fun _ B => (by obtain ⟨_, hp, _⟩ := B; cases hp)⟩
theorem safe_nil {vm : Vm} {x : Addr} : Safe Z [] vm h x := fun B => by obtain ⟨_, hp, _⟩ := B; cases hp
end Pay
section Narrow
variable {p : Program} {l : Launch} {e : Env} {R : Room} {s : State} {m : MethodId} {args : Array Value} {below : List Frame} {meth : Method} {c : Code} {own : String} {Z : State} {a0 : Array Value} {vm0 vm1 : Vm} {T T' : State} {h h' h1 : Heap} {k n k' n' : Nat} {G : Outcome → State → Prop} {pc : Nat} {Ls : Array Slot} {rest : List Value} {Q : Option Value → Heap → Prop}
  {y : MethodName} {bytes : ByteArray} {maxL : Nat} {ret : Option FieldType} {rm : Room} {as' : Array Value} {ws : List Cond}
/-- how a walk over s ends, under the narrow frame -/
def GN (Z : State) (s : State) (Q : Option Value → Heap → Prop) (k n : Nat) (o : Outcome) (u : State) : Prop :=
  ∃ v L, o = .returned v ∧ (Q v u.heap ∧ Fr Z.heap.size L ∧ Ext Z.heap u.heap) ∧ FrameEnd s o u L k n
theorem OSt.retVN (X : OSt p l e R s m args below meth c own Z [] s.vm T h k n) (hlk : meth.locks = false) {w : Value} {t : FieldType} {i : Instr} (hret : meth.sig.returnType = some t) (hn : narrow t w = w)
    (hi : (i = .ireturn ∧ (t = .int ∨ t = .boolean ∨ t = .byte ∨ t = .char ∨ t = .short) ∧ ∃ z, w = .int z) ∨ (i = .lreturn ∧ t = .long ∧ ∃ z, w = .long z) ∨ (i = .dreturn ∧ t = .double ∧ ∃ z, w = .double z) ∨ (i = .freturn ∧ t = .float ∧ ∃ z, w = .float z) ∨ (i = .areturn ∧ t.isReference = true ∧ w.isRef = true))
    (hd : decode c.code pc = .ok (i, 1)) (hk : k ≤ k') (hn' : n ≤ n') (hQ : Q (some w) h) : OEnds p e below (GN Z s Q k' n') T (mkF m pc Ls (w :: rest)) := by
  obtain ⟨L, X, hF, hh, ⟨k0, hS0, hk0⟩, hZ, ho, hC, hO, hx⟩ := X
  obtain ⟨fs, hr, hrun, hended, hW, hsame⟩ := Stand.leave (s := s) X (v := some w) (fun q => by rw [hret] at q; cases q) hlk
  refine ⟨_, _, retOut X hx hret hn hi hd hr, hrun, hended, _, L, rfl, ⟨?_, hF, ?_⟩, ⟨_, rfl⟩, hW, hsame.mono hk hn'⟩
  · show Q _ T.heap; rw [hh]; exact hQ
  · show Ext _ T.heap; rw [hh]; exact hO
theorem OSt.retIntN (X : OSt p l e R s m args below meth c own Z [] s.vm T h k n) (hlk : meth.locks = false) {z : Int32} (hret : meth.sig.returnType = some .int) (hd : decode c.code pc = .ok (.ireturn, 1)) (hk : k ≤ k') (hn' : n ≤ n') (hQ : Q (some (.int z)) h) : OEnds p e below (GN Z s Q k' n') T (mkF m pc Ls (.int z :: rest)) :=
  X.retVN hlk hret rfl (Or.inl ⟨rfl, Or.inl rfl, z, rfl⟩) hd hk hn' hQ
theorem OSt.retBoolN (X : OSt p l e R s m args below meth c own Z [] s.vm T h k n) (hlk : meth.locks = false) {z : Int32} (hz : z = 0 ∨ z = 1) (hret : meth.sig.returnType = some .boolean) (hd : decode c.code pc = .ok (.ireturn, 1)) (hk : k ≤ k') (hn' : n ≤ n') (hQ : Q (some (.int z)) h) : OEnds p e below (GN Z s Q k' n') T (mkF m pc Ls (.int z :: rest)) :=
  X.retVN hlk hret (by rcases hz with rfl | rfl <;> rfl) (Or.inl ⟨rfl, Or.inr (Or.inl rfl), z, rfl⟩) hd hk hn' hQ
theorem OSt.retRefN (X : OSt p l e R s m args below meth c own Z [] s.vm T h k n) (hlk : meth.locks = false) {w : Value} (hw : w.isRef = true) {t : FieldType} (ht : t.isReference = true) (hret : meth.sig.returnType = some t) (hd : decode c.code pc = .ok (.areturn, 1)) (hk : k ≤ k') (hn' : n ≤ n') (hQ : Q (some w) h) : OEnds p e below (GN Z s Q k' n') T (mkF m pc Ls (w :: rest)) :=
  X.retVN hlk hret (narrow_obj ht) (Or.inr (Or.inr (Or.inr (Or.inr ⟨rfl, ht, hw⟩)))) hd hk hn' hQ
theorem OSt.ret0N (X : OSt p l e R s m args below meth c own Z [] s.vm T h k n) (hlk : meth.locks = false) (hret : meth.sig.returnType = none) (hd : decode c.code pc = .ok (.return_, 1)) (hk : k ≤ k') (hn' : n ≤ n') (hQ : Q none h) : OEnds p e below (GN Z s Q k' n') T (mkF m pc Ls []) := by
  obtain ⟨L, X, hF, hh, ⟨k0, hS0, hk0⟩, hZ, ho, hC, hO, hx⟩ := X
  obtain ⟨fs, hr, hrun, hended, hW, hsame⟩ := Stand.leave (s := s) X (v := none) (fun _ => rfl) hlk
  refine ⟨_, _, X.returnOut hx hret hd hr, hrun, hended, _, L, rfl, ⟨?_, hF, ?_⟩, ⟨_, rfl⟩, hW, hsame.mono hk hn'⟩
  · show Q _ T.heap; rw [hh]; exact hQ
  · show Ext _ T.heap; rw [hh]; exact hO
def ConN (l : Launch) (Z : State) (y : MethodName) (bytes : ByteArray) (maxL : Nat) (ret : Option FieldType) (ws : List Cond) (rm : Room) (as' : Array Value) (h : Heap) (Q : Option Value → Heap → Prop) : Prop := Ext Z.heap h →
  MetFree l y (head1 (Cond.code y bytes maxL ret :: ws) rm) (fun a U => a = as' ∧ Z.Warmed39 U.vm ∧ U.heap = h) (fun _ _ _ _ _ => True) (fun _ U o U' => ∃ v L, o = .returned v ∧ (Q v U'.heap ∧ Fr Z.heap.size L ∧ Ext Z.heap U'.heap) ∧ FrameEnd U o U' L rm.cells rm.slots)
theorem ConN.of (hy : plainFor y = true) (body : ∀ (p : Program) (e : Env) (s : State) (m : MethodId) (below : List Frame) (meth : Method) (c : Code) (T : State), c.code = bytes → c.maxLocals = maxL → meth.sig.returnType = ret → meth.locks = false → meth.name = y.name → OSt p l e rm s m as' below meth c y.cls Z [] s.vm T h 0 0 → OEnds p e below (GN Z s Q rm.cells rm.slots) T (entryFrame m as' maxL)) :
    ConN l Z y bytes maxL ret ws rm as' h Q := by
  intro hO
  refine MetFree.of_bodySF hy hisR ?_
  intro p e s m args below meth c s₁ Bd hml hP _
  obtain ⟨rfl, hZ, hh⟩ := hP
  have e0 : s₁.heap = h := by rw [← hh, Bd.state]; rfl
  have X0 : Stand p l e rm s m args below meth c s₁ [] 0 0 := Stand.of_body Bd
  have hown : s.vm.findClass y.cls = some m.cls := findClass_of_methodNamed Bd.named
  obtain ⟨s₂, o, h1, h2, h3, v, L, rfl, h4, h5⟩ := body p e s m below meth c s₁ Bd.bytes hml Bd.returns Bd.notSynchronized (name_of_methodNamed Bd.named Bd.method).1
    ⟨[], X0, Fr.nil _, e0, ⟨_, (State.WarmedH.refl s).since 0, Nat.zero_le _⟩, hZ, hown, by rw [hh]; exact chr_nil (Nat.le_refl _), hO, Bd.exec⟩
  exact ⟨s₂, _, h1, h2, h3, v, L, rfl, h4, h5⟩
theorem ConN.back {W len : Nat} (K : ConN l Z y bytes maxL ret [] rm as' h Q) (hO : Ext Z.heap h) (hZ : Z.Warmed39 vm0) (wc : (Cond.code y bytes maxL ret).before a0 Z = true) (wz : (Cond.initialized y.cls).before a0 Z = true) (hf : rm.frames + 1 ≤ R.frames) (hl : W + (maxL + 11) + rm.locals ≤ R.locals) :
    Back l R p e below (s.setVm vm0) args y len W (PreB R as' h rm.cells rm.slots) (PostB (fun v h' L => Q v h' ∧ Fr Z.heap.size L ∧ Ext Z.heap h') rm.cells rm.slots) :=
  backOf (Q := fun v h' L => Q v h' ∧ Fr Z.heap.size L ∧ Ext Z.heap h') (K hO) hZ wc wz hf hl
theorem okN (hq : ∀ v h', Q v h' → h.size ≤ h'.size) : OkB Z [] vm0 h (fun v h' L => Q v h' ∧ Fr Z.heap.size L ∧ Ext Z.heap h') := fun v h' L r => ⟨r.2.1, r.2.2, chr_nil (hq v h' r.1)⟩
end Narrow
end Jvm.Own
namespace Jvm.Own
open Sem ClassFile Op Lib Bundle Jvm.Stand Jvm.Free Jvm.LawKit Jvm.RoadKit
section More
variable {p : Program} {l : Launch} {e : Env} {R : Room} {s : State} {m : MethodId} {args : Array Value} {below : List Frame} {meth : Method} {c : Code} {own : String} {Z : State} {a0 : Array Value} {EL : List (String × Nat)} {vm0 : Vm} {T : State} {h : Heap} {k n : Nat} {G : Outcome → State → Prop} {pc : Nat} {Ls : Array Slot} {rest : List Value}
theorem OSt.instNull (X : OSt p l e R s m args below meth c own Z EL vm0 T h k n) {index : Nat} (hd : decode c.code pc = .ok (.instanceof index, 3)) (q : OEnds p e below G T (mkF m (pc + 3) Ls (.int 0 :: rest))) : OEnds p e below G T (mkF m pc Ls (.null :: rest)) := by
  obtain ⟨L, X, hF, hh, hS, hZ, ho, hC, hO, hx⟩ := X
  exact q.go fun t => X.instanceofNull hx (g := mkF m pc Ls (.null :: rest)) rfl rfl hd t
theorem nsRoot {O K : String} {j : Nat} (wr : (Cond.noSuperclass O).before a0 Z = true) (wi : (Cond.instantiable K j).before a0 Z = true) (hn : O ≠ K) : NS Z O K := by
  obtain ⟨t, k', g0, -⟩ := Cond.instantiable_spec wi
  obtain ⟨cO, kO, o1, o2, o3, -, -⟩ := Cond.noSuperclass_spec wr
  have ne := ids_ne o1 g0 hn
  refine ⟨cO, t, o1, g0, fun fuel => ?_⟩
  cases fuel with
  | zero => rfl
  | succ f => simp [Vm.isSubclassAux, ne, o2, o3]
/-- an object of the class C isn't one of the class K, which can be made -/
theorem nsNo {C S K : String} {j : Nat} (w : (Cond.superclass C S).before a0 Z = true) (wi : (Cond.instantiable K j).before a0 Z = true) (n : NS Z C K) (hn : C ≠ K) : ∃ c t, Z.vm.findClass C = some c ∧ Z.vm.findClass K = some t ∧ Z.vm.assignable c t = false := by
  obtain ⟨c, t, h0, g0, n3⟩ := n
  obtain ⟨t', k', g0', g2, g5, g7, -, -⟩ := Cond.instantiable_spec wi
  cases g0.symm.trans g0'
  obtain ⟨p, k, kp, h1, h2, h3, h4, h5, -, h7⟩ := Cond.superclass_spec h0 w
  have ne := ids_ne h0 g0 hn
  have g8 : k'.isInterface = false := (Bool.or_eq_false_iff.mp g7).1
  refine ⟨c, t, h0, g0, ?_⟩
  show Z.vm.assignableAux (255 + 1) c t = false
  simp [Vm.assignableAux, ne, h2, g2, h5, g5, g8, Vm.isSubclass, n3]
end More
end Jvm.Own
namespace Jvm.Own
open Sem ClassFile Op Lib Bundle Jvm.Stand Jvm.Free Jvm.LawKit Jvm.RoadKit
section Small
variable {Z : State} {h h' : Heap} {EL : List (String × Nat)} {vm : Vm}
theorem own_irem {tb : Tables} [Ours tb] {e : Env} {below : List Frame} {T target : State} {m : MethodId} {c : Code} {g : JFrame} (h : At T m c below) (hx : tb.exec = Jvm.exec) (hg : g.method = m) {x y : Int32} {rest : List Value} (hd : decode c.code g.pc = .ok (.irem, 1)) (hs : g.stack = .int y :: .int x :: rest) (hy : y ≠ 0)
    (hr : Steps tb e below (T.setTop { g with pc := g.pc + 1, stack := .int (x % y) :: rest }) target) : Steps tb e below (T.setTop g) target := by
  have q : x - x / y * y = x % y := irem_eq_mod x y
  exact XS.irem h hx hg hd hs hy (by rw [q]; exact hr)
theorem own_lrem {tb : Tables} [Ours tb] {e : Env} {below : List Frame} {T target : State} {m : MethodId} {c : Code} {g : JFrame} (h : At T m c below) (hx : tb.exec = Jvm.exec) (hg : g.method = m) {x y : Int64} {rest : List Value} (hd : decode c.code g.pc = .ok (.lrem, 1)) (hs : g.stack = .long y :: .long x :: rest) (hy : y ≠ 0)
    (hr : Steps tb e below (T.setTop { g with pc := g.pc + 1, stack := .long (x % y) :: rest }) target) : Steps tb e below (T.setTop g) target := by
  have q : x - (x / y) * y = x % y := lrem_mod x y
  exact XS.lrem h hx hg hd hs hy (by rw [q]; exact hr)
theorem own_acneY {x y : Value} (h1 : x.isRef = true) (h2 : y.isRef = true) (q : decide (x = y) = false) : XT.acmp .ne x y = true := by simpa [XT.acmp] using q
theorem own_acneN {x y : Value} (h1 : x.isRef = true) (h2 : y.isRef = true) (q : decide (x = y) = true) : XT.acmp .ne x y = false := by simpa [XT.acmp] using q
theorem own_aceqY {x y : Value} (h1 : x.isRef = true) (h2 : y.isRef = true) (q : decide (x = y) = true) : XT.acmp .eq x y = true := by simpa [XT.acmp] using q
theorem own_aceqN {x y : Value} (h1 : x.isRef = true) (h2 : y.isRef = true) (q : decide (x = y) = false) : XT.acmp .eq x y = false := by simpa [XT.acmp] using q
theorem own_cat {v : Value} (h : v.isRef = true) : v.category = 1 := by rcases ref_cases h with rfl | ⟨_, rfl⟩ <;> rfl
theorem own_fits {t : FieldType} {v : Value} (h1 : t.isReference = true) (h2 : v.isRef = true) : fits t v = true := by
  rcases ref_cases h2 with rfl | ⟨a, rfl⟩ <;> cases t <;> first | rfl | cases h1
abbrev lo8 (c : Int32) : Int32 := c.toInt8.toInt32
/-- the object x is a String that spells cs, each from 0 to 255 -/
def OStr (Z : State) (h : Heap) (x : Addr) (cs : List Int32) : Prop := Exa Z h x "java/lang/String" ∧ Fld Z h x "java/lang/String" "coder" "B" (.int 0) ∧ (∃ (t : Addr) (kb : ClassId), Fld Z h x "java/lang/String" "value" "[B" (.ref t) ∧ Arv Z h t kb .byte (Int32.ofNat cs.length) ((cs.map lo8).map Value.int) (.int 0)) ∧ (∀ c ∈ cs, ¬ c < 0 ∧ ¬ (255 : Int32) < c) ∧ cs.length ≤ 4000
theorem OStr.ext {x : Addr} {cs : List Int32} (F : OStr Z h x cs) (E : Ext h h') : OStr Z h' x cs := by
  obtain ⟨h1, h2, ⟨t, kb, h3, h4⟩, r⟩ := F; exact ⟨h1.ext E, h2.ext E, ⟨t, kb, h3.ext E, h4.ext E⟩, r⟩
theorem OStr.keepX {x a : Addr} {cs : List Int32} {C : String} {j : Nat} {a0 : Array Value} (F : OStr Z h x cs) (K : Keep h h' [a]) (E : Exa Z h a C) (wi : (Cond.instantiable C j).before a0 Z = true) (hc : "java/lang/String" ≠ C) : OStr Z h' x cs := by
  obtain ⟨h1, h2, ⟨t, kb, h3, h4⟩, r⟩ := F
  have n1 : x ≠ a := Exa.ne h1 E hc
  have n2 : t ≠ a := fun q => Exa.neArv E h4 wi q.symm
  exact ⟨h1.keep K, h2.keep K (ninS n1 nin0), ⟨t, kb, h3.keep K (ninS n1 nin0), h4.keep K (ninS n2 nin0)⟩, r⟩
theorem OStr.exa {x : Addr} {cs : List Int32} (F : OStr Z h x cs) : Exa Z h x "java/lang/String" := F.1
theorem OStr.lt {x : Addr} {cs : List Int32} (F : OStr Z h x cs) : x < h.size := F.1.lt
theorem all_nil {P : Int32 → Prop} : ∀ c ∈ ([] : List Int32), P c := fun _ q => nomatch q
theorem all_cons {P : Int32 → Prop} {c : Int32} {cs : List Int32} (h1 : P c) (h2 : ∀ c ∈ cs, P c) : ∀ x ∈ c :: cs, P x := fun x q => (List.mem_cons.mp q).elim (fun u => u ▸ h1) (h2 x)
theorem up255 {c : Int32} (h : ¬ c < 0 ∧ ¬ (255 : Int32) < c) : ¬ c < 0 ∧ ¬ (65535 : Int32) < c := by
  have r : (0 : Int32).toInt = 0 := rfl
  have r1 : (255 : Int32).toInt = 255 := rfl
  have r2 : (65535 : Int32).toInt = 65535 := rfl
  simp only [Int32.lt_iff_toInt_lt, r, r1, r2] at h ⊢; omega
theorem and255 (x : Int32) : ¬ (x &&& 255) < 0 ∧ ¬ (255 : Int32) < (x &&& 255) := by
  have q := c_and x 255 (by decide)
  have r : (0 : Int32).toInt = 0 := rfl
  have r1 : (255 : Int32).toInt = 255 := rfl
  simp only [Int32.lt_iff_toInt_lt, r, r1] at q ⊢; omega
theorem ch255 (x : Int32) : ¬ ((x &&& 255).toUInt32.toUInt16.toUInt32.toInt32) < 0 ∧ ¬ (255 : Int32) < ((x &&& 255).toUInt32.toUInt16.toUInt32.toInt32) := by
  rw [i2c_mask]; exact and255 x
/-- a String that has only been made holds no array: no constant is booked at it -/
theorem safe_blank {x : Addr} (hal : Z.vm.Alike vm) (E : Exa Z h x "java/lang/String") (V : Fld Z h x "java/lang/String" "value" "[B" .null) : Safe Z EL vm h x := fun B => by
  obtain ⟨cell, kk, e1, e2, e3, -, -⟩ := E
  obtain ⟨cell', cf, kx, i, f, v1, v2, -, -, -, -, v7⟩ := V
  cases e1.symm.trans v1
  obtain ⟨p, -, u, a, -, q, -, F, hy⟩ := B
  rcases hy with rfl | rfl
  · cases (show h[q.sa]? = some q.sC from F.ha).symm.trans e1
    obtain ⟨cS, ⟨⟨-, -, -, ⟨c1, k1, i1, f1, -⟩, -, -, -, w1, -⟩, -⟩, -⟩ := F
    obtain ⟨k3, e4⟩ := ff_back (U := Wst Z vm h) hal f1
    cases e4.symm.trans v2
    have := w1.symm.trans v7
    cases this
  · cases (show h[q.sd]? = some q.SA from F.hd).symm.trans e1
    obtain ⟨cS, -, -, f4, -⟩ := F
    have f5 : vm.findClass "[B" = some q.SA.cls := f4
    rw [hal.findClass] at f5
    obtain ⟨k5, q5, q6⟩ := Vm.findClass_spec f5
    obtain ⟨k6, q7, q8⟩ := Vm.findClass_spec e2
    cases q5.symm.trans q7
    exact absurd (q6.symm.trans q8) (by decide)
end Small
end Jvm.Own
namespace Jvm.Own
open Sem ClassFile Op Lib Bundle Jvm.Stand Jvm.Free Jvm.LawKit Jvm.RoadKit
section Copy
variable {p : Program} {l : Launch} {e : Env} {R : Room} {s : State} {m : MethodId} {args : Array Value} {below : List Frame} {meth : Method} {c : Code} {own : String} {Z : State} {a0 : Array Value} {EL : List (String × Nat)} {vm0 : Vm} {T : State} {h : Heap} {k n : Nat} {G : Outcome → State → Prop} {pc : Nat} {Ls : Array Slot} {rest : List Value}
/-- System.arraycopy between two byte arrays -/
theorem OSt.cpB (X : OSt p l e R s m args below meth c own Z EL vm0 T h k n) {index : Nat} (w1 : (Cond.methodLink own index Jvm.Stand.acN).before a0 Z = true) (w2 : (Cond.native Jvm.Stand.acN).before a0 Z = true) (w3 : (Cond.static Jvm.Stand.acN).before a0 Z = true) (w4 : (Cond.initialized "java/lang/System").before a0 Z = true)
    {a b : Addr} {ka kb : ClassId} {z z' sp dp nn : Int32} {vs vd us : List Value} {dv dd : Value} (A : Arv Z h a ka .byte z vs dv) (B : Arv Z h b kb .byte z' vd dd) (h1 : ¬ sp < 0) (h2 : ¬ dp < 0) (h3 : ¬ nn < 0) (h4 : sp.toNatClampNeg + nn.toNatClampNeg ≤ z.toNatClampNeg) (h5 : dp.toNatClampNeg + nn.toNatClampNeg ≤ z'.toNatClampNeg)
    (hus : us = (List.range nn.toNatClampNeg).map fun i => vs.getD (sp.toNatClampNeg + i) dv) (hl : dp.toNatClampNeg + nn.toNatClampNeg ≤ vd.length) (hSf : Safe Z EL vm0 h b) (ge : Z.heap.size ≤ b) (hsize : Ls.size = c.maxLocals) (hd : decode c.code pc = .ok (.invokestatic index, 3))
    (hf : 1 ≤ R.frames) {W : Nat} (hW : (rest.map fun v => v.category).sum ≤ W) (hlo : W + (nativeFrameWords "java/lang/System" "arraycopy" 5 + 11) ≤ R.locals)
    (q : ∀ T' h', OSt p l e R s m args below meth c own Z EL vm0 T' h' k n → Keep h h' [b] → Arv Z h' b kb .byte z' (vd.take dp.toNatClampNeg ++ us ++ vd.drop (dp.toNatClampNeg + nn.toNatClampNeg)) dd → OEnds p e below G T' (mkF m (pc + 3) Ls rest)) : OEnds p e below G T (mkF m pc Ls (.int nn :: .int dp :: .ref b :: .int sp :: .ref a :: rest)) := by
  obtain ⟨L, X, hF, hh, ⟨k0, hS0, hk0⟩, hZ, ho, hC, hO, hx⟩ := X
  obtain ⟨T', h', L', X', e', F', K, B', st⟩ := RoadKit.cpA X hx hZ ho w1 w2 w3 w4 hh A B (Or.inl ⟨rfl, rfl⟩) h1 h2 h3 h4 h5 hus hl hF ge (g := mkF m pc Ls (.int nn :: .int dp :: .ref b :: .int sp :: .ref a :: rest)) rfl hsize rfl hd hf (W := W) (by show 2 * 0 + _ ≤ _; rw [Nat.mul_zero, Nat.zero_add]; exact hW) hlo
  exact (q T' h' ⟨L', X', F', e', ⟨k0, hS0, Nat.le_trans hk0 K.1⟩, hZ, ho, hC.trans (CHr.keep K (fun x hx => by cases List.mem_singleton.mp hx; exact hSf) hC.1), ext_keep hO K (allS ge all0), hx⟩ K B').go st
end Copy
end Jvm.Own
namespace Jvm.Own
open Sem ClassFile Op Lib Bundle Jvm.Stand Jvm.Free Jvm.LawKit Jvm.RoadKit
theorem ofN {n : Nat} (h : n < 2147483648) : (Int32.ofNat n).toInt = n := Int32.toInt_ofNat_small h
theorem ofN_lt {a b : Nat} (ha : a < 2147483648) (hb : b < 2147483648) : Int32.ofNat a < Int32.ofNat b ↔ a < b := by
  rw [Int32.lt_iff_toInt_lt, ofN ha, ofN hb]; omega
theorem ofN_eq {a b : Nat} (ha : a < 2147483648) (hb : b < 2147483648) : Int32.ofNat a = Int32.ofNat b ↔ a = b := by
  rw [← Int32.toInt_inj, ofN ha, ofN hb]; omega
theorem ofN_neg {a : Nat} (ha : a < 2147483648) : ¬ Int32.ofNat a < 0 := by
  rw [Int32.lt_iff_toInt_lt, ofN ha]; have : (0 : Int32).toInt = 0 := rfl
  omega
theorem ofN_nat {a : Nat} (ha : a < 2147483648) : (Int32.ofNat a).toNatClampNeg = a := by
  rw [Int32.toNatClampNeg, ofN ha]; omega
theorem ofN_sub {a b : Nat} (ha : a < 2147483648) (h : b ≤ a) : Int32.ofNat a - Int32.ofNat b = Int32.ofNat (a - b) := by
  apply Int32.toInt_inj.mp
  have q := c_isub (Int32.ofNat a) (Int32.ofNat b)
  have r := rng32 (Int32.ofNat a - Int32.ofNat b)
  rw [ofN ha, ofN (by omega)] at q
  rw [ofN (by omega)]; omega
theorem ofN_add {a b : Nat} (h : a + b < 2147483648) : Int32.ofNat a + Int32.ofNat b = Int32.ofNat (a + b) := by
  apply Int32.toInt_inj.mp
  have q := c_iadd (Int32.ofNat a) (Int32.ofNat b)
  have r := rng32 (Int32.ofNat a + Int32.ofNat b)
  rw [ofN (by omega), ofN (by omega)] at q
  rw [ofN h]; omega
theorem ofN_of {x : Int32} (h : ¬ x < 0) : x = Int32.ofNat x.toNatClampNeg ∧ x.toNatClampNeg < 2147483648 := by
  have r := rng32 x
  have z : (0 : Int32).toInt = 0 := rfl
  rw [Int32.lt_iff_toInt_lt, z] at h
  have e : x.toNatClampNeg < 2147483648 := by rw [Int32.toNatClampNeg]; omega
  refine ⟨Int32.toInt_inj.mp ?_, e⟩
  rw [ofN e, Int32.toNatClampNeg]; omega
end Jvm.Own
namespace Jvm.Own
open Sem ClassFile Op Lib Bundle Jvm.Stand Jvm.Free Jvm.LawKit Jvm.RoadKit
section Again
variable {p : Program} {l : Launch} {e : Env} {R : Room} {s : State} {m : MethodId} {args : Array Value} {below : List Frame} {meth : Method} {c : Code} {own : String} {Z : State} {a0 : Array Value} {EL : List (String × Nat)} {vm0 vm1 : Vm} {T T' : State} {h h' : Heap} {k n : Nat} {G : Outcome → State → Prop} {pc : Nat} {Ls : Array Slot} {rest : List Value} {Q : Option Value → Heap → Prop}
  {y : MethodName} {bytes : ByteArray} {maxL : Nat} {ret : Option FieldType} {rm : Room} {as' : Array Value}
/-- the tables vm book the String a for the entry index of the class own -/
def LitV (Z : State) (own : String) (index : Nat) (a : Addr) (vm : Vm) : Prop := Lit (Z.setVm vm) own index a
theorem LitV.stays {index : Nat} {a : Addr} (L : LitV Z own index a vm0) (hW : (s.setVm vm0).Warmed39 vm1) : LitV Z own index a vm1 := Lit.stays (s := s) L hW
/-- ldc of a String constant whose text is read; and what the tables book -/
theorem OSt.ldcRL (X : OSt p l e R s m args below meth c own Z EL vm0 T h k n) (hE : EW Z a0 EL) {index : Nat} {text : String} (w : (Cond.stringLink own index text).before a0 Z = true) (wS : ∀ a ∈ Bundle.stringAtoms, a.before a0 Z = true) (hmem : (own, index) ∈ EL)
    {vs : List Value} {z : Int32} (ht : (∀ c ∈ text.toList, c.toNat < 256) ∧ text.toList.map (fun c => Value.int (Jvm.Lit.byteI c.toNat.toUInt16)) = vs) (hz : ¬ z < 0) (hl : z.toNatClampNeg = vs.length) (hd : decode c.code pc = .ok (.ldc index, 2)) {j : Nat} (hj : 4 * text.toList.length ≤ j) (hbig : j ≤ 536870912) (hc : k + 2 ≤ R.cells) (hl' : n + (j + 4) ≤ R.slots)
    (q : ∀ vm1 T' h' a b kb, OSt p l e R s m args below meth c own Z EL vm1 T' h' (k + 2) (n + (j + 4)) → Ext h h' → CHr Z EL vm0 h vm1 h' → Exa Z h' a "java/lang/String" → Fld Z h' a "java/lang/String" "coder" "B" (.int 0) → Fld Z h' a "java/lang/String" "value" "[B" (.ref b) → Arv Z h' b kb .byte z vs (.int 0) → LitV Z own index a vm1 → OEnds p e below G T' (mkF m (pc + 2) Ls (.ref a :: rest))) : OEnds p e below G T (mkF m pc Ls rest) := by
  obtain ⟨L, X, hF, hh, ⟨k0, hS0, hk0⟩, hZ, ho, hC, hO, hx⟩ := X
  obtain ⟨a, T', h', k1, b, kb, X', e', E, hS1, hk1, hZ1, ho1, E1, C1, V1, K1, -, -, hC1, hL, -, st⟩ := ldcCH X hx hZ ho w wS hh hS0 hk0 hE hmem hC.1 ht hz hl (g := mkF m pc Ls rest) rfl hd hj hbig hc hl'
  exact (q T'.vm T' h' a b kb ⟨_, X', hF, e', ⟨k1, hS1, hk1⟩, hZ1, ho1, hC.trans hC1, ext_trans hO E, hx⟩ E hC1 E1 C1 V1 K1 hL).go st
/-- ldc of a constant that the tables book -/
theorem OSt.ldcA (X : OSt p l e R s m args below meth c own Z EL vm0 T h k n) {index : Nat} {text : String} (w : (Cond.stringLink own index text).before a0 Z = true) {a : Addr} (L : LitV Z own index a vm0) (hd : decode c.code pc = .ok (.ldc index, 2)) (q : OEnds p e below G T (mkF m (pc + 2) Ls (.ref a :: rest))) : OEnds p e below G T (mkF m pc Ls rest) := by
  obtain ⟨_, X, hF, hh, hS, hZ, ho, hC, hO, hx⟩ := X
  exact q.go (ldcAgain (s := s) X hx hZ ho w (a := a) L (g := mkF m pc Ls rest) rfl hd)
/-- a contract under the narrow frame that asks the tables something -/
def ConNV (l : Launch) (Z : State) (y : MethodName) (bytes : ByteArray) (maxL : Nat) (ret : Option FieldType) (rm : Room) (as' : Array Value) (h : Heap) (V : Vm → Prop) (Q : Option Value → Heap → Prop) : Prop := Ext Z.heap h →
  MetFree l y (head1 [Cond.code y bytes maxL ret] rm) (fun a U => a = as' ∧ Z.Warmed39 U.vm ∧ U.heap = h ∧ V U.vm) (fun _ _ _ _ _ => True) (fun _ U o U' => ∃ v L, o = .returned v ∧ (Q v U'.heap ∧ Fr Z.heap.size L ∧ Ext Z.heap U'.heap) ∧ FrameEnd U o U' L rm.cells rm.slots)
theorem ConNV.of {V : Vm → Prop} (hy : plainFor y = true) (body : ∀ (p : Program) (e : Env) (s : State) (m : MethodId) (below : List Frame) (meth : Method) (c : Code) (T : State), c.code = bytes → c.maxLocals = maxL → meth.sig.returnType = ret → meth.locks = false → meth.name = y.name → OSt p l e rm s m as' below meth c y.cls Z [] s.vm T h 0 0 → V s.vm → OEnds p e below (GN Z s Q rm.cells rm.slots) T (entryFrame m as' maxL)) :
    ConNV l Z y bytes maxL ret rm as' h V Q := by
  intro hO
  refine MetFree.of_bodySF hy hisR ?_
  intro p e s m args below meth c s₁ Bd hml hP _
  obtain ⟨rfl, hZ, hh, hV⟩ := hP
  have e0 : s₁.heap = h := by rw [← hh, Bd.state]; rfl
  have X0 : Stand p l e rm s m args below meth c s₁ [] 0 0 := Stand.of_body Bd
  have hown : s.vm.findClass y.cls = some m.cls := findClass_of_methodNamed Bd.named
  obtain ⟨s₂, o, h1, h2, h3, v, L, rfl, h4, h5⟩ := body p e s m below meth c s₁ Bd.bytes hml Bd.returns Bd.notSynchronized (name_of_methodNamed Bd.named Bd.method).1
    ⟨[], X0, Fr.nil _, e0, ⟨_, (State.WarmedH.refl s).since 0, Nat.zero_le _⟩, hZ, hown, by rw [hh]; exact chr_nil (Nat.le_refl _), hO, Bd.exec⟩ hV
  exact ⟨s₂, _, h1, h2, h3, v, L, rfl, h4, h5⟩
theorem ConNV.back {V : Vm → Prop} {W len : Nat} (K : ConNV l Z y bytes maxL ret rm as' h V Q) (hO : Ext Z.heap h) (hZ : Z.Warmed39 vm0) (hV : ∀ vm', (s.setVm vm0).WarmedH vm' → V vm') (wc : (Cond.code y bytes maxL ret).before a0 Z = true) (wz : (Cond.initialized y.cls).before a0 Z = true) (hf : rm.frames + 1 ≤ R.frames) (hl : W + (maxL + 11) + rm.locals ≤ R.locals) :
    Back l R p e below (s.setVm vm0) args y len W (PreB R as' h rm.cells rm.slots) (PostB (fun v h' L => Q v h' ∧ Fr Z.heap.size L ∧ Ext Z.heap h') rm.cells rm.slots) :=
  Back.of_free (bytes := bytes) (maxL := maxL) (ret := ret) (E := fun _ _ o t L k n => k = rm.cells ∧ n = rm.slots ∧ ∃ v, o = .returned v ∧ (Q v t.heap ∧ Fr Z.heap.size L ∧ Ext Z.heap t.heap)) (K hO) hf hl
    (fun m meth c A a Y hp => have hU : Z.Warmed39 A.U.vm := wtrans (s := s.setVm vm0) hZ Y.warmed
      ⟨by show (Cond.and _ .tt).before a A.U = true; rw [Cond.before_and, mv hU wc]; rfl, mv hU wc, mv hU wz, hp.2.2.1, hp.2.2.2⟩)
    (fun m meth c A a g mk Y hp => ⟨hp.1, wtrans (s := s.setVm vm0) hZ Y.warmed, hp.2.1, hV _ Y.warmed⟩) (fun _ _ _ _ _ _ _ _ _ => trivial)
    (fun _ _ _ _ ⟨v, L, h1, h2, h3⟩ => ⟨L, _, _, h3, rfl, rfl, v, h1, h2⟩)
    (fun m meth c A a g mk v t L k n Y hp _ _ ⟨e1, e2, v', e3, e4⟩ => by cases e3; subst e1 e2; exact ⟨L, e4, rfl, rfl, rfl⟩)
/-- an answer that leaves the heap as it was -/
theorem okV {Q2 : Option Value → Prop} (X : OSt p l e R s m args below meth c own Z EL vm0 T h k n) : OkB Z EL vm0 h (fun v h' L => (Q2 v ∧ h = h') ∧ Fr Z.heap.size L ∧ Ext Z.heap h') := fun v h' L ⟨⟨_, e1⟩, r1, r2⟩ => by
  subst e1; exact ⟨r1, r2, CHr.refl X.chv⟩
/-- how a walk ends whose answer also speaks of the tables -/
def GWV (Z : State) (EL : List (String × Nat)) (s : State) (Q : Option Value → Heap → Vm → Prop) (k n : Nat) (o : Outcome) (u : State) : Prop :=
  ∃ v L, o = .returned v ∧ (Q v u.heap u.vm ∧ Fr Z.heap.size L ∧ Ext Z.heap u.heap) ∧ CHr Z EL s.vm s.heap u.vm u.heap ∧ ReturnedEndW s o u L k n
theorem OSt.retCharV {QV : Option Value → Heap → Vm → Prop} {k' n' : Nat} (X : OSt p l e R s m args below meth c own Z EL vm0 T h k n) (hE : EW Z a0 EL) (hlk : meth.locks = false) {z : Int32} (hz : ¬ z < 0 ∧ ¬ 65535 < z) (hret : meth.sig.returnType = some .char) (hd : decode c.code pc = .ok (.ireturn, 1)) (hk : k ≤ k') (hn' : n ≤ n') (hQ : ∀ vm', (s.setVm vm0).Warmed39 vm' → QV (some (.int z)) h vm') : OEnds p e below (GWV Z EL s QV k' n') T (mkF m pc Ls (.int z :: rest)) := by
  obtain ⟨L, X, hF, hh, ⟨k0, hS0, hk0⟩, hZ, ho, hC, hO, hx⟩ := X
  have hA := CHv.at X hZ hE hC.1
  obtain ⟨fs, hr, hrun, hended, hend⟩ := X.leaveW hS0 (by rw [hh]; exact hk0) (v := some (.int z)) (fun q => by rw [hret] at q; cases q) hlk
  refine ⟨_, _, retOut X hx hret (by show Value.int z.toUInt32.toUInt16.toUInt32.toInt32 = _; rw [i2c_id hz.1 hz.2]) (Or.inl ⟨rfl, Or.inr (Or.inr (Or.inr (Or.inl rfl))), z, rfl⟩) hd hr, hrun, hended, _, L, rfl, ⟨?_, hF, ?_⟩, ?_, rew_mono hend hk hn'⟩
  · show QV _ T.heap T.vm; rw [hh]; exact hQ _ X.warmed.wide
  · show Ext _ T.heap; rw [hh]; exact hO
  · show CHr Z EL s.vm s.heap T.vm T.heap; rw [hh]; exact hC.trans hA
def ConW (l : Launch) (Z : State) (EL : List (String × Nat)) (y : MethodName) (bytes : ByteArray) (maxL : Nat) (ret : Option FieldType) (rm : Room) (as' : Array Value) (h : Heap) (Q : Option Value → Heap → Vm → Prop) : Prop := Ext Z.heap h →
  MetFree l y (head1 [Cond.code y bytes maxL ret] rm) (fun a U => a = as' ∧ Z.Warmed39 U.vm ∧ U.heap = h ∧ CHv Z EL U.vm h) (fun _ _ _ _ _ => True) (fun _ U o U' => ∃ v L, o = .returned v ∧ (Q v U'.heap U'.vm ∧ Fr Z.heap.size L ∧ Ext Z.heap U'.heap) ∧ CHr Z EL U.vm U.heap U'.vm U'.heap ∧ ReturnedEndW U o U' L rm.cells rm.slots)
theorem ConW.of {QV : Option Value → Heap → Vm → Prop} (hy : plainFor y = true) (body : ∀ (p : Program) (e : Env) (s : State) (m : MethodId) (below : List Frame) (meth : Method) (c : Code) (T : State), c.code = bytes → c.maxLocals = maxL → meth.sig.returnType = ret → meth.locks = false → meth.name = y.name → OSt p l e rm s m as' below meth c y.cls Z EL s.vm T h 0 0 → OEnds p e below (GWV Z EL s QV rm.cells rm.slots) T (entryFrame m as' maxL)) :
    ConW l Z EL y bytes maxL ret rm as' h QV := by
  intro hO
  refine MetFree.of_bodySF hy hisR ?_
  intro p e s m args below meth c s₁ Bd hml hP _
  obtain ⟨rfl, hZ, hh, hC⟩ := hP
  have e0 : s₁.heap = h := by rw [← hh, Bd.state]; rfl
  have X0 : Stand p l e rm s m args below meth c s₁ [] 0 0 := Stand.of_body Bd
  have hown : s.vm.findClass y.cls = some m.cls := findClass_of_methodNamed Bd.named
  obtain ⟨s₂, o, h1, h2, h3, v, L, rfl, h4, h5, h6⟩ := body p e s m below meth c s₁ Bd.bytes hml Bd.returns Bd.notSynchronized (name_of_methodNamed Bd.named Bd.method).1
    ⟨[], X0, Fr.nil _, e0, ⟨_, (State.WarmedH.refl s).since 0, Nat.zero_le _⟩, hZ, hown, by rw [hh]; exact CHr.refl hC, hO, Bd.exec⟩
  exact ⟨s₂, _, h1, h2, h3, v, L, rfl, h4, h5, h6⟩
theorem OSt.callSW {QV : Option Value → Heap → Vm → Prop} (X : OSt p l e R s m args below meth c own Z EL vm0 T h k n) (hE : EW Z a0 EL) (K : ConW l Z EL y bytes maxL ret rm as' h QV) {index : Nat} (w1 : (Cond.methodLink own index y).before a0 Z = true) (w2 : (Cond.static y).before a0 Z = true) (wz : (Cond.initialized y.cls).before a0 Z = true) (wc : (Cond.code y bytes maxL ret).before a0 Z = true)
    (hy : y.cls ≠ "java/lang/invoke/MethodHandle" ∧ y.cls ≠ "java/lang/invoke/VarHandle") {W : Nat} (hf : rm.frames + 1 ≤ R.frames) (hl : W + (maxL + 11) + rm.locals ≤ R.locals) {argsL stack : List Value} (ha : argsL.toArray = as') (hlen : ∀ sig, parseMethodDescriptor y.desc = some sig → argsL.length = sig.parameters.length) (hst : stack = argsL.reverse ++ rest) (hsize : Ls.size = c.maxLocals) (hW : (rest.map fun v => v.category).sum ≤ W)
    (hd : decode c.code pc = .ok (.invokestatic index, 3)) (hk : k + rm.cells ≤ R.cells) (hn : n + rm.slots ≤ R.slots)
    (q : ∀ v vm1 T' h', OSt p l e R s m args below meth c own Z EL vm1 T' h' (k + rm.cells) (n + rm.slots) → CHr Z EL vm0 h vm1 h' → QV v h' vm1 → OEnds p e below G T' (mkF m (pc + 3) Ls (v.toList ++ rest))) : OEnds p e below G T (mkF m pc Ls stack) := by
  have X1 := X
  obtain ⟨L, X, hF, hh, ⟨k0, hS0, hk0⟩, hZ, ho, hC, hO, hx⟩ := X
  have B : BackS l R p e below (s.setVm vm0) args y 3 W (PreB R as' h rm.cells rm.slots) (fun A _ v B => ∃ L, (QV v B.U.heap B.U.vm ∧ Fr Z.heap.size L ∧ Ext Z.heap B.U.heap) ∧ B.locs = A.locs ++ L ∧ B.cells = A.cells + rm.cells ∧ B.slots = A.slots + rm.slots ∧ CHr Z EL vm0 h B.U.vm B.U.heap) :=
    BackS.of_freeW (bytes := bytes) (maxL := maxL) (ret := ret) (E := fun _ first o t L k n => k = rm.cells ∧ n = rm.slots ∧ (∃ v, o = .returned v ∧ (QV v t.heap t.vm ∧ Fr Z.heap.size L ∧ Ext Z.heap t.heap)) ∧ CHr Z EL first.vm first.heap t.vm t.heap) (K hO) hf hl
      (fun m meth c A a Y hp => have hU : Z.Warmed39 A.U.vm := wtrans (s := s.setVm vm0) hZ Y.warmed
        ⟨by show (Cond.and _ .tt).before a A.U = true; rw [Cond.before_and, mv hU wc]; rfl, mv hU wc, mv hU wz, hp.2.2.1, hp.2.2.2⟩)
      (fun m meth c A a g mk Y hp => ⟨hp.1, wtrans (s := s.setVm vm0) hZ Y.warmed, hp.2.1, (CHv.at Y hZ hE hC.1).1⟩) (fun _ _ _ _ _ _ _ _ _ => trivial)
      (fun _ _ _ _ ⟨v, L, h1, h2, h3, h4⟩ => ⟨L, _, _, h4, rfl, rfl, ⟨v, h1, h2⟩, h3⟩)
      (fun m meth c A a g mk v t L k n Y hp _ _ ⟨e1, e2, ⟨v', e3, e4⟩, e5⟩ => by
        cases e3; subst e1 e2
        refine ⟨L, e4, rfl, rfl, rfl, (CHv.at Y hZ hE hC.1).trans ?_⟩
        rw [← hp.2.1]; exact e5)
  obtain ⟨v, vmx, B, -, X', hS, hgr, ⟨L', ⟨hq, hF', hO'⟩, e1, e2, e3, hC'⟩, st⟩ := callSS X hx ho (mvT (s := s.setVm vm0) hZ w1) (mvT (s := s.setVm vm0) hZ w2) (mvT (s := s.setVm vm0) hZ wz) (mvT (s := s.setVm vm0) hZ wc) hy B (g := mkF m pc Ls stack) rfl hsize (argsL := argsL) (rest := rest) hlen hst (by show 2 * 0 + _ ≤ _; rw [Nat.mul_zero, Nat.zero_add]; exact hW) hd (fun _ _ => ⟨ha, hh, hk, hn⟩)
  exact (q v _ _ _ (X1.behindS (v := v) hF X' hS hgr hF' hO' e1 e2 e3 hC') hC' hq).tr st
end Again
end Jvm.Own
namespace Jvm.Own
open Sem ClassFile Op Lib Bundle Jvm.Stand Jvm.Free Jvm.LawKit Jvm.RoadKit
/-- a String stays as it was when a place of an array of chars is written -/
theorem OStr.wrC {Z : State} {h h' : Heap} {x a : Addr} {cs : List Int32} {k : ClassId} {z : Int32} {vs : List Value} {dv v : Value} {sl j : Nat} {a0 : Array Value} (F : OStr Z h x cs) (W : Wr h h' a sl v) (K : Arv Z h a k .char z vs dv) (wi : (Cond.instantiable "java/lang/String" j).before a0 Z = true) : OStr Z h' x cs := by
  obtain ⟨h1, h2, ⟨t, kb, h3, h4⟩, r⟩ := F
  have n1 : x ≠ a := Exa.neArv h1 K wi
  have n2 : t ≠ a := by
    intro q
    subst q
    obtain ⟨c1, ⟨e1, ⟨_, k1, q1, _, w1⟩, _⟩, _⟩ := h4
    obtain ⟨c2, ⟨e2, ⟨_, k2, q2, _, w2⟩, _⟩, _⟩ := K
    rw [e1] at e2; cases e2; rw [q1] at q2; cases q2; rw [w1] at w2; cases w2
  exact ⟨h1.wr W, h2.other W (Or.inl n1), ⟨t, kb, h3.other W (Or.inl n1), h4.other W n2⟩, r⟩
end Jvm.Own
namespace Jvm.Own
open Sem ClassFile Op Lib Bundle Jvm.Stand Jvm.Free Jvm.LawKit Jvm.RoadKit
theorem OSt.retCharN {p : Program} {l : Launch} {e : Env} {R : Room} {s : State} {m : MethodId} {args : Array Value} {below : List Frame} {meth : Method} {c : Code} {own : String} {Z : State} {T : State} {h : Heap} {k n k' n' : Nat} {pc : Nat} {Ls : Array Slot} {rest : List Value} {Q : Option Value → Heap → Prop} (X : OSt p l e R s m args below meth c own Z [] s.vm T h k n) (hlk : meth.locks = false) {z : Int32} (hz : ¬ z < 0 ∧ ¬ 65535 < z) (hret : meth.sig.returnType = some .char) (hd : decode c.code pc = .ok (.ireturn, 1)) (hk : k ≤ k') (hn' : n ≤ n') (hQ : Q (some (.int z)) h) : OEnds p e below (GN Z s Q k' n') T (mkF m pc Ls (.int z :: rest)) :=
  X.retVN hlk hret (by show Value.int z.toUInt32.toUInt16.toUInt32.toInt32 = _; rw [i2c_id hz.1 hz.2]) (Or.inl ⟨rfl, Or.inr (Or.inr (Or.inr (Or.inl rfl))), z, rfl⟩) hd hk hn' hQ
end Jvm.Own
/- laws to paste: Road.backV, Road.lenW, Road.chN, Road.codOf (cut by pick.py; bodies as the Statement names them) -/
namespace Jvm.Pilot.@@N@@
namespace StrChars
open Jvm Sem ClassFile Op Lib Jvm.Stand Jvm.Free.XT Jvm.Free.ALB Jvm.Free.JM Jvm.Free
open Jvm.Lib.Cold (StaticIs)
/-- a char array whose places are chars -/
def Ch (a : Addr) (A : Cell) (U : State) : Prop := Arr .char a A U ∧ Typed .char A
theorem Ch.mv {a : Addr} {A : Cell} {U U' : State} (h : Ch a A U) (hal : U.vm.Alike U'.vm) (hh : U'.heap = U.heap) : Ch a A U' := ⟨h.1.mv hal hh, h.2⟩
theorem Ch.keep {a : Addr} {A : Cell} {U U' : State} (h : Ch a A U) (hal : U.vm.Alike U'.vm) (hk : U'.heap[a]? = some A) : Ch a A U' := ⟨h.1.keep hal hk, h.2⟩
/-- what place i of a char[]'s cell holds -/
def cv (A : Cell) (i : Nat) : Int32 := match A.slots[i]? with | some (.int x) => x | _ => 0
theorem Ch.get {a : Addr} {A : Cell} {U : State} (h : Ch a A U) {i : Nat} (hi : i < A.slots.size) : A.slots[i]? = some (.int (cv A i)) := by
  have e := Array.getElem?_eq_getElem hi
  have f := h.2 i _ e
  unfold cv; rw [e]
  generalize A.slots[i] = v at f
  cases v <;> simp [fits] at f ⊢
/-- the byte that i2b leaves of a char -/
def lo8 (x : Int32) : Int32 := x.toInt8.toInt32
theorem fits_lo8 (y : Int32) : fits .byte (.int (lo8 y)) = true := by
  have h1 := y.toInt8.le_toInt
  have h2 := y.toInt8.toInt_lt
  simp only [lo8, fits, Bool.and_eq_true, decide_eq_true_eq, Int32.le_iff_toInt_le, Int8.toInt_toInt32, show (-128 : Int32).toInt = -128 from by decide, show (127 : Int32).toInt = 127 from by decide]
  omega
/-- A' is A but that each place j of lo .. hi - 1 holds f j -/
def Laid (A A' : Cell) (lo hi : Nat) (f : Nat → Value) : Prop := A'.cls = A.cls ∧ A'.vm = A.vm ∧ A'.slots.size = A.slots.size ∧ ∀ i, A'.slots[i]? = if lo ≤ i ∧ i < hi then some (f i) else A.slots[i]?
theorem Laid.zero (A : Cell) (lo : Nat) (f : Nat → Value) : Laid A A lo (lo + 0) f := ⟨rfl, rfl, rfl, fun i => by rw [if_neg (by omega)]⟩
theorem Laid.step {A Ak : Cell} {lo k : Nat} {f : Nat → Value} {v : Value} (h : Laid A Ak lo k f) (hlo : lo ≤ k) (hk : k < Ak.slots.size) (hv : v = f k) : Laid A (Ak.setSlot k v) lo (k + 1) f := by
  refine ⟨h.1, h.2.1, by simpa [Cell.setSlot] using h.2.2.1, fun i => ?_⟩
  by_cases e : k = i
  · subst e; rw [Cell.slots_setSlot_self v hk, if_pos (by omega), hv]
  · rw [Cell.slots_setSlot_ne v e, h.2.2.2 i]
    by_cases q : lo ≤ i ∧ i < k
    · rw [if_pos q, if_pos (by omega)]
    · rw [if_neg q, if_neg (by omega)]
def U16 : String := "java/lang/StringUTF16"
namespace Cmp5
def yN : MethodName := ⟨"java/lang/StringUTF16", "compress", "([CI[BII)I"⟩
abbrev yB : ByteArray := jdk_52_method_21_code
theorem d0 : decode yB 0 = .ok (.iconst 0, 1) := by decide +kernel
theorem d1 : decode yB 1 = .ok (.istore 5, 2) := by decide +kernel
theorem d3 : decode yB 3 = .ok (.iload 5, 2) := by decide +kernel
theorem d5 : decode yB 5 = .ok (.iload 4, 2) := by decide +kernel
theorem d7 : decode yB 7 = .ok (.if_icmp (.ge) 37, 3) := by decide +kernel
theorem d10 : decode yB 10 = .ok (.aload_n 0, 1) := by decide +kernel
theorem d11 : decode yB 11 = .ok (.iload_n 1, 1) := by decide +kernel
theorem d12 : decode yB 12 = .ok (.caload, 1) := by decide +kernel
theorem d13 : decode yB 13 = .ok (.istore 6, 2) := by decide +kernel
theorem d15 : decode yB 15 = .ok (.iload 6, 2) := by decide +kernel
theorem d17 : decode yB 17 = .ok (.sipush 255, 3) := by decide +kernel
theorem d20 : decode yB 20 = .ok (.if_icmp (.le) 6, 3) := by decide +kernel
theorem d26 : decode yB 26 = .ok (.aload_n 2, 1) := by decide +kernel
theorem d27 : decode yB 27 = .ok (.iload_n 3, 1) := by decide +kernel
theorem d28 : decode yB 28 = .ok (.iload 6, 2) := by decide +kernel
theorem d30 : decode yB 30 = .ok (.i2b, 1) := by decide +kernel
theorem d31 : decode yB 31 = .ok (.bastore, 1) := by decide +kernel
theorem d32 : decode yB 32 = .ok (.iinc 1 1, 3) := by decide +kernel
theorem d35 : decode yB 35 = .ok (.iinc 3 1, 3) := by decide +kernel
theorem d38 : decode yB 38 = .ok (.iinc 5 1, 3) := by decide +kernel
theorem d41 : decode yB 41 = .ok (.goto (-38), 3) := by decide +kernel
theorem d44 : decode yB 44 = .ok (.iload 4, 2) := by decide +kernel
theorem d46 : decode yB 46 = .ok (.ireturn, 1) := by decide +kernel
def site : List Cond := []
def tab : Cond := tabOf yN yB 7 (some .int) site
def P (b : Addr) (A : Cell) (d : Addr) (B : Cell) (o q len : Nat) (args : Array Value) (s : State) : Prop := args = #[.ref b, .int (Int32.ofNat o), .ref d, .int (Int32.ofNat q), .int (Int32.ofNat len)] ∧ Ch b A s ∧ Arr .byte d B s ∧ b ≠ d ∧ o + len ≤ A.slots.size ∧ q + len ≤ B.slots.size ∧ ∀ i, i < len → ¬ 255 < cv A (o + i)
def E (b : Addr) (A : Cell) (d : Addr) (B : Cell) (o q len : Nat) (r : Option Value) (s u : State) : Prop := r = some (.int (Int32.ofNat len)) ∧ ∃ B', Put d B' s u ∧ Laid B B' q (q + len) (fun j => Value.int (lo8 (cv A (o + (j - q)))))
/-- no char of the range above 255: len; the places written hold each char's low byte -/
theorem law (l : Launch) (b : Addr) (A : Cell) (d : Addr) (B : Cell) (o q len : Nat) : Law l yN 5 5 0 0 yB 7 (some .int) site (P b A d B o q len) (E b A d B o q len) (copyLocs d q len) 0 0 := by
  refine Law.of_walk (plainFor_of_name (by decide +kernel)) (by decide +kernel) (by decide +kernel) (by decide) (fun _ _ h => by rw [h.1]; rfl) (fun _ U U' hal hh h => ⟨h.1, h.2.1.mv hal hh, h.2.2.1.mv hal hh, h.2.2.2⟩) (fun r U U' V V' h1 hal h2 h => ⟨h.1, h.2.elim fun B' q => ⟨B', q.1.mv h1 h2, q.2⟩⟩) ?_
  intro p e s m args below meth c s₁ X0 hexec hbytes hml hret hlk hnm hown hh0 W hP
  obtain ⟨rfl, hA, hB, hne, l1, l2, hp⟩ := hP
  have c1 : Steps p.tables e below (s₁.setTop (entryFrame m #[.ref b, .int (Int32.ofNat o), .ref d, .int (Int32.ofNat q), .int (Int32.ofNat len)] 7)) (s₁.setTop (mkF m 0 #[.val (.ref b), .val (.int (Int32.ofNat o)), .val (.ref d), .val (.int (Int32.ofNat q)), .val (.int (Int32.ofNat len)), .unset, .unset] [])) := entry rfl
  have hA0 := hA.1.mv X0.warmed.alike hh0
  have hB0 := hB.mv X0.warmed.alike hh0
  have a31 := hA.1.2.2.2
  have c2 : Steps p.tables e below (s₁.setTop (entryFrame m #[.ref b, .int (Int32.ofNat o), .ref d, .int (Int32.ofNat q), .int (Int32.ofNat len)] 7)) (s₁.setTop (mkF m 3 #[.val (.ref b), .val (.int (Int32.ofNat o)), .val (.ref d), .val (.int (Int32.ofNat q)), .val (.int (Int32.ofNat len)), .val (.int 0), .unset] [])) := c1.trans (by
    refine iconstV X0.here hexec rfl 0 (hb hbytes d0) (by decide) ?_
    refine XS.istore X0.here hexec rfl (hb hbytes d1) rfl rfl ?_
    exact Steps.refl _)
  have loop : ∀ (r i : Nat), i + r = len → ∀ (z : Slot), (z = .unset ∨ ∃ w, z = .val w ∧ w.category = 1) → ∀ (Tl : State) (Bk : Cell), Stand p l e { frames := 0, locals := 0, cells := 0, slots := 0 } s m #[.ref b, .int (Int32.ofNat o), .ref d, .int (Int32.ofNat q), .int (Int32.ofNat len)] below meth c Tl ([] ++ copyLocs d q i) 0 0 → Put d Bk s₁ Tl → Laid B Bk q (q + i) (fun j => Value.int (lo8 (cv A (o + (j - q))))) →
      Steps p.tables e below (s₁.setTop (entryFrame m #[.ref b, .int (Int32.ofNat o), .ref d, .int (Int32.ofNat q), .int (Int32.ofNat len)] 7)) (Tl.setTop (mkF m 3 #[.val (.ref b), .val (.int (Int32.ofNat (o + i))), .val (.ref d), .val (.int (Int32.ofNat (q + i))), .val (.int (Int32.ofNat len)), .val (.int (Int32.ofNat i)), z] [])) → ∃ (T' : State) (B' : Cell) (z' : Slot), Stand p l e { frames := 0, locals := 0, cells := 0, slots := 0 } s m #[.ref b, .int (Int32.ofNat o), .ref d, .int (Int32.ofNat q), .int (Int32.ofNat len)] below meth c T' ([] ++ copyLocs d q len) 0 0 ∧ Put d B' s₁ T' ∧ Laid B B' q (q + len) (fun j => Value.int (lo8 (cv A (o + (j - q))))) ∧
      Steps p.tables e below (s₁.setTop (entryFrame m #[.ref b, .int (Int32.ofNat o), .ref d, .int (Int32.ofNat q), .int (Int32.ofNat len)] 7)) (T'.setTop (mkF m 3 #[.val (.ref b), .val (.int (Int32.ofNat (o + len))), .val (.ref d), .val (.int (Int32.ofNat (q + len))), .val (.int (Int32.ofNat len)), .val (.int (Int32.ofNat len)), z'] [])) := by
    intro r
    induction r with
    | zero =>
      intro i hi z hz Tl Bk Xl pl fl cl
      have hil : i = len := by omega
      rw [hil] at Xl fl cl
      exact ⟨Tl, Bk, z, Xl, pl, fl, cl⟩
    | succ r ih =>
      intro i hi z hz Tl Bk Xl pl fl cl
      have all := X0.warmed.alike.symm.trans Xl.warmed.alike
      have hAl := hA0.keep all (pl.other hne hA0.1)
      have hBk := hB0.like all pl.1 fl.1 fl.2.1 fl.2.2.1
      have hlt : q + i < Bk.slots.size := by rw [fl.2.2.1]; omega
      have c3 : Steps p.tables e below (s₁.setTop (entryFrame m #[.ref b, .int (Int32.ofNat o), .ref d, .int (Int32.ofNat q), .int (Int32.ofNat len)] 7)) (Tl.setTop (mkF m 12 #[.val (.ref b), .val (.int (Int32.ofNat (o + i))), .val (.ref d), .val (.int (Int32.ofNat (q + i))), .val (.int (Int32.ofNat len)), .val (.int (Int32.ofNat i)), z] [.int (Int32.ofNat (o + i)), .ref b])) := cl.trans (by
        refine XS.iload Xl.here hexec rfl (hb hbytes d3) rfl ?_
        refine XS.iload Xl.here hexec rfl (hb hbytes d5) rfl ?_
        refine XS.icmpNo Xl.here hexec rfl (hb hbytes d7) rfl (ii_ge_f (lt32 (by omega) (by omega))) ?_
        refine XS.aloadN Xl.here hexec rfl (hb hbytes d10) rfl rfl ?_
        refine XS.iloadN Xl.here hexec rfl (hb hbytes d11) rfl ?_
        exact Steps.refl _)
      have c4 : Steps p.tables e below (s₁.setTop (entryFrame m #[.ref b, .int (Int32.ofNat o), .ref d, .int (Int32.ofNat q), .int (Int32.ofNat len)] 7)) (Tl.setTop (mkF m 13 #[.val (.ref b), .val (.int (Int32.ofNat (o + i))), .val (.ref d), .val (.int (Int32.ofNat (q + i))), .val (.int (Int32.ofNat len)), .val (.int (Int32.ofNat i)), z] [.int (cv A (o + i))])) := c3.trans (by
        refine Xl.aget hexec hAl rfl (hA.get (i := o + i) (by omega)) rfl rfl (hb hbytes d12) ?_
        exact Steps.refl _)
      have c5 : Steps p.tables e below (s₁.setTop (entryFrame m #[.ref b, .int (Int32.ofNat o), .ref d, .int (Int32.ofNat q), .int (Int32.ofNat len)] 7)) (Tl.setTop (mkF m 15 #[.val (.ref b), .val (.int (Int32.ofNat (o + i))), .val (.ref d), .val (.int (Int32.ofNat (q + i))), .val (.int (Int32.ofNat len)), .val (.int (Int32.ofNat i)), .val (.int (cv A (o + i)))] [])) := c4.trans (by
        refine XS.istoreS Xl.here hexec rfl (hb hbytes d13) rfl rfl hz ?_
        exact Steps.refl _)
      have c6 : Steps p.tables e below (s₁.setTop (entryFrame m #[.ref b, .int (Int32.ofNat o), .ref d, .int (Int32.ofNat q), .int (Int32.ofNat len)] 7)) (Tl.setTop (mkF m 31 #[.val (.ref b), .val (.int (Int32.ofNat (o + i))), .val (.ref d), .val (.int (Int32.ofNat (q + i))), .val (.int (Int32.ofNat len)), .val (.int (Int32.ofNat i)), .val (.int (cv A (o + i)))] [.int (lo8 (cv A (o + i))), .int (Int32.ofNat (q + i)), .ref d])) := c5.trans (by
        refine XS.iload Xl.here hexec rfl (hb hbytes d15) rfl ?_
        refine sipushV Xl.here hexec rfl 255 (hb hbytes d17) (by decide) ?_
        refine XS.icmpYes Xl.here hexec rfl (pc0 := 20) rfl (hb hbytes d20) rfl (ii_le_t (hp i (by omega))) (by decide) rfl ?_
        refine XS.aloadN Xl.here hexec rfl (hb hbytes d26) rfl rfl ?_
        refine XS.iloadN Xl.here hexec rfl (hb hbytes d27) rfl ?_
        refine XS.iload Xl.here hexec rfl (hb hbytes d28) rfl ?_
        refine i2b Xl.here hexec rfl (hb hbytes d30) rfl ?_
        exact Steps.refl _)
      obtain ⟨T7, X7, p7, st7⟩ := Xl.aput hexec hBk rfl hlt rfl (fits_lo8 (cv A (o + i))) (g := (mkF m 31 #[.val (.ref b), .val (.int (Int32.ofNat (o + i))), .val (.ref d), .val (.int (Int32.ofNat (q + i))), .val (.int (Int32.ofNat len)), .val (.int (Int32.ofNat i)), .val (.int (cv A (o + i)))] [.int (lo8 (cv A (o + i))), .int (Int32.ofNat (q + i)), .ref d])) rfl (rest := []) rfl (hb hbytes d31)
      have c8 : Steps p.tables e below (s₁.setTop (entryFrame m #[.ref b, .int (Int32.ofNat o), .ref d, .int (Int32.ofNat q), .int (Int32.ofNat len)] 7)) (T7.setTop (mkF m 32 #[.val (.ref b), .val (.int (Int32.ofNat (o + i))), .val (.ref d), .val (.int (Int32.ofNat (q + i))), .val (.int (Int32.ofNat len)), .val (.int (Int32.ofNat i)), .val (.int (cv A (o + i)))] [])) := c6.trans (st7 _ (Steps.refl _))
      have c9 : Steps p.tables e below (s₁.setTop (entryFrame m #[.ref b, .int (Int32.ofNat o), .ref d, .int (Int32.ofNat q), .int (Int32.ofNat len)] 7)) (T7.setTop (mkF m 3 #[.val (.ref b), .val (.int (Int32.ofNat (o + i) + 1)), .val (.ref d), .val (.int (Int32.ofNat (q + i) + 1)), .val (.int (Int32.ofNat len)), .val (.int (Int32.ofNat i + 1)), .val (.int (cv A (o + i)))] [])) := c8.trans (by
        refine iincV X7.here hexec rfl 1 (hb hbytes d32) (by decide) rfl rfl ?_
        refine iincV X7.here hexec rfl 1 (hb hbytes d35) (by decide) rfl rfl ?_
        refine iincV X7.here hexec rfl 1 (hb hbytes d38) (by decide) rfl rfl ?_
        refine XS.goto X7.here hexec rfl (pc0 := 41) rfl (hb hbytes d41) (by decide) rfl ?_
        exact Steps.refl _)
      have c10 : Steps p.tables e below (s₁.setTop (entryFrame m #[.ref b, .int (Int32.ofNat o), .ref d, .int (Int32.ofNat q), .int (Int32.ofNat len)] 7)) (T7.setTop (mkF m 3 #[.val (.ref b), .val (.int (Int32.ofNat (o + (i + 1)))), .val (.ref d), .val (.int (Int32.ofNat (q + (i + 1)))), .val (.int (Int32.ofNat len)), .val (.int (Int32.ofNat (i + 1))), .val (.int (cv A (o + i)))] [])) := by
        have := c9
        rw [succ32, succ32, succ32] at this
        exact this
      exact ih (i + 1) (by omega) _ (Or.inr ⟨_, rfl, rfl⟩) T7 _ (by rw [copyLocs_step, ← List.append_assoc]; exact X7) (pl.trans p7) (fl.step (by omega) hlt (by simp)) c10
  obtain ⟨T9, B9, z9, X9, p9, f9, g9⟩ := loop len 0 (by omega) .unset (Or.inl rfl) s₁ B (by simpa [copyLocs] using X0) ⟨hB0.1, fun _ _ => rfl, rfl⟩ (Laid.zero _ _ _) c2
  have c11 : Steps p.tables e below (s₁.setTop (entryFrame m #[.ref b, .int (Int32.ofNat o), .ref d, .int (Int32.ofNat q), .int (Int32.ofNat len)] 7)) (T9.setTop (mkF m 46 #[.val (.ref b), .val (.int (Int32.ofNat (o + len))), .val (.ref d), .val (.int (Int32.ofNat (q + len))), .val (.int (Int32.ofNat len)), .val (.int (Int32.ofNat len)), z9] [.int (Int32.ofNat len)])) := g9.trans (by
    refine XS.iload X9.here hexec rfl (hb hbytes d3) rfl ?_
    refine XS.iload X9.here hexec rfl (hb hbytes d5) rfl ?_
    refine XS.icmpYes X9.here hexec rfl (pc0 := 7) rfl (hb hbytes d7) rfl (ii_ge_t (nlt32 (by omega) (Nat.le_refl _))) (by decide) rfl ?_
    refine XS.iload X9.here hexec rfl (hb hbytes d44) rfl ?_
    exact Steps.refl _)
  exact ⟨T9, some (.int (Int32.ofNat len)), _, _, _, X9, by simp, rfl, rfl, (fun h => by cases h), ⟨rfl, B9, p9.from hh0, f9⟩, fun fs hl => c11.trans (X9.ireturnOut hexec hret rfl (Or.inl rfl) (hb hbytes d46) hl)⟩
end Cmp5
namespace Cmp3
def yN : MethodName := ⟨"java/lang/StringUTF16", "compress", "([CII)[B"⟩
abbrev yB : ByteArray := jdk_52_method_16_code
theorem d0 : decode yB 0 = .ok (.iload_n 2, 1) := by decide +kernel
theorem d1 : decode yB 1 = .ok (.newarray .byte, 2) := by decide +kernel
theorem d3 : decode yB 3 = .ok (.astore_n 3, 1) := by decide +kernel
theorem d4 : decode yB 4 = .ok (.aload_n 0, 1) := by decide +kernel
theorem d5 : decode yB 5 = .ok (.iload_n 1, 1) := by decide +kernel
theorem d6 : decode yB 6 = .ok (.aload_n 3, 1) := by decide +kernel
theorem d7 : decode yB 7 = .ok (.iconst 0, 1) := by decide +kernel
theorem d8 : decode yB 8 = .ok (.iload_n 2, 1) := by decide +kernel
theorem d9 : decode yB 9 = .ok (.invokestatic 115, 3) := by decide +kernel
theorem d12 : decode yB 12 = .ok (.istore 4, 2) := by decide +kernel
theorem d14 : decode yB 14 = .ok (.iload 4, 2) := by decide +kernel
theorem d16 : decode yB 16 = .ok (.iload_n 2, 1) := by decide +kernel
theorem d17 : decode yB 17 = .ok (.if_icmp (.eq) 40, 3) := by decide +kernel
theorem d57 : decode yB 57 = .ok (.aload_n 3, 1) := by decide +kernel
theorem d58 : decode yB 58 = .ok (.areturn, 1) := by decide +kernel
def site : List Cond := [.arrayClass .byte, Cmp5.tab] ++ staticW U16 115 Cmp5.yN
def tab : Cond := tabOf yN yB 6 (some (.array .byte)) site
def P (b : Addr) (A : Cell) (o len : Nat) (args : Array Value) (s : State) : Prop := args = #[.ref b, .int (Int32.ofNat o), .int (Int32.ofNat len)] ∧ Ch b A s ∧ o + len ≤ A.slots.size ∧ len ≤ 536870912 ∧ ∀ i, i < len → ¬ 255 < cv A (o + i)
def E (b : Addr) (A : Cell) (o len : Nat) (r : Option Value) (s u : State) : Prop := NewArr .byte "[B" len (fun j => .int (lo8 (cv A (o + j)))) r s u ∧ u.heap.size = s.heap.size + 1
/-- no char of the range above 255: a new byte[] of their low bytes -/
theorem law (l : Launch) (b : Addr) (A : Cell) (o len : Nat) : Law l yN 3 3 1 18 yB 6 (some (.array .byte)) site (P b A o len) (E b A o len) [] 1 len := by
  refine Law.of_walk (plainFor_of_name (by decide +kernel)) (by decide +kernel) (by decide +kernel) (by decide) (fun _ _ h => by rw [h.1]; rfl) (fun _ U U' hal hh h => ⟨h.1, h.2.1.mv hal hh, h.2.2⟩) (fun r U U' V V' h1 hal h2 h => ⟨NewArr.mv r U U' V V' h1 hal h2 h.1, by rw [h1, h2]; exact h.2⟩) ?_
  intro p e s m args below meth c s₁ X0 hexec hbytes hml hret hlk hnm hown hh0 W hP
  obtain ⟨rfl, hA, l1, l2, hp⟩ := hP
  have a31 := hA.1.2.2.2
  have c1 : Steps p.tables e below (s₁.setTop (entryFrame m #[.ref b, .int (Int32.ofNat o), .int (Int32.ofNat len)] 6)) (s₁.setTop (mkF m 0 #[.val (.ref b), .val (.int (Int32.ofNat o)), .val (.int (Int32.ofNat len)), .unset, .unset, .unset] [])) := entry rfl
  have c2 : Steps p.tables e below (s₁.setTop (entryFrame m #[.ref b, .int (Int32.ofNat o), .int (Int32.ofNat len)] 6)) (s₁.setTop (mkF m 1 #[.val (.ref b), .val (.int (Int32.ofNat o)), .val (.int (Int32.ofNat len)), .unset, .unset, .unset] [.int (Int32.ofNat len)])) := c1.trans (by
    refine XS.iloadN X0.here hexec rfl (hb hbytes d0) rfl ?_
    exact Steps.refl _)
  obtain ⟨T3, B3, X3, ba3, bs3, bv3, bh3, bf3, st3⟩ := X0.anew hexec (atype := .byte) (wk W (.arrayClass .byte)) rfl (by show len * 1 ≤ _; omega) (by omega) (g := (mkF m 1 #[.val (.ref b), .val (.int (Int32.ofNat o)), .val (.int (Int32.ofNat len)), .unset, .unset, .unset] [.int (Int32.ofNat len)])) rfl (hb hbytes d1) (rest := []) rfl (Nat.le_refl _) (by show 0 + len ≤ len; omega)
  rw [hh0] at ba3 st3
  have kp3 : XT.Kept s T3 := (XT.Kept.of_eq hh0).push bh3
  have hA3 := hA.keep X3.warmed.alike (kp3 _ _ hA.1.1)
  have hne : b ≠ s.heap.size := hA.1.ne
  have c4 : Steps p.tables e below (s₁.setTop (entryFrame m #[.ref b, .int (Int32.ofNat o), .int (Int32.ofNat len)] 6)) (T3.setTop (mkF m 3 #[.val (.ref b), .val (.int (Int32.ofNat o)), .val (.int (Int32.ofNat len)), .unset, .unset, .unset] [.ref s.heap.size])) := c2.trans (st3 _ (Steps.refl _))
  have c5 : Steps p.tables e below (s₁.setTop (entryFrame m #[.ref b, .int (Int32.ofNat o), .int (Int32.ofNat len)] 6)) (T3.setTop (mkF m 9 #[.val (.ref b), .val (.int (Int32.ofNat o)), .val (.int (Int32.ofNat len)), .val (.ref s.heap.size), .unset, .unset] [.int (Int32.ofNat len), .int 0, .ref s.heap.size, .int (Int32.ofNat o), .ref b])) := c4.trans (by
    refine XS.astoreN X3.here hexec rfl (hb hbytes d3) rfl rfl rfl ?_
    refine XS.aloadN X3.here hexec rfl (hb hbytes d4) rfl rfl ?_
    refine XS.iloadN X3.here hexec rfl (hb hbytes d5) rfl ?_
    refine XS.aloadN X3.here hexec rfl (hb hbytes d6) rfl rfl ?_
    refine iconstV X3.here hexec rfl 0 (hb hbytes d7) (by decide) ?_
    refine XS.iloadN X3.here hexec rfl (hb hbytes d8) rfl ?_
    exact Steps.refl _)
  obtain ⟨v6, T6, X6, E6, g6⟩ := X3.callS hexec (Cmp5.law l b A s.heap.size B3 o 0 len) hown (wks W (staticW U16 115 Cmp5.yN)) (wk W Cmp5.tab) (W := 0) (Nat.le_of_ble_eq_true rfl) (Nat.le_of_ble_eq_true rfl) (Nat.le_refl _) (by show 0 + len + 0 ≤ len; omega) (g := (mkF m 9 #[.val (.ref b), .val (.int (Int32.ofNat o)), .val (.int (Int32.ofNat len)), .val (.ref s.heap.size), .unset, .unset] [.int (Int32.ofNat len), .int (Int32.ofNat 0), .ref s.heap.size, .int (Int32.ofNat o), .ref b])) rfl (by rw [hml]; rfl) c5 (argsL := [.ref b, .int (Int32.ofNat o), .ref s.heap.size, .int (Int32.ofNat 0), .int (Int32.ofNat len)]) (rest := []) rfl rfl (by show 2 * 0 + 0 ≤ _; decide) (hb hbytes d9) (⟨rfl, hA3, ba3, hne, l1, by rw [bs3]; simp, hp⟩)
  obtain ⟨rfl, B6, p6, f6⟩ := E6
  have c7 : Steps p.tables e below (s₁.setTop (entryFrame m #[.ref b, .int (Int32.ofNat o), .int (Int32.ofNat len)] 6)) (T6.setTop (mkF m 12 #[.val (.ref b), .val (.int (Int32.ofNat o)), .val (.int (Int32.ofNat len)), .val (.ref s.heap.size), .unset, .unset] [.int (Int32.ofNat len)])) := g6
  have c8 : Steps p.tables e below (s₁.setTop (entryFrame m #[.ref b, .int (Int32.ofNat o), .int (Int32.ofNat len)] 6)) (T6.setTop (mkF m 58 #[.val (.ref b), .val (.int (Int32.ofNat o)), .val (.int (Int32.ofNat len)), .val (.ref s.heap.size), .val (.int (Int32.ofNat len)), .unset] [.ref s.heap.size])) := c7.trans (by
    refine XS.istore X6.here hexec rfl (hb hbytes d12) rfl rfl ?_
    refine XS.iload X6.here hexec rfl (hb hbytes d14) rfl ?_
    refine XS.iloadN X6.here hexec rfl (hb hbytes d16) rfl ?_
    refine XS.icmpYes X6.here hexec rfl (pc0 := 17) rfl (hb hbytes d17) rfl (ii_eq_t rfl) (by decide) rfl ?_
    refine XS.aloadN X6.here hexec rfl (hb hbytes d57) rfl rfl ?_
    exact Steps.refl _)
  have X8 := X6.wide (L' := []) (cells' := 1) (slots' := len) (fun x hx hlt => by
    simp only [List.nil_append, copyLocs, List.mem_map, List.mem_range] at hx
    obtain ⟨i, -, rfl⟩ := hx
    exact absurd hlt (Nat.lt_irrefl _)) (Nat.le_refl _) (by omega)
  exact ⟨T6, some (.ref s.heap.size), _, _, _, X8, rfl, rfl, rfl, (fun h => by cases h), ⟨⟨rfl, B6, ba3.like (X3.warmed.alike.symm.trans X6.warmed.alike) p6.1 f6.1 f6.2.1 f6.2.2.1, f6.2.1.trans bv3, by rw [X6.warmed.alike.findClass, f6.1]; exact bf3, by rw [f6.2.2.1, bs3]; simp, fun j hj => by rw [f6.2.2.2 j, if_pos (by omega)]; rfl, kp3.put p6 (Nat.le_refl _)⟩, by rw [p6.2.2, bh3, hh0]; simp⟩, fun fs hl => c8.trans (X8.areturnOut hexec rfl hret rfl (hb hbytes d58) hl)⟩
end Cmp3
namespace CodL
def yN : MethodName := ⟨"java/lang/StringUTF16", "coderFromArrayLen", "([BI)B"⟩
abbrev yB : ByteArray := jdk_52_method_15_code
theorem d0 : decode yB 0 = .ok (.iload_n 1, 1) := by decide +kernel
theorem d1 : decode yB 1 = .ok (.aload_n 0, 1) := by decide +kernel
theorem d2 : decode yB 2 = .ok (.arraylength, 1) := by decide +kernel
theorem d3 : decode yB 3 = .ok (.isub, 1) := by decide +kernel
theorem d4 : decode yB 4 = .ok (.bipush 31, 2) := by decide +kernel
theorem d6 : decode yB 6 = .ok (.iushr, 1) := by decide +kernel
theorem d7 : decode yB 7 = .ok (.i2b, 1) := by decide +kernel
theorem d8 : decode yB 8 = .ok (.ireturn, 1) := by decide +kernel
def site : List Cond := []
def tab : Cond := tabOf yN yB 2 (some .byte) site
def P (d : Addr) (B : Cell) (args : Array Value) (s : State) : Prop := args = #[.ref d, .int (Int32.ofNat B.slots.size)] ∧ Arr .byte d B s
def E (r : Option Value) (s u : State) : Prop := XT.PureE (some (.int 0)) r s u
/-- an array as long as the number of chars: LATIN1 -/
theorem law (l : Launch) (d : Addr) (B : Cell) : Law l yN 2 2 0 0 yB 2 (some .byte) site (P d B) E [] 0 0 := by
  refine Law.of_walk (plainFor_of_name (by decide +kernel)) (by decide +kernel) (by decide +kernel) (by decide) (fun _ _ h => by rw [h.1]; rfl) (fun _ U U' hal hh h => ⟨h.1, h.2.mv hal hh⟩) (fun r U U' V V' h1 hal h2 h => XT.PureE.mv r U U' V V' h1 hal h2 h) ?_
  intro p e s m args below meth c s₁ X0 hexec hbytes hml hret hlk hnm hown hh0 W hP
  obtain ⟨rfl, hB⟩ := hP
  have hB0 := hB.mv X0.warmed.alike hh0
  have c1 : Steps p.tables e below (s₁.setTop (entryFrame m #[.ref d, .int (Int32.ofNat B.slots.size)] 2)) (s₁.setTop (mkF m 0 #[.val (.ref d), .val (.int (Int32.ofNat B.slots.size))] [])) := entry rfl
  have c2 : Steps p.tables e below (s₁.setTop (entryFrame m #[.ref d, .int (Int32.ofNat B.slots.size)] 2)) (s₁.setTop (mkF m 2 #[.val (.ref d), .val (.int (Int32.ofNat B.slots.size))] [.ref d, .int (Int32.ofNat B.slots.size)])) := c1.trans (by
    refine XS.iloadN X0.here hexec rfl (hb hbytes d0) rfl ?_
    refine XS.aloadN X0.here hexec rfl (hb hbytes d1) rfl rfl ?_
    exact Steps.refl _)
  have c3 : Steps p.tables e below (s₁.setTop (entryFrame m #[.ref d, .int (Int32.ofNat B.slots.size)] 2)) (s₁.setTop (mkF m 8 #[.val (.ref d), .val (.int (Int32.ofNat B.slots.size))] [.int (lo8 (ushr (Int32.ofNat B.slots.size - Int32.ofNat B.slots.size) 31))])) := c2.trans (by
    refine X0.alen hexec hB0 rfl rfl (hb hbytes d2) ?_
    refine XS.isub X0.here hexec rfl (hb hbytes d3) rfl ?_
    refine bipushV X0.here hexec rfl 31 (hb hbytes d4) (by decide) ?_
    refine iushr X0.here hexec rfl (hb hbytes d6) rfl ?_
    refine i2b X0.here hexec rfl (hb hbytes d7) rfl ?_
    exact Steps.refl _)
  have e0 : lo8 (ushr (Int32.ofNat B.slots.size - Int32.ofNat B.slots.size) 31) = 0 := by rw [Int32.sub_self]; decide
  rw [e0] at c3
  exact ⟨s₁, some (.int 0), _, _, _, X0, rfl, rfl, rfl, (fun h => by cases h), ⟨rfl, hh0⟩, fun fs hl => c3.trans (X0.ireturnOut hexec hret rfl (Or.inr (Or.inr (Or.inl rfl))) (hb hbytes d8) hl)⟩
end CodL
/-- the String at a is Latin-1 over a new byte[] (the heap's one new cell): the low bytes of the len chars of A from o on; every cell but a is kept -/
def Got (a : Addr) (D : Cell) (fV fC : Field) (A : Cell) (o len : Nat) (r : Option Value) (s u : State) : Prop := r = none ∧ ∃ D' V : Cell, Blank "java/lang/String" a D' u ∧ Same D D' [fV.slot, fC.slot] ∧ D'.slots[fV.slot]? = some (.ref s.heap.size) ∧ D'.slots[fC.slot]? = some (.int 0) ∧ Arr .byte s.heap.size V u ∧ V.vm = .none ∧ u.vm.findClass "[B" = some V.cls ∧ V.slots.size = len ∧ (∀ j, j < len → V.slots[j]? = some (.int (lo8 (cv A (o + j))))) ∧ (∀ (y : Addr) (c : Cell), y ≠ a → s.heap[y]? = some c → u.heap[y]? = some c) ∧ u.heap.size = s.heap.size + 1
theorem Got.mv {a : Addr} {D A : Cell} {fV fC : Field} {o len : Nat} : ∀ r (U U' V V' : State), U'.heap = U.heap → V.vm.Alike V'.vm → V'.heap = V.heap → Got a D fV fC A o len r U V → Got a D fV fC A o len r U' V' :=
  fun r U U' V V' h1 hal h2 ⟨e0, D', X, a1, a2, a3, a4, a5, a6, a7, a8, a9, a10, a11⟩ => ⟨e0, D', X, a1.mv hal h2, a2, by rw [h1]; exact a3, a4, by rw [h1]; exact a5.mv hal h2, a6, by rw [hal.findClass]; exact a7, a8, a9, by rw [h1, h2]; exact a10, by rw [h1, h2]; exact a11⟩
namespace New4
def yN : MethodName := ⟨"java/lang/String", "<init>", "([CIILjava/lang/Void;)V"⟩
abbrev yB : ByteArray := jdk_42_method_149_code
theorem d0 : decode yB 0 = .ok (.aload_n 0, 1) := by decide +kernel
theorem d1 : decode yB 1 = .ok (.invokespecial 1, 3) := by decide +kernel
theorem d4 : decode yB 4 = .ok (.iload_n 3, 1) := by decide +kernel
theorem d5 : decode yB 5 = .ok (.ifCond (.ne) 22, 3) := by decide +kernel
theorem d27 : decode yB 27 = .ok (.getstatic 38, 3) := by decide +kernel
theorem d30 : decode yB 30 = .ok (.ifCond (.eq) 28, 3) := by decide +kernel
theorem d33 : decode yB 33 = .ok (.aload_n 1, 1) := by decide +kernel
theorem d34 : decode yB 34 = .ok (.iload_n 2, 1) := by decide +kernel
theorem d35 : decode yB 35 = .ok (.iload_n 3, 1) := by decide +kernel
theorem d36 : decode yB 36 = .ok (.invokestatic 177, 3) := by decide +kernel
theorem d39 : decode yB 39 = .ok (.astore 5, 2) := by decide +kernel
theorem d41 : decode yB 41 = .ok (.aload_n 0, 1) := by decide +kernel
theorem d42 : decode yB 42 = .ok (.aload 5, 2) := by decide +kernel
theorem d44 : decode yB 44 = .ok (.iload_n 3, 1) := by decide +kernel
theorem d45 : decode yB 45 = .ok (.invokestatic 47, 3) := by decide +kernel
theorem d48 : decode yB 48 = .ok (.putfield 15, 3) := by decide +kernel
theorem d51 : decode yB 51 = .ok (.aload_n 0, 1) := by decide +kernel
theorem d52 : decode yB 52 = .ok (.aload 5, 2) := by decide +kernel
theorem d54 : decode yB 54 = .ok (.putfield 9, 3) := by decide +kernel
theorem d57 : decode yB 57 = .ok (.return_, 1) := by decide +kernel
def site : List Cond := [.fieldLink "java/lang/String" 38 "java/lang/String" "COMPACT_STRINGS" "Z", Cmp3.tab, CodL.tab, .laysFinal "java/lang/String" "java/lang/String" "value" "[B", .fieldLink "java/lang/String" 9 "java/lang/String" "value" "[B", .laysFinal "java/lang/String" "java/lang/String" "coder" "B", .fieldLink "java/lang/String" 15 "java/lang/String" "coder" "B"] ++ objW "java/lang/String" 1 ++ staticW "java/lang/String" 177 Cmp3.yN ++ staticW "java/lang/String" 47 CodL.yN
def tab : Cond := tabOf yN yB 6 none site
def P (a : Addr) (D : Cell) (fV fC : Field) (b : Addr) (A : Cell) (z : Int32) (o len : Nat) (args : Array Value) (s : State) : Prop := args = #[.ref a, .ref b, .int (Int32.ofNat o), .int (Int32.ofNat len), .null] ∧ Blank "java/lang/String" a D s ∧ Found "java/lang/String" "value" "[B" fV s ∧ Found "java/lang/String" "coder" "B" fC s ∧ Ch b A s ∧ StaticIs s "java/lang/String" "COMPACT_STRINGS" "Z" (.int z) ∧ ¬ z = 0 ∧ 0 < len ∧ o + len ≤ A.slots.size ∧ len ≤ 536870912 ∧ ∀ i, i < len → ¬ 255 < cv A (o + i)
def E (a : Addr) (D : Cell) (fV fC : Field) (A : Cell) (o len : Nat) (r : Option Value) (s u : State) : Prop := Got a D fV fC A o len r s u
/-- len > 0, no char of the range above 255: a Latin-1 String of their low bytes -/
theorem law (l : Launch) (a : Addr) (D : Cell) (fV fC : Field) (b : Addr) (A : Cell) (z : Int32) (o len : Nat) : Law l yN 5 4 2 35 yB 6 none site (P a D fV fC b A z o len) (E a D fV fC A o len) [⟨a, fC.slot⟩, ⟨a, fV.slot⟩] 1 len := by
  refine Law.of_walk (plainFor_of_name (by decide +kernel)) (by decide +kernel) (by decide +kernel) (by decide) (fun _ _ h => by rw [h.1]; rfl) (fun _ U U' hal hh h => ⟨h.1, h.2.1.mv hal hh, h.2.2.1.al hal, h.2.2.2.1.al hal, h.2.2.2.2.1.mv hal hh, h.2.2.2.2.2.1.there hal hh, h.2.2.2.2.2.2⟩) (fun r U U' V V' h1 hal h2 h => Got.mv r U U' V V' h1 hal h2 h) ?_
  intro p e s m args below meth c s₁ X0 hexec hbytes hml hret hlk hnm hown hh0 W hP
  obtain ⟨rfl, hB, f1, f2, hA, s1, hz, l0, l1, l2, hp⟩ := hP
  have a31 := hA.1.2.2.2
  have c1 : Steps p.tables e below (s₁.setTop (entryFrame m #[.ref a, .ref b, .int (Int32.ofNat o), .int (Int32.ofNat len), .null] 6)) (s₁.setTop (mkF m 0 #[.val (.ref a), .val (.ref b), .val (.int (Int32.ofNat o)), .val (.int (Int32.ofNat len)), .val .null, .unset] [])) := entry rfl
  have c2 : Steps p.tables e below (s₁.setTop (entryFrame m #[.ref a, .ref b, .int (Int32.ofNat o), .int (Int32.ofNat len), .null] 6)) (s₁.setTop (mkF m 1 #[.val (.ref a), .val (.ref b), .val (.int (Int32.ofNat o)), .val (.int (Int32.ofNat len)), .val .null, .unset] [.ref a])) := c1.trans (by
    refine XS.aloadN X0.here hexec rfl (hb hbytes d0) rfl rfl ?_
    exact Steps.refl _)
  obtain ⟨T3, X3, q3, st3⟩ := X0.oinit hexec hown (wks W (objW "java/lang/String" 1)) (g := (mkF m 1 #[.val (.ref a), .val (.ref b), .val (.int (Int32.ofNat o)), .val (.int (Int32.ofNat len)), .val .null, .unset] [.ref a])) rfl (by rw [hml]; rfl) (rest := []) rfl (hb hbytes d1) (W := 0) (by show 2 * 0 + 0 ≤ _; decide) (Nat.le_of_ble_eq_true rfl) (Nat.le_of_ble_eq_true rfl)
  have hh3 := q3.trans hh0
  have c4 : Steps p.tables e below (s₁.setTop (entryFrame m #[.ref a, .ref b, .int (Int32.ofNat o), .int (Int32.ofNat len), .null] 6)) (T3.setTop (mkF m 27 #[.val (.ref a), .val (.ref b), .val (.int (Int32.ofNat o)), .val (.int (Int32.ofNat len)), .val .null, .unset] [])) := (c2.trans (st3 _ (Steps.refl _))).trans (by
    refine XS.iloadN X3.here hexec rfl (hb hbytes d4) rfl ?_
    refine XS.ifYes X3.here hexec rfl (pc0 := 5) rfl (hb hbytes d5) rfl (i0_ne_t (nz32 (by omega) l0)) (by decide) rfl ?_
    exact Steps.refl _)
  obtain ⟨T5, X5, q5, st5⟩ := X3.sget hexec hown (wk W (.fieldLink "java/lang/String" 38 "java/lang/String" "COMPACT_STRINGS" "Z")) s1 (fun _ _ h => by rw [hh3]; exact h) (g := (mkF m 27 #[.val (.ref a), .val (.ref b), .val (.int (Int32.ofNat o)), .val (.int (Int32.ofNat len)), .val .null, .unset] [])) rfl (hb hbytes d27)
  have hh5 := q5.trans hh3
  have c6 : Steps p.tables e below (s₁.setTop (entryFrame m #[.ref a, .ref b, .int (Int32.ofNat o), .int (Int32.ofNat len), .null] 6)) (T5.setTop (mkF m 30 #[.val (.ref a), .val (.ref b), .val (.int (Int32.ofNat o)), .val (.int (Int32.ofNat len)), .val .null, .unset] [.int z])) := c4.trans (st5 _ (Steps.refl _))
  have c7 : Steps p.tables e below (s₁.setTop (entryFrame m #[.ref a, .ref b, .int (Int32.ofNat o), .int (Int32.ofNat len), .null] 6)) (T5.setTop (mkF m 36 #[.val (.ref a), .val (.ref b), .val (.int (Int32.ofNat o)), .val (.int (Int32.ofNat len)), .val .null, .unset] [.int (Int32.ofNat len), .int (Int32.ofNat o), .ref b])) := c6.trans (by
    refine XS.ifNo X5.here hexec rfl (hb hbytes d30) rfl (i0_eq_f hz) ?_
    refine XS.aloadN X5.here hexec rfl (hb hbytes d33) rfl rfl ?_
    refine XS.iloadN X5.here hexec rfl (hb hbytes d34) rfl ?_
    refine XS.iloadN X5.here hexec rfl (hb hbytes d35) rfl ?_
    exact Steps.refl _)
  obtain ⟨v8, T8, X8, E8, g8⟩ := X5.callS hexec (Cmp3.law l b A o len) hown (wks W (staticW "java/lang/String" 177 Cmp3.yN)) (wk W Cmp3.tab) (W := 0) (Nat.le_of_ble_eq_true rfl) (Nat.le_of_ble_eq_true rfl) (Nat.le_refl _) (by show 0 + len ≤ len; omega) (g := (mkF m 36 #[.val (.ref a), .val (.ref b), .val (.int (Int32.ofNat o)), .val (.int (Int32.ofNat len)), .val .null, .unset] [.int (Int32.ofNat len), .int (Int32.ofNat o), .ref b])) rfl (by rw [hml]; rfl) c7 (argsL := [.ref b, .int (Int32.ofNat o), .int (Int32.ofNat len)]) (rest := []) rfl rfl (by show 2 * 0 + 0 ≤ _; decide) (hb hbytes d36) (⟨rfl, hA.mv X5.warmed.alike hh5, l1, l2, hp⟩)
  obtain ⟨e8, z8⟩ := E8
  obtain ⟨rfl, N, n1, n2, n3, n4, n5, n6⟩ := NewArr.mv _ T5 s _ _ hh5.symm (Vm.Alike.refl _) rfl e8
  rw [hh5] at z8
  have hB1 := hB.keep X8.warmed.alike (n6 _ _ hB.1)
  have hne : s.heap.size ≠ a := (Nat.ne_of_lt (Array.getElem?_eq_some_iff.mp hB.1).1).symm
  have c9 : Steps p.tables e below (s₁.setTop (entryFrame m #[.ref a, .ref b, .int (Int32.ofNat o), .int (Int32.ofNat len), .null] 6)) (T8.setTop (mkF m 39 #[.val (.ref a), .val (.ref b), .val (.int (Int32.ofNat o)), .val (.int (Int32.ofNat len)), .val .null, .unset] [.ref s.heap.size])) := g8
  have c10 : Steps p.tables e below (s₁.setTop (entryFrame m #[.ref a, .ref b, .int (Int32.ofNat o), .int (Int32.ofNat len), .null] 6)) (T8.setTop (mkF m 45 #[.val (.ref a), .val (.ref b), .val (.int (Int32.ofNat o)), .val (.int (Int32.ofNat len)), .val .null, .val (.ref s.heap.size)] [.int (Int32.ofNat N.slots.size), .ref s.heap.size, .ref a])) := by
    have hc : Steps p.tables e below (s₁.setTop (entryFrame m #[.ref a, .ref b, .int (Int32.ofNat o), .int (Int32.ofNat len), .null] 6)) (T8.setTop (mkF m 45 #[.val (.ref a), .val (.ref b), .val (.int (Int32.ofNat o)), .val (.int (Int32.ofNat len)), .val .null, .val (.ref s.heap.size)] [.int (Int32.ofNat len), .ref s.heap.size, .ref a])) := c9.trans (by
      refine XS.astore X8.here hexec rfl (hb hbytes d39) rfl rfl rfl ?_
      refine XS.aloadN X8.here hexec rfl (hb hbytes d41) rfl rfl ?_
      refine XS.aload X8.here hexec rfl (hb hbytes d42) rfl rfl ?_
      refine XS.iloadN X8.here hexec rfl (hb hbytes d44) rfl ?_
      exact Steps.refl _)
    rw [n4]; exact hc
  obtain ⟨v11, T11, X11, E11, g11⟩ := X8.callS hexec (CodL.law l s.heap.size N) hown (wks W (staticW "java/lang/String" 47 CodL.yN)) (wk W CodL.tab) (W := 1) (Nat.le_of_ble_eq_true rfl) (Nat.le_of_ble_eq_true rfl) (Nat.le_refl _) (by show 0 + len + 0 ≤ len; omega) (g := (mkF m 45 #[.val (.ref a), .val (.ref b), .val (.int (Int32.ofNat o)), .val (.int (Int32.ofNat len)), .val .null, .val (.ref s.heap.size)] [.int (Int32.ofNat N.slots.size), .ref s.heap.size, .ref a])) rfl (by rw [hml]; rfl) c10 (argsL := [.ref s.heap.size, .int (Int32.ofNat N.slots.size)]) (rest := [.ref a]) rfl rfl (by show 2 * 0 + (1 + 0) ≤ _; decide) (hb hbytes d45) (⟨rfl, n1⟩)
  obtain ⟨rfl, q11⟩ := E11
  have hB11 := hB1.mv (X8.warmed.alike.symm.trans X11.warmed.alike) q11
  have c12 : Steps p.tables e below (s₁.setTop (entryFrame m #[.ref a, .ref b, .int (Int32.ofNat o), .int (Int32.ofNat len), .null] 6)) (T11.setTop (mkF m 48 #[.val (.ref a), .val (.ref b), .val (.int (Int32.ofNat o)), .val (.int (Int32.ofNat len)), .val .null, .val (.ref s.heap.size)] [.int 0, .ref a])) := g11
  obtain ⟨T13, X13, p13, bl13, sl13, st13⟩ := X11.finit hexec hown (wk W (.fieldLink "java/lang/String" 15 "java/lang/String" "coder" "B")) (Or.inr ⟨_, (wk W (.laysFinal "java/lang/String" "java/lang/String" "coder" "B"))⟩) (Or.inl ⟨rfl, hnm⟩) f2 (Or.inl rfl) hB11 (t := .byte) (by decide +kernel) rfl (g := (mkF m 48 #[.val (.ref a), .val (.ref b), .val (.int (Int32.ofNat o)), .val (.int (Int32.ofNat len)), .val .null, .val (.ref s.heap.size)] [.int 0, .ref a])) rfl (rest := []) rfl (hb hbytes d48)
  have c14 : Steps p.tables e below (s₁.setTop (entryFrame m #[.ref a, .ref b, .int (Int32.ofNat o), .int (Int32.ofNat len), .null] 6)) (T13.setTop (mkF m 54 #[.val (.ref a), .val (.ref b), .val (.int (Int32.ofNat o)), .val (.int (Int32.ofNat len)), .val .null, .val (.ref s.heap.size)] [.ref s.heap.size, .ref a])) := (c12.trans (st13 _ (Steps.refl _))).trans (by
    refine XS.aloadN X13.here hexec rfl (hb hbytes d51) rfl rfl ?_
    refine XS.aload X13.here hexec rfl (hb hbytes d52) rfl rfl ?_
    exact Steps.refl _)
  obtain ⟨T15, X15, p15, bl15, sl15, st15⟩ := X13.finit hexec hown (wk W (.fieldLink "java/lang/String" 9 "java/lang/String" "value" "[B")) (Or.inr ⟨_, (wk W (.laysFinal "java/lang/String" "java/lang/String" "value" "[B"))⟩) (Or.inl ⟨rfl, hnm⟩) f1 (Or.inl rfl) bl13 (t := (.array .byte)) (by decide +kernel) rfl (g := (mkF m 54 #[.val (.ref a), .val (.ref b), .val (.int (Int32.ofNat o)), .val (.int (Int32.ofNat len)), .val .null, .val (.ref s.heap.size)] [.ref s.heap.size, .ref a])) rfl (rest := []) rfl (hb hbytes d54)
  have c16 : Steps p.tables e below (s₁.setTop (entryFrame m #[.ref a, .ref b, .int (Int32.ofNat o), .int (Int32.ofNat len), .null] 6)) (T15.setTop (mkF m 57 #[.val (.ref a), .val (.ref b), .val (.int (Int32.ofNat o)), .val (.int (Int32.ofNat len)), .val .null, .val (.ref s.heap.size)] [])) := c14.trans (st15 _ (Steps.refl _))
  have ap := apart (Or.inr ⟨_, (wk W (.laysFinal "java/lang/String" "java/lang/String" "value" "[B"))⟩) (Or.inr ⟨_, (wk W (.laysFinal "java/lang/String" "java/lang/String" "coder" "B"))⟩) f1 f2 (t₁ := .array .byte) (t₂ := .byte) (by decide +kernel) (by decide +kernel) (by decide)
  have al := X8.warmed.alike.symm.trans X15.warmed.alike
  have n7 : T11.heap[s.heap.size]? = some N := by rw [q11]; exact n1.1
  exact ⟨T15, none, _, _, _, X15, by simp, rfl, by omega, (fun _ => rfl), ⟨rfl, _, N, bl15, ((Same.refl D _).set _ (by simp)).set _ (by simp), sl15, (Cell.slots_setSlot_ne _ ap).trans sl13, n1.keep al (p15.other hne (p13.other hne n7)), n2, by rw [al.findClass]; exact n3, n4, n5, fun y c h1 h2 => p15.other h1 (p13.other h1 (by rw [q11]; exact n6 y c h2)), by rw [p15.2.2, p13.2.2, q11]; exact z8⟩, fun fs hl => c16.trans (X15.returnOut hexec hret (hb hbytes d57) hl)⟩
end New4
namespace New1
def yN : MethodName := ⟨"java/lang/String", "<init>", "([C)V"⟩
abbrev yB : ByteArray := jdk_42_method_3_code
theorem d0 : decode yB 0 = .ok (.aload_n 0, 1) := by decide +kernel
theorem d1 : decode yB 1 = .ok (.aload_n 1, 1) := by decide +kernel
theorem d2 : decode yB 2 = .ok (.iconst 0, 1) := by decide +kernel
theorem d3 : decode yB 3 = .ok (.aload_n 1, 1) := by decide +kernel
theorem d4 : decode yB 4 = .ok (.arraylength, 1) := by decide +kernel
theorem d5 : decode yB 5 = .ok (.aconst_null, 1) := by decide +kernel
theorem d6 : decode yB 6 = .ok (.invokespecial 27, 3) := by decide +kernel
theorem d9 : decode yB 9 = .ok (.return_, 1) := by decide +kernel
def site : List Cond := [New4.tab] ++ initW "java/lang/String" 27 New4.yN
def tab : Cond := tabOf yN yB 2 none site
def P (a : Addr) (D : Cell) (fV fC : Field) (b : Addr) (A : Cell) (z : Int32) (args : Array Value) (s : State) : Prop := args = #[.ref a, .ref b] ∧ Blank "java/lang/String" a D s ∧ Found "java/lang/String" "value" "[B" fV s ∧ Found "java/lang/String" "coder" "B" fC s ∧ Ch b A s ∧ StaticIs s "java/lang/String" "COMPACT_STRINGS" "Z" (.int z) ∧ ¬ z = 0 ∧ 0 < A.slots.size ∧ A.slots.size ≤ 536870912 ∧ ∀ i, i < A.slots.size → ¬ 255 < cv A i
def E (a : Addr) (D : Cell) (fV fC : Field) (A : Cell) (r : Option Value) (s u : State) : Prop := Got a D fV fC A 0 A.slots.size r s u
/-- new String(chars), not empty, no char above 255: a Latin-1 String of their low bytes -/
theorem law (l : Launch) (a : Addr) (D : Cell) (fV fC : Field) (b : Addr) (A : Cell) (z : Int32) : Law l yN 2 1 3 52 yB 2 none site (P a D fV fC b A z) (E a D fV fC A) [⟨a, fC.slot⟩, ⟨a, fV.slot⟩] 1 A.slots.size := by
  refine Law.of_walk (plainFor_of_name (by decide +kernel)) (by decide +kernel) (by decide +kernel) (by decide) (fun _ _ h => by rw [h.1]; rfl) (fun _ U U' hal hh h => ⟨h.1, h.2.1.mv hal hh, h.2.2.1.al hal, h.2.2.2.1.al hal, h.2.2.2.2.1.mv hal hh, h.2.2.2.2.2.1.there hal hh, h.2.2.2.2.2.2⟩) (fun r U U' V V' h1 hal h2 h => Got.mv r U U' V V' h1 hal h2 h) ?_
  intro p e s m args below meth c s₁ X0 hexec hbytes hml hret hlk hnm hown hh0 W hP
  obtain ⟨rfl, hB, f1, f2, hA, s1, hz, l0, l2, hp⟩ := hP
  have c1 : Steps p.tables e below (s₁.setTop (entryFrame m #[.ref a, .ref b] 2)) (s₁.setTop (mkF m 0 #[.val (.ref a), .val (.ref b)] [])) := entry rfl
  have c2 : Steps p.tables e below (s₁.setTop (entryFrame m #[.ref a, .ref b] 2)) (s₁.setTop (mkF m 6 #[.val (.ref a), .val (.ref b)] [.null, .int (Int32.ofNat A.slots.size), .int 0, .ref b, .ref a])) := c1.trans (by
    refine XS.aloadN X0.here hexec rfl (hb hbytes d0) rfl rfl ?_
    refine XS.aloadN X0.here hexec rfl (hb hbytes d1) rfl rfl ?_
    refine iconstV X0.here hexec rfl 0 (hb hbytes d2) (by decide) ?_
    refine XS.aloadN X0.here hexec rfl (hb hbytes d3) rfl rfl ?_
    refine X0.alen hexec (hA.1.mv X0.warmed.alike hh0) rfl rfl (hb hbytes d4) ?_
    refine XS.aconstNull X0.here hexec rfl (hb hbytes d5) ?_
    exact Steps.refl _)
  obtain ⟨v3, T3, X3, E3, g3⟩ := X0.callN hexec (New4.law l a D fV fC b A z 0 A.slots.size) rfl hown (wks W (initW "java/lang/String" 27 New4.yN)) (W New4.tab (by simp only [site, List.mem_cons, List.mem_append, true_or, or_true])) (W := 0) (Nat.le_of_ble_eq_true rfl) (Nat.le_of_ble_eq_true rfl) (Nat.le_refl _) (by show 0 + A.slots.size ≤ A.slots.size; omega) (g := (mkF m 6 #[.val (.ref a), .val (.ref b)] [.null, .int (Int32.ofNat A.slots.size), .int (Int32.ofNat 0), .ref b, .ref a])) rfl (by rw [hml]; rfl) c2 (argsL := [.ref b, .int (Int32.ofNat 0), .int (Int32.ofNat A.slots.size), .null]) (rest := []) rfl rfl (by show 2 * 0 + 0 ≤ _; decide) (hb hbytes d6) (⟨rfl, hB.mv X0.warmed.alike hh0, f1.al X0.warmed.alike, f2.al X0.warmed.alike, hA.mv X0.warmed.alike hh0, s1.there X0.warmed.alike hh0, hz, l0, by omega, l2, fun i hi => by rw [Nat.zero_add]; exact hp i hi⟩)
  have e0 := Got.mv _ s₁ s _ _ hh0.symm (Vm.Alike.refl _) rfl E3
  obtain rfl := e0.1
  have c4 : Steps p.tables e below (s₁.setTop (entryFrame m #[.ref a, .ref b] 2)) (T3.setTop (mkF m 9 #[.val (.ref a), .val (.ref b)] [])) := g3
  exact ⟨T3, none, _, _, _, X3, by simp, rfl, by omega, (fun _ => rfl), e0, fun fs hl => c4.trans (X3.returnOut hexec hret (hb hbytes d9) hl)⟩
theorem pays {l : Launch} {R : Room} {p : Program} {e : Env} {below : List Frame} {s : State} {sargs : Array Value} {len W : Nat} (a : Addr) (D : Cell) (fV fC : Field) (b : Addr) (A : Cell) (z : Int32) (htab : tab.before sargs s = true) (hfr : 4 ≤ R.frames) (hlo : W + 65 ≤ R.locals) :
    Back l R p e below s sargs yN len W (fun A₁ a₁ => A₁.cells + 1 ≤ R.cells ∧ A₁.slots + A.slots.size ≤ R.slots ∧ P a D fV fC b A z a₁ A₁.U) (fun A₁ _ v₁ B₁ => E a D fV fC A v₁ A₁.U B₁.U ∧ B₁.locs = A₁.locs ++ [⟨a, fC.slot⟩, ⟨a, fV.slot⟩] ∧ B₁.cells = A₁.cells + 1 ∧ B₁.slots = A₁.slots + A.slots.size) :=
  (law l a D fV fC b A z).pays htab hfr (by omega)
end New1
/-- the byte, read back as charAt reads it, is the char -/
theorem lo8_mask {x : Int32} (h0 : ¬ x < 0) (h1 : ¬ 255 < x) : lo8 x &&& 255 = x := by
  have t : ∀ k : Fin 256, lo8 (Int32.ofNat k.val) &&& 255 = Int32.ofNat k.val := by decide +kernel
  rw [Int32.lt_iff_toInt_lt] at h0 h1
  have e0 : (0 : Int32).toInt = 0 := rfl
  have e1 : (255 : Int32).toInt = 255 := rfl
  obtain ⟨k, hk⟩ : ∃ k : Nat, x.toInt = k := ⟨x.toInt.toNat, by omega⟩
  have hx : x = Int32.ofNat k := Int32.toInt_inj.mp (by rw [hk, Int32.toInt_ofNat_small (by omega)])
  rw [hx]
  exact t ⟨k, by omega⟩
end StrChars
namespace StrChars.Road
open Jvm Sem ClassFile Op Lib Jvm.Stand Jvm.Free Jvm.Free.XT
open Jvm.Lib.Cold (StaticIs)
abbrev ST : String := "java/lang/String"
/-- every table word that New1's law asks, flat -/
abbrev words : List Jvm.Cond := [.code New1.yN New1.yB 2 none, .initialized ST, .methodLink ST 27 New4.yN, .instanceMethod New4.yN,
  .code New4.yN New4.yB 6 none, .fieldLink ST 38 ST "COMPACT_STRINGS" "Z", .laysFinal ST ST "value" "[B", .fieldLink ST 9 ST "value" "[B", .laysFinal ST ST "coder" "B", .fieldLink ST 15 ST "coder" "B",
  .methodLink ST 1 Lib.objectInit, .instanceMethod Lib.objectInit, .code Lib.objectInit ⟨#[0xb1]⟩ 1 none, .methodLink ST 177 Cmp3.yN, .static Cmp3.yN, .methodLink ST 47 CodL.yN, .static CodL.yN,
  .code Cmp3.yN Cmp3.yB 6 (some (.array .byte)), .initialized U16, .arrayClass .byte, .methodLink U16 115 Cmp5.yN, .static Cmp5.yN, .code Cmp5.yN Cmp5.yB 7 (some .int), .code CodL.yN CodL.yB 2 (some .byte)]
theorem tab_of {a : Array Value} {s : State} (h : ∀ w ∈ words, w.before a s = true) : New1.tab.before a s = true := by
  have h5 : Cmp5.tab.before a s = true := unparts (wk h (.code Cmp5.yN Cmp5.yB 7 (some .int))) (wks h (.initialized Cmp5.yN.cls :: Cmp5.site))
  have hc : CodL.tab.before a s = true := unparts (wk h (.code CodL.yN CodL.yB 2 (some .byte))) (wks h (.initialized CodL.yN.cls :: CodL.site))
  have q5 : ∀ w ∈ Cmp5.tab :: words, w.before a s = true := fun w hw => (List.mem_cons.mp hw).elim (fun e => e ▸ h5) (h w)
  have h3 : Cmp3.tab.before a s = true := unparts (wk q5 (.code Cmp3.yN Cmp3.yB 6 (some (.array .byte)))) (wks q5 (.initialized Cmp3.yN.cls :: Cmp3.site))
  have q3 : ∀ w ∈ Cmp3.tab :: CodL.tab :: words, w.before a s = true := fun w hw => (List.mem_cons.mp hw).elim (fun e => e ▸ h3) fun hw => (List.mem_cons.mp hw).elim (fun e => e ▸ hc) (h w)
  have h4 : New4.tab.before a s = true := unparts (wk q3 (.code New4.yN New4.yB 6 none)) (wks q3 (.initialized New4.yN.cls :: New4.site))
  have q4 : ∀ w ∈ New4.tab :: words, w.before a s = true := fun w hw => (List.mem_cons.mp hw).elim (fun e => e ▸ h4) (h w)
  exact unparts (wk q4 (.code New1.yN New1.yB 2 none)) (wks q4 (.initialized New1.yN.cls :: New1.site))
/-- the words ride from the start Z to the walk's own state -/
theorem moved {Z s : State} {a0 args : Array Value} (hZ : Z.Warmed39 s.vm) (hw : ∀ d ∈ words, d.before a0 Z = true) : ∀ d ∈ words, d.before args s = true := fun d hd => by
  have q := hw d hd
  have t : ∀ d ∈ words, d = .arrayClass .byte ∨ (d.onTables && d.keepsFace) = true := by decide +kernel
  rcases t d hd with rfl | t
  · exact RoadKit.mvA hZ q
  · exact RoadKit.mv hZ q t
/-- WHAT COMES BACK, over the tables of the start Z: h the heap at the call, h' behind it -/
def Q (Z : State) (x : Addr) (A : Cell) (h : Heap) (v : Option Value) (h' : Heap) (L : List Loc) : Prop := v = none ∧ (∀ y ∈ L, y.base = x) ∧ RoadKit.Keep h h' [x] ∧ h'.size = h.size + 1 ∧ RoadKit.Exa Z h' x ST ∧ RoadKit.Fld Z h' x ST "value" "[B" (.ref h.size) ∧ RoadKit.Fld Z h' x ST "coder" "B" (.int 0) ∧
  (∃ V : Cell, RoadKit.Arr Z h' h.size V .byte ∧ V.vm = .none ∧ Z.vm.findClass "[B" = some V.cls ∧ V.slots.size = A.slots.size ∧ ∀ j, j < A.slots.size → V.slots[j]? = some (.int (lo8 (cv A j)))) ∧
  ∀ (O n d : String) (w : Value), RoadKit.Fld Z h x O n d w → RoadKit.slotOf Z O n d ≠ RoadKit.slotOf Z ST "value" "[B" → RoadKit.slotOf Z O n d ≠ RoadKit.slotOf Z ST "coder" "B" → RoadKit.Fld Z h' x O n d w
/-- **new String(chars) AT A CALL, IN THE ROAD'S FORM**: for specialBack behind newO: x the fresh String, b the char[] with the cell A -/
theorem back {p : Program} {l : Launch} {e : Env} {R : Room} {s : State} {args : Array Value} {below : List Frame} {len W : Nat} {Z : State} {a0 : Array Value} {h : Heap} (hZ : Z.Warmed39 s.vm) (hw : ∀ d ∈ words, d.before a0 Z = true) {kI : Nat} (wi : (Jvm.Cond.instantiable ST kI).before a0 Z = true)
    {x b : Addr} {A : Cell} {z : Int32} {v0 c0 : Value} (E : RoadKit.Exa Z h x ST) (V : RoadKit.Fld Z h x ST "value" "[B" v0) (C : RoadKit.Fld Z h x ST "coder" "B" c0) (K : RoadKit.Arr Z h b A .char) (hty : Typed .char A) (S : RoadKit.Sta Z h ST "COMPACT_STRINGS" "Z" (.int z)) (hz : ¬ z = 0)
    (l0 : 0 < A.slots.size) (l2 : A.slots.size ≤ 536870912) (hp : ∀ i, i < A.slots.size → ¬ 255 < cv A i) (hfr : 4 ≤ R.frames) (hlo : W + 65 ≤ R.locals) :
    Back l R p e below s args New1.yN len W (fun P a => a = #[.ref x, .ref b] ∧ P.U.heap = h ∧ P.cells + 1 ≤ R.cells ∧ P.slots + A.slots.size ≤ R.slots)
      (fun P _ v B => ∃ L, Q Z x A h v B.U.heap L ∧ B.locs = P.locs ++ L ∧ B.cells = P.cells + 1 ∧ B.slots = P.slots + A.slots.size) := by
  intro m meth c P g ig mk a X hg hsize hdg hW hn hp'
  obtain ⟨rfl, rfl, r1, r2⟩ := hp'
  have al : Z.vm.Alike P.U.vm := hZ.alike.trans X.warmed.alike
  obtain ⟨D, cfV, kV, iV, fV, hD, gV, stV, knV, obV, asV, slV⟩ := id V
  obtain ⟨D', cfC, kC, iC, fC, hD', gC, stC, -, -, asC, slC⟩ := id C
  cases hD.symm.trans hD'
  obtain ⟨D2, kD, e1, e2, e3, e4, e5⟩ := id E
  cases hD.symm.trans e1
  obtain ⟨c2, k2, i1, i2, i3, -⟩ := Cond.instantiable_spec wi
  cases e2.symm.trans i1
  cases e3.symm.trans i2
  obtain ⟨kU, u1, u2⟩ := al.2.2 _ _ e3
  have hB : Blank ST x D P.U := ⟨hD, ⟨knV, fun q hq => by rw [hq] at obV; cases obV⟩, by rw [al.findClass]; exact e2, kU, u1, by rw [u2]; exact i3, by rw [u2]; exact e5 i3⟩
  have F1 : Found ST "value" "[B" fV P.U := ⟨SBG.found_only al ⟨cfV, kV, iV, gV⟩, stV⟩
  have F2 : Found ST "coder" "B" fC P.U := ⟨SBG.found_only al ⟨cfC, kC, iC, gC⟩, stC⟩
  have hA : Ch b A P.U := ⟨⟨K.1, State.isArrayOf_alike al K.2.1, K.2.2, by omega⟩, hty⟩
  have hS : StaticIs P.U ST "COMPACT_STRINGS" "Z" (.int z) := by
    obtain ⟨cfS, iS, kS, fS, st, cS, t1, t2, t3, t4, t5, t6, t7⟩ := S
    exact StaticIs.there (s := { Z with heap := P.U.heap }) ⟨cfS, iS, kS, fS, st, cS, t1, t2, t3, t4, t5, (fun q => by rw [q] at t6; cases t6), t7⟩ al rfl
  obtain ⟨v, B, X', ⟨⟨hv, E', V', q1, q2, q3, q4, q5, q6, q7, q8, q9, q10, q11⟩, hl, hc, hs⟩, st⟩ := New1.pays x D fV fC b A z (tab_of (moved hZ hw)) hfr hlo m meth c P g ig mk _ X hg hsize hdg hW hn ⟨r1, r2, rfl, hB, F1, F2, hA, hS, hz, l0, l2, hp⟩
  have al' : Z.vm.Alike B.U.vm := hZ.alike.trans X'.warmed.alike
  have hsz : E'.slots.size = D.slots.size := by
    obtain ⟨-, -, -, kB, w1, w2, w3⟩ := q1
    obtain ⟨kB', y1, y2⟩ := al'.2.2 _ _ e3
    rw [q2.2.1] at w1
    cases w1.symm.trans y1
    rw [w3, e5 i3, y2]
  refine ⟨v, B, X', ⟨_, ⟨hv, ?_, ⟨by omega, fun y cy hy hn' => q10 y cy (by simpa using hn') hy, fun y cy hy => ?_⟩, q11, ⟨E', _, q1.1, by rw [q2.2.1]; exact e2, by rw [q2.2.1]; exact e3, by rw [q2.1]; exact obV, fun _ => by rw [hsz]; exact e5 i3⟩,
    ⟨E', cfV, kV, iV, fV, q1.1, gV, stV, by rw [q2.1]; exact knV, by rw [q2.1]; exact obV, by rw [q2.2.1]; exact asV, q3⟩, ⟨E', cfC, kC, iC, fC, q1.1, gC, stC, by rw [q2.1]; exact knV, by rw [q2.1]; exact obV, by rw [q2.2.1]; exact asC, q4⟩,
    ⟨V', ⟨q5.1, State.isArrayOf_alike al'.symm q5.2.1, q5.2.2.1⟩, q6, by rw [← al'.findClass]; exact q7, q8, fun j hj => by have := q9 j hj; rwa [Nat.zero_add] at this⟩, fun O n d w F n1 n2 => ?_⟩, hl, hc, hs⟩, st⟩
  · intro y hy
    simp only [List.mem_cons, List.not_mem_nil, or_false] at hy
    rcases hy with rfl | rfl <;> rfl
  · by_cases q : y = x
    · subst q
      cases hD.symm.trans hy
      exact ⟨E', q1.1, q2.2.1, q2.1, hsz⟩
    · exact ⟨cy, q10 y cy q hy, rfl, rfl, rfl⟩
  · obtain ⟨D3, cf, k, i, f, g1, g2, g3, g4, g5, g6, g7⟩ := F
    cases hD.symm.trans g1
    simp only [RoadKit.slotOf, g2, gV, gC, Option.map_some, Option.getD_some] at n1 n2
    exact ⟨E', cf, k, i, f, q1.1, g2, g3, by rw [q2.1]; exact g4, by rw [q2.1]; exact g5, by rw [q2.2.1]; exact g6, by rw [q2.2.2 f.slot (by simp [n1, n2])]; exact g7⟩
end StrChars.Road
namespace StrChars.Road
open Jvm Sem ClassFile Op Lib Jvm.Stand Jvm.Free Jvm.Free.XT
/-- WHAT COMES BACK, the byte[] as a list of values -/
def QA (Z : State) (x : Addr) (zn : Int32) (cs : List Int32) (h : Heap) (v : Option Value) (h' : Heap) (L : List Loc) : Prop := v = none ∧ (∀ y ∈ L, y.base = x) ∧ RoadKit.Keep h h' [x] ∧ h'.size = h.size + 1 ∧ RoadKit.Exa Z h' x ST ∧ RoadKit.Fld Z h' x ST "value" "[B" (.ref h.size) ∧ RoadKit.Fld Z h' x ST "coder" "B" (.int 0) ∧
  (∃ kb, Z.vm.findClass "[B" = some kb ∧ RoadKit.Arv Z h' h.size kb .byte zn (cs.map fun c => .int (lo8 c)) (.int 0)) ∧
  ∀ (O n d : String) (w : Value), RoadKit.Fld Z h x O n d w → RoadKit.slotOf Z O n d ≠ RoadKit.slotOf Z ST "value" "[B" → RoadKit.slotOf Z O n d ≠ RoadKit.slotOf Z ST "coder" "B" → RoadKit.Fld Z h' x O n d w
/-- **new String(chars) AT A CALL, THE ARRAYS AS LISTS**: the char[] at b holds cs, not empty, no char above 255 -/
theorem backArv {p : Program} {l : Launch} {e : Env} {R : Room} {s : State} {args : Array Value} {below : List Frame} {len W : Nat} {Z : State} {a0 : Array Value} {h : Heap} (hZ : Z.Warmed39 s.vm) (hw : ∀ d ∈ words, d.before a0 Z = true) {kI : Nat} (wi : (Jvm.Cond.instantiable ST kI).before a0 Z = true)
    {x b : Addr} {k : ClassId} {zn z : Int32} {cs : List Int32} {dv v0 c0 : Value} (E : RoadKit.Exa Z h x ST) (V : RoadKit.Fld Z h x ST "value" "[B" v0) (C : RoadKit.Fld Z h x ST "coder" "B" c0) (K : RoadKit.Arv Z h b k .char zn (cs.map Value.int) dv) (S : RoadKit.Sta Z h ST "COMPACT_STRINGS" "Z" (.int z)) (hz : ¬ z = 0)
    (hlen : zn.toNatClampNeg = cs.length) (h0 : 0 < cs.length) (hbig : cs.length ≤ 536870912) (hall : ∀ c ∈ cs, ¬ 255 < c) (hfr : 4 ≤ R.frames) (hlo : W + 65 ≤ R.locals) :
    Back l R p e below s args New1.yN len W (fun P a => a = #[.ref x, .ref b] ∧ P.U.heap = h ∧ P.cells + 1 ≤ R.cells ∧ P.slots + cs.length ≤ R.slots)
      (fun P _ v B => ∃ L, QA Z x zn cs h v B.U.heap L ∧ B.locs = P.locs ++ L ∧ B.cells = P.cells + 1 ∧ B.slots = P.slots + cs.length) := by
  obtain ⟨A, K1, K2, K3, K4, K5, K6⟩ := K
  have e : A.slots.size = cs.length := K3.trans hlen
  have hat : ∀ (i : Nat) (hi : i < cs.length), A.slots[i]? = some (.int cs[i]) := fun i hi => by rw [K5 i (by omega)]; simp [List.getD_eq_getElem?_getD, hi]
  have hcv : ∀ (i : Nat) (hi : i < cs.length), cv A i = cs[i] := fun i hi => by unfold cv; rw [hat i hi]
  have hty : Typed .char A := fun i v hv => by
    have hi : i < A.slots.size := (Array.getElem?_eq_some_iff.mp hv).1
    have q := K5 i hi
    rw [hv] at q
    rw [Option.some.inj q]
    exact K6 i hi
  refine Back.mono (back hZ hw wi E V C K1 hty S hz (by omega) (by omega) (fun i hi => by rw [hcv i (by omega)]; exact hall _ (List.getElem_mem _)) hfr hlo) (fun P a hp => ⟨hp.1, hp.2.1, hp.2.2.1, by rw [e]; exact hp.2.2.2⟩) (fun P a v B hp hq => ?_)
  obtain ⟨L, ⟨q1, q2, q3, q4, q5, q6, q7, ⟨V', v1, v2, v3, v4, v5⟩, q9⟩, hl, hc, hs⟩ := hq
  refine ⟨L, ⟨q1, q2, q3, q4, q5, q6, q7, ⟨V'.cls, v3, V', v1, rfl, by rw [v4, e, hlen], K4, fun i hi => ?_, fun i hi => ?_⟩, q9⟩, hl, hc, by rw [hs, e]⟩
  · have hi' : i < cs.length := by omega
    rw [v5 i (by omega), hcv i hi']; simp [List.getD_eq_getElem?_getD, hi']
  · have hi' : i < cs.length := by omega
    simp only [List.getD_eq_getElem?_getD, List.getElem?_map, List.getElem?_eq_getElem hi', Option.map_some, Option.getD_some]
    exact fits_lo8 _
end StrChars.Road
namespace StrChars.Road
open Jvm Sem ClassFile Op Lib Jvm.Stand Jvm.Free Jvm.Free.XT
/-- WHAT COMES BACK, in the writer's own shape -/
def QV (Z : State) (x : Addr) (N : Int32) (bs : List Int32) (h : Heap) (n0 : Nat) (v : Option Value) (h' : Heap) (L : List Loc) : Prop := v = none ∧ RoadKit.Fr n0 L ∧ RoadKit.Keep h h' [x] ∧ RoadKit.Exa Z h' x ST ∧ RoadKit.Fld Z h' x ST "coder" "B" (.int 0) ∧
  ∃ (t : Addr) (kb : ClassId), n0 ≤ t ∧ h.size ≤ t ∧ ¬ t = x ∧ RoadKit.Fld Z h' x ST "value" "[B" (.ref t) ∧ RoadKit.Arv Z h' t kb .byte N (bs.map Value.int) (.int 0)
/-- **new String(chars) AT A CALL, FOR THE WRITER**: a char[] of n known ints, each 0 to 255 -/
theorem backV {p : Program} {l : Launch} {e : Env} {R : Room} {s : State} {args : Array Value} {below : List Frame} {len W : Nat} {Z : State} {a0 : Array Value} {h : Heap} (hZ : Z.Warmed39 s.vm) (hw : ∀ d ∈ words, d.before a0 Z = true) {kI : Nat} (wi : (Jvm.Cond.instantiable ST kI).before a0 Z = true)
    {x b : Addr} {kC : ClassId} {cs bs : List Int32} {d v0 c0 : Value} {z N : Int32} {n n0 : Nat} (hx0 : n0 ≤ x) (hh0 : n0 ≤ h.size) (E : RoadKit.Exa Z h x ST) (V : RoadKit.Fld Z h x ST "value" "[B" v0) (C : RoadKit.Fld Z h x ST "coder" "B" c0) (K : RoadKit.Arv Z h b kC .char N (cs.map Value.int) d) (S : RoadKit.Sta Z h ST "COMPACT_STRINGS" "Z" (.int z)) (hz : ¬ z = 0)
    (hn : cs.length = n) (hN : N = Int32.ofNat n) (l0 : 0 < n) (l2 : n ≤ 4000) (hp : ∀ c ∈ cs, ¬ c < 0 ∧ ¬ (255 : Int32) < c) (hb : bs = cs.map (fun c => c.toInt8.toInt32)) (hfr : 4 ≤ R.frames) (hlo : W + 65 ≤ R.locals) :
    Back l R p e below s args (⟨"java/lang/String", "<init>", "([C)V"⟩ : MethodName) len W (fun P a => a = #[.ref x, .ref b] ∧ P.U.heap = h ∧ P.cells + 1 ≤ R.cells ∧ P.slots + n ≤ R.slots)
      (fun P _ v B => ∃ L, QV Z x N bs h n0 v B.U.heap L ∧ B.locs = P.locs ++ L ∧ B.cells = P.cells + 1 ∧ B.slots = P.slots + n) := by
  subst hn hN hb
  refine Back.mono (backArv hZ hw wi E V C K S hz (n32 (by omega)) l0 (by omega) (fun c hc => (hp c hc).2) hfr hlo) (fun P a hp => hp) (fun P a v B hp hq => ?_)
  obtain ⟨L, ⟨q1, q2, q3, q4, q5, q6, q7, ⟨kb, v1, v2⟩, q9⟩, hl, hc, hs⟩ := hq
  exact ⟨L, ⟨q1, fun y hy => by rw [q2 y hy]; exact hx0, q3, q5, q7, h.size, kb, hh0, Nat.le_refl _, Nat.ne_of_gt E.lt, q6, by rw [List.map_map]; exact v2⟩, hl, hc, hs⟩
end StrChars.Road
namespace StrChars
open Jvm Sem ClassFile Op Lib Jvm.Stand Jvm.Free.XT Jvm.Free.ALB Jvm.Free.JM Jvm.Free
open Jvm.Lib.Cold (StaticIs)
def hi8 (x : Int32) : Int32 := lo8 (x >>> ((8 : Int32) &&& 31))
/-- what StringUTF16.getChar makes of two bytes -/
def pairCh (u v : Int32) : Int32 := (((u &&& 255) <<< ((0 : Int32) &&& 31)) ||| ((v &&& 255) <<< ((8 : Int32) &&& 31))).toUInt32.toUInt16.toUInt32.toInt32
theorem shr0 (c : Int32) : c >>> ((0 : Int32) &&& 31) = c := by
  have e : ((0 : Int32) &&& 31) = 0 := by decide
  rw [e]
  apply Int32.toBitVec_inj.mp
  rw [Int32.toBitVec_shiftRight]
  have e1 : ((0 : Int32).toBitVec.smod 32) = 0#32 := by decide
  rw [e1, BitVec.sshiftRight_eq']
  exact BitVec.sshiftRight_zero
theorem lo8_and (x : Int32) : (lo8 x &&& 255).toBitVec.toNat = x.toBitVec.toNat % 256 := by
  have h : (lo8 x).toBitVec = (x.toBitVec.signExtend 8).signExtend 32 := by rw [lo8, Int8.toBitVec_toInt32, Int32.toBitVec_toInt8]
  rw [Int32.toBitVec_and, BitVec.toNat_and, h]
  have e : ((x.toBitVec.signExtend 8).signExtend 32).toNat % 256 = x.toBitVec.toNat % 256 := by
    rw [BitVec.toNat_signExtend]
    have hlt := x.toBitVec.isLt
    simp only [BitVec.toNat_setWidth, BitVec.toNat_signExtend]
    split <;> split <;> omega
  rw [← e]
  exact Nat.and_two_pow_sub_one_eq_mod _ 8
theorem pair_says {c : Int32} (h0 : ¬ c < 0) (h1 : ¬ 65535 < c) : pairCh (lo8 c) (hi8 c) = c := by
  rw [Int32.lt_iff_toInt_lt] at h0 h1
  have e0 : (0 : Int32).toInt = 0 := rfl
  have e1 : (65535 : Int32).toInt = 65535 := rfl
  have hc : c.toInt = c.toBitVec.toNat := by
    have := c.toBitVec.isLt
    have e : c.toInt = c.toBitVec.toInt := rfl
    rw [e] at h0 h1
    rw [e]
    rw [BitVec.toInt_eq_toNat_cond] at h0 h1 ⊢
    split at h0 <;> split <;> omega
  have hn : c.toBitVec.toNat < 65536 := by omega
  have a1 := lo8_and c
  have a2 : (hi8 c &&& 255).toBitVec.toNat = c.toBitVec.toNat / 256 := by
    rw [hi8, lo8_and]
    have e : ((8 : Int32) &&& 31) = 8 := by decide
    rw [e, Int32.toBitVec_shiftRight]
    have e2 : ((8 : Int32).toBitVec.smod 32) = 8#32 := by decide
    rw [e2, BitVec.sshiftRight_eq', BitVec.toNat_sshiftRight_of_msb_false (by rw [BitVec.msb_eq_false_iff_two_mul_lt]; omega)]
    show c.toBitVec.toNat >>> 8 % 256 = _
    rw [Nat.shiftRight_eq_div_pow]
    omega
  unfold pairCh
  apply Int32.toBitVec_inj.mp
  apply BitVec.eq_of_toNat_eq
  have f0 : ((0 : Int32) &&& 31) = 0 := by decide
  have f8 : ((8 : Int32) &&& 31) = 8 := by decide
  rw [f0, f8]
  have g : (((lo8 c &&& 255) <<< (0 : Int32)) ||| ((hi8 c &&& 255) <<< (8 : Int32))).toBitVec.toNat = c.toBitVec.toNat := by
    rw [Int32.toBitVec_or, Int32.toBitVec_shiftLeft, Int32.toBitVec_shiftLeft]
    have s0 : ((0 : Int32).toBitVec.smod 32) = 0#32 := by decide
    have s8 : ((8 : Int32).toBitVec.smod 32) = 8#32 := by decide
    rw [s0, s8, BitVec.toNat_or]
    simp only [BitVec.shiftLeft_eq', BitVec.toNat_shiftLeft, a1, a2]
    show (c.toBitVec.toNat % 256) <<< 0 % 2 ^ 32 ||| (c.toBitVec.toNat / 256) <<< 8 % 2 ^ 32 = _
    rw [Nat.shiftLeft_zero, Nat.mod_eq_of_lt (show c.toBitVec.toNat % 256 < 2 ^ 32 by omega), Nat.mod_eq_of_lt (show (c.toBitVec.toNat / 256) <<< 8 < 2 ^ 32 by rw [Nat.shiftLeft_eq]; omega), Nat.or_comm, ← Nat.shiftLeft_add_eq_or_of_lt (by omega), Nat.shiftLeft_eq]
    omega
  show BitVec.toNat (((((lo8 c &&& 255) <<< (0 : Int32)) ||| ((hi8 c &&& 255) <<< (8 : Int32))).toBitVec.setWidth 16).setWidth 32) = _
  rw [BitVec.toNat_setWidth, BitVec.toNat_setWidth, g]
  omega
end StrChars
namespace StrChars
open Jvm Sem ClassFile Op Lib Jvm.Stand Jvm.Free.XT Jvm.Free.ALB Jvm.Free.JM Jvm.Free
open Jvm.Lib.Cold (StaticIs)
theorem shr1 {n : Nat} (h : 2 * n < 2 ^ 31) : Int32.ofNat (2 * n) >>> ((1 : Int32) &&& 31) = Int32.ofNat n := by
  have e : ((1 : Int32) &&& 31) = 1 := by decide
  rw [e]
  apply Int32.toBitVec_inj.mp
  rw [Int32.toBitVec_shiftRight]
  have e1 : ((1 : Int32).toBitVec.smod 32) = 1#32 := by decide
  have hm : (BitVec.ofNat 32 (2 * n)).toNat = 2 * n := by rw [BitVec.toNat_ofNat, Nat.mod_eq_of_lt (by omega)]
  rw [e1, BitVec.sshiftRight_eq']
  apply BitVec.eq_of_toNat_eq
  show ((BitVec.ofNat 32 (2 * n)).sshiftRight 1).toNat = (BitVec.ofNat 32 n).toNat
  rw [BitVec.toNat_sshiftRight_of_msb_false (by rw [BitVec.msb_eq_false_iff_two_mul_lt, hm]; omega), hm, BitVec.toNat_ofNat, Nat.shiftRight_eq_div_pow]
  omega
/-- charAt's cast of a byte read back -/
def chr8 (u : Int32) : Int32 := (u &&& 255).toUInt32.toUInt16.toUInt32.toInt32
theorem chr8_lo8 {c : Int32} (h0 : ¬ c < 0) (h1 : ¬ 255 < c) : chr8 (lo8 c) = c := by
  have t : ∀ k : Fin 256, (Int32.ofNat k.val).toUInt32.toUInt16.toUInt32.toInt32 = Int32.ofNat k.val := by decide +kernel
  unfold chr8
  rw [lo8_mask h0 h1]
  rw [Int32.lt_iff_toInt_lt] at h0 h1
  have e0 : (0 : Int32).toInt = 0 := rfl
  have e1 : (255 : Int32).toInt = 255 := rfl
  obtain ⟨k, hk⟩ : ∃ k : Nat, c.toInt = k := ⟨c.toInt.toNat, by omega⟩
  have hx : c = Int32.ofNat k := Int32.toInt_inj.mp (by rw [hk, Int32.toInt_ofNat_small (by omega)])
  rw [hx]
  exact t ⟨k, by omega⟩
theorem narrow_ch {c : Int32} (h0 : ¬ c < 0) (h1 : ¬ 65535 < c) : narrow .char (.int c) = .int c := by
  have q : narrow .char (.int (pairCh (lo8 c) (hi8 c))) = .int (pairCh (lo8 c) (hi8 c)) := narrow_c _
  rwa [pair_says h0 h1] at q
/-- the array's cell V codes the n chars f 0 .. f (n - 1) by the coder cd, as the JDK does: coder 1 just where some char is above 255 -/
def Cod (cd : Int32) (n : Nat) (f : Nat → Int32) (V : Cell) : Prop := (cd = 0 ∧ V.slots.size = n ∧ ∀ j, j < n → V.slots[j]? = some (.int (lo8 (f j))) ∧ ¬ 255 < f j) ∨ (cd = 1 ∧ V.slots.size = 2 * n ∧ (∀ j, j < n → V.slots[2 * j]? = some (.int (lo8 (f j))) ∧ V.slots[2 * j + 1]? = some (.int (hi8 (f j)))) ∧ ∃ j, j < n ∧ 255 < f j)
theorem Cod.cd {cd : Int32} {n : Nat} {f : Nat → Int32} {V : Cell} (h : Cod cd n f V) : cd = 0 ∨ cd = 1 := h.imp (fun q => q.1) fun q => q.1
theorem Cod.len {cd : Int32} {n : Nat} {f : Nat → Int32} {V : Cell} (h : Cod cd n f V) (hs : V.slots.size < 2 ^ 31) : Int32.ofNat V.slots.size >>> (cd &&& 31) = Int32.ofNat n := by
  rcases h with ⟨rfl, h, -⟩ | ⟨rfl, h, -⟩
  · rw [shr0, h]
  · rw [h, shr1 (by omega)]
/-- **x is a String of the n chars f 0 .. f (n - 1)**, Latin-1 or UTF-16; its array at t has the cell V -/
def Txt (x t : Addr) (V : Cell) (cd : Int32) (n : Nat) (f : Nat → Int32) (U : State) : Prop := Exact "java/lang/String" x U ∧ Has x "java/lang/String" "value" "[B" (.ref t) U ∧ Has x "java/lang/String" "coder" "B" (.int cd) U ∧ XT.Arr .byte t V U ∧ Cod cd n f V ∧ ∀ j, j < n → ¬ f j < 0 ∧ ¬ 65535 < f j
theorem Txt.mv {x t : Addr} {V : Cell} {cd : Int32} {n : Nat} {f : Nat → Int32} {U U' : State} (h : Txt x t V cd n f U) (hal : U.vm.Alike U'.vm) (hh : U'.heap = U.heap) : Txt x t V cd n f U' := ⟨h.1.mv hal hh, h.2.1.mv hal hh, h.2.2.1.mv hal hh, h.2.2.2.1.mv hal hh, h.2.2.2.2⟩
namespace Cdr
def yN : MethodName := ⟨"java/lang/String", "coder", "()B"⟩
abbrev yB : ByteArray := jdk_42_method_152_code
theorem d0 : decode yB 0 = .ok (.getstatic 38, 3) := by decide +kernel
theorem d3 : decode yB 3 = .ok (.ifCond (.eq) 10, 3) := by decide +kernel
theorem d6 : decode yB 6 = .ok (.aload_n 0, 1) := by decide +kernel
theorem d7 : decode yB 7 = .ok (.getfield 15, 3) := by decide +kernel
theorem d10 : decode yB 10 = .ok (.goto 4, 3) := by decide +kernel
theorem d14 : decode yB 14 = .ok (.ireturn, 1) := by decide +kernel
def site : List Cond := [.fieldLink "java/lang/String" 38 "java/lang/String" "COMPACT_STRINGS" "Z", .fieldLink "java/lang/String" 15 "java/lang/String" "coder" "B"]
def tab : Cond := tabOf yN yB 1 (some .byte) site
def P (x : Addr) (cd z : Int32) (args : Array Value) (s : State) : Prop := args = #[.ref x] ∧ Has x "java/lang/String" "coder" "B" (.int cd) s ∧ (cd = 0 ∨ cd = 1) ∧ StaticIs s "java/lang/String" "COMPACT_STRINGS" "Z" (.int z) ∧ ¬ z = 0
def E (cd : Int32) (r : Option Value) (s u : State) : Prop := XT.PureE (some (.int cd)) r s u
theorem law (l : Launch) (x : Addr) (cd z : Int32) : Law l yN 1 0 0 0 yB 1 (some .byte) site (P x cd z) (E cd) [] 0 0 := by
  refine Law.of_walk (plainFor_of_name (by decide +kernel)) (by decide +kernel) (by decide +kernel) (by decide) (fun _ _ h => by rw [h.1]; rfl) (fun _ U U' hal hh h => ⟨h.1, h.2.1.mv hal hh, h.2.2.1, h.2.2.2.1.there hal hh, h.2.2.2.2⟩) (fun r U U' V V' h1 hal h2 h => XT.PureE.mv r U U' V V' h1 hal h2 h) ?_
  intro p e s m args below meth c s₁ X0 hexec hbytes hml hret hlk hnm hown hh0 W hP
  obtain ⟨rfl, hx, hc, s1, hz⟩ := hP
  have c1 : Steps p.tables e below (s₁.setTop (entryFrame m #[.ref x] 1)) (s₁.setTop (mkF m 0 #[.val (.ref x)] [])) := entry rfl
  obtain ⟨T2, X2, q2, st2⟩ := X0.sget hexec hown (wk W (.fieldLink "java/lang/String" 38 "java/lang/String" "COMPACT_STRINGS" "Z")) s1 (fun _ _ h => by rw [hh0]; exact h) (g := (mkF m 0 #[.val (.ref x)] [])) rfl (hb hbytes d0)
  have hh2 := q2.trans hh0
  have c3 : Steps p.tables e below (s₁.setTop (entryFrame m #[.ref x] 1)) (T2.setTop (mkF m 7 #[.val (.ref x)] [.ref x])) := (c1.trans (st2 _ (Steps.refl _))).trans (by
    refine XS.ifNo X2.here hexec rfl (hb hbytes d3) rfl (i0_eq_f hz) ?_
    refine XS.aloadN X2.here hexec rfl (hb hbytes d6) rfl rfl ?_
    exact Steps.refl _)
  obtain ⟨T4, X4, q4, st4⟩ := X2.hget hexec hown (wk W (.fieldLink "java/lang/String" 15 "java/lang/String" "coder" "B")) (hx.mv X2.warmed.alike hh2) (g := (mkF m 7 #[.val (.ref x)] [.ref x])) rfl (rest := []) rfl (hb hbytes d7)
  have c5 : Steps p.tables e below (s₁.setTop (entryFrame m #[.ref x] 1)) (T4.setTop (mkF m 14 #[.val (.ref x)] [.int cd])) := (c3.trans (st4 _ (Steps.refl _))).trans (by
    refine XS.goto X4.here hexec rfl (pc0 := 10) rfl (hb hbytes d10) (by decide) rfl ?_
    exact Steps.refl _)
  exact ⟨T4, some (.int cd), _, _, _, X4, rfl, rfl, rfl, (fun h => by cases h), ⟨rfl, q4.trans hh2⟩, fun fs hl => c5.trans (X4.ireturnOut hexec hret (by rcases hc with rfl | rfl <;> rfl) (Or.inr (Or.inr (Or.inl rfl))) (hb hbytes d14) hl)⟩
end Cdr
namespace Len
def yN : MethodName := ⟨"java/lang/String", "length", "()I"⟩
abbrev yB : ByteArray := jdk_42_method_54_code
theorem d0 : decode yB 0 = .ok (.aload_n 0, 1) := by decide +kernel
theorem d1 : decode yB 1 = .ok (.getfield 9, 3) := by decide +kernel
theorem d4 : decode yB 4 = .ok (.arraylength, 1) := by decide +kernel
theorem d5 : decode yB 5 = .ok (.aload_n 0, 1) := by decide +kernel
theorem d6 : decode yB 6 = .ok (.invokevirtual 335, 3) := by decide +kernel
theorem d9 : decode yB 9 = .ok (.ishr, 1) := by decide +kernel
theorem d10 : decode yB 10 = .ok (.ireturn, 1) := by decide +kernel
def site : List Cond := [.fieldLink "java/lang/String" 9 "java/lang/String" "value" "[B", Cdr.tab] ++ virtW "java/lang/String" 335 "java/lang/String" Cdr.yN Cdr.yN
def tab : Cond := tabOf yN yB 1 (some .int) site
def P (x t : Addr) (V : Cell) (cd : Int32) (n : Nat) (f : Nat → Int32) (z : Int32) (args : Array Value) (s : State) : Prop := args = #[.ref x] ∧ Txt x t V cd n f s ∧ StaticIs s "java/lang/String" "COMPACT_STRINGS" "Z" (.int z) ∧ ¬ z = 0
def E (n : Nat) (r : Option Value) (s u : State) : Prop := XT.PureE (some (.int (Int32.ofNat n))) r s u
/-- length() of a String of n chars, in either coding -/
theorem law (l : Launch) (x t : Addr) (V : Cell) (cd : Int32) (n : Nat) (f : Nat → Int32) (z : Int32) : Law l yN 1 0 1 13 yB 1 (some .int) site (P x t V cd n f z) (E n) [] 0 0 := by
  refine Law.of_walk (plainFor_of_name (by decide +kernel)) (by decide +kernel) (by decide +kernel) (by decide) (fun _ _ h => by rw [h.1]; rfl) (fun _ U U' hal hh h => ⟨h.1, h.2.1.mv hal hh, h.2.2.1.there hal hh, h.2.2.2⟩) (fun r U U' V V' h1 hal h2 h => XT.PureE.mv r U U' V V' h1 hal h2 h) ?_
  intro p e s m args below meth c s₁ X0 hexec hbytes hml hret hlk hnm hown hh0 W hP
  obtain ⟨rfl, hx, s1, hz⟩ := hP
  have v31 := hx.2.2.2.1.2.2.2
  have c1 : Steps p.tables e below (s₁.setTop (entryFrame m #[.ref x] 1)) (s₁.setTop (mkF m 1 #[.val (.ref x)] [.ref x])) := Steps.trans (entry rfl) (by
    show Steps p.tables e below (s₁.setTop (mkF m 0 #[.val (.ref x)] [])) _
    refine XS.aloadN X0.here hexec rfl (hb hbytes d0) rfl rfl ?_
    exact Steps.refl _)
  obtain ⟨T2, X2, q2, st2⟩ := X0.hget hexec hown (wk W (.fieldLink "java/lang/String" 9 "java/lang/String" "value" "[B")) (hx.mv X0.warmed.alike hh0).2.1 (g := (mkF m 1 #[.val (.ref x)] [.ref x])) rfl (rest := []) rfl (hb hbytes d1)
  have hh2 := q2.trans hh0
  have hx2 := hx.mv X2.warmed.alike hh2
  have c3 : Steps p.tables e below (s₁.setTop (entryFrame m #[.ref x] 1)) (T2.setTop (mkF m 6 #[.val (.ref x)] [.ref x, .int (Int32.ofNat V.slots.size)])) := (c1.trans (st2 _ (Steps.refl _))).trans (by
    refine X2.alen hexec hx2.2.2.2.1 rfl rfl (hb hbytes d4) ?_
    refine XS.aloadN X2.here hexec rfl (hb hbytes d5) rfl rfl ?_
    exact Steps.refl _)
  obtain ⟨v4, T4, X4, E4, g4⟩ := X2.callV hexec (Cdr.law l x cd z) hown (wks W (virtW "java/lang/String" 335 "java/lang/String" Cdr.yN Cdr.yN)) rfl (by decide) (wk W Cdr.tab) (W := 1) (Nat.le_of_ble_eq_true rfl) (Nat.le_of_ble_eq_true rfl) (Nat.le_refl _) (Nat.le_refl _) (hx2.1.fc X2.warmed.alike) hx2.1.is (g := (mkF m 6 #[.val (.ref x)] [.ref x, .int (Int32.ofNat V.slots.size)])) rfl (by rw [hml]; rfl) c3 (argsL := []) (rest := [.int (Int32.ofNat V.slots.size)]) rfl rfl (by show 2 * 0 + (1 + 0) ≤ _; decide) (hb hbytes d6) (⟨rfl, hx2.2.2.1, hx.2.2.2.2.1.cd, s1.there X2.warmed.alike hh2, hz⟩)
  obtain ⟨rfl, q4⟩ := E4
  have c5 : Steps p.tables e below (s₁.setTop (entryFrame m #[.ref x] 1)) (T4.setTop (mkF m 10 #[.val (.ref x)] [.int (Int32.ofNat V.slots.size >>> (cd &&& 31))])) := Steps.trans g4 (by
    refine ishr X4.here hexec rfl (hb hbytes d9) rfl ?_
    exact Steps.refl _)
  rw [hx.2.2.2.2.1.len v31] at c5
  exact ⟨T4, some (.int (Int32.ofNat n)), _, _, _, X4, rfl, rfl, rfl, (fun h => by cases h), ⟨rfl, q4.trans hh2⟩, fun fs hl => c5.trans (X4.ireturnOut hexec hret rfl (Or.inl rfl) (hb hbytes d10) hl)⟩
theorem pays {l : Launch} {R : Room} {p : Program} {e : Env} {below : List Frame} {s : State} {sargs : Array Value} {len W : Nat} (x t : Addr) (V : Cell) (cd : Int32) (n : Nat) (f : Nat → Int32) (z : Int32) (htab : tab.before sargs s = true) (hfr : 2 ≤ R.frames) (hlo : W + 25 ≤ R.locals) :
    Back l R p e below s sargs yN len W (fun A₁ a₁ => A₁.cells + 0 ≤ R.cells ∧ A₁.slots + 0 ≤ R.slots ∧ P x t V cd n f z a₁ A₁.U) (fun A₁ _ v₁ B₁ => E n v₁ A₁.U B₁.U ∧ B₁.locs = A₁.locs ++ [] ∧ B₁.cells = A₁.cells + 0 ∧ B₁.slots = A₁.slots + 0) :=
  (law l x t V cd n f z).pays htab hfr (by omega)
end Len
namespace IsL
def yN : MethodName := ⟨"java/lang/String", "isLatin1", "()Z"⟩
abbrev yB : ByteArray := jdk_42_method_154_code
theorem d0 : decode yB 0 = .ok (.getstatic 38, 3) := by decide +kernel
theorem d3 : decode yB 3 = .ok (.ifCond (.eq) 14, 3) := by decide +kernel
theorem d6 : decode yB 6 = .ok (.aload_n 0, 1) := by decide +kernel
theorem d7 : decode yB 7 = .ok (.getfield 15, 3) := by decide +kernel
theorem d10 : decode yB 10 = .ok (.ifCond (.ne) 7, 3) := by decide +kernel
theorem d13 : decode yB 13 = .ok (.iconst 1, 1) := by decide +kernel
theorem d14 : decode yB 14 = .ok (.goto 4, 3) := by decide +kernel
theorem d17 : decode yB 17 = .ok (.iconst 0, 1) := by decide +kernel
theorem d18 : decode yB 18 = .ok (.ireturn, 1) := by decide +kernel
def site : List Cond := [.fieldLink "java/lang/String" 38 "java/lang/String" "COMPACT_STRINGS" "Z", .fieldLink "java/lang/String" 15 "java/lang/String" "coder" "B"]
def tab : Cond := tabOf yN yB 1 (some .boolean) site
def P (x : Addr) (cd z : Int32) (args : Array Value) (s : State) : Prop := args = #[.ref x] ∧ Has x "java/lang/String" "coder" "B" (.int cd) s ∧ (cd = 0 ∨ cd = 1) ∧ StaticIs s "java/lang/String" "COMPACT_STRINGS" "Z" (.int z) ∧ ¬ z = 0
def E (cd : Int32) (r : Option Value) (s u : State) : Prop := XT.PureE (some (.int (1 - cd))) r s u
theorem law (l : Launch) (x : Addr) (cd z : Int32) : Law l yN 1 0 0 0 yB 1 (some .boolean) site (P x cd z) (E cd) [] 0 0 := by
  refine Law.of_walk (plainFor_of_name (by decide +kernel)) (by decide +kernel) (by decide +kernel) (by decide) (fun _ _ h => by rw [h.1]; rfl) (fun _ U U' hal hh h => ⟨h.1, h.2.1.mv hal hh, h.2.2.1, h.2.2.2.1.there hal hh, h.2.2.2.2⟩) (fun r U U' V V' h1 hal h2 h => XT.PureE.mv r U U' V V' h1 hal h2 h) ?_
  intro p e s m args below meth c s₁ X0 hexec hbytes hml hret hlk hnm hown hh0 W hP
  obtain ⟨rfl, hx, hc, s1, hz⟩ := hP
  have c1 : Steps p.tables e below (s₁.setTop (entryFrame m #[.ref x] 1)) (s₁.setTop (mkF m 0 #[.val (.ref x)] [])) := entry rfl
  obtain ⟨T2, X2, q2, st2⟩ := X0.sget hexec hown (wk W (.fieldLink "java/lang/String" 38 "java/lang/String" "COMPACT_STRINGS" "Z")) s1 (fun _ _ h => by rw [hh0]; exact h) (g := (mkF m 0 #[.val (.ref x)] [])) rfl (hb hbytes d0)
  have hh2 := q2.trans hh0
  have c3 : Steps p.tables e below (s₁.setTop (entryFrame m #[.ref x] 1)) (T2.setTop (mkF m 7 #[.val (.ref x)] [.ref x])) := (c1.trans (st2 _ (Steps.refl _))).trans (by
    refine XS.ifNo X2.here hexec rfl (hb hbytes d3) rfl (i0_eq_f hz) ?_
    refine XS.aloadN X2.here hexec rfl (hb hbytes d6) rfl rfl ?_
    exact Steps.refl _)
  obtain ⟨T4, X4, q4, st4⟩ := X2.hget hexec hown (wk W (.fieldLink "java/lang/String" 15 "java/lang/String" "coder" "B")) (hx.mv X2.warmed.alike hh2) (g := (mkF m 7 #[.val (.ref x)] [.ref x])) rfl (rest := []) rfl (hb hbytes d7)
  have c5 : Steps p.tables e below (s₁.setTop (entryFrame m #[.ref x] 1)) (T4.setTop (mkF m 10 #[.val (.ref x)] [.int cd])) := c3.trans (st4 _ (Steps.refl _))
  have c6 : Steps p.tables e below (s₁.setTop (entryFrame m #[.ref x] 1)) (T4.setTop (mkF m 18 #[.val (.ref x)] [.int (1 - cd)])) := by
    rcases hc with rfl | rfl
    · exact c5.trans (by
        refine XS.ifNo X4.here hexec rfl (hb hbytes d10) rfl (i0_ne_f rfl) ?_
        refine iconstV X4.here hexec rfl 1 (hb hbytes d13) (by decide) ?_
        refine XS.goto X4.here hexec rfl (pc0 := 14) rfl (hb hbytes d14) (by decide) rfl ?_
        exact Steps.refl _)
    · exact c5.trans (by
        refine XS.ifYes X4.here hexec rfl (pc0 := 10) rfl (hb hbytes d10) rfl (i0_ne_t (by decide)) (by decide) rfl ?_
        refine iconstV X4.here hexec rfl 0 (hb hbytes d17) (by decide) ?_
        exact Steps.refl _)
  exact ⟨T4, some (.int (1 - cd)), _, _, _, X4, rfl, rfl, rfl, (fun h => by cases h), ⟨rfl, q4.trans hh2⟩, fun fs hl => c6.trans (X4.ireturnOut hexec hret (by rcases hc with rfl | rfl <;> rfl) (Or.inr (Or.inl rfl)) (hb hbytes d18) hl)⟩
end IsL
namespace LChA
def yN : MethodName := ⟨"java/lang/StringLatin1", "charAt", "([BI)C"⟩
abbrev yB : ByteArray := jdk_43_method_2_code
theorem d0 : decode yB 0 = .ok (.iload_n 1, 1) := by decide +kernel
theorem d1 : decode yB 1 = .ok (.aload_n 0, 1) := by decide +kernel
theorem d2 : decode yB 2 = .ok (.arraylength, 1) := by decide +kernel
theorem d3 : decode yB 3 = .ok (.invokestatic 9, 3) := by decide +kernel
theorem d6 : decode yB 6 = .ok (.aload_n 0, 1) := by decide +kernel
theorem d7 : decode yB 7 = .ok (.iload_n 1, 1) := by decide +kernel
theorem d8 : decode yB 8 = .ok (.baload, 1) := by decide +kernel
theorem d9 : decode yB 9 = .ok (.sipush 255, 3) := by decide +kernel
theorem d12 : decode yB 12 = .ok (.iand, 1) := by decide +kernel
theorem d13 : decode yB 13 = .ok (.i2c, 1) := by decide +kernel
theorem d14 : decode yB 14 = .ok (.ireturn, 1) := by decide +kernel
def site : List Cond := [JO.Str_checkIndex.tab] ++ staticW "java/lang/StringLatin1" 9 JO.Str_checkIndex.yN
def tab : Cond := tabOf yN yB 2 (some .char) site
def P (t : Addr) (V : Cell) (i : Nat) (u : Int32) (fm : Value) (args : Array Value) (s : State) : Prop := args = #[.ref t, .int (Int32.ofNat i)] ∧ XT.Arr .byte t V s ∧ V.slots[i]? = some (.int u) ∧ (StaticIs s "jdk/internal/util/Preconditions" "SIOOBE_FORMATTER" "Ljava/util/function/BiFunction;" fm ∧ fm.isRef = true)
def E (u : Int32) (r : Option Value) (s w : State) : Prop := XT.PureE (some (.int (chr8 u))) r s w
theorem law (l : Launch) (t : Addr) (V : Cell) (i : Nat) (u : Int32) (fm : Value) : Law l yN 2 2 2 27 yB 2 (some .char) site (P t V i u fm) (E u) [] 0 0 := by
  refine Law.of_walk (plainFor_of_name (by decide +kernel)) (by decide +kernel) (by decide +kernel) (by decide) (fun _ _ h => by rw [h.1]; rfl) (fun _ U U' hal hh h => ⟨h.1, h.2.1.mv hal hh, h.2.2.1, h.2.2.2.1.there hal hh, h.2.2.2.2⟩) (fun r U U' V V' h1 hal h2 h => XT.PureE.mv r U U' V V' h1 hal h2 h) ?_
  intro p e s m args below meth c s₁ X0 hexec hbytes hml hret hlk hnm hown hh0 W hP
  obtain ⟨rfl, hV, hu, s1, rf⟩ := hP
  have v31 := hV.2.2.2
  have hi : i < V.slots.size := (Array.getElem?_eq_some_iff.mp hu).1
  have c1 : Steps p.tables e below (s₁.setTop (entryFrame m #[.ref t, .int (Int32.ofNat i)] 2)) (s₁.setTop (mkF m 0 #[.val (.ref t), .val (.int (Int32.ofNat i))] [])) := entry rfl
  have c2 : Steps p.tables e below (s₁.setTop (entryFrame m #[.ref t, .int (Int32.ofNat i)] 2)) (s₁.setTop (mkF m 3 #[.val (.ref t), .val (.int (Int32.ofNat i))] [.int (Int32.ofNat V.slots.size), .int (Int32.ofNat i)])) := c1.trans (by
    refine XS.iloadN X0.here hexec rfl (hb hbytes d0) rfl ?_
    refine XS.aloadN X0.here hexec rfl (hb hbytes d1) rfl rfl ?_
    refine X0.alen hexec (hV.mv X0.warmed.alike hh0) rfl rfl (hb hbytes d2) ?_
    exact Steps.refl _)
  obtain ⟨v3, T3, X3, E3, g3⟩ := X0.callS hexec (JO.Str_checkIndex.law l (Int32.ofNat i) (Int32.ofNat V.slots.size) fm) hown (wks W (staticW "java/lang/StringLatin1" 9 JO.Str_checkIndex.yN)) (wk W JO.Str_checkIndex.tab) (W := 0) (Nat.le_of_ble_eq_true rfl) (Nat.le_of_ble_eq_true rfl) (Nat.le_refl _) (Nat.le_refl _) (g := (mkF m 3 #[.val (.ref t), .val (.int (Int32.ofNat i))] [.int (Int32.ofNat V.slots.size), .int (Int32.ofNat i)])) rfl (by rw [hml]; rfl) c2 (argsL := [.int (Int32.ofNat i), .int (Int32.ofNat V.slots.size)]) (rest := []) rfl rfl (by show 2 * 0 + 0 ≤ _; decide) (hb hbytes d3) (⟨rfl, rf, s1.there X0.warmed.alike hh0, Int32.ofNat_not_neg (by omega), lt32 v31 hi⟩)
  obtain ⟨rfl, q3⟩ := E3
  have hh3 := q3.trans hh0
  have c4 : Steps p.tables e below (s₁.setTop (entryFrame m #[.ref t, .int (Int32.ofNat i)] 2)) (T3.setTop (mkF m 14 #[.val (.ref t), .val (.int (Int32.ofNat i))] [.int (chr8 u)])) := Steps.trans g3 (by
    refine XS.aloadN X3.here hexec rfl (hb hbytes d6) rfl rfl ?_
    refine XS.iloadN X3.here hexec rfl (hb hbytes d7) rfl ?_
    refine X3.aget hexec (hV.mv X3.warmed.alike hh3) rfl hu rfl rfl (hb hbytes d8) ?_
    refine sipushV X3.here hexec rfl 255 (hb hbytes d9) (by decide) ?_
    refine XS.iand X3.here hexec rfl (hb hbytes d12) rfl ?_
    refine i2c X3.here hexec rfl (hb hbytes d13) rfl ?_
    exact Steps.refl _)
  exact ⟨T3, some (.int (chr8 u)), _, _, _, X3, rfl, rfl, rfl, (fun h => by cases h), ⟨rfl, hh3⟩, fun fs hl => c4.trans (X3.ireturnOut hexec hret (narrow_c _) (Or.inr (Or.inr (Or.inr (Or.inl rfl)))) (hb hbytes d14) hl)⟩
end LChA
end StrChars
namespace StrChars.Road
open Jvm Sem ClassFile Op Lib Jvm.Stand Jvm.Free Jvm.Free.XT
open Jvm.Lib.Cold (StaticIs)
theorem consq {a : Array Value} {s : State} {c : Jvm.Cond} {L : List Jvm.Cond} (h0 : c.before a s = true) (h : ∀ w ∈ L, w.before a s = true) : ∀ w ∈ c :: L, w.before a s = true := fun w hw => (List.mem_cons.mp hw).elim (fun e => e ▸ h0) (h w)
/-- the words of String.length(), either coding -/
abbrev wordsLen : List Jvm.Cond := [.code Len.yN Len.yB 1 (some .int), .initialized ST, .fieldLink ST 9 ST "value" "[B", .fieldLink ST 38 ST "COMPACT_STRINGS" "Z", .fieldLink ST 15 ST "coder" "B", .code Cdr.yN Cdr.yB 1 (some .byte), .methodLink ST 335 Cdr.yN, .declares Cdr.yN, .selects ST Cdr.yN Cdr.yN, .instanceMethod Cdr.yN]
theorem tabLen_of {a : Array Value} {s : State} (h : ∀ w ∈ wordsLen, w.before a s = true) : Len.tab.before a s = true := by
  have hc : Cdr.tab.before a s = true := unparts (wk h (.code Cdr.yN Cdr.yB 1 (some .byte))) (wks h (.initialized Cdr.yN.cls :: Cdr.site))
  have q := consq hc h
  exact unparts (wk q (.code Len.yN Len.yB 1 (some .int))) (wks q (.initialized Len.yN.cls :: Len.site))
theorem movedLen {Z s : State} {a0 args : Array Value} (hZ : Z.Warmed39 s.vm) (hw : ∀ d ∈ wordsLen, d.before a0 Z = true) : ∀ d ∈ wordsLen, d.before args s = true := fun d hd => by
  have q := hw d hd
  have t : ∀ d ∈ wordsLen, d = .arrayClass .byte ∨ (d.onTables && d.keepsFace) = true := by decide +kernel
  rcases t d hd with rfl | t
  · exact RoadKit.mvA hZ q
  · exact RoadKit.mv hZ q t
/-- the bytes of the chars cs, low before high -/
def wideBytes : List Int32 → List Value
  | [] => []
  | c :: cs => .int (lo8 c) :: .int (hi8 c) :: wideBytes cs
theorem wide_lo (d : Value) : ∀ (cs : List Int32) (j : Nat), j < cs.length → (wideBytes cs).getD (2 * j) d = .int (lo8 (cs.getD j 0))
  | [], j, h => absurd h (Nat.not_lt_zero j)
  | c :: cs, 0, _ => rfl
  | c :: cs, j + 1, h => by
    have q := wide_lo d cs j (by simpa using h)
    rw [show 2 * (j + 1) = 2 * j + 1 + 1 from by omega]
    simpa [wideBytes] using q
theorem wide_hi (d : Value) : ∀ (cs : List Int32) (j : Nat), j < cs.length → (wideBytes cs).getD (2 * j + 1) d = .int (hi8 (cs.getD j 0))
  | [], j, h => absurd h (Nat.not_lt_zero j)
  | c :: cs, 0, _ => rfl
  | c :: cs, j + 1, h => by
    have q := wide_hi d cs j (by simpa using h)
    rw [show 2 * (j + 1) + 1 = 2 * j + 1 + 1 + 1 from by omega]
    simpa [wideBytes] using q
theorem low_at (d : Value) (cs : List Int32) (j : Nat) (h : j < cs.length) : (cs.map fun c => Value.int (lo8 c)).getD j d = .int (lo8 (cs.getD j 0)) := by
  simp [List.getD_eq_getElem?_getD, h]
/-- an array of N2 bytes vs codes the chars cs by the coder cd -/
def CodA (cs : List Int32) (cd N2 : Int32) (vs : List Value) : Prop := (cd = 0 ∧ N2 = Int32.ofNat cs.length ∧ vs = (cs.map fun c => Value.int (lo8 c)) ∧ ∀ c ∈ cs, ¬ 255 < c) ∨ (cd = 1 ∧ N2 = Int32.ofNat (2 * cs.length) ∧ vs = wideBytes cs ∧ ∃ c ∈ cs, 255 < c)
theorem CodA.cod {cs : List Int32} {cd N2 : Int32} {vs : List Value} {V : Cell} (h : CodA cs cd N2 vs) (hn : 2 * cs.length < 2 ^ 31) (hs : V.slots.size = N2.toNatClampNeg) (hv : RoadKit.Has V vs (.int 0)) : Cod cd cs.length (fun j => cs.getD j 0) V := by
  rcases h with ⟨rfl, rfl, rfl, h⟩ | ⟨rfl, rfl, rfl, c, hc, hw⟩
  · rw [n32 (by omega)] at hs
    exact Or.inl ⟨rfl, hs, fun j hj => ⟨by rw [hv j (by omega), low_at _ _ _ hj], by
      have e : cs.getD j 0 = cs[j] := by simp [List.getD_eq_getElem?_getD, hj]
      show ¬ 255 < cs.getD j 0
      rw [e]; exact h _ (List.getElem_mem _)⟩⟩
  · rw [n32 (by omega)] at hs
    obtain ⟨j, hj, rfl⟩ := List.getElem_of_mem hc
    exact Or.inr ⟨rfl, hs, fun j hj => ⟨by rw [hv _ (by omega), wide_lo _ _ _ hj], by rw [hv _ (by omega), wide_hi _ _ _ hj]⟩, j, hj, by
      have e : cs.getD j 0 = cs[j] := by simp [List.getD_eq_getElem?_getD, hj]
      show 255 < cs.getD j 0
      rw [e]; exact hw⟩
/-- an object of exactly java/lang/String, its two fields found: as the laws ask it -/
theorem strObj {Z U : State} {a0 : Array Value} {kI : Nat} (wi : (Jvm.Cond.instantiable ST kI).before a0 Z = true) (al : Z.vm.Alike U.vm) {x : Addr} {v0 c0 : Value} (E : RoadKit.Exa Z U.heap x ST) (V : RoadKit.Fld Z U.heap x ST "value" "[B" v0) (C : RoadKit.Fld Z U.heap x ST "coder" "B" c0) :
    ∃ (D : Cell) (fV fC : Field), Blank ST x D U ∧ Found ST "value" "[B" fV U ∧ Found ST "coder" "B" fC U ∧ D.slots[fV.slot]? = some v0 ∧ D.slots[fC.slot]? = some c0 ∧ RoadKit.slotOf Z ST "value" "[B" = fV.slot ∧ RoadKit.slotOf Z ST "coder" "B" = fC.slot := by
  obtain ⟨D, cfV, kV, iV, fV, hD, gV, stV, knV, obV, asV, slV⟩ := V
  obtain ⟨D', cfC, kC, iC, fC, hD', gC, stC, -, -, asC, slC⟩ := C
  cases hD.symm.trans hD'
  obtain ⟨D2, kD, e1, e2, e3, e4, e5⟩ := E
  cases hD.symm.trans e1
  obtain ⟨c2, k2, i1, i2, i3, -⟩ := Cond.instantiable_spec wi
  cases e2.symm.trans i1
  cases e3.symm.trans i2
  obtain ⟨kU, u1, u2⟩ := al.2.2 _ _ e3
  exact ⟨D, fV, fC, ⟨hD, ⟨knV, fun q hq => by rw [hq] at obV; cases obV⟩, by rw [al.findClass]; exact e2, kU, u1, by rw [u2]; exact i3, by rw [u2]; exact e5 i3⟩, ⟨SBG.found_only al ⟨cfV, kV, iV, gV⟩, stV⟩, ⟨SBG.found_only al ⟨cfC, kC, iC, gC⟩, stC⟩, slV, slC, by simp [RoadKit.slotOf, gV], by simp [RoadKit.slotOf, gC]⟩
theorem sta_is {Z U : State} (al : Z.vm.Alike U.vm) {C n d : String} {v : Value} (S : RoadKit.Sta Z U.heap C n d v) : StaticIs U C n d v := by
  obtain ⟨cfS, iS, kS, fS, st, cS, t1, t2, t3, t4, t5, t6, t7⟩ := S
  exact StaticIs.there (s := { Z with heap := U.heap }) ⟨cfS, iS, kS, fS, st, cS, t1, t2, t3, t4, t5, (fun q => by rw [q] at t6; cases t6), t7⟩ al rfl
/-- **length() OF SUCH A STRING** -/
theorem lenW {p : Program} {l : Launch} {e : Env} {R : Room} {s : State} {args : Array Value} {below : List Frame} {len W : Nat} {Z : State} {a0 : Array Value} {h : Heap} (hZ : Z.Warmed39 s.vm) (hw : ∀ d ∈ wordsLen, d.before a0 Z = true) {kI : Nat} (wi : (Jvm.Cond.instantiable ST kI).before a0 Z = true)
    {x t : Addr} {kb : ClassId} {cs : List Int32} {cd N2 z : Int32} {vs : List Value} (E : RoadKit.Exa Z h x ST) (V : RoadKit.Fld Z h x ST "value" "[B" (.ref t)) (C : RoadKit.Fld Z h x ST "coder" "B" (.int cd)) (K : RoadKit.Arv Z h t kb .byte N2 vs (.int 0)) (hc : CodA cs cd N2 vs) (hb : ∀ c ∈ cs, ¬ c < 0 ∧ ¬ (65535 : Int32) < c)
    (S : RoadKit.Sta Z h ST "COMPACT_STRINGS" "Z" (.int z)) (hz : ¬ z = 0) (l2 : cs.length ≤ 4000) (hfr : 2 ≤ R.frames) (hlo : W + 25 ≤ R.locals) :
    Back l R p e below s args (⟨"java/lang/String", "length", "()I"⟩ : MethodName) len W (fun P a => a = #[.ref x] ∧ P.U.heap = h ∧ P.cells + 0 ≤ R.cells ∧ P.slots + 0 ≤ R.slots)
      (fun P _ v B => ∃ L, (v = some (.int (Int32.ofNat cs.length)) ∧ L = [] ∧ B.U.heap = h) ∧ B.locs = P.locs ++ L ∧ B.cells = P.cells + 0 ∧ B.slots = P.slots + 0) := by
  obtain ⟨A, K1, K2, K3, K4, K5, K6⟩ := K
  have hcod := hc.cod (by omega) K3 K5
  intro m meth c P g ig mk a X hg hsize hdg hW hn hp'
  obtain ⟨rfl, rfl, r1, r2⟩ := hp'
  have al : Z.vm.Alike P.U.vm := hZ.alike.trans X.warmed.alike
  obtain ⟨D, fV, fC, hB, F1, F2, g1, g2, -, -⟩ := strObj wi al E V C
  have hx : Txt x t A cd cs.length (fun j => cs.getD j 0) P.U := ⟨⟨_, hB.2.2.1, D, hB.1, rfl, by cases q : D.vm <;> first | rfl | exact absurd q (hB.2.1.2 _)⟩, Has.of hB F1 g1, Has.of hB F2 g2, ⟨K1.1, State.isArrayOf_alike al K1.2.1, K1.2.2, by rcases hcod with ⟨-, q, -⟩ | ⟨-, q, -⟩ <;> omega⟩, hcod, fun j hj => by
    have e : cs.getD j 0 = cs[j] := by simp [List.getD_eq_getElem?_getD, hj]
    show ¬ cs.getD j 0 < 0 ∧ ¬ 65535 < cs.getD j 0
    rw [e]; exact hb _ (List.getElem_mem _)⟩
  obtain ⟨v, B, X', ⟨⟨hv, hh⟩, hl, hk, hs⟩, st⟩ := Len.pays x t A cd cs.length (fun j => cs.getD j 0) z (tabLen_of (movedLen hZ hw)) hfr hlo m meth c P g ig mk _ X hg hsize hdg hW hn ⟨r1, r2, rfl, hx, sta_is al S, hz⟩
  exact ⟨v, B, X', ⟨[], ⟨hv, rfl, hh⟩, hl, hk, hs⟩, st⟩
end StrChars.Road
namespace StrChars.Road
open Jvm Sem ClassFile Op Lib Jvm.Stand Jvm.Free Jvm.Free.XT
open Jvm.Lib.Cold (StaticIs)
/-- the road's facts of a String, as the laws ask it -/
theorem txt_of {Z U : State} {a0 : Array Value} {kI : Nat} (wi : (Jvm.Cond.instantiable ST kI).before a0 Z = true) (al : Z.vm.Alike U.vm) {x t : Addr} {kb : ClassId} {cs : List Int32} {cd N2 : Int32} {vs : List Value} (E : RoadKit.Exa Z U.heap x ST) (V : RoadKit.Fld Z U.heap x ST "value" "[B" (.ref t)) (C : RoadKit.Fld Z U.heap x ST "coder" "B" (.int cd)) (K : RoadKit.Arv Z U.heap t kb .byte N2 vs (.int 0)) (hc : CodA cs cd N2 vs) (hb : ∀ c ∈ cs, ¬ c < 0 ∧ ¬ (65535 : Int32) < c) (l2 : cs.length ≤ 4000) :
    ∃ A, Txt x t A cd cs.length (fun j => cs.getD j 0) U := by
  obtain ⟨A, K1, K2, K3, K4, K5, K6⟩ := K
  have hcod := hc.cod (by omega) K3 K5
  obtain ⟨D, fV, fC, hB, F1, F2, g1, g2, -, -⟩ := strObj wi al E V C
  exact ⟨A, ⟨_, hB.2.2.1, D, hB.1, rfl, by cases q : D.vm <;> first | rfl | exact absurd q (hB.2.1.2 _)⟩, Has.of hB F1 g1, Has.of hB F2 g2, ⟨K1.1, State.isArrayOf_alike al K1.2.1, K1.2.2, by rcases hcod with ⟨-, q, -⟩ | ⟨-, q, -⟩ <;> omega⟩, hcod, fun j hj => by
    have e : cs.getD j 0 = cs[j] := by simp [List.getD_eq_getElem?_getD, hj]
    show ¬ cs.getD j 0 < 0 ∧ ¬ 65535 < cs.getD j 0
    rw [e]; exact hb _ (List.getElem_mem _)⟩
end StrChars.Road
namespace StrChars
open Jvm Sem ClassFile Op Lib Jvm.Stand Jvm.Free.XT Jvm.Free.ALB Jvm.Free.JM Jvm.Free
open Jvm.Lib.Cold (StaticIs)
namespace ChN
def yN : MethodName := ⟨"java/lang/String", "charAt", "(I)C"⟩
abbrev yB : ByteArray := jdk_42_method_56_code
theorem d0 : decode yB 0 = .ok (.aload_n 0, 1) := by decide +kernel
theorem d1 : decode yB 1 = .ok (.invokevirtual 492, 3) := by decide +kernel
theorem d4 : decode yB 4 = .ok (.ifCond (.eq) 12, 3) := by decide +kernel
theorem d7 : decode yB 7 = .ok (.aload_n 0, 1) := by decide +kernel
theorem d8 : decode yB 8 = .ok (.getfield 9, 3) := by decide +kernel
theorem d11 : decode yB 11 = .ok (.iload_n 1, 1) := by decide +kernel
theorem d12 : decode yB 12 = .ok (.invokestatic 495, 3) := by decide +kernel
theorem d15 : decode yB 15 = .ok (.ireturn, 1) := by decide +kernel
def site : List Cond := [.fieldLink "java/lang/String" 9 "java/lang/String" "value" "[B", IsL.tab, LChA.tab] ++ virtW "java/lang/String" 492 "java/lang/String" IsL.yN IsL.yN ++ staticW "java/lang/String" 495 LChA.yN
def tab : Cond := tabOf yN yB 2 (some .char) site
def P (x t : Addr) (V : Cell) (n : Nat) (f : Nat → Int32) (z : Int32) (fm : Value) (i : Nat) (args : Array Value) (s : State) : Prop := args = #[.ref x, .int (Int32.ofNat i)] ∧ Txt x t V 0 n f s ∧ i < n ∧ StaticIs s "java/lang/String" "COMPACT_STRINGS" "Z" (.int z) ∧ ¬ z = 0 ∧ StaticIs s "jdk/internal/util/Preconditions" "SIOOBE_FORMATTER" "Ljava/util/function/BiFunction;" fm ∧ fm.isRef = true
def E (f : Nat → Int32) (i : Nat) (r : Option Value) (s u : State) : Prop := XT.PureE (some (.int (f i))) r s u
/-- charAt(i) of a Latin-1 String of n chars, i < n: f i -/
theorem law (l : Launch) (x t : Addr) (V : Cell) (n : Nat) (f : Nat → Int32) (z : Int32) (fm : Value) (i : Nat) : Law l yN 2 1 3 40 yB 2 (some .char) site (P x t V n f z fm i) (E f i) [] 0 0 := by
  refine Law.of_walk (plainFor_of_name (by decide +kernel)) (by decide +kernel) (by decide +kernel) (by decide) (fun _ _ h => by rw [h.1]; rfl) (fun _ U U' hal hh h => ⟨h.1, h.2.1.mv hal hh, h.2.2.1, h.2.2.2.1.there hal hh, h.2.2.2.2.1, h.2.2.2.2.2.1.there hal hh, h.2.2.2.2.2.2⟩) (fun r U U' V V' h1 hal h2 h => XT.PureE.mv r U U' V V' h1 hal h2 h) ?_
  intro p e s m args below meth c s₁ X0 hexec hbytes hml hret hlk hnm hown hh0 W hP
  obtain ⟨rfl, hx, hi, s1, hz, s3, rf⟩ := hP
  have v31 := hx.2.2.2.1.2.2.2
  have hr := hx.2.2.2.2.2 i hi
  have hx0 := hx.mv X0.warmed.alike hh0
  have c1 : Steps p.tables e below (s₁.setTop (entryFrame m #[.ref x, .int (Int32.ofNat i)] 2)) (s₁.setTop (mkF m 1 #[.val (.ref x), .val (.int (Int32.ofNat i))] [.ref x])) := Steps.trans (entry rfl) (by
    show Steps p.tables e below (s₁.setTop (mkF m 0 #[.val (.ref x), .val (.int (Int32.ofNat i))] [])) _
    refine XS.aloadN X0.here hexec rfl (hb hbytes d0) rfl rfl ?_
    exact Steps.refl _)
  obtain ⟨v2, T2, X2, E2, g2⟩ := X0.callV hexec (IsL.law l x 0 z) hown (wks W (virtW "java/lang/String" 492 "java/lang/String" IsL.yN IsL.yN)) rfl (by decide) (wk W IsL.tab) (W := 0) (Nat.le_of_ble_eq_true rfl) (Nat.le_of_ble_eq_true rfl) (Nat.le_refl _) (Nat.le_refl _) (hx0.1.fc X0.warmed.alike) hx0.1.is (g := (mkF m 1 #[.val (.ref x), .val (.int (Int32.ofNat i))] [.ref x])) rfl (by rw [hml]; rfl) c1 (argsL := []) (rest := []) rfl rfl (by show 2 * 0 + 0 ≤ _; decide) (hb hbytes d1) (⟨rfl, hx0.2.2.1, hx.2.2.2.2.1.cd, s1.there X0.warmed.alike hh0, hz⟩)
  obtain ⟨rfl, q2⟩ := E2
  have hh2 := q2.trans hh0
  have hx2 := hx.mv X2.warmed.alike hh2
  obtain ⟨-, k1, k2⟩ | ⟨k0, -⟩ := hx.2.2.2.2.1
  · have c3 : Steps p.tables e below (s₁.setTop (entryFrame m #[.ref x, .int (Int32.ofNat i)] 2)) (T2.setTop (mkF m 8 #[.val (.ref x), .val (.int (Int32.ofNat i))] [.ref x])) := Steps.trans g2 (by
      refine XS.ifNo X2.here hexec rfl (hb hbytes d4) rfl (i0_eq_f (by decide)) ?_
      refine XS.aloadN X2.here hexec rfl (hb hbytes d7) rfl rfl ?_
      exact Steps.refl _)
    obtain ⟨T4, X4, q4, st4⟩ := X2.hget hexec hown (wk W (.fieldLink "java/lang/String" 9 "java/lang/String" "value" "[B")) hx2.2.1 (g := (mkF m 8 #[.val (.ref x), .val (.int (Int32.ofNat i))] [.ref x])) rfl (rest := []) rfl (hb hbytes d8)
    have hh4 := q4.trans hh2
    have c5 : Steps p.tables e below (s₁.setTop (entryFrame m #[.ref x, .int (Int32.ofNat i)] 2)) (T4.setTop (mkF m 12 #[.val (.ref x), .val (.int (Int32.ofNat i))] [.int (Int32.ofNat i), .ref t])) := (c3.trans (st4 _ (Steps.refl _))).trans (by
      refine XS.iloadN X4.here hexec rfl (hb hbytes d11) rfl ?_
      exact Steps.refl _)
    obtain ⟨v6, T6, X6, E6, g6⟩ := X4.callS hexec (LChA.law l t V i (lo8 (f i)) fm) hown (wks W (staticW "java/lang/String" 495 LChA.yN)) (wk W LChA.tab) (W := 0) (Nat.le_of_ble_eq_true rfl) (Nat.le_of_ble_eq_true rfl) (Nat.le_refl _) (Nat.le_refl _) (g := (mkF m 12 #[.val (.ref x), .val (.int (Int32.ofNat i))] [.int (Int32.ofNat i), .ref t])) rfl (by rw [hml]; rfl) c5 (argsL := [.ref t, .int (Int32.ofNat i)]) (rest := []) rfl rfl (by show 2 * 0 + 0 ≤ _; decide) (hb hbytes d12) (⟨rfl, hx.2.2.2.1.mv X4.warmed.alike hh4, (k2 i hi).1, s3.there X4.warmed.alike hh4, rf⟩)
    obtain ⟨rfl, q6⟩ := E6
    rw [chr8_lo8 hr.1 (k2 i hi).2] at g6
    exact ⟨T6, some (.int (f i)), _, _, _, X6, rfl, rfl, rfl, (fun h => by cases h), ⟨rfl, q6.trans hh4⟩, fun fs hl => Steps.trans g6 (X6.ireturnOut hexec hret (narrow_ch hr.1 hr.2) (Or.inr (Or.inr (Or.inr (Or.inl rfl)))) (hb hbytes d15) hl)⟩
  · exact absurd k0 (by decide)
theorem pays {l : Launch} {R : Room} {p : Program} {e : Env} {below : List Frame} {s : State} {sargs : Array Value} {len W : Nat} (x t : Addr) (V : Cell) (n : Nat) (f : Nat → Int32) (z : Int32) (fm : Value) (i : Nat) (htab : tab.before sargs s = true) (hfr : 4 ≤ R.frames) (hlo : W + 53 ≤ R.locals) :
    Back l R p e below s sargs yN len W (fun A₁ a₁ => A₁.cells + 0 ≤ R.cells ∧ A₁.slots + 0 ≤ R.slots ∧ P x t V n f z fm i a₁ A₁.U) (fun A₁ _ v₁ B₁ => E f i v₁ A₁.U B₁.U ∧ B₁.locs = A₁.locs ++ [] ∧ B₁.cells = A₁.cells + 0 ∧ B₁.slots = A₁.slots + 0) :=
  (law l x t V n f z fm i).pays htab hfr (by omega)
end ChN
end StrChars
namespace StrChars.Road
open Jvm Sem ClassFile Op Lib Jvm.Stand Jvm.Free Jvm.Free.XT
open Jvm.Lib.Cold (StaticIs)
/-- the words of String.charAt(int), the Latin-1 road alone -/
abbrev wordsChN : List Jvm.Cond := [.code ChN.yN ChN.yB 2 (some .char), .initialized ST, .fieldLink ST 9 ST "value" "[B", .fieldLink ST 38 ST "COMPACT_STRINGS" "Z", .fieldLink ST 15 ST "coder" "B", .code IsL.yN IsL.yB 1 (some .boolean), .methodLink ST 492 IsL.yN, .declares IsL.yN, .selects ST IsL.yN IsL.yN, .instanceMethod IsL.yN,
  .methodLink ST 495 LChA.yN, .static LChA.yN, .code LChA.yN LChA.yB 2 (some .char), .initialized "java/lang/StringLatin1", .methodLink "java/lang/StringLatin1" 9 JO.Str_checkIndex.yN, .static JO.Str_checkIndex.yN, .code JO.Str_checkIndex.yN JO.Str_checkIndex.yB 2 none,
  .fieldLink ST 1053 "jdk/internal/util/Preconditions" "SIOOBE_FORMATTER" "Ljava/util/function/BiFunction;", .methodLink ST 1059 JC.PreCheck.yN, .static JC.PreCheck.yN, .code JC.PreCheck.yN JC.PreCheck.yB 3 (some .int), .initialized "jdk/internal/util/Preconditions"]
theorem tabChN_of {a : Array Value} {s : State} (h : ∀ w ∈ wordsChN, w.before a s = true) : ChN.tab.before a s = true := by
  have hp : JC.PreCheck.tab.before a s = true := unparts (wk h (.code JC.PreCheck.yN JC.PreCheck.yB 3 (some .int))) (wks h (.initialized JC.PreCheck.yN.cls :: JC.PreCheck.site))
  have qk := consq hp h
  have hk : JO.Str_checkIndex.tab.before a s = true := unparts (wk qk (.code JO.Str_checkIndex.yN JO.Str_checkIndex.yB 2 none)) (wks qk (.initialized JO.Str_checkIndex.yN.cls :: JO.Str_checkIndex.site))
  have ql := consq hk h
  have hl : LChA.tab.before a s = true := unparts (wk ql (.code LChA.yN LChA.yB 2 (some .char))) (wks ql (.initialized LChA.yN.cls :: LChA.site))
  have hi : IsL.tab.before a s = true := unparts (wk h (.code IsL.yN IsL.yB 1 (some .boolean))) (wks h (.initialized IsL.yN.cls :: IsL.site))
  have q := consq hi (consq hl h)
  exact unparts (wk q (.code ChN.yN ChN.yB 2 (some .char))) (wks q (.initialized ChN.yN.cls :: ChN.site))
theorem movedChN {Z s : State} {a0 args : Array Value} (hZ : Z.Warmed39 s.vm) (hw : ∀ d ∈ wordsChN, d.before a0 Z = true) : ∀ d ∈ wordsChN, d.before args s = true := fun d hd => by
  have t : ∀ d ∈ wordsChN, (d.onTables && d.keepsFace) = true := by decide +kernel
  exact RoadKit.mv hZ (hw d hd) (t d hd)
/-- **charAt(i) OF A LATIN-1 STRING**, i < n: the char -/
theorem chN {p : Program} {l : Launch} {e : Env} {R : Room} {s : State} {args : Array Value} {below : List Frame} {len W : Nat} {Z : State} {a0 : Array Value} {h : Heap} (hZ : Z.Warmed39 s.vm) (hw : ∀ d ∈ wordsChN, d.before a0 Z = true) {kI : Nat} (wi : (Jvm.Cond.instantiable ST kI).before a0 Z = true)
    {x t : Addr} {kb : ClassId} {cs : List Int32} {N2 z : Int32} {vs : List Value} {fm : Value} {i : Nat} {j : Int32} (E : RoadKit.Exa Z h x ST) (V : RoadKit.Fld Z h x ST "value" "[B" (.ref t)) (C : RoadKit.Fld Z h x ST "coder" "B" (.int 0)) (K : RoadKit.Arv Z h t kb .byte N2 vs (.int 0)) (hc : CodA cs 0 N2 vs) (hb : ∀ c ∈ cs, ¬ c < 0 ∧ ¬ (65535 : Int32) < c)
    (S : RoadKit.Sta Z h ST "COMPACT_STRINGS" "Z" (.int z)) (hz : ¬ z = 0) (F : RoadKit.Sta Z h "jdk/internal/util/Preconditions" "SIOOBE_FORMATTER" "Ljava/util/function/BiFunction;" fm) (rf : fm.isRef = true) (l2 : cs.length ≤ 4000) (hi : i < cs.length) (hj : j = Int32.ofNat i) (hfr : 4 ≤ R.frames) (hlo : W + 53 ≤ R.locals) :
    Back l R p e below s args (⟨"java/lang/String", "charAt", "(I)C"⟩ : MethodName) len W (fun P a => a = #[.ref x, .int j] ∧ P.U.heap = h ∧ P.cells + 0 ≤ R.cells ∧ P.slots + 0 ≤ R.slots)
      (fun P _ v B => ∃ L, (v = some (.int (cs.getD i 0)) ∧ L = [] ∧ B.U.heap = h) ∧ B.locs = P.locs ++ L ∧ B.cells = P.cells + 0 ∧ B.slots = P.slots + 0) := by
  subst hj
  intro m meth c P g ig mk a X hg hsize hdg hW hn hp'
  obtain ⟨rfl, rfl, r1, r2⟩ := hp'
  have al : Z.vm.Alike P.U.vm := hZ.alike.trans X.warmed.alike
  obtain ⟨A, hx⟩ := txt_of wi al E V C K hc hb l2
  obtain ⟨v, B, X', ⟨⟨hv, hh⟩, hl, hk, hs⟩, st⟩ := ChN.pays x t A cs.length (fun j => cs.getD j 0) z fm i (tabChN_of (movedChN hZ hw)) hfr hlo m meth c P g ig mk _ X hg hsize hdg hW hn ⟨r1, r2, rfl, hx, hi, sta_is al S, hz, sta_is al F, rf⟩
  exact ⟨v, B, X', ⟨[], ⟨hv, rfl, hh⟩, hl, hk, hs⟩, st⟩
/-- what backV says of its String, as the contracts of this text ask it: cs's low bytes, coder 0 -/
theorem codOf {cs : List Int32} {n : Nat} (hn : cs.length = n) (hb : ∀ c ∈ cs, ¬ 255 < c) : CodA cs 0 (Int32.ofNat n) ((cs.map lo8).map Value.int) := Or.inl ⟨rfl, by rw [hn], by simp [List.map_map, Function.comp_def], hb⟩
end StrChars.Road
end Jvm.Pilot.@@N@@
namespace Jvm.Pilot.@@N@@
open Jvm Jvm.ClassFile Sem Op Lib Jvm.Free Jvm.Stand Jvm.LawKit Jvm.RoadKit Jvm.Own Bundle Jvm.Pilot.@@N@@.Jvm.D
def Ctx (Z : State) (a0 : Array Value) (cz : Int32) (fm : Value) : Prop := (∀ d ∈ tables_1, d.before a0 Z = true) ∧ EW Z a0 consts_1 ∧ Sta Z Z.heap "java/lang/String" "COMPACT_STRINGS" "Z" (.int cz) ∧ ¬ cz = 0 ∧ Sta Z Z.heap "jdk/internal/util/Preconditions" "SIOOBE_FORMATTER" "Ljava/util/function/BiFunction;" fm ∧ fm.isRef = true
theorem own_pdC : parseMethodDescriptor "([C)V" = some ⟨[.array .char], none⟩ := by decide +kernel
theorem own_lo8 (v : Int32) : (v.toInt8.toInt32).toInt8.toInt32 = v.toInt8.toInt32 := by simp
theorem own_us {cs : List Int32} {i n : Nat} (h : i + n ≤ cs.length) : ((List.range n).map fun k => ((cs.map lo8).map Value.int).getD (i + k) (.int 0)) = ((((cs.drop i).take n).map lo8).map Value.int) := by
  apply List.ext_getElem
  · simp; omega
  · intro k h1 h2
    simp only [List.length_map, List.length_range] at h1
    have e : i + k < cs.length := by omega
    simp [List.getD_eq_getElem?_getD, e]
theorem own_min {a b : Int32} (h : ¬ b < a) : (if b < a then b else a) = a := if_neg h
theorem own_all_sub {cs : List Int32} {i n : Nat} {P : Int32 → Prop} (h : ∀ c ∈ cs, P c) : ∀ c ∈ (cs.drop i).take n, P c := fun c hc => h c (List.mem_of_mem_drop (List.mem_of_mem_take hc))
theorem own_len_sub {cs : List Int32} {i n : Nat} (h : i + n ≤ cs.length) : ((cs.drop i).take n).length = n := by simp; omega
theorem own_sub_all {cs : List Int32} {i j : Nat} (hi : i = 0) (hj : j = cs.length) : (cs.drop i).take (j - i) = cs := by subst hi hj; simp
theorem own_sub_nil {cs : List Int32} {i n : Nat} (h : n = 0) : (cs.drop i).take n = [] := by subst h; simp
theorem ofN_succ {a : Nat} (h : a + 1 < 2147483648) : Int32.ofNat a + 1 = Int32.ofNat (a + 1) := ofN_add (b := 1) h
theorem ofN_sub1 {a : Nat} (ha : a < 2147483648) (h : 1 ≤ a) : Int32.ofNat a - 1 = Int32.ofNat (a - 1) := ofN_sub (b := 1) ha h
def own_text : String := match tables_1[12]? with | some (Jvm.Cond.stringLink _ _ t) => t | _ => ""
def own_cs : List Int32 := own_text.toList.map (fun c => Int32.ofNat c.toNat)
theorem own_cs_len : own_cs.length = 81 := by decide +kernel
theorem own_cs_b : ∀ c ∈ own_cs, ¬ c < 0 ∧ ¬ (255 : Int32) < c := by decide +kernel
theorem own_tx : (∀ c ∈ own_text.toList, c.toNat < 256) ∧ own_text.toList.map (fun c => Value.int (Jvm.Lit.byteI c.toNat.toUInt16)) = ((own_cs.map lo8).map Value.int) := ⟨by decide +kernel, by decide +kernel⟩
theorem own_tx_len : 4 * own_text.toList.length ≤ 324 := by decide +kernel
theorem own_vs_len : (81 : Int32).toNatClampNeg = ((own_cs.map lo8).map Value.int).length := by rw [List.length_map, List.length_map, own_cs_len]; rfl
theorem own_getD_b {P : Int32 → Prop} {cs : List Int32} {k : Nat} (h : ∀ c ∈ cs, P c) (h0 : P 0) : P (cs.getD k 0) := by
  rw [List.getD_eq_getElem?_getD]
  by_cases q : k < cs.length
  · simp only [List.getElem?_eq_getElem q, Option.getD_some]; exact h _ (List.getElem_mem q)
  · rw [List.getElem?_eq_none (by omega)]; exact h0
theorem own_rem {r n : Int32} {k : Int} (hr : ¬ r < 0) (hn : n.toInt = k) (hk : 0 < k) (hk2 : k ≤ 81) : ¬ (r % n) < 0 ∧ (r % n).toNatClampNeg < 81 := by
  have r0 : (0 : Int32).toInt = 0 := rfl
  rw [Int32.lt_iff_toInt_lt, r0] at hr
  have q := (c_irem r n k hn).1 (by omega)
  have q2 := Int.emod_lt_of_pos r.toInt hk
  have q3 := Int.emod_nonneg r.toInt (show k ≠ 0 by omega)
  rw [Int32.lt_iff_toInt_lt, r0, Int32.toNatClampNeg]
  omega
theorem own_maskN {x y n : Int32} {K : Nat} (h : n = (x &&& y)) (hy : y.toInt = K) : ∃ k : Nat, n = Int32.ofNat k ∧ k ≤ K := by
  have q1 := c_and x y (by rw [hy]; omega)
  rw [hy] at q1
  refine ⟨n.toInt.toNat, Int32.toInt_inj.mp ?_, ?_⟩
  · rw [ofN (by rw [h]; have := rng32 (x &&& y); omega), h]; omega
  · rw [h]; omega
theorem own_pe {ps pl : Int32} (h1 : ps = 0 ∨ ps = 2) (h2 : ∃ k : Nat, pl = Int32.ofNat k ∧ k ≤ 3) : ∃ PE : Nat, ps + pl = Int32.ofNat PE ∧ PE ≤ 5 := by
  obtain ⟨k, rfl, hk⟩ := h2
  rcases h1 with rfl | rfl
  · exact ⟨0 + k, ofN_add (a := 0) (by omega), by omega⟩
  · exact ⟨2 + k, ofN_add (a := 2) (by omega), by omega⟩
def own_E (hq pe qe : Int32) : Prop := (hq = 0 ∧ qe = pe) ∨ (¬ hq = 0 ∧ ∃ PE QE : Nat, pe = Int32.ofNat PE ∧ qe = Int32.ofNat QE ∧ PE + 1 ≤ QE ∧ QE ≤ 8)
theorem own_qe {hq pe ql : Int32} (h : ¬ hq = 0) (hpe : hq = 0 ∨ ∃ PE : Nat, pe = Int32.ofNat PE ∧ PE ≤ 5) (hql : ∃ k : Nat, ql = Int32.ofNat k ∧ k ≤ 7) : own_E hq pe (if (8 : Int32) < ((pe + (1 : Int32)) + ql) then (8 : Int32) else ((pe + (1 : Int32)) + ql)) := by
  obtain ⟨PE, rfl, k1⟩ := hpe.resolve_left h
  obtain ⟨QL, rfl, k2⟩ := hql
  rw [ofN_succ (by omega), ofN_add (by omega)]
  refine Or.inr ⟨h, PE, ?_⟩
  by_cases q : (8 : Int32) < Int32.ofNat (PE + 1 + QL)
  · rw [if_pos q]; exact ⟨8, rfl, rfl, by omega, by omega⟩
  · rw [if_neg q]; exact ⟨_, rfl, rfl, by omega, Nat.le_of_not_lt fun z => q ((ofN_lt (a := 8) (by omega) (by omega)).mpr z)⟩
/-- one place of the answer against the place of the array -/
def own_pa (ds vs : List Int32) (sv k : Int32) : Prop := ¬ k < Int32.ofNat ds.length ∨ (k < Int32.ofNat ds.length ∧ k.toNatClampNeg < ds.length ∧ k = Int32.ofNat k.toNatClampNeg ∧ ¬ (sv + k) < 0 ∧ (sv + k) < 8 ∧ vs.getD (sv + k).toNatClampNeg 0 = ds.getD k.toNatClampNeg 0)
theorem own_fin {vs ds : List Int32} {PE QE : Nat} (hv : vs.length = 8) (h1 : PE + 1 ≤ QE) (h2 : QE ≤ 8) (hds : ds = (vs.drop (PE + 1)).take (QE - (PE + 1))) : ds.length = QE - PE - 1 ∧ ∀ k : Nat, k < 7 → own_pa ds vs (Int32.ofNat (PE + 1)) (Int32.ofNat k) := by
  have hl : ds.length = QE - (PE + 1) := by rw [hds]; exact own_len_sub (by omega)
  refine ⟨by omega, fun k hk => ?_⟩
  unfold own_pa
  by_cases q : k < QE - (PE + 1)
  · refine Or.inr ⟨by rw [hl]; exact (ofN_lt (by omega) (by omega)).mpr q, ?_, ?_, ?_, ?_, ?_⟩
    · rw [ofN_nat (by omega), hl]; exact q
    · rw [ofN_nat (by omega)]
    · rw [ofN_add (by omega)]; exact ofN_neg (by omega)
    · rw [ofN_add (by omega)]; exact (ofN_lt (b := 8) (by omega) (by omega)).mpr (by omega)
    · rw [ofN_add (by omega), ofN_nat (by omega), ofN_nat (by omega), hds]
      have e1 : PE + 1 + k < vs.length := by omega
      simp [List.getD_eq_getElem?_getD, q, e1]
  · exact Or.inl fun z => q (by rw [hl] at z; exact (ofN_lt (by omega) (by omega)).mp z)
theorem own_wS {Z : State} {a0 : Array Value} (hw : ∀ d ∈ tables_1, d.before a0 Z = true) : ∀ d ∈ Bundle.stringAtoms, d.before a0 Z = true := fun d hd => hw d ((by decide +kernel : ∀ d ∈ Bundle.stringAtoms, d ∈ tables_1) d hd)
theorem own_words {Z : State} {a0 : Array Value} (hw : ∀ d ∈ tables_1, d.before a0 Z = true) : ∀ d ∈ StrChars.Road.words, d.before a0 Z = true := fun d hd => hw d ((by decide +kernel : ∀ d ∈ StrChars.Road.words, d ∈ tables_1) d hd)
theorem own_newStr {l : Launch} {Z : State} {a0 : Array Value} {cz : Int32} {fm : Value} (H : Ctx Z a0 cz fm) {p : Program} {e : Env} {R : Room} {s : State} {m : MethodId} {args : Array Value} {below : List Frame} {meth : Method} {c : Code} {own : String} {vm0 : Vm} {T : State} {h : Heap} {k n : Nat} {G : Outcome → State → Prop} {pc : Nat} {Ls : Array Slot} {rest : List Value}
    (X : OSt p l e R s m args below meth c own Z consts_1 vm0 T h k n) {x b : Addr} {kC : ClassId} {cs : List Int32} {d : Value} {N : Int32} {j : Nat} (hx0 : Z.heap.size ≤ x) (E : Exa Z h x "java/lang/String") (V : Fld Z h x "java/lang/String" "value" "[B" .null) (C : Fld Z h x "java/lang/String" "coder" "B" (.int (0 : Int32))) (K : Arv Z h b kC .char N (cs.map Value.int) d)
    (hN : N = Int32.ofNat cs.length) (hj : cs.length = j) (l0 : 0 < j) (l2 : j ≤ 4000) (hp : ∀ c ∈ cs, ¬ c < 0 ∧ ¬ (255 : Int32) < c) {index : Nat} (w1 : (Jvm.Cond.methodLink own index ⟨"java/lang/String", "<init>", "([C)V"⟩).before a0 Z = true) {W : Nat} (hfr : 4 ≤ R.frames) (hlo : W + 65 ≤ R.locals) (hsize : Ls.size = c.maxLocals) (hW : (rest.map fun v => v.category).sum ≤ W) (hd : decode c.code pc = .ok (.invokespecial index, 3)) (hk : k + 1 ≤ R.cells) (hn : n + j ≤ R.slots)
    (q : ∀ T' h', OSt p l e R s m args below meth c own Z consts_1 vm0 T' h' (k + 1) (n + j) → Keep h h' [x] → OStr Z h' x cs → OEnds p e below G T' (mkF m (pc + 3) Ls rest)) : OEnds p e below G T (mkF m pc Ls (.ref b :: .ref x :: rest)) := by
  obtain ⟨hw, hE, S0, hcz, -⟩ := id H
  refine X.payI (StrChars.Road.backV (W := W) (n0 := Z.heap.size) (s := s.setVm vm0) X.hZ (own_words hw) (kI := 4) (hw _ (List.mem_of_getElem? (i := 14) rfl)) (cs := cs) (bs := cs.map (fun c => c.toInt8.toInt32)) (n := j) hx0 X.old.1 E V C K (S0.ext X.old) hcz hj (by rw [hN, hj]) l0 l2 hp rfl hfr hlo) ?_ w1 (hw _ (List.mem_of_getElem? (i := 60) rfl)) (hw _ (List.mem_of_getElem? (i := 61) rfl)) rfl (by decide) (a := x) (argsL := [.ref b]) (rest := rest) rfl (lenOf own_pdC rfl) rfl hsize hW hd hk hn ?_
  · rintro v h' L ⟨q1, q2, q3, -⟩
    exact ⟨q2, ext_keep X.old q3 (allS hx0 all0), CHr.keep q3 (sfS (safe_blank X.al E V) sf0) X.chv⟩
  · rintro v T' h' L X' ⟨rfl, q2, q3, q4, q5, t, kb, -, -, -, q9, q10⟩
    subst hj
    exact q T' h' X' q3 ⟨q4, q5, ⟨t, kb, q9, by rw [hN] at q10; exact q10⟩, hp, l2⟩
theorem own_wLen {Z : State} {a0 : Array Value} (hw : ∀ d ∈ tables_1, d.before a0 Z = true) : ∀ d ∈ StrChars.Road.wordsLen, d.before a0 Z = true := fun d hd => hw d ((by decide +kernel : ∀ d ∈ StrChars.Road.wordsLen, d ∈ tables_1) d hd)
theorem own_len {l : Launch} {Z : State} {a0 : Array Value} {cz : Int32} {fm : Value} (H : Ctx Z a0 cz fm) {p : Program} {e : Env} {R : Room} {s : State} {args : Array Value} {below : List Frame} {vm0 : Vm} {h : Heap} (hZ : Z.Warmed39 vm0) (hO : Ext Z.heap h) {x : Addr} {cs : List Int32} {W : Nat} (F : OStr Z h x cs) (hfr : 2 ≤ R.frames) (hlo : W + 25 ≤ R.locals) : Back l R p e below (s.setVm vm0) args ⟨"java/lang/String", "length", "()I"⟩ 3 W (PreB R #[.ref x] h 0 0) (PostB (fun v h' L => v = some (.int (Int32.ofNat cs.length)) ∧ L = [] ∧ h' = h) 0 0) := by
  obtain ⟨hw, hE, S0, hcz, S1, rf⟩ := id H
  obtain ⟨F1, F2, ⟨t, kb, F3, F4⟩, F5, F6⟩ := F
  exact StrChars.Road.lenW (W := W) (s := s.setVm vm0) hZ (own_wLen hw) (kI := 4) (hw _ (List.mem_of_getElem? (i := 14) rfl)) F1 F3 F2 F4 (StrChars.Road.codOf rfl (fun c hc => (F5 c hc).2)) (fun c hc => up255 (F5 c hc)) (S0.ext hO) hcz F6 hfr hlo
theorem own_wCh {Z : State} {a0 : Array Value} (hw : ∀ d ∈ tables_1, d.before a0 Z = true) : ∀ d ∈ StrChars.Road.wordsChN, d.before a0 Z = true := fun d hd => hw d ((by decide +kernel : ∀ d ∈ StrChars.Road.wordsChN, d ∈ tables_1) d hd)
theorem own_chr {l : Launch} {Z : State} {a0 : Array Value} {cz : Int32} {fm : Value} (H : Ctx Z a0 cz fm) {p : Program} {e : Env} {R : Room} {s : State} {args : Array Value} {below : List Frame} {vm0 : Vm} {h : Heap} (hZ : Z.Warmed39 vm0) (hO : Ext Z.heap h) {x : Addr} {cs : List Int32} {W i : Nat} {j : Int32} (F : OStr Z h x cs) (hi : i < cs.length) (hj : j = Int32.ofNat i) (hfr : 4 ≤ R.frames) (hlo : W + 53 ≤ R.locals) : Back l R p e below (s.setVm vm0) args ⟨"java/lang/String", "charAt", "(I)C"⟩ 3 W (PreB R #[.ref x, .int j] h 0 0) (PostB (fun v h' L => v = some (.int (cs.getD i 0)) ∧ L = [] ∧ h' = h) 0 0) := by
  obtain ⟨hw, hE, S0, hcz, S1, rf⟩ := id H
  obtain ⟨F1, F2, ⟨t, kb, F3, F4⟩, F5, F6⟩ := F
  exact StrChars.Road.chN (W := W) (s := s.setVm vm0) hZ (own_wCh hw) (kI := 4) (hw _ (List.mem_of_getElem? (i := 14) rfl)) F1 F3 F2 F4 (StrChars.Road.codOf rfl (fun c hc => (F5 c hc).2)) (fun c hc => up255 (F5 c hc)) (S0.ext hO) hcz (S1.ext hO) rf F6 hi hj hfr hlo
theorem own_pf0 : plainFor (⟨"java/lang/Math", "min", "(II)I"⟩ : MethodName) = true := by first | exact plainFor_of_name (by first | (simp [plainName, overriddenIn]; done) | decide +kernel) | decide +kernel
theorem own_ef0 (m : MethodId) (x0 : Int32) (x1 : Int32)  : entryFrame m #[(.int x0), (.int x1)] 2 = mkF m 0 #[.val (.int x0), .val (.int x1)] [] := by first | (simp [entryFrame, mkF, argsToLocals, Value.category]; done) | rfl
theorem d_jdk_29_method_69_0 : decode jdk_29_method_69_code 0 = .ok (.iload_n 0, 1) := by decide +kernel
theorem d_jdk_29_method_69_1 : decode jdk_29_method_69_code 1 = .ok (.iload_n 1, 1) := by decide +kernel
theorem d_jdk_29_method_69_2 : decode jdk_29_method_69_code 2 = .ok (.if_icmp .gt 7, 3) := by decide +kernel
theorem d_jdk_29_method_69_9 : decode jdk_29_method_69_code 9 = .ok (.iload_n 1, 1) := by decide +kernel
theorem d_jdk_29_method_69_10 : decode jdk_29_method_69_code 10 = .ok (.ireturn, 1) := by decide +kernel
theorem d_jdk_29_method_69_5 : decode jdk_29_method_69_code 5 = .ok (.iload_n 0, 1) := by decide +kernel
theorem d_jdk_29_method_69_6 : decode jdk_29_method_69_code 6 = .ok (.goto 4, 3) := by decide +kernel
theorem own_pf1 : plainFor (⟨"java/util/Arrays", "checkLength", "(II)V"⟩ : MethodName) = true := by first | exact plainFor_of_name (by first | (simp [plainName, overriddenIn]; done) | decide +kernel) | decide +kernel
theorem d_jdk_65_method_131_0 : decode jdk_65_method_131_code 0 = .ok (.iload_n 1, 1) := by decide +kernel
theorem d_jdk_65_method_131_1 : decode jdk_65_method_131_code 1 = .ok (.iload_n 0, 1) := by decide +kernel
theorem d_jdk_65_method_131_2 : decode jdk_65_method_131_code 2 = .ok (.if_icmp .ge 35, 3) := by decide +kernel
theorem d_jdk_65_method_131_37 : decode jdk_65_method_131_code 37 = .ok (.return_, 1) := by decide +kernel
theorem own_pf2 : plainFor (⟨"java/util/Arrays", "copyOfRangeByte", "([BII)[B"⟩ : MethodName) = true := by first | exact plainFor_of_name (by first | (simp [plainName, overriddenIn]; done) | decide +kernel) | decide +kernel
theorem own_ef1 (m : MethodId) (x0 : Addr) (x1 : Int32) (x2 : Int32)  : entryFrame m #[(.ref x0), (.int x1), (.int x2)] 5 = mkF m 0 #[.val (.ref x0), .val (.int x1), .val (.int x2), .unset, .unset] [] := by first | (simp [entryFrame, mkF, argsToLocals, Value.category]; done) | rfl
theorem d_jdk_65_method_133_0 : decode jdk_65_method_133_code 0 = .ok (.iload_n 1, 1) := by decide +kernel
theorem d_jdk_65_method_133_1 : decode jdk_65_method_133_code 1 = .ok (.iload_n 2, 1) := by decide +kernel
theorem own_pd0 : parseMethodDescriptor "(II)V" = some ⟨[FieldType.int, FieldType.int], none⟩ := by decide +kernel
theorem d_jdk_65_method_133_2 : decode jdk_65_method_133_code 2 = .ok (.invokestatic 343, 3) := by decide +kernel
theorem d_jdk_65_method_133_5 : decode jdk_65_method_133_code 5 = .ok (.iload_n 2, 1) := by decide +kernel
theorem d_jdk_65_method_133_6 : decode jdk_65_method_133_code 6 = .ok (.iload_n 1, 1) := by decide +kernel
theorem d_jdk_65_method_133_7 : decode jdk_65_method_133_code 7 = .ok (.isub, 1) := by decide +kernel
theorem d_jdk_65_method_133_8 : decode jdk_65_method_133_code 8 = .ok (.istore_n 3, 1) := by decide +kernel
theorem d_jdk_65_method_133_9 : decode jdk_65_method_133_code 9 = .ok (.iload_n 3, 1) := by decide +kernel
theorem d_jdk_65_method_133_10 : decode jdk_65_method_133_code 10 = .ok (.newarray .byte, 2) := by decide +kernel
theorem d_jdk_65_method_133_12 : decode jdk_65_method_133_code 12 = .ok (.astore 4, 2) := by decide +kernel
theorem d_jdk_65_method_133_14 : decode jdk_65_method_133_code 14 = .ok (.aload_n 0, 1) := by decide +kernel
theorem d_jdk_65_method_133_15 : decode jdk_65_method_133_code 15 = .ok (.iload_n 1, 1) := by decide +kernel
theorem d_jdk_65_method_133_16 : decode jdk_65_method_133_code 16 = .ok (.aload 4, 2) := by decide +kernel
theorem d_jdk_65_method_133_18 : decode jdk_65_method_133_code 18 = .ok (.iconst 0, 1) := by decide +kernel
theorem d_jdk_65_method_133_19 : decode jdk_65_method_133_code 19 = .ok (.aload_n 0, 1) := by decide +kernel
theorem d_jdk_65_method_133_20 : decode jdk_65_method_133_code 20 = .ok (.arraylength, 1) := by decide +kernel
theorem d_jdk_65_method_133_21 : decode jdk_65_method_133_code 21 = .ok (.iload_n 1, 1) := by decide +kernel
theorem d_jdk_65_method_133_22 : decode jdk_65_method_133_code 22 = .ok (.isub, 1) := by decide +kernel
theorem d_jdk_65_method_133_23 : decode jdk_65_method_133_code 23 = .ok (.iload_n 3, 1) := by decide +kernel
theorem own_pd1 : parseMethodDescriptor "(II)I" = some ⟨[FieldType.int, FieldType.int], some FieldType.int⟩ := by decide +kernel
theorem d_jdk_65_method_133_24 : decode jdk_65_method_133_code 24 = .ok (.invokestatic 304, 3) := by decide +kernel
theorem d_jdk_65_method_133_27 : decode jdk_65_method_133_code 27 = .ok (.invokestatic 150, 3) := by decide +kernel
theorem d_jdk_65_method_133_30 : decode jdk_65_method_133_code 30 = .ok (.aload 4, 2) := by decide +kernel
theorem d_jdk_65_method_133_32 : decode jdk_65_method_133_code 32 = .ok (.areturn, 1) := by decide +kernel
theorem own_pf3 : plainFor (⟨"java/util/Arrays", "copyOfRange", "([BII)[B"⟩ : MethodName) = true := by first | exact plainFor_of_name (by first | (simp [plainName, overriddenIn]; done) | decide +kernel) | decide +kernel
theorem own_ef2 (m : MethodId) (x0 : Addr) (x1 : Int32) (x2 : Int32)  : entryFrame m #[(.ref x0), (.int x1), (.int x2)] 3 = mkF m 0 #[.val (.ref x0), .val (.int x1), .val (.int x2)] [] := by first | (simp [entryFrame, mkF, argsToLocals, Value.category]; done) | rfl
theorem d_jdk_65_method_132_0 : decode jdk_65_method_132_code 0 = .ok (.iload_n 1, 1) := by decide +kernel
theorem d_jdk_65_method_132_10 : decode jdk_65_method_132_code 10 = .ok (.aload_n 0, 1) := by decide +kernel
theorem d_jdk_65_method_132_11 : decode jdk_65_method_132_code 11 = .ok (.iload_n 1, 1) := by decide +kernel
theorem d_jdk_65_method_132_12 : decode jdk_65_method_132_code 12 = .ok (.iload_n 2, 1) := by decide +kernel
theorem own_pd2 : parseMethodDescriptor "([BII)[B" = some ⟨[(FieldType.array FieldType.byte), FieldType.int, FieldType.int], some (FieldType.array FieldType.byte)⟩ := by decide +kernel
theorem d_jdk_65_method_132_13 : decode jdk_65_method_132_code 13 = .ok (.invokestatic 339, 3) := by decide +kernel
theorem d_jdk_65_method_132_16 : decode jdk_65_method_132_code 16 = .ok (.areturn, 1) := by decide +kernel
theorem d_jdk_65_method_132_1 : decode jdk_65_method_132_code 1 = .ok (.ifCond .ne 9, 3) := by decide +kernel
theorem d_jdk_65_method_132_4 : decode jdk_65_method_132_code 4 = .ok (.iload_n 2, 1) := by decide +kernel
theorem d_jdk_65_method_132_5 : decode jdk_65_method_132_code 5 = .ok (.aload_n 0, 1) := by decide +kernel
theorem d_jdk_65_method_132_6 : decode jdk_65_method_132_code 6 = .ok (.arraylength, 1) := by decide +kernel
theorem d_jdk_65_method_132_7 : decode jdk_65_method_132_code 7 = .ok (.if_icmp .eq 10, 3) := by decide +kernel
theorem own_pf4 : plainFor (⟨"java/lang/String", "<init>", "([BB)V"⟩ : MethodName) = true := by first | exact plainFor_of_name (by first | (simp [plainName, overriddenIn]; done) | decide +kernel) | decide +kernel
theorem own_ef3 (m : MethodId) (x0 : Addr) (x1 : Addr) (x2 : Int32)  : entryFrame m #[(.ref x0), (.ref x1), (.int x2)] 3 = mkF m 0 #[.val (.ref x0), .val (.ref x1), .val (.int x2)] [] := by first | (simp [entryFrame, mkF, argsToLocals, Value.category]; done) | rfl
theorem d_jdk_42_method_151_0 : decode jdk_42_method_151_code 0 = .ok (.aload_n 0, 1) := by decide +kernel
theorem d_jdk_42_method_151_1 : decode jdk_42_method_151_code 1 = .ok (.invokespecial 1, 3) := by decide +kernel
theorem d_jdk_42_method_151_4 : decode jdk_42_method_151_code 4 = .ok (.aload_n 0, 1) := by decide +kernel
theorem d_jdk_42_method_151_5 : decode jdk_42_method_151_code 5 = .ok (.aload_n 1, 1) := by decide +kernel
theorem d_jdk_42_method_151_6 : decode jdk_42_method_151_code 6 = .ok (.putfield 9, 3) := by decide +kernel
theorem d_jdk_42_method_151_9 : decode jdk_42_method_151_code 9 = .ok (.aload_n 0, 1) := by decide +kernel
theorem d_jdk_42_method_151_10 : decode jdk_42_method_151_code 10 = .ok (.iload_n 2, 1) := by decide +kernel
theorem d_jdk_42_method_151_11 : decode jdk_42_method_151_code 11 = .ok (.putfield 15, 3) := by decide +kernel
theorem d_jdk_42_method_151_14 : decode jdk_42_method_151_code 14 = .ok (.return_, 1) := by decide +kernel
theorem own_pf5 : plainFor (⟨"java/lang/StringLatin1", "newString", "([BII)Ljava/lang/String;"⟩ : MethodName) = true := by first | exact plainFor_of_name (by first | (simp [plainName, overriddenIn]; done) | decide +kernel) | decide +kernel
theorem d_jdk_43_method_47_0 : decode jdk_43_method_47_code 0 = .ok (.iload_n 2, 1) := by decide +kernel
theorem d_jdk_43_method_47_1 : decode jdk_43_method_47_code 1 = .ok (.ifCond .ne 6, 3) := by decide +kernel
theorem d_jdk_43_method_47_4 : decode jdk_43_method_47_code 4 = .ok (.ldc 151, 2) := by decide +kernel
theorem d_jdk_43_method_47_6 : decode jdk_43_method_47_code 6 = .ok (.areturn, 1) := by decide +kernel
theorem d_jdk_43_method_47_7 : decode jdk_43_method_47_code 7 = .ok (.new 1, 3) := by decide +kernel
theorem d_jdk_43_method_47_10 : decode jdk_43_method_47_code 10 = .ok (.dup, 1) := by decide +kernel
theorem d_jdk_43_method_47_11 : decode jdk_43_method_47_code 11 = .ok (.aload_n 0, 1) := by decide +kernel
theorem d_jdk_43_method_47_12 : decode jdk_43_method_47_code 12 = .ok (.iload_n 1, 1) := by decide +kernel
theorem d_jdk_43_method_47_13 : decode jdk_43_method_47_code 13 = .ok (.iload_n 1, 1) := by decide +kernel
theorem d_jdk_43_method_47_14 : decode jdk_43_method_47_code 14 = .ok (.iload_n 2, 1) := by decide +kernel
theorem d_jdk_43_method_47_15 : decode jdk_43_method_47_code 15 = .ok (.iadd, 1) := by decide +kernel
theorem d_jdk_43_method_47_16 : decode jdk_43_method_47_code 16 = .ok (.invokestatic 232, 3) := by decide +kernel
theorem d_jdk_43_method_47_19 : decode jdk_43_method_47_code 19 = .ok (.iconst 0, 1) := by decide +kernel
theorem own_pd3 : parseMethodDescriptor "([BB)V" = some ⟨[(FieldType.array FieldType.byte), FieldType.byte], none⟩ := by decide +kernel
theorem d_jdk_43_method_47_20 : decode jdk_43_method_47_code 20 = .ok (.invokespecial 112, 3) := by decide +kernel
theorem d_jdk_43_method_47_23 : decode jdk_43_method_47_code 23 = .ok (.areturn, 1) := by decide +kernel
theorem own_pf6 : plainFor (⟨"java/lang/String", "isLatin1", "()Z"⟩ : MethodName) = true := by first | exact plainFor_of_name (by first | (simp [plainName, overriddenIn]; done) | decide +kernel) | decide +kernel
theorem own_ef4 (m : MethodId) (x0 : Addr)  : entryFrame m #[(.ref x0)] 1 = mkF m 0 #[.val (.ref x0)] [] := by first | (simp [entryFrame, mkF, argsToLocals, Value.category]; done) | rfl
theorem d_jdk_42_method_154_0 : decode jdk_42_method_154_code 0 = .ok (.getstatic 38, 3) := by decide +kernel
theorem d_jdk_42_method_154_3 : decode jdk_42_method_154_code 3 = .ok (.ifCond .eq 14, 3) := by decide +kernel
theorem d_jdk_42_method_154_6 : decode jdk_42_method_154_code 6 = .ok (.aload_n 0, 1) := by decide +kernel
theorem d_jdk_42_method_154_7 : decode jdk_42_method_154_code 7 = .ok (.getfield 15, 3) := by decide +kernel
theorem d_jdk_42_method_154_10 : decode jdk_42_method_154_code 10 = .ok (.ifCond .ne 7, 3) := by decide +kernel
theorem d_jdk_42_method_154_13 : decode jdk_42_method_154_code 13 = .ok (.iconst 1, 1) := by decide +kernel
theorem d_jdk_42_method_154_14 : decode jdk_42_method_154_code 14 = .ok (.goto 4, 3) := by decide +kernel
theorem d_jdk_42_method_154_18 : decode jdk_42_method_154_code 18 = .ok (.ireturn, 1) := by decide +kernel
theorem own_pf7 : plainFor (⟨"jdk/internal/util/Preconditions", "checkFromToIndex", "(IIILjava/util/function/BiFunction;)I"⟩ : MethodName) = true := by first | exact plainFor_of_name (by first | (simp [plainName, overriddenIn]; done) | decide +kernel) | decide +kernel
theorem own_ef5 (m : MethodId) (x0 : Int32) (x1 : Int32) (x2 : Int32) (x3 : Value) (r3 : x3.isRef = true) : entryFrame m #[(.int x0), (.int x1), (.int x2), (x3)] 4 = mkF m 0 #[.val (.int x0), .val (.int x1), .val (.int x2), .val (x3)] [] := by rcases ref_cases r3 with rfl | ⟨_, rfl⟩ <;> first | (simp [entryFrame, mkF, argsToLocals, Value.category]; done) | rfl
theorem d_jdk_41_method_12_0 : decode jdk_41_method_12_code 0 = .ok (.iload_n 0, 1) := by decide +kernel
theorem d_jdk_41_method_12_1 : decode jdk_41_method_12_code 1 = .ok (.ifCond .lt 13, 3) := by decide +kernel
theorem d_jdk_41_method_12_4 : decode jdk_41_method_12_code 4 = .ok (.iload_n 0, 1) := by decide +kernel
theorem d_jdk_41_method_12_5 : decode jdk_41_method_12_code 5 = .ok (.iload_n 1, 1) := by decide +kernel
theorem d_jdk_41_method_12_6 : decode jdk_41_method_12_code 6 = .ok (.if_icmp .gt 8, 3) := by decide +kernel
theorem d_jdk_41_method_12_9 : decode jdk_41_method_12_code 9 = .ok (.iload_n 1, 1) := by decide +kernel
theorem d_jdk_41_method_12_10 : decode jdk_41_method_12_code 10 = .ok (.iload_n 2, 1) := by decide +kernel
theorem d_jdk_41_method_12_11 : decode jdk_41_method_12_code 11 = .ok (.if_icmp .le 11, 3) := by decide +kernel
theorem d_jdk_41_method_12_22 : decode jdk_41_method_12_code 22 = .ok (.iload_n 0, 1) := by decide +kernel
theorem d_jdk_41_method_12_23 : decode jdk_41_method_12_code 23 = .ok (.ireturn, 1) := by decide +kernel
theorem own_pf8 : plainFor (⟨"java/lang/String", "checkBoundsBeginEnd", "(III)V"⟩ : MethodName) = true := by first | exact plainFor_of_name (by first | (simp [plainName, overriddenIn]; done) | decide +kernel) | decide +kernel
theorem own_ef6 (m : MethodId) (x0 : Int32) (x1 : Int32) (x2 : Int32)  : entryFrame m #[(.int x0), (.int x1), (.int x2)] 3 = mkF m 0 #[.val (.int x0), .val (.int x1), .val (.int x2)] [] := by first | (simp [entryFrame, mkF, argsToLocals, Value.category]; done) | rfl
theorem d_jdk_42_method_158_0 : decode jdk_42_method_158_code 0 = .ok (.iload_n 0, 1) := by decide +kernel
theorem d_jdk_42_method_158_1 : decode jdk_42_method_158_code 1 = .ok (.iload_n 1, 1) := by decide +kernel
theorem d_jdk_42_method_158_2 : decode jdk_42_method_158_code 2 = .ok (.iload_n 2, 1) := by decide +kernel
theorem d_jdk_42_method_158_3 : decode jdk_42_method_158_code 3 = .ok (.getstatic 1053, 3) := by decide +kernel
theorem own_pd4 : parseMethodDescriptor "(IIILjava/util/function/BiFunction;)I" = some ⟨[FieldType.int, FieldType.int, FieldType.int, (FieldType.object "java/util/function/BiFunction")], some FieldType.int⟩ := by decide +kernel
theorem d_jdk_42_method_158_6 : decode jdk_42_method_158_code 6 = .ok (.invokestatic 1062, 3) := by decide +kernel
theorem d_jdk_42_method_158_9 : decode jdk_42_method_158_code 9 = .ok (.pop, 1) := by decide +kernel
theorem d_jdk_42_method_158_10 : decode jdk_42_method_158_code 10 = .ok (.return_, 1) := by decide +kernel
theorem own_pf9 : plainFor (⟨"java/lang/String", "substring", "(II)Ljava/lang/String;"⟩ : MethodName) = true := by first | exact plainFor_of_name (by first | (simp [plainName, overriddenIn]; done) | decide +kernel) | decide +kernel
theorem d_jdk_42_method_92_0 : decode jdk_42_method_92_code 0 = .ok (.aload_n 0, 1) := by decide +kernel
theorem own_pd5 : parseMethodDescriptor "()I" = some ⟨[], some FieldType.int⟩ := by decide +kernel
theorem d_jdk_42_method_92_1 : decode jdk_42_method_92_code 1 = .ok (.invokevirtual 505, 3) := by decide +kernel
theorem d_jdk_42_method_92_4 : decode jdk_42_method_92_code 4 = .ok (.istore_n 3, 1) := by decide +kernel
theorem d_jdk_42_method_92_5 : decode jdk_42_method_92_code 5 = .ok (.iload_n 1, 1) := by decide +kernel
theorem d_jdk_42_method_92_6 : decode jdk_42_method_92_code 6 = .ok (.iload_n 2, 1) := by decide +kernel
theorem d_jdk_42_method_92_7 : decode jdk_42_method_92_code 7 = .ok (.iload_n 3, 1) := by decide +kernel
theorem own_pd6 : parseMethodDescriptor "(III)V" = some ⟨[FieldType.int, FieldType.int, FieldType.int], none⟩ := by decide +kernel
theorem d_jdk_42_method_92_8 : decode jdk_42_method_92_code 8 = .ok (.invokestatic 521, 3) := by decide +kernel
theorem d_jdk_42_method_92_11 : decode jdk_42_method_92_code 11 = .ok (.iload_n 1, 1) := by decide +kernel
theorem d_jdk_42_method_92_22 : decode jdk_42_method_92_code 22 = .ok (.iload_n 2, 1) := by decide +kernel
theorem d_jdk_42_method_92_23 : decode jdk_42_method_92_code 23 = .ok (.iload_n 1, 1) := by decide +kernel
theorem d_jdk_42_method_92_24 : decode jdk_42_method_92_code 24 = .ok (.isub, 1) := by decide +kernel
theorem d_jdk_42_method_92_25 : decode jdk_42_method_92_code 25 = .ok (.istore 4, 2) := by decide +kernel
theorem d_jdk_42_method_92_27 : decode jdk_42_method_92_code 27 = .ok (.aload_n 0, 1) := by decide +kernel
theorem own_pd7 : parseMethodDescriptor "()Z" = some ⟨[], some FieldType.boolean⟩ := by decide +kernel
theorem d_jdk_42_method_92_28 : decode jdk_42_method_92_code 28 = .ok (.invokevirtual 492, 3) := by decide +kernel
theorem d_jdk_42_method_92_31 : decode jdk_42_method_92_code 31 = .ok (.ifCond .eq 16, 3) := by decide +kernel
theorem d_jdk_42_method_92_34 : decode jdk_42_method_92_code 34 = .ok (.aload_n 0, 1) := by decide +kernel
theorem d_jdk_42_method_92_35 : decode jdk_42_method_92_code 35 = .ok (.getfield 9, 3) := by decide +kernel
theorem d_jdk_42_method_92_38 : decode jdk_42_method_92_code 38 = .ok (.iload_n 1, 1) := by decide +kernel
theorem d_jdk_42_method_92_39 : decode jdk_42_method_92_code 39 = .ok (.iload 4, 2) := by decide +kernel
theorem own_pd8 : parseMethodDescriptor "([BII)Ljava/lang/String;" = some ⟨[(FieldType.array FieldType.byte), FieldType.int, FieldType.int], some (FieldType.object "java/lang/String")⟩ := by decide +kernel
theorem d_jdk_42_method_92_41 : decode jdk_42_method_92_code 41 = .ok (.invokestatic 685, 3) := by decide +kernel
theorem d_jdk_42_method_92_44 : decode jdk_42_method_92_code 44 = .ok (.goto 13, 3) := by decide +kernel
theorem d_jdk_42_method_92_57 : decode jdk_42_method_92_code 57 = .ok (.areturn, 1) := by decide +kernel
theorem d_jdk_42_method_92_12 : decode jdk_42_method_92_code 12 = .ok (.ifCond .ne 10, 3) := by decide +kernel
theorem d_jdk_42_method_92_15 : decode jdk_42_method_92_code 15 = .ok (.iload_n 2, 1) := by decide +kernel
theorem d_jdk_42_method_92_16 : decode jdk_42_method_92_code 16 = .ok (.iload_n 3, 1) := by decide +kernel
theorem d_jdk_42_method_92_17 : decode jdk_42_method_92_code 17 = .ok (.if_icmp .ne 5, 3) := by decide +kernel
theorem d_jdk_42_method_92_20 : decode jdk_42_method_92_code 20 = .ok (.aload_n 0, 1) := by decide +kernel
theorem d_jdk_42_method_92_21 : decode jdk_42_method_92_code 21 = .ok (.areturn, 1) := by decide +kernel
theorem own_pf10 : plainFor (⟨"com/example/riden/riden/parse/ComponentsQueryPinLaw", "raw", "(III)I"⟩ : MethodName) = true := by first | exact plainFor_of_name (by first | (simp [plainName, overriddenIn]; done) | decide +kernel) | decide +kernel
theorem own_ef7 (m : MethodId) (x0 : Int32) (x1 : Int32) (x2 : Int32)  : entryFrame m #[(.int x0), (.int x1), (.int x2)] 4 = mkF m 0 #[.val (.int x0), .val (.int x1), .val (.int x2), .unset] [] := by first | (simp [entryFrame, mkF, argsToLocals, Value.category]; done) | rfl
theorem d_method_2_0 : decode method_2_code 0 = .ok (.iload_n 2, 1) := by decide +kernel
theorem d_method_2_1 : decode method_2_code 1 = .ok (.iconst 4, 1) := by decide +kernel
theorem d_method_2_10 : decode method_2_code 10 = .ok (.istore_n 3, 1) := by decide +kernel
theorem d_method_2_11 : decode method_2_code 11 = .ok (.iload_n 3, 1) := by decide +kernel
theorem d_method_2_12 : decode method_2_code 12 = .ok (.bipush 8, 2) := by decide +kernel
theorem d_method_2_14 : decode method_2_code 14 = .ok (.iload_n 2, 1) := by decide +kernel
theorem d_method_2_15 : decode method_2_code 15 = .ok (.iconst 3, 1) := by decide +kernel
theorem d_method_2_16 : decode method_2_code 16 = .ok (.iand, 1) := by decide +kernel
theorem d_method_2_17 : decode method_2_code 17 = .ok (.imul, 1) := by decide +kernel
theorem d_method_2_18 : decode method_2_code 18 = .ok (.iushr, 1) := by decide +kernel
theorem d_method_2_19 : decode method_2_code 19 = .ok (.sipush 255, 3) := by decide +kernel
theorem d_method_2_22 : decode method_2_code 22 = .ok (.iand, 1) := by decide +kernel
theorem d_method_2_23 : decode method_2_code 23 = .ok (.ireturn, 1) := by decide +kernel
theorem d_method_2_2 : decode method_2_code 2 = .ok (.if_icmp .ge 7, 3) := by decide +kernel
theorem d_method_2_5 : decode method_2_code 5 = .ok (.iload_n 0, 1) := by decide +kernel
theorem d_method_2_6 : decode method_2_code 6 = .ok (.goto 4, 3) := by decide +kernel
theorem d_method_2_9 : decode method_2_code 9 = .ok (.iload_n 1, 1) := by decide +kernel
theorem own_pf11 : plainFor (⟨"com/example/riden/riden/parse/ComponentsQueryPinLaw", "cell", "(IIIIZI)C"⟩ : MethodName) = true := by first | exact plainFor_of_name (by first | (simp [plainName, overriddenIn]; done) | decide +kernel) | decide +kernel
theorem own_ef8 (m : MethodId) (x0 : Int32) (x1 : Int32) (x2 : Int32) (x3 : Int32) (x4 : Int32) (x5 : Int32)  : entryFrame m #[(.int x0), (.int x1), (.int x2), (.int x3), (.int x4), (.int x5)] 7 = mkF m 0 #[.val (.int x0), .val (.int x1), .val (.int x2), .val (.int x3), .val (.int x4), .val (.int x5), .unset] [] := by first | (simp [entryFrame, mkF, argsToLocals, Value.category]; done) | rfl
theorem d_method_3_0 : decode method_3_code 0 = .ok (.ldc 7, 2) := by decide +kernel
theorem d_method_3_2 : decode method_3_code 2 = .ok (.astore 6, 2) := by decide +kernel
theorem d_method_3_4 : decode method_3_code 4 = .ok (.iload_n 0, 1) := by decide +kernel
theorem d_method_3_5 : decode method_3_code 5 = .ok (.iload_n 1, 1) := by decide +kernel
theorem d_method_3_6 : decode method_3_code 6 = .ok (.if_icmp .ge 15, 3) := by decide +kernel
theorem d_method_3_9 : decode method_3_code 9 = .ok (.iload_n 0, 1) := by decide +kernel
theorem d_method_3_10 : decode method_3_code 10 = .ok (.ifCond .ne 8, 3) := by decide +kernel
theorem d_method_3_13 : decode method_3_code 13 = .ok (.bipush 104, 2) := by decide +kernel
theorem d_method_3_15 : decode method_3_code 15 = .ok (.goto 5, 3) := by decide +kernel
theorem d_method_3_20 : decode method_3_code 20 = .ok (.ireturn, 1) := by decide +kernel
theorem d_method_3_18 : decode method_3_code 18 = .ok (.bipush 58, 2) := by decide +kernel
theorem d_method_3_21 : decode method_3_code 21 = .ok (.iload_n 0, 1) := by decide +kernel
theorem d_method_3_22 : decode method_3_code 22 = .ok (.iload_n 2, 1) := by decide +kernel
theorem d_method_3_23 : decode method_3_code 23 = .ok (.if_icmp .ge 14, 3) := by decide +kernel
theorem d_method_3_26 : decode method_3_code 26 = .ok (.aload 6, 2) := by decide +kernel
theorem d_method_3_28 : decode method_3_code 28 = .ok (.iload 5, 2) := by decide +kernel
theorem d_method_3_30 : decode method_3_code 30 = .ok (.bipush 62, 2) := by decide +kernel
theorem d_method_3_32 : decode method_3_code 32 = .ok (.irem, 1) := by decide +kernel
theorem own_pd9 : parseMethodDescriptor "(I)C" = some ⟨[FieldType.int], some FieldType.char⟩ := by decide +kernel
theorem d_method_3_33 : decode method_3_code 33 = .ok (.invokevirtual 9, 3) := by decide +kernel
theorem d_method_3_36 : decode method_3_code 36 = .ok (.ireturn, 1) := by decide +kernel
theorem d_method_3_37 : decode method_3_code 37 = .ok (.iload_n 0, 1) := by decide +kernel
theorem d_method_3_38 : decode method_3_code 38 = .ok (.iload_n 2, 1) := by decide +kernel
theorem d_method_3_39 : decode method_3_code 39 = .ok (.if_icmp .ne 16, 3) := by decide +kernel
theorem d_method_3_42 : decode method_3_code 42 = .ok (.iload 4, 2) := by decide +kernel
theorem d_method_3_44 : decode method_3_code 44 = .ok (.ifCond .eq 8, 3) := by decide +kernel
theorem d_method_3_52 : decode method_3_code 52 = .ok (.bipush 35, 2) := by decide +kernel
theorem d_method_3_54 : decode method_3_code 54 = .ok (.ireturn, 1) := by decide +kernel
theorem d_method_3_47 : decode method_3_code 47 = .ok (.bipush 63, 2) := by decide +kernel
theorem d_method_3_49 : decode method_3_code 49 = .ok (.goto 5, 3) := by decide +kernel
theorem d_method_3_55 : decode method_3_code 55 = .ok (.iload 4, 2) := by decide +kernel
theorem d_method_3_79 : decode method_3_code 79 = .ok (.iload_n 0, 1) := by decide +kernel
theorem d_method_3_80 : decode method_3_code 80 = .ok (.iload_n 3, 1) := by decide +kernel
theorem d_method_3_81 : decode method_3_code 81 = .ok (.if_icmp .ne 6, 3) := by decide +kernel
theorem d_method_3_84 : decode method_3_code 84 = .ok (.bipush 35, 2) := by decide +kernel
theorem d_method_3_86 : decode method_3_code 86 = .ok (.ireturn, 1) := by decide +kernel
theorem d_method_3_87 : decode method_3_code 87 = .ok (.aload 6, 2) := by decide +kernel
theorem d_method_3_89 : decode method_3_code 89 = .ok (.iload 5, 2) := by decide +kernel
theorem d_method_3_91 : decode method_3_code 91 = .ok (.aload 6, 2) := by decide +kernel
theorem d_method_3_93 : decode method_3_code 93 = .ok (.invokevirtual 15, 3) := by decide +kernel
theorem d_method_3_96 : decode method_3_code 96 = .ok (.irem, 1) := by decide +kernel
theorem d_method_3_97 : decode method_3_code 97 = .ok (.invokevirtual 9, 3) := by decide +kernel
theorem d_method_3_100 : decode method_3_code 100 = .ok (.ireturn, 1) := by decide +kernel
theorem d_method_3_57 : decode method_3_code 57 = .ok (.ifCond .eq 22, 3) := by decide +kernel
theorem d_method_3_60 : decode method_3_code 60 = .ok (.iload_n 0, 1) := by decide +kernel
theorem d_method_3_61 : decode method_3_code 61 = .ok (.iload_n 3, 1) := by decide +kernel
theorem d_method_3_62 : decode method_3_code 62 = .ok (.if_icmp .ge 17, 3) := by decide +kernel
theorem d_method_3_65 : decode method_3_code 65 = .ok (.aload 6, 2) := by decide +kernel
theorem d_method_3_67 : decode method_3_code 67 = .ok (.iload 5, 2) := by decide +kernel
theorem d_method_3_69 : decode method_3_code 69 = .ok (.aload 6, 2) := by decide +kernel
theorem d_method_3_71 : decode method_3_code 71 = .ok (.invokevirtual 15, 3) := by decide +kernel
theorem d_method_3_74 : decode method_3_code 74 = .ok (.irem, 1) := by decide +kernel
theorem d_method_3_75 : decode method_3_code 75 = .ok (.invokevirtual 9, 3) := by decide +kernel
theorem d_method_3_78 : decode method_3_code 78 = .ok (.ireturn, 1) := by decide +kernel
theorem own_pf12 : plainFor (⟨"com/example/riden/riden/parse/ComponentsQueryPinLaw", "at", "(Ljava/lang/String;[CII)Z"⟩ : MethodName) = true := by first | exact plainFor_of_name (by first | (simp [plainName, overriddenIn]; done) | decide +kernel) | decide +kernel
theorem own_ef9 (m : MethodId) (x0 : Addr) (x1 : Addr) (x2 : Int32) (x3 : Int32)  : entryFrame m #[(.ref x0), (.ref x1), (.int x2), (.int x3)] 4 = mkF m 0 #[.val (.ref x0), .val (.ref x1), .val (.int x2), .val (.int x3)] [] := by first | (simp [entryFrame, mkF, argsToLocals, Value.category]; done) | rfl
theorem d_method_4_0 : decode method_4_code 0 = .ok (.iload_n 3, 1) := by decide +kernel
theorem d_method_4_1 : decode method_4_code 1 = .ok (.aload_n 0, 1) := by decide +kernel
theorem d_method_4_2 : decode method_4_code 2 = .ok (.invokevirtual 15, 3) := by decide +kernel
theorem d_method_4_5 : decode method_4_code 5 = .ok (.if_icmp .ge 16, 3) := by decide +kernel
theorem d_method_4_21 : decode method_4_code 21 = .ok (.iconst 1, 1) := by decide +kernel
theorem d_method_4_22 : decode method_4_code 22 = .ok (.goto 4, 3) := by decide +kernel
theorem d_method_4_26 : decode method_4_code 26 = .ok (.ireturn, 1) := by decide +kernel
theorem d_method_4_8 : decode method_4_code 8 = .ok (.aload_n 0, 1) := by decide +kernel
theorem d_method_4_9 : decode method_4_code 9 = .ok (.iload_n 3, 1) := by decide +kernel
theorem d_method_4_10 : decode method_4_code 10 = .ok (.invokevirtual 9, 3) := by decide +kernel
theorem d_method_4_13 : decode method_4_code 13 = .ok (.aload_n 1, 1) := by decide +kernel
theorem d_method_4_14 : decode method_4_code 14 = .ok (.iload_n 2, 1) := by decide +kernel
theorem d_method_4_15 : decode method_4_code 15 = .ok (.iload_n 3, 1) := by decide +kernel
theorem d_method_4_16 : decode method_4_code 16 = .ok (.iadd, 1) := by decide +kernel
theorem d_method_4_17 : decode method_4_code 17 = .ok (.caload, 1) := by decide +kernel
theorem d_method_4_18 : decode method_4_code 18 = .ok (.if_icmp .ne 7, 3) := by decide +kernel
theorem own_pf13 : plainFor (⟨"com/example/riden/riden/parse/Components", "<init>", "(Ljava/lang/String;IIILcom/example/riden/riden/model/HostKind;III)V"⟩ : MethodName) = true := by first | exact plainFor_of_name (by first | (simp [plainName, overriddenIn]; done) | decide +kernel) | decide +kernel
theorem own_ef10 (m : MethodId) (x0 : Addr) (x1 : Addr) (x2 : Int32) (x3 : Int32) (x4 : Int32) (x5 : Value) (x6 : Int32) (x7 : Int32) (x8 : Int32) (r5 : x5.isRef = true) : entryFrame m #[(.ref x0), (.ref x1), (.int x2), (.int x3), (.int x4), (x5), (.int x6), (.int x7), (.int x8)] 9 = mkF m 0 #[.val (.ref x0), .val (.ref x1), .val (.int x2), .val (.int x3), .val (.int x4), .val (x5), .val (.int x6), .val (.int x7), .val (.int x8)] [] := by rcases ref_cases r5 with rfl | ⟨_, rfl⟩ <;> first | (simp [entryFrame, mkF, argsToLocals, Value.category]; done) | rfl
theorem d_prog_11_method_1_0 : decode prog_11_method_1_code 0 = .ok (.aload_n 0, 1) := by decide +kernel
theorem d_prog_11_method_1_1 : decode prog_11_method_1_code 1 = .ok (.invokespecial 1, 3) := by decide +kernel
theorem d_prog_11_method_1_4 : decode prog_11_method_1_code 4 = .ok (.aload_n 0, 1) := by decide +kernel
theorem d_prog_11_method_1_5 : decode prog_11_method_1_code 5 = .ok (.aload_n 1, 1) := by decide +kernel
theorem d_prog_11_method_1_6 : decode prog_11_method_1_code 6 = .ok (.putfield 7, 3) := by decide +kernel
theorem d_prog_11_method_1_9 : decode prog_11_method_1_code 9 = .ok (.aload_n 0, 1) := by decide +kernel
theorem d_prog_11_method_1_10 : decode prog_11_method_1_code 10 = .ok (.iload_n 2, 1) := by decide +kernel
theorem d_prog_11_method_1_11 : decode prog_11_method_1_code 11 = .ok (.putfield 13, 3) := by decide +kernel
theorem d_prog_11_method_1_14 : decode prog_11_method_1_code 14 = .ok (.aload_n 0, 1) := by decide +kernel
theorem d_prog_11_method_1_15 : decode prog_11_method_1_code 15 = .ok (.iload_n 3, 1) := by decide +kernel
theorem d_prog_11_method_1_16 : decode prog_11_method_1_code 16 = .ok (.putfield 17, 3) := by decide +kernel
theorem d_prog_11_method_1_19 : decode prog_11_method_1_code 19 = .ok (.aload_n 0, 1) := by decide +kernel
theorem d_prog_11_method_1_20 : decode prog_11_method_1_code 20 = .ok (.iload 4, 2) := by decide +kernel
theorem d_prog_11_method_1_22 : decode prog_11_method_1_code 22 = .ok (.putfield 20, 3) := by decide +kernel
theorem d_prog_11_method_1_25 : decode prog_11_method_1_code 25 = .ok (.aload_n 0, 1) := by decide +kernel
theorem d_prog_11_method_1_26 : decode prog_11_method_1_code 26 = .ok (.aload 5, 2) := by decide +kernel
theorem d_prog_11_method_1_28 : decode prog_11_method_1_code 28 = .ok (.putfield 23, 3) := by decide +kernel
theorem d_prog_11_method_1_31 : decode prog_11_method_1_code 31 = .ok (.aload_n 0, 1) := by decide +kernel
theorem d_prog_11_method_1_32 : decode prog_11_method_1_code 32 = .ok (.iload 6, 2) := by decide +kernel
theorem d_prog_11_method_1_34 : decode prog_11_method_1_code 34 = .ok (.putfield 27, 3) := by decide +kernel
theorem d_prog_11_method_1_37 : decode prog_11_method_1_code 37 = .ok (.aload_n 0, 1) := by decide +kernel
theorem d_prog_11_method_1_38 : decode prog_11_method_1_code 38 = .ok (.iload 7, 2) := by decide +kernel
theorem d_prog_11_method_1_40 : decode prog_11_method_1_code 40 = .ok (.putfield 30, 3) := by decide +kernel
theorem d_prog_11_method_1_43 : decode prog_11_method_1_code 43 = .ok (.aload_n 0, 1) := by decide +kernel
theorem d_prog_11_method_1_44 : decode prog_11_method_1_code 44 = .ok (.iload 8, 2) := by decide +kernel
theorem d_prog_11_method_1_46 : decode prog_11_method_1_code 46 = .ok (.putfield 33, 3) := by decide +kernel
theorem d_prog_11_method_1_49 : decode prog_11_method_1_code 49 = .ok (.return_, 1) := by decide +kernel
theorem own_pf14 : plainFor (⟨"com/example/riden/riden/parse/Components", "query", "()Ljava/lang/String;"⟩ : MethodName) = true := by first | exact plainFor_of_name (by first | (simp [plainName, overriddenIn]; done) | decide +kernel) | decide +kernel
theorem d_prog_11_method_12_0 : decode prog_11_method_12_code 0 = .ok (.aload_n 0, 1) := by decide +kernel
theorem d_prog_11_method_12_1 : decode prog_11_method_12_code 1 = .ok (.getfield 33, 3) := by decide +kernel
theorem d_prog_11_method_12_4 : decode prog_11_method_12_code 4 = .ok (.aload_n 0, 1) := by decide +kernel
theorem d_prog_11_method_12_5 : decode prog_11_method_12_code 5 = .ok (.getfield 30, 3) := by decide +kernel
theorem d_prog_11_method_12_8 : decode prog_11_method_12_code 8 = .ok (.if_icmp .ne 7, 3) := by decide +kernel
theorem d_prog_11_method_12_11 : decode prog_11_method_12_code 11 = .ok (.aconst_null, 1) := by decide +kernel
theorem d_prog_11_method_12_12 : decode prog_11_method_12_code 12 = .ok (.goto 20, 3) := by decide +kernel
theorem d_prog_11_method_12_32 : decode prog_11_method_12_code 32 = .ok (.areturn, 1) := by decide +kernel
theorem d_prog_11_method_12_15 : decode prog_11_method_12_code 15 = .ok (.aload_n 0, 1) := by decide +kernel
theorem d_prog_11_method_12_16 : decode prog_11_method_12_code 16 = .ok (.getfield 7, 3) := by decide +kernel
theorem d_prog_11_method_12_19 : decode prog_11_method_12_code 19 = .ok (.aload_n 0, 1) := by decide +kernel
theorem d_prog_11_method_12_20 : decode prog_11_method_12_code 20 = .ok (.getfield 30, 3) := by decide +kernel
theorem d_prog_11_method_12_23 : decode prog_11_method_12_code 23 = .ok (.iconst 1, 1) := by decide +kernel
theorem d_prog_11_method_12_24 : decode prog_11_method_12_code 24 = .ok (.iadd, 1) := by decide +kernel
theorem d_prog_11_method_12_25 : decode prog_11_method_12_code 25 = .ok (.aload_n 0, 1) := by decide +kernel
theorem d_prog_11_method_12_26 : decode prog_11_method_12_code 26 = .ok (.getfield 33, 3) := by decide +kernel
theorem own_pd10 : parseMethodDescriptor "(II)Ljava/lang/String;" = some ⟨[FieldType.int, FieldType.int], some (FieldType.object "java/lang/String")⟩ := by decide +kernel
theorem d_prog_11_method_12_29 : decode prog_11_method_12_code 29 = .ok (.invokevirtual 88, 3) := by decide +kernel
theorem own_pf15 : plainFor (⟨"com/example/riden/riden/parse/ComponentsQueryPinLaw", "law", "(III)Z"⟩ : MethodName) = true := by first | exact plainFor_of_name (by first | (simp [plainName, overriddenIn]; done) | decide +kernel) | decide +kernel
theorem own_ef11 (m : MethodId) (x0 : Int32) (x1 : Int32) (x2 : Int32)  : entryFrame m #[(.int x0), (.int x1), (.int x2)] 15 = mkF m 0 #[.val (.int x0), .val (.int x1), .val (.int x2), .unset, .unset, .unset, .unset, .unset, .unset, .unset, .unset, .unset, .unset, .unset, .unset] [] := by first | (simp [entryFrame, mkF, argsToLocals, Value.category]; done) | rfl
theorem own_pd11 : parseMethodDescriptor "(III)I" = some ⟨[FieldType.int, FieldType.int, FieldType.int], some FieldType.int⟩ := by decide +kernel
theorem own_pd12 : parseMethodDescriptor "(IIIIZI)C" = some ⟨[FieldType.int, FieldType.int, FieldType.int, FieldType.int, FieldType.boolean, FieldType.int], some FieldType.char⟩ := by decide +kernel
theorem own_pd13 : parseMethodDescriptor "(Ljava/lang/String;IIILcom/example/riden/riden/model/HostKind;III)V" = some ⟨[(FieldType.object "java/lang/String"), FieldType.int, FieldType.int, FieldType.int, (FieldType.object "com/example/riden/riden/model/HostKind"), FieldType.int, FieldType.int, FieldType.int], none⟩ := by decide +kernel
theorem own_pd14 : parseMethodDescriptor "()Ljava/lang/String;" = some ⟨[], some (FieldType.object "java/lang/String")⟩ := by decide +kernel
theorem own_pd15 : parseMethodDescriptor "(Ljava/lang/String;[CII)Z" = some ⟨[(FieldType.object "java/lang/String"), (FieldType.array FieldType.char), FieldType.int, FieldType.int], some FieldType.boolean⟩ := by decide +kernel
theorem con_min {l : Launch} {Z : State} {a0 : Array Value} {cz : Int32} {fm : Value} (H : Ctx Z a0 cz fm) (u v : Int32) (h0 : Heap)  :
    ConX l Z consts_1 (⟨"java/lang/Math", "min", "(II)I"⟩ : MethodName) jdk_29_method_69_code 2 (some FieldType.int) [] ({ frames := 0, cells := 0, slots := 0, locals := 0 } : Room) #[(.int u), (.int v)] h0 (fun r h => r = some (.int (if v < u then v else u)) ∧ h0 = h) := by
  obtain ⟨hw, hE, S0, hcz, S1, rf⟩ := id H
  refine ConX.of own_pf0 ?_
  intro p e s m below meth c T hby hml hret hlk hnm X0
  have EX0 := ext_refl h0
  refine OEnds.cast (own_ef0 m u v ) ?_
  show OEnds p e below _ T (mkF m 0 #[.val (.int u), .val (.int v)] [])
  refine OEnds.go (fun _ q => XS.iloadN X0.here X0.hx rfl (hb hby d_jdk_29_method_69_0) rfl q) ?_
  show OEnds p e below _ T (mkF m 1 #[.val (.int u), .val (.int v)] [(.int u)])
  refine OEnds.go (fun _ q => XS.iloadN X0.here X0.hx rfl (hb hby d_jdk_29_method_69_1) rfl q) ?_
  show OEnds p e below _ T (mkF m 2 #[.val (.int u), .val (.int v)] [(.int v), (.int u)])
  by_cases hc : v < u
  · skip
    refine OEnds.go (fun _ q => XS.icmpYes X0.here X0.hx rfl (pc0 := 2) (pc' := 9) rfl (hb hby d_jdk_29_method_69_2) rfl (tlt hc).2.2.1 (by decide) (by decide) q) ?_
    show OEnds p e below _ T (mkF m 9 #[.val (.int u), .val (.int v)] [])
    refine OEnds.go (fun _ q => XS.iloadN X0.here X0.hx rfl (hb hby d_jdk_29_method_69_9) rfl q) ?_
    show OEnds p e below _ T (mkF m 10 #[.val (.int u), .val (.int v)] [(.int v)])
    exact X0.retInt hE hlk  hret (hb hby d_jdk_29_method_69_10) (by decide) (by decide) ⟨by rw [if_pos hc], rfl⟩
  · skip
    refine OEnds.go (fun _ q => XS.icmpNo X0.here X0.hx rfl (hb hby d_jdk_29_method_69_2) rfl (flt hc).2.2.1 q) ?_
    show OEnds p e below _ T (mkF m 5 #[.val (.int u), .val (.int v)] [])
    refine OEnds.go (fun _ q => XS.iloadN X0.here X0.hx rfl (hb hby d_jdk_29_method_69_5) rfl q) ?_
    show OEnds p e below _ T (mkF m 6 #[.val (.int u), .val (.int v)] [(.int u)])
    refine OEnds.go (fun _ q => XS.goto X0.here X0.hx rfl (pc0 := 6) (pc' := 10) rfl (hb hby d_jdk_29_method_69_6) (by decide) (by decide) q) ?_
    show OEnds p e below _ T (mkF m 10 #[.val (.int u), .val (.int v)] [(.int u)])
    exact X0.retInt hE hlk  hret (hb hby d_jdk_29_method_69_10) (by decide) (by decide) ⟨by rw [if_neg hc], rfl⟩
theorem con_ckl {l : Launch} {Z : State} {a0 : Array Value} {cz : Int32} {fm : Value} (H : Ctx Z a0 cz fm) (u v : Int32) (hc : ¬ v < u) (h0 : Heap)  :
    ConX l Z consts_1 (⟨"java/util/Arrays", "checkLength", "(II)V"⟩ : MethodName) jdk_65_method_131_code 2 (none : Option FieldType) [] ({ frames := 0, cells := 0, slots := 0, locals := 0 } : Room) #[(.int u), (.int v)] h0 (fun r h => r = none ∧ h0 = h) := by
  obtain ⟨hw, hE, S0, hcz, S1, rf⟩ := id H
  refine ConX.of own_pf1 ?_
  intro p e s m below meth c T hby hml hret hlk hnm X0
  have EX0 := ext_refl h0
  refine OEnds.cast (own_ef0 m u v ) ?_
  show OEnds p e below _ T (mkF m 0 #[.val (.int u), .val (.int v)] [])
  refine OEnds.go (fun _ q => XS.iloadN X0.here X0.hx rfl (hb hby d_jdk_65_method_131_0) rfl q) ?_
  show OEnds p e below _ T (mkF m 1 #[.val (.int u), .val (.int v)] [(.int v)])
  refine OEnds.go (fun _ q => XS.iloadN X0.here X0.hx rfl (hb hby d_jdk_65_method_131_1) rfl q) ?_
  show OEnds p e below _ T (mkF m 2 #[.val (.int u), .val (.int v)] [(.int u), (.int v)])
  refine OEnds.go (fun _ q => XS.icmpYes X0.here X0.hx rfl (pc0 := 2) (pc' := 37) rfl (hb hby d_jdk_65_method_131_2) rfl (flt hc).2.1 (by decide) (by decide) q) ?_
  show OEnds p e below _ T (mkF m 37 #[.val (.int u), .val (.int v)] [])
  exact X0.ret0 hE hlk  hret (hb hby d_jdk_65_method_131_37) (by decide) (by decide) ⟨rfl, rfl⟩
theorem con_crb {l : Launch} {Z : State} {a0 : Array Value} {cz : Int32} {fm : Value} (H : Ctx Z a0 cz fm) (a : Addr) (ka : ClassId) (vs : List Value) (i j N : Nat) (hij : i ≤ j) (hjN : j ≤ N) (hN : N ≤ 16) (h0 : Heap) (Ka : Arv Z h0 a ka .byte (Int32.ofNat N) vs (.int 0)) :
    ConX l Z consts_1 (⟨"java/util/Arrays", "copyOfRangeByte", "([BII)[B"⟩ : MethodName) jdk_65_method_133_code 5 (some (FieldType.array FieldType.byte)) [] ({ frames := 1, cells := 1, slots := 16, locals := 60 } : Room) #[(.ref a), (.int (Int32.ofNat i)), (.int (Int32.ofNat j))] h0 (fun r h => ∃ (t : Addr) (kb : ClassId), r = some (.ref t) ∧ Ext h0 h ∧ Arv Z h t kb .byte (Int32.ofNat (j - i)) ((List.range (j - i)).map fun k => vs.getD (i + k) (.int 0)) (.int 0) ∧ h0.size ≤ t) := by
  obtain ⟨hw, hE, S0, hcz, S1, rf⟩ := id H
  refine ConX.of own_pf2 ?_
  intro p e s m below meth c T hby hml hret hlk hnm X0
  have EX0 := ext_refl h0
  refine OEnds.cast (own_ef1 m a (Int32.ofNat i) (Int32.ofNat j) ) ?_
  show OEnds p e below _ T (mkF m 0 #[.val (.ref a), .val (.int (Int32.ofNat i)), .val (.int (Int32.ofNat j)), .unset, .unset] [])
  refine OEnds.go (fun _ q => XS.iloadN X0.here X0.hx rfl (hb hby d_jdk_65_method_133_0) rfl q) ?_
  show OEnds p e below _ T (mkF m 1 #[.val (.ref a), .val (.int (Int32.ofNat i)), .val (.int (Int32.ofNat j)), .unset, .unset] [(.int (Int32.ofNat i))])
  refine OEnds.go (fun _ q => XS.iloadN X0.here X0.hx rfl (hb hby d_jdk_65_method_133_1) rfl q) ?_
  show OEnds p e below _ T (mkF m 2 #[.val (.ref a), .val (.int (Int32.ofNat i)), .val (.int (Int32.ofNat j)), .unset, .unset] [(.int (Int32.ofNat j)), (.int (Int32.ofNat i))])
  refine X0.callS hE (con_ckl H (Int32.ofNat i) (Int32.ofNat j) (by rw [ofN_lt (by omega) (by omega)]; omega) h0) (hw _ (List.mem_of_getElem? (i := 131) rfl)) (hw _ (List.mem_of_getElem? (i := 132) rfl)) (hw _ (List.mem_of_getElem? (i := 126) rfl)) (hw _ (List.mem_of_getElem? (i := 133) rfl))  (by decide) (W := 0) (by decide) (by decide) (argsL := [(.int (Int32.ofNat i)), (.int (Int32.ofNat j))]) (rest := []) rfl (lenOf own_pd0 rfl) rfl (by rw [hml]; rfl) (Nat.le_of_eq rfl) (hb hby d_jdk_65_method_133_2) (by decide) (by decide) ?_
  intro v6 vm4 T1 h3 X2 C5 q7
  obtain ⟨rfl, rfl⟩ := q7
  show OEnds p e below _ T1 (mkF m 5 #[.val (.ref a), .val (.int (Int32.ofNat i)), .val (.int (Int32.ofNat j)), .unset, .unset] [])
  refine OEnds.go (fun _ q => XS.iloadN X2.here X2.hx rfl (hb hby d_jdk_65_method_133_5) rfl q) ?_
  show OEnds p e below _ T1 (mkF m 6 #[.val (.ref a), .val (.int (Int32.ofNat i)), .val (.int (Int32.ofNat j)), .unset, .unset] [(.int (Int32.ofNat j))])
  refine OEnds.go (fun _ q => XS.iloadN X2.here X2.hx rfl (hb hby d_jdk_65_method_133_6) rfl q) ?_
  show OEnds p e below _ T1 (mkF m 7 #[.val (.ref a), .val (.int (Int32.ofNat i)), .val (.int (Int32.ofNat j)), .unset, .unset] [(.int (Int32.ofNat i)), (.int (Int32.ofNat j))])
  refine OEnds.go (fun _ q => XS.isub X2.here X2.hx rfl (hb hby d_jdk_65_method_133_7) rfl q) ?_
  show OEnds p e below _ T1 (mkF m 8 #[.val (.ref a), .val (.int (Int32.ofNat i)), .val (.int (Int32.ofNat j)), .unset, .unset] [(.int ((Int32.ofNat j) - (Int32.ofNat i)))])
  rw [ofN_sub (by omega) hij]
  show OEnds p e below _ T1 (mkF m 8 #[.val (.ref a), .val (.int (Int32.ofNat i)), .val (.int (Int32.ofNat j)), .unset, .unset] [(.int (Int32.ofNat (j - i)))])
  refine OEnds.go (fun _ q => XS.istoreN X2.here X2.hx rfl (hb hby d_jdk_65_method_133_8) rfl (l' := #[.val (.ref a), .val (.int (Int32.ofNat i)), .val (.int (Int32.ofNat j)), .val (.int (Int32.ofNat (j - i))), .unset]) rfl q) ?_
  show OEnds p e below _ T1 (mkF m 9 #[.val (.ref a), .val (.int (Int32.ofNat i)), .val (.int (Int32.ofNat j)), .val (.int (Int32.ofNat (j - i))), .unset] [])
  refine OEnds.go (fun _ q => XS.iloadN X2.here X2.hx rfl (hb hby d_jdk_65_method_133_9) rfl q) ?_
  show OEnds p e below _ T1 (mkF m 10 #[.val (.ref a), .val (.int (Int32.ofNat i)), .val (.int (Int32.ofNat j)), .val (.int (Int32.ofNat (j - i))), .unset] [(.int (Int32.ofNat (j - i)))])
  refine X2.newP (hw _ (List.mem_of_getElem? (i := 15) rfl)) (hb hby d_jdk_65_method_133_10) (ofN_neg (by omega)) (cap := 16) (by rw [ofN_nat (by omega)]; omega) (by decide) (by decide) (by decide) ?_
  intro T8 h10 a12 ka12 ga12 X9 E11 Ka12
  have gza12 : Z.heap.size ≤ a12 := ga12 ▸ X2.old.1
  have Ka_h10 := Ka.ext E11
  have EX_h10 := ext_trans EX0 E11
  have Sfa12 : Safe Z consts_1 vm4 h10 a12 := Safe.ext E11 X2.chv (Safe.new (Nat.le_of_eq ga12))
  have Ka12_0 : Arv Z h10 a12 ka12 .byte (Int32.ofNat (j - i)) [] (.int (0 : Int32)) := Ka12
  show OEnds p e below _ T8 (mkF m 12 #[.val (.ref a), .val (.int (Int32.ofNat i)), .val (.int (Int32.ofNat j)), .val (.int (Int32.ofNat (j - i))), .unset] [(.ref a12)])
  have Ka12_p := Ka12_0.pad (pad_rep [] (.int 0) (j - i))
  refine OEnds.go (fun _ q => XS.astore X9.here X9.hx rfl (hb hby d_jdk_65_method_133_12) rfl rfl (l' := #[.val (.ref a), .val (.int (Int32.ofNat i)), .val (.int (Int32.ofNat j)), .val (.int (Int32.ofNat (j - i))), .val (.ref a12)]) rfl q) ?_
  show OEnds p e below _ T8 (mkF m 14 #[.val (.ref a), .val (.int (Int32.ofNat i)), .val (.int (Int32.ofNat j)), .val (.int (Int32.ofNat (j - i))), .val (.ref a12)] [])
  refine OEnds.go (fun _ q => XS.aloadN X9.here X9.hx rfl (hb hby d_jdk_65_method_133_14) rfl rfl q) ?_
  show OEnds p e below _ T8 (mkF m 15 #[.val (.ref a), .val (.int (Int32.ofNat i)), .val (.int (Int32.ofNat j)), .val (.int (Int32.ofNat (j - i))), .val (.ref a12)] [(.ref a)])
  refine OEnds.go (fun _ q => XS.iloadN X9.here X9.hx rfl (hb hby d_jdk_65_method_133_15) rfl q) ?_
  show OEnds p e below _ T8 (mkF m 16 #[.val (.ref a), .val (.int (Int32.ofNat i)), .val (.int (Int32.ofNat j)), .val (.int (Int32.ofNat (j - i))), .val (.ref a12)] [(.int (Int32.ofNat i)), (.ref a)])
  refine OEnds.go (fun _ q => XS.aload X9.here X9.hx rfl (hb hby d_jdk_65_method_133_16) rfl rfl q) ?_
  show OEnds p e below _ T8 (mkF m 18 #[.val (.ref a), .val (.int (Int32.ofNat i)), .val (.int (Int32.ofNat j)), .val (.int (Int32.ofNat (j - i))), .val (.ref a12)] [(.ref a12), (.int (Int32.ofNat i)), (.ref a)])
  refine OEnds.go (fun _ q => XS.iconst X9.here X9.hx rfl (hb hby d_jdk_65_method_133_18) q) ?_
  show OEnds p e below _ T8 (mkF m 19 #[.val (.ref a), .val (.int (Int32.ofNat i)), .val (.int (Int32.ofNat j)), .val (.int (Int32.ofNat (j - i))), .val (.ref a12)] [(.int (0 : Int32)), (.ref a12), (.int (Int32.ofNat i)), (.ref a)])
  refine OEnds.go (fun _ q => XS.aloadN X9.here X9.hx rfl (hb hby d_jdk_65_method_133_19) rfl rfl q) ?_
  show OEnds p e below _ T8 (mkF m 20 #[.val (.ref a), .val (.int (Int32.ofNat i)), .val (.int (Int32.ofNat j)), .val (.int (Int32.ofNat (j - i))), .val (.ref a12)] [(.ref a), (.int (0 : Int32)), (.ref a12), (.int (Int32.ofNat i)), (.ref a)])
  refine X9.alen Ka_h10 (hb hby d_jdk_65_method_133_20) ?_
  show OEnds p e below _ T8 (mkF m 21 #[.val (.ref a), .val (.int (Int32.ofNat i)), .val (.int (Int32.ofNat j)), .val (.int (Int32.ofNat (j - i))), .val (.ref a12)] [(.int (Int32.ofNat N)), (.int (0 : Int32)), (.ref a12), (.int (Int32.ofNat i)), (.ref a)])
  refine OEnds.go (fun _ q => XS.iloadN X9.here X9.hx rfl (hb hby d_jdk_65_method_133_21) rfl q) ?_
  show OEnds p e below _ T8 (mkF m 22 #[.val (.ref a), .val (.int (Int32.ofNat i)), .val (.int (Int32.ofNat j)), .val (.int (Int32.ofNat (j - i))), .val (.ref a12)] [(.int (Int32.ofNat i)), (.int (Int32.ofNat N)), (.int (0 : Int32)), (.ref a12), (.int (Int32.ofNat i)), (.ref a)])
  refine OEnds.go (fun _ q => XS.isub X9.here X9.hx rfl (hb hby d_jdk_65_method_133_22) rfl q) ?_
  show OEnds p e below _ T8 (mkF m 23 #[.val (.ref a), .val (.int (Int32.ofNat i)), .val (.int (Int32.ofNat j)), .val (.int (Int32.ofNat (j - i))), .val (.ref a12)] [(.int ((Int32.ofNat N) - (Int32.ofNat i))), (.int (0 : Int32)), (.ref a12), (.int (Int32.ofNat i)), (.ref a)])
  rw [ofN_sub (by omega) (by omega)]
  show OEnds p e below _ T8 (mkF m 23 #[.val (.ref a), .val (.int (Int32.ofNat i)), .val (.int (Int32.ofNat j)), .val (.int (Int32.ofNat (j - i))), .val (.ref a12)] [(.int (Int32.ofNat (N - i))), (.int (0 : Int32)), (.ref a12), (.int (Int32.ofNat i)), (.ref a)])
  refine OEnds.go (fun _ q => XS.iloadN X9.here X9.hx rfl (hb hby d_jdk_65_method_133_23) rfl q) ?_
  show OEnds p e below _ T8 (mkF m 24 #[.val (.ref a), .val (.int (Int32.ofNat i)), .val (.int (Int32.ofNat j)), .val (.int (Int32.ofNat (j - i))), .val (.ref a12)] [(.int (Int32.ofNat (j - i))), (.int (Int32.ofNat (N - i))), (.int (0 : Int32)), (.ref a12), (.int (Int32.ofNat i)), (.ref a)])
  refine X9.callS hE (con_min H (Int32.ofNat (N - i)) (Int32.ofNat (j - i)) h10) (hw _ (List.mem_of_getElem? (i := 134) rfl)) (hw _ (List.mem_of_getElem? (i := 1) rfl)) (hw _ (List.mem_of_getElem? (i := 2) rfl)) (hw _ (List.mem_of_getElem? (i := 3) rfl))  (by decide) (W := 4) (by decide) (by decide) (argsL := [(.int (Int32.ofNat (N - i))), (.int (Int32.ofNat (j - i)))]) (rest := [(.int (0 : Int32)), (.ref a12), (.int (Int32.ofNat i)), (.ref a)]) rfl (lenOf own_pd1 rfl) rfl (by rw [hml]; rfl) (Nat.le_of_eq rfl) (hb hby d_jdk_65_method_133_24) (by decide) (by decide) ?_
  intro v18 vm16 T13 h15 X14 C17 q19
  obtain ⟨rfl, rfl⟩ := q19
  have Sf20 := C17.safe Ka12_p.lt Sfa12
  show OEnds p e below _ T13 (mkF m 27 #[.val (.ref a), .val (.int (Int32.ofNat i)), .val (.int (Int32.ofNat j)), .val (.int (Int32.ofNat (j - i))), .val (.ref a12)] [(.int (if (Int32.ofNat (j - i)) < (Int32.ofNat (N - i)) then (Int32.ofNat (j - i)) else (Int32.ofNat (N - i)))), (.int (0 : Int32)), (.ref a12), (.int (Int32.ofNat i)), (.ref a)])
  have hm : (if (Int32.ofNat (j - i)) < (Int32.ofNat (N - i)) then (Int32.ofNat (j - i)) else (Int32.ofNat (N - i))) = (Int32.ofNat (j - i)) := by
    by_cases q : j - i < N - i
    · rw [if_pos ((ofN_lt (by omega) (by omega)).mpr q)]
    · rw [if_neg (fun z => q ((ofN_lt (by omega) (by omega)).mp z)), show N - i = j - i by omega]
  rw [hm]
  show OEnds p e below _ T13 (mkF m 27 #[.val (.ref a), .val (.int (Int32.ofNat i)), .val (.int (Int32.ofNat j)), .val (.int (Int32.ofNat (j - i))), .val (.ref a12)] [(.int (Int32.ofNat (j - i))), (.int (0 : Int32)), (.ref a12), (.int (Int32.ofNat i)), (.ref a)])
  refine X14.cpB (hw _ (List.mem_of_getElem? (i := 135) rfl)) (hw _ (List.mem_of_getElem? (i := 138) rfl)) (hw _ (List.mem_of_getElem? (i := 136) rfl)) (hw _ (List.mem_of_getElem? (i := 137) rfl)) Ka_h10 Ka12_p (ofN_neg (by omega)) (by decide) (ofN_neg (by omega)) (by rw [ofN_nat (by omega), ofN_nat (by omega), ofN_nat (by omega)]; omega) (by rw [ofN_nat (by omega)]; show 0 + _ ≤ _; omega) (us := ((List.range (j - i)).map fun k => vs.getD (i + k) (.int 0))) (by rw [ofN_nat (by omega), ofN_nat (by omega)]) (by rw [ofN_nat (by omega)]; simp) Sf20 gza12 (by rw [hml]; rfl) (hb hby d_jdk_65_method_133_27) (by decide) (W := 0) (Nat.le_of_eq rfl) (by decide) ?_
  intro T21 h23 X22 K24 B25
  have EBa12_h23 := ext_keep E11 K24 (allS (Nat.le_of_eq ga12) all0)
  have Ka_h23 := Ka.ext EBa12_h23
  have EX_h23 := ext_keep EX_h10 K24 (allS (Nat.le_trans EX0.1 (Nat.le_of_eq ga12)) all0)
  show OEnds p e below _ T21 (mkF m 30 #[.val (.ref a), .val (.int (Int32.ofNat i)), .val (.int (Int32.ofNat j)), .val (.int (Int32.ofNat (j - i))), .val (.ref a12)] [])
  refine OEnds.go (fun _ q => XS.aload X22.here X22.hx rfl (hb hby d_jdk_65_method_133_30) rfl rfl q) ?_
  show OEnds p e below _ T21 (mkF m 32 #[.val (.ref a), .val (.int (Int32.ofNat i)), .val (.int (Int32.ofNat j)), .val (.int (Int32.ofNat (j - i))), .val (.ref a12)] [(.ref a12)])
  have hB : Arv Z h23 a12 ka12 .byte (Int32.ofNat (j - i)) ((List.range (j - i)).map fun k => vs.getD (i + k) (.int 0)) (.int 0) := by
    have q := B25
    rw [ofN_nat (by omega)] at q
    simpa using q
  exact X22.retRef hE hlk rfl (t := (FieldType.array FieldType.byte)) rfl hret (hb hby d_jdk_65_method_133_32) (by decide) (by decide) ⟨_, ka12, rfl, EX_h23, hB, Nat.le_trans EX0.1 (Nat.le_of_eq ga12)⟩
theorem con_cor {l : Launch} {Z : State} {a0 : Array Value} {cz : Int32} {fm : Value} (H : Ctx Z a0 cz fm) (a : Addr) (ka : ClassId) (vs : List Value) (i j N : Nat) (hij : i ≤ j) (hjN : j ≤ N) (hN : N ≤ 16) (hne : ¬ (i = 0 ∧ j = N)) (h0 : Heap) (Ka : Arv Z h0 a ka .byte (Int32.ofNat N) vs (.int 0)) :
    ConX l Z consts_1 (⟨"java/util/Arrays", "copyOfRange", "([BII)[B"⟩ : MethodName) jdk_65_method_132_code 3 (some (FieldType.array FieldType.byte)) [] ({ frames := 2, cells := 1, slots := 16, locals := 76 } : Room) #[(.ref a), (.int (Int32.ofNat i)), (.int (Int32.ofNat j))] h0 (fun r h => ∃ (t : Addr) (kb : ClassId), r = some (.ref t) ∧ Ext h0 h ∧ Arv Z h t kb .byte (Int32.ofNat (j - i)) ((List.range (j - i)).map fun k => vs.getD (i + k) (.int 0)) (.int 0) ∧ h0.size ≤ t) := by
  obtain ⟨hw, hE, S0, hcz, S1, rf⟩ := id H
  refine ConX.of own_pf3 ?_
  intro p e s m below meth c T hby hml hret hlk hnm X0
  have EX0 := ext_refl h0
  refine OEnds.cast (own_ef2 m a (Int32.ofNat i) (Int32.ofNat j) ) ?_
  show OEnds p e below _ T (mkF m 0 #[.val (.ref a), .val (.int (Int32.ofNat i)), .val (.int (Int32.ofNat j))] [])
  refine OEnds.go (fun _ q => XS.iloadN X0.here X0.hx rfl (hb hby d_jdk_65_method_132_0) rfl q) ?_
  show OEnds p e below _ T (mkF m 1 #[.val (.ref a), .val (.int (Int32.ofNat i)), .val (.int (Int32.ofNat j))] [(.int (Int32.ofNat i))])
  have J : OEnds p e below (GW Z consts_1 s (fun r h => ∃ (t : Addr) (kb : ClassId), r = some (.ref t) ∧ Ext h0 h ∧ Arv Z h t kb .byte (Int32.ofNat (j - i)) ((List.range (j - i)).map fun k => vs.getD (i + k) (.int 0)) (.int 0) ∧ h0.size ≤ t) ({ frames := 2, cells := 1, slots := 16, locals := 76 } : Room).cells ({ frames := 2, cells := 1, slots := 16, locals := 76 } : Room).slots) T (mkF m 10 #[.val (.ref a), .val (.int (Int32.ofNat i)), .val (.int (Int32.ofNat j))] []) := by
    refine OEnds.go (fun _ q => XS.aloadN X0.here X0.hx rfl (hb hby d_jdk_65_method_132_10) rfl rfl q) ?_
    show OEnds p e below _ T (mkF m 11 #[.val (.ref a), .val (.int (Int32.ofNat i)), .val (.int (Int32.ofNat j))] [(.ref a)])
    refine OEnds.go (fun _ q => XS.iloadN X0.here X0.hx rfl (hb hby d_jdk_65_method_132_11) rfl q) ?_
    show OEnds p e below _ T (mkF m 12 #[.val (.ref a), .val (.int (Int32.ofNat i)), .val (.int (Int32.ofNat j))] [(.int (Int32.ofNat i)), (.ref a)])
    refine OEnds.go (fun _ q => XS.iloadN X0.here X0.hx rfl (hb hby d_jdk_65_method_132_12) rfl q) ?_
    show OEnds p e below _ T (mkF m 13 #[.val (.ref a), .val (.int (Int32.ofNat i)), .val (.int (Int32.ofNat j))] [(.int (Int32.ofNat j)), (.int (Int32.ofNat i)), (.ref a)])
    refine X0.callS hE (con_crb H a ka vs i j N hij hjN hN h0 Ka) (hw _ (List.mem_of_getElem? (i := 128) rfl)) (hw _ (List.mem_of_getElem? (i := 129) rfl)) (hw _ (List.mem_of_getElem? (i := 126) rfl)) (hw _ (List.mem_of_getElem? (i := 130) rfl))  (by decide) (W := 0) (by decide) (by decide) (argsL := [(.ref a), (.int (Int32.ofNat i)), (.int (Int32.ofNat j))]) (rest := []) rfl (lenOf own_pd2 rfl) rfl (by rw [hml]; rfl) (Nat.le_of_eq rfl) (hb hby d_jdk_65_method_132_13) (by decide) (by decide) ?_
    intro v6 vm4 T1 h3 X2 C5 q7
    obtain ⟨t, kb, rfl, Et, Kt, ft⟩ := q7
    have Ka_h3 := Ka.ext Et
    have EX_h3 := ext_trans EX0 Et
    show OEnds p e below _ T1 (mkF m 16 #[.val (.ref a), .val (.int (Int32.ofNat i)), .val (.int (Int32.ofNat j))] [(.ref t)])
    exact X2.retRef hE hlk rfl (t := (FieldType.array FieldType.byte)) rfl hret (hb hby d_jdk_65_method_132_16) (by decide) (by decide) ⟨_, kb, rfl, EX_h3, Kt, ft⟩
  by_cases hi : (Int32.ofNat i) = (0 : Int32)
  · skip
    refine OEnds.go (fun _ q => XS.ifNo X0.here X0.hx rfl (hb hby d_jdk_65_method_132_1) rfl ((if0 _ _).trans (teq hi).2) q) ?_
    show OEnds p e below _ T (mkF m 4 #[.val (.ref a), .val (.int (Int32.ofNat i)), .val (.int (Int32.ofNat j))] [])
    refine OEnds.go (fun _ q => XS.iloadN X0.here X0.hx rfl (hb hby d_jdk_65_method_132_4) rfl q) ?_
    show OEnds p e below _ T (mkF m 5 #[.val (.ref a), .val (.int (Int32.ofNat i)), .val (.int (Int32.ofNat j))] [(.int (Int32.ofNat j))])
    refine OEnds.go (fun _ q => XS.aloadN X0.here X0.hx rfl (hb hby d_jdk_65_method_132_5) rfl rfl q) ?_
    show OEnds p e below _ T (mkF m 6 #[.val (.ref a), .val (.int (Int32.ofNat i)), .val (.int (Int32.ofNat j))] [(.ref a), (.int (Int32.ofNat j))])
    refine X0.alen Ka (hb hby d_jdk_65_method_132_6) ?_
    show OEnds p e below _ T (mkF m 7 #[.val (.ref a), .val (.int (Int32.ofNat i)), .val (.int (Int32.ofNat j))] [(.int (Int32.ofNat N)), (.int (Int32.ofNat j))])
    refine OEnds.go (fun _ q => XS.icmpNo X0.here X0.hx rfl (hb hby d_jdk_65_method_132_7) rfl (feq (fun q => hne ⟨(ofN_eq (by omega) (by decide)).mp hi, (ofN_eq (by omega) (by omega)).mp q⟩)).1 q) ?_
    show OEnds p e below _ T (mkF m 10 #[.val (.ref a), .val (.int (Int32.ofNat i)), .val (.int (Int32.ofNat j))] [])
    exact J
  · skip
    refine OEnds.go (fun _ q => XS.ifYes X0.here X0.hx rfl (pc0 := 1) (pc' := 10) rfl (hb hby d_jdk_65_method_132_1) rfl ((if0 _ _).trans (feq hi).2) (by decide) (by decide) q) ?_
    show OEnds p e below _ T (mkF m 10 #[.val (.ref a), .val (.int (Int32.ofNat i)), .val (.int (Int32.ofNat j))] [])
    exact J
theorem con_sBB {l : Launch} {Z : State} {a0 : Array Value} {cz : Int32} {fm : Value} (H : Ctx Z a0 cz fm) (a : Addr) (t : Addr) (gza : Z.heap.size ≤ a) (h0 : Heap) (Aa : Exa Z h0 a "java/lang/String") (Fa_value : Fld Z h0 a "java/lang/String" "value" "[B" .null) (Fa_coder : Fld Z h0 a "java/lang/String" "coder" "B" (.int (0 : Int32))) :
    ConX l Z consts_1 (⟨"java/lang/String", "<init>", "([BB)V"⟩ : MethodName) jdk_42_method_151_code 3 (none : Option FieldType) [] ({ frames := 1, cells := 0, slots := 0, locals := 12 } : Room) #[(.ref a), (.ref t), (.int (0 : Int32))] h0 (fun r h => r = none ∧ Keep h0 h [a] ∧ Exa Z h a "java/lang/String" ∧ Fld Z h a "java/lang/String" "value" "[B" (.ref t) ∧ Fld Z h a "java/lang/String" "coder" "B" (.int (0 : Int32))) := by
  obtain ⟨hw, hE, S0, hcz, S1, rf⟩ := id H
  refine ConX.of own_pf4 ?_
  intro p e s m below meth c T hby hml hret hlk hnm X0
  have EX0 := ext_refl h0
  refine OEnds.cast (own_ef3 m a t (0 : Int32) ) ?_
  show OEnds p e below _ T (mkF m 0 #[.val (.ref a), .val (.ref t), .val (.int (0 : Int32))] [])
  have K0 := Keep.refl h0 [a]
  refine OEnds.go (fun _ q => XS.aloadN X0.here X0.hx rfl (hb hby d_jdk_42_method_151_0) rfl rfl q) ?_
  show OEnds p e below _ T (mkF m 1 #[.val (.ref a), .val (.ref t), .val (.int (0 : Int32))] [(.ref a)])
  refine X0.initO (hw _ (List.mem_of_getElem? (i := 66) rfl)) (hw _ (List.mem_of_getElem? (i := 67) rfl)) (hw _ (List.mem_of_getElem? (i := 68) rfl)) (by rw [hml]; rfl) (hb hby d_jdk_42_method_151_1) (by decide) (W := 0) (Nat.le_of_eq rfl) (by decide) ?_
  intro T1 X2
  show OEnds p e below _ T1 (mkF m 4 #[.val (.ref a), .val (.ref t), .val (.int (0 : Int32))] [])
  refine OEnds.go (fun _ q => XS.aloadN X2.here X2.hx rfl (hb hby d_jdk_42_method_151_4) rfl rfl q) ?_
  show OEnds p e below _ T1 (mkF m 5 #[.val (.ref a), .val (.ref t), .val (.int (0 : Int32))] [(.ref a)])
  refine OEnds.go (fun _ q => XS.aloadN X2.here X2.hx rfl (hb hby d_jdk_42_method_151_5) rfl rfl q) ?_
  show OEnds p e below _ T1 (mkF m 6 #[.val (.ref a), .val (.ref t), .val (.int (0 : Int32))] [(.ref t), (.ref a)])
  refine X2.putF (v := (.ref t)) (hw _ (List.mem_of_getElem? (i := 25) rfl)) Via.refl Fa_value Aa (Or.inr ⟨(hw _ (List.mem_of_getElem? (i := 16) rfl)), rfl, hnm⟩) (hw _ (List.mem_of_getElem? (i := 14) rfl)) (ty := (FieldType.array FieldType.byte)) (by decide) rfl rfl (safe_blank X2.al Aa Fa_value) gza (hb hby d_jdk_42_method_151_6) ?_
  intro T3 h5 X4 W6
  have Fa_value_h5 := Fa_value.same W6
  have Aa_h5 := Aa.wr W6
  have Fa_coder_h5 := Fa_coder.other W6 (Or.inr (slot_ne (a0 := a0) (Or.inr (hw _ (List.mem_of_getElem? (i := 17) rfl))) (Or.inr (hw _ (List.mem_of_getElem? (i := 16) rfl))) (by decide) (t := FieldType.byte) (by decide) (t' := (FieldType.array FieldType.byte)) (by decide)))
  have K7 := K0.wr W6 (Or.inl (List.mem_of_getElem? (i := 0) rfl))
  have Sf8 := Safe.wr W6 (safe_blank X2.al Aa Fa_value) X2.chv (safe_blank X2.al Aa Fa_value)
  show OEnds p e below _ T3 (mkF m 9 #[.val (.ref a), .val (.ref t), .val (.int (0 : Int32))] [])
  refine OEnds.go (fun _ q => XS.aloadN X4.here X4.hx rfl (hb hby d_jdk_42_method_151_9) rfl rfl q) ?_
  show OEnds p e below _ T3 (mkF m 10 #[.val (.ref a), .val (.ref t), .val (.int (0 : Int32))] [(.ref a)])
  refine OEnds.go (fun _ q => XS.iloadN X4.here X4.hx rfl (hb hby d_jdk_42_method_151_10) rfl q) ?_
  show OEnds p e below _ T3 (mkF m 11 #[.val (.ref a), .val (.ref t), .val (.int (0 : Int32))] [(.int (0 : Int32)), (.ref a)])
  refine X4.putF (v := (.int (0 : Int32))) (hw _ (List.mem_of_getElem? (i := 32) rfl)) Via.refl Fa_coder_h5 Aa_h5 (Or.inr ⟨(hw _ (List.mem_of_getElem? (i := 17) rfl)), rfl, hnm⟩) (hw _ (List.mem_of_getElem? (i := 14) rfl)) (ty := FieldType.byte) (by decide) rfl rfl Sf8 gza (hb hby d_jdk_42_method_151_11) ?_
  intro T9 h11 X10 W12
  have Fa_coder_h11 := Fa_coder_h5.same W12
  have Aa_h11 := Aa_h5.wr W12
  have Fa_value_h11 := Fa_value_h5.other W12 (Or.inr (slot_ne (a0 := a0) (Or.inr (hw _ (List.mem_of_getElem? (i := 16) rfl))) (Or.inr (hw _ (List.mem_of_getElem? (i := 17) rfl))) (by decide) (t := (FieldType.array FieldType.byte)) (by decide) (t' := FieldType.byte) (by decide)))
  have K13 := K7.wr W12 (Or.inl (List.mem_of_getElem? (i := 0) rfl))
  have Sf14 := Safe.wr W12 Sf8 X4.chv Sf8
  show OEnds p e below _ T9 (mkF m 14 #[.val (.ref a), .val (.ref t), .val (.int (0 : Int32))] [])
  exact X10.ret0 hE hlk  hret (hb hby d_jdk_42_method_151_14) (by decide) (by decide) ⟨rfl, K13, Aa_h11, Fa_value_h11, Fa_coder_h11⟩
theorem con_newS {l : Launch} {Z : State} {a0 : Array Value} {cz : Int32} {fm : Value} (H : Ctx Z a0 cz fm) (a : Addr) (ka : ClassId) (cs : List Int32) (i n : Nat) (hn : i + n ≤ cs.length) (hN : cs.length ≤ 16) (hne : ¬ (i = 0 ∧ n = cs.length)) (hbd : ∀ c ∈ cs, ¬ c < 0 ∧ ¬ (255 : Int32) < c) (h0 : Heap) (Ka : Arv Z h0 a ka .byte (Int32.ofNat cs.length) ((cs.map lo8).map Value.int) (.int 0)) :
    ConX l Z consts_1 (⟨"java/lang/StringLatin1", "newString", "([BII)Ljava/lang/String;"⟩ : MethodName) jdk_43_method_47_code 3 (some (FieldType.object "java/lang/String")) [] ({ frames := 3, cells := 2, slots := 20, locals := 92 } : Room) #[(.ref a), (.int (Int32.ofNat i)), (.int (Int32.ofNat n))] h0 (fun r h => ∃ x : Addr, r = some (.ref x) ∧ Ext h0 h ∧ OStr Z h x ((cs.drop i).take n)) := by
  obtain ⟨hw, hE, S0, hcz, S1, rf⟩ := id H
  refine ConX.of own_pf5 ?_
  intro p e s m below meth c T hby hml hret hlk hnm X0
  have EX0 := ext_refl h0
  refine OEnds.cast (own_ef2 m a (Int32.ofNat i) (Int32.ofNat n) ) ?_
  show OEnds p e below _ T (mkF m 0 #[.val (.ref a), .val (.int (Int32.ofNat i)), .val (.int (Int32.ofNat n))] [])
  refine OEnds.go (fun _ q => XS.iloadN X0.here X0.hx rfl (hb hby d_jdk_43_method_47_0) rfl q) ?_
  show OEnds p e below _ T (mkF m 1 #[.val (.ref a), .val (.int (Int32.ofNat i)), .val (.int (Int32.ofNat n))] [(.int (Int32.ofNat n))])
  by_cases h0n : (Int32.ofNat n) = (0 : Int32)
  · skip
    refine OEnds.go (fun _ q => XS.ifNo X0.here X0.hx rfl (hb hby d_jdk_43_method_47_1) rfl ((if0 _ _).trans (teq h0n).2) q) ?_
    show OEnds p e below _ T (mkF m 4 #[.val (.ref a), .val (.int (Int32.ofNat i)), .val (.int (Int32.ofNat n))] [])
    have hn0 : n = 0 := (ofN_eq (by omega) (by decide)).mp h0n
    refine X0.ldcR hE (hw _ (List.mem_of_getElem? (i := 119) rfl)) (own_wS hw) (List.mem_of_getElem? (i := 1) rfl) (vs := []) (z := 0) ⟨by decide, rfl⟩ (by decide) (by decide) (hb hby d_jdk_43_method_47_4) (j := 0) (by decide) (by decide) (by decide) (by decide) ?_
    intro vm1 T2 h3 a4 a5 ka5 X6 E7 C8 Aa4 Ca4 Va4 Ka5 ne9
    have Ka_h3 := Ka.ext E7
    have EX_h3 := ext_trans EX0 E7
    show OEnds p e below _ T2 (mkF m 6 #[.val (.ref a), .val (.int (Int32.ofNat i)), .val (.int (Int32.ofNat n))] [(.ref a4)])
    have hSa : OStr Z h3 a4 ((cs.drop i).take n) := by
      rw [own_sub_nil hn0]
      exact ⟨Aa4, Ca4, ⟨a5, ka5, Va4, Ka5⟩, all_nil, by decide⟩
    exact X6.retRef hE hlk rfl (t := (FieldType.object "java/lang/String")) rfl hret (hb hby d_jdk_43_method_47_6) (by decide) (by decide) ⟨a4, rfl, EX_h3, hSa⟩
  · skip
    refine OEnds.go (fun _ q => XS.ifYes X0.here X0.hx rfl (pc0 := 1) (pc' := 7) rfl (hb hby d_jdk_43_method_47_1) rfl ((if0 _ _).trans (feq h0n).2) (by decide) (by decide) q) ?_
    show OEnds p e below _ T (mkF m 7 #[.val (.ref a), .val (.int (Int32.ofNat i)), .val (.int (Int32.ofNat n))] [])
    refine X0.newO (hw _ (List.mem_of_getElem? (i := 123) rfl)) (hw _ (List.mem_of_getElem? (i := 14) rfl)) (hw _ (List.mem_of_getElem? (i := 13) rfl)) (hb hby d_jdk_43_method_47_7) (by decide) (by decide) ?_
    intro T10 h12 a14 ga14 X11 E13 Aa14 Da14 Ua14
    have gza14 : Z.heap.size ≤ a14 := ga14 ▸ X0.old.1
    have Ka_h12 := Ka.ext E13
    have EX_h12 := ext_trans EX0 E13
    have Fa14_value : Fld Z h12 a14 "java/lang/String" "value" "[B" .null := Da14 (Or.inr (hw _ (List.mem_of_getElem? (i := 16) rfl))) (ty := (FieldType.array FieldType.byte)) (by decide)
    have Fa14_coder : Fld Z h12 a14 "java/lang/String" "coder" "B" (.int (0 : Int32)) := Da14 (Or.inr (hw _ (List.mem_of_getElem? (i := 17) rfl))) (ty := FieldType.byte) (by decide)
    show OEnds p e below _ T10 (mkF m 10 #[.val (.ref a), .val (.int (Int32.ofNat i)), .val (.int (Int32.ofNat n))] [(.ref a14)])
    refine OEnds.go (fun _ q => XS.dup X11.here X11.hx rfl (hb hby d_jdk_43_method_47_10) rfl rfl q) ?_
    show OEnds p e below _ T10 (mkF m 11 #[.val (.ref a), .val (.int (Int32.ofNat i)), .val (.int (Int32.ofNat n))] [(.ref a14), (.ref a14)])
    refine OEnds.go (fun _ q => XS.aloadN X11.here X11.hx rfl (hb hby d_jdk_43_method_47_11) rfl rfl q) ?_
    show OEnds p e below _ T10 (mkF m 12 #[.val (.ref a), .val (.int (Int32.ofNat i)), .val (.int (Int32.ofNat n))] [(.ref a), (.ref a14), (.ref a14)])
    refine OEnds.go (fun _ q => XS.iloadN X11.here X11.hx rfl (hb hby d_jdk_43_method_47_12) rfl q) ?_
    show OEnds p e below _ T10 (mkF m 13 #[.val (.ref a), .val (.int (Int32.ofNat i)), .val (.int (Int32.ofNat n))] [(.int (Int32.ofNat i)), (.ref a), (.ref a14), (.ref a14)])
    refine OEnds.go (fun _ q => XS.iloadN X11.here X11.hx rfl (hb hby d_jdk_43_method_47_13) rfl q) ?_
    show OEnds p e below _ T10 (mkF m 14 #[.val (.ref a), .val (.int (Int32.ofNat i)), .val (.int (Int32.ofNat n))] [(.int (Int32.ofNat i)), (.int (Int32.ofNat i)), (.ref a), (.ref a14), (.ref a14)])
    refine OEnds.go (fun _ q => XS.iloadN X11.here X11.hx rfl (hb hby d_jdk_43_method_47_14) rfl q) ?_
    show OEnds p e below _ T10 (mkF m 15 #[.val (.ref a), .val (.int (Int32.ofNat i)), .val (.int (Int32.ofNat n))] [(.int (Int32.ofNat n)), (.int (Int32.ofNat i)), (.int (Int32.ofNat i)), (.ref a), (.ref a14), (.ref a14)])
    refine OEnds.go (fun _ q => XS.iadd X11.here X11.hx rfl (hb hby d_jdk_43_method_47_15) rfl q) ?_
    show OEnds p e below _ T10 (mkF m 16 #[.val (.ref a), .val (.int (Int32.ofNat i)), .val (.int (Int32.ofNat n))] [(.int ((Int32.ofNat i) + (Int32.ofNat n))), (.int (Int32.ofNat i)), (.ref a), (.ref a14), (.ref a14)])
    rw [ofN_add (by omega)]
    show OEnds p e below _ T10 (mkF m 16 #[.val (.ref a), .val (.int (Int32.ofNat i)), .val (.int (Int32.ofNat n))] [(.int (Int32.ofNat (i + n))), (.int (Int32.ofNat i)), (.ref a), (.ref a14), (.ref a14)])
    refine X11.callS hE (con_cor H a ka _ i (i + n) cs.length (by omega) hn hN (fun q => hne ⟨q.1, by omega⟩) h12 Ka_h12) (hw _ (List.mem_of_getElem? (i := 124) rfl)) (hw _ (List.mem_of_getElem? (i := 125) rfl)) (hw _ (List.mem_of_getElem? (i := 126) rfl)) (hw _ (List.mem_of_getElem? (i := 127) rfl))  (by decide) (W := 2) (by decide) (by decide) (argsL := [(.ref a), (.int (Int32.ofNat i)), (.int (Int32.ofNat (i + n)))]) (rest := [(.ref a14), (.ref a14)]) rfl (lenOf own_pd2 rfl) rfl (by rw [hml]; rfl) (Nat.le_of_eq rfl) (hb hby d_jdk_43_method_47_16) (by decide) (by decide) ?_
    intro v20 vm18 T15 h17 X16 C19 q21
    obtain ⟨t, kb, rfl, Et, Kt, ft⟩ := q21
    have Ka_h17 := Ka_h12.ext Et
    have Aa14_h17 := Aa14.ext Et
    have Fa14_value_h17 := Fa14_value.ext Et
    have Fa14_coder_h17 := Fa14_coder.ext Et
    have EBa14_h17 := ext_trans E13 Et
    have EX_h17 := ext_trans EX_h12 Et
    show OEnds p e below _ T15 (mkF m 19 #[.val (.ref a), .val (.int (Int32.ofNat i)), .val (.int (Int32.ofNat n))] [(.ref t), (.ref a14), (.ref a14)])
    refine OEnds.go (fun _ q => XS.iconst X16.here X16.hx rfl (hb hby d_jdk_43_method_47_19) q) ?_
    show OEnds p e below _ T15 (mkF m 20 #[.val (.ref a), .val (.int (Int32.ofNat i)), .val (.int (Int32.ofNat n))] [(.int (0 : Int32)), (.ref t), (.ref a14), (.ref a14)])
    refine X16.callI hE (con_sBB H a14 t gza14 h17 Aa14_h17 Fa14_value_h17 Fa14_coder_h17) (hw _ (List.mem_of_getElem? (i := 139) rfl)) (hw _ (List.mem_of_getElem? (i := 140) rfl)) (hw _ (List.mem_of_getElem? (i := 13) rfl)) (hw _ (List.mem_of_getElem? (i := 141) rfl)) rfl (by decide) (W := 1) (by decide) (by decide) (a := a14) (argsL := [(.ref t), (.int (0 : Int32))]) (rest := [(.ref a14)]) rfl (lenOf own_pd3 rfl) rfl (by rw [hml]; rfl) (Nat.le_of_eq rfl) (hb hby d_jdk_43_method_47_20) (by decide) (by decide) ?_
    intro v31 vm29 T26 h28 X27 C30 q32
    obtain ⟨rfl, K22, E23, Ff24_value, Ff25_coder⟩ := q32
    have EBa14_h28 := ext_keep EBa14_h17 K22 (allS (Nat.le_of_eq ga14) all0)
    have Ka_h28 := Ka.ext EBa14_h28
    have Kt_h28 := Kt.keep K22 (ninS (Nat.ne_of_gt (Nat.lt_of_lt_of_le Aa14.lt ft)) nin0)
    have EX_h28 := ext_keep EX_h17 K22 (allS (Nat.le_trans EX0.1 (Nat.le_of_eq ga14)) all0)
    show OEnds p e below _ T26 (mkF m 23 #[.val (.ref a), .val (.int (Int32.ofNat i)), .val (.int (Int32.ofNat n))] [(.ref a14)])
    have hK : Arv Z h28 t kb .byte (Int32.ofNat ((cs.drop i).take n).length) ((((cs.drop i).take n).map lo8).map Value.int) (.int 0) := by
      have q := Kt_h28
      rw [Nat.add_sub_cancel_left, own_us hn] at q
      rw [own_len_sub hn]; exact q
    exact X27.retRef hE hlk rfl (t := (FieldType.object "java/lang/String")) rfl hret (hb hby d_jdk_43_method_47_23) (by decide) (by decide) ⟨a14, rfl, EX_h28, E23, Ff25_coder, ⟨t, kb, Ff24_value, hK⟩, own_all_sub hbd, by rw [own_len_sub hn]; omega⟩
theorem con_isL {l : Launch} {Z : State} {a0 : Array Value} {cz : Int32} {fm : Value} (H : Ctx Z a0 cz fm) (a : Addr) (h0 : Heap) (Fc : Fld Z h0 a "java/lang/String" "coder" "B" (.int (0 : Int32))) :
    ConX l Z consts_1 (⟨"java/lang/String", "isLatin1", "()Z"⟩ : MethodName) jdk_42_method_154_code 1 (some FieldType.boolean) [] ({ frames := 0, cells := 0, slots := 0, locals := 0 } : Room) #[(.ref a)] h0 (fun r h => r = some (.int 1) ∧ h0 = h) := by
  obtain ⟨hw, hE, S0, hcz, S1, rf⟩ := id H
  refine ConX.of own_pf6 ?_
  intro p e s m below meth c T hby hml hret hlk hnm X0
  have EX0 := ext_refl h0
  refine OEnds.cast (own_ef4 m a ) ?_
  show OEnds p e below _ T (mkF m 0 #[.val (.ref a)] [])
  refine X0.getS (hw _ (List.mem_of_getElem? (i := 31) rfl)) Via.refl (S0.ext X0.old) (hb hby d_jdk_42_method_154_0) ?_
  intro T1 X2
  show OEnds p e below _ T1 (mkF m 3 #[.val (.ref a)] [(.int cz)])
  refine OEnds.go (fun _ q => XS.ifNo X2.here X2.hx rfl (hb hby d_jdk_42_method_154_3) rfl ((if0 _ _).trans (feq hcz).1) q) ?_
  show OEnds p e below _ T1 (mkF m 6 #[.val (.ref a)] [])
  refine OEnds.go (fun _ q => XS.aloadN X2.here X2.hx rfl (hb hby d_jdk_42_method_154_6) rfl rfl q) ?_
  show OEnds p e below _ T1 (mkF m 7 #[.val (.ref a)] [(.ref a)])
  refine X2.getF (hw _ (List.mem_of_getElem? (i := 32) rfl)) Via.refl Fc (hb hby d_jdk_42_method_154_7) ?_
  intro T3 X4
  show OEnds p e below _ T3 (mkF m 10 #[.val (.ref a)] [(.int (0 : Int32))])
  refine OEnds.go (fun _ q => XS.ifNo X4.here X4.hx rfl (hb hby d_jdk_42_method_154_10) rfl ((if0 _ _).trans (teq (rfl : (0 : Int32) = 0)).2) q) ?_
  show OEnds p e below _ T3 (mkF m 13 #[.val (.ref a)] [])
  refine OEnds.go (fun _ q => XS.iconst X4.here X4.hx rfl (hb hby d_jdk_42_method_154_13) q) ?_
  show OEnds p e below _ T3 (mkF m 14 #[.val (.ref a)] [(.int (1 : Int32))])
  refine OEnds.go (fun _ q => XS.goto X4.here X4.hx rfl (pc0 := 14) (pc' := 18) rfl (hb hby d_jdk_42_method_154_14) (by decide) (by decide) q) ?_
  show OEnds p e below _ T3 (mkF m 18 #[.val (.ref a)] [(.int (1 : Int32))])
  exact X4.retBool hE hlk (by first | exact Or.inl rfl | exact Or.inr rfl | assumption) hret (hb hby d_jdk_42_method_154_18) (by decide) (by decide) ⟨rfl, rfl⟩
theorem con_ft {l : Launch} {Z : State} {a0 : Array Value} {cz : Int32} {fm : Value} (H : Ctx Z a0 cz fm) (u v z : Int32) (fv : Value) (rfv : fv.isRef = true) (h1 : ¬ u < 0) (h2 : ¬ v < u) (h3 : ¬ z < v) (h0 : Heap)  :
    ConX l Z consts_1 (⟨"jdk/internal/util/Preconditions", "checkFromToIndex", "(IIILjava/util/function/BiFunction;)I"⟩ : MethodName) jdk_41_method_12_code 4 (some FieldType.int) [] ({ frames := 0, cells := 0, slots := 0, locals := 0 } : Room) #[(.int u), (.int v), (.int z), (fv)] h0 (fun r h => r = some (.int u) ∧ h0 = h) := by
  obtain ⟨hw, hE, S0, hcz, S1, rf⟩ := id H
  refine ConX.of own_pf7 ?_
  intro p e s m below meth c T hby hml hret hlk hnm X0
  have EX0 := ext_refl h0
  refine OEnds.cast (own_ef5 m u v z fv rfv) ?_
  show OEnds p e below _ T (mkF m 0 #[.val (.int u), .val (.int v), .val (.int z), .val (fv)] [])
  refine OEnds.go (fun _ q => XS.iloadN X0.here X0.hx rfl (hb hby d_jdk_41_method_12_0) rfl q) ?_
  show OEnds p e below _ T (mkF m 1 #[.val (.int u), .val (.int v), .val (.int z), .val (fv)] [(.int u)])
  refine OEnds.go (fun _ q => XS.ifNo X0.here X0.hx rfl (hb hby d_jdk_41_method_12_1) rfl ((if0 _ _).trans (flt h1).1) q) ?_
  show OEnds p e below _ T (mkF m 4 #[.val (.int u), .val (.int v), .val (.int z), .val (fv)] [])
  refine OEnds.go (fun _ q => XS.iloadN X0.here X0.hx rfl (hb hby d_jdk_41_method_12_4) rfl q) ?_
  show OEnds p e below _ T (mkF m 5 #[.val (.int u), .val (.int v), .val (.int z), .val (fv)] [(.int u)])
  refine OEnds.go (fun _ q => XS.iloadN X0.here X0.hx rfl (hb hby d_jdk_41_method_12_5) rfl q) ?_
  show OEnds p e below _ T (mkF m 6 #[.val (.int u), .val (.int v), .val (.int z), .val (fv)] [(.int v), (.int u)])
  refine OEnds.go (fun _ q => XS.icmpNo X0.here X0.hx rfl (hb hby d_jdk_41_method_12_6) rfl (flt h2).2.2.1 q) ?_
  show OEnds p e below _ T (mkF m 9 #[.val (.int u), .val (.int v), .val (.int z), .val (fv)] [])
  refine OEnds.go (fun _ q => XS.iloadN X0.here X0.hx rfl (hb hby d_jdk_41_method_12_9) rfl q) ?_
  show OEnds p e below _ T (mkF m 10 #[.val (.int u), .val (.int v), .val (.int z), .val (fv)] [(.int v)])
  refine OEnds.go (fun _ q => XS.iloadN X0.here X0.hx rfl (hb hby d_jdk_41_method_12_10) rfl q) ?_
  show OEnds p e below _ T (mkF m 11 #[.val (.int u), .val (.int v), .val (.int z), .val (fv)] [(.int z), (.int v)])
  refine OEnds.go (fun _ q => XS.icmpYes X0.here X0.hx rfl (pc0 := 11) (pc' := 22) rfl (hb hby d_jdk_41_method_12_11) rfl (flt h3).2.2.2 (by decide) (by decide) q) ?_
  show OEnds p e below _ T (mkF m 22 #[.val (.int u), .val (.int v), .val (.int z), .val (fv)] [])
  refine OEnds.go (fun _ q => XS.iloadN X0.here X0.hx rfl (hb hby d_jdk_41_method_12_22) rfl q) ?_
  show OEnds p e below _ T (mkF m 23 #[.val (.int u), .val (.int v), .val (.int z), .val (fv)] [(.int u)])
  exact X0.retInt hE hlk  hret (hb hby d_jdk_41_method_12_23) (by decide) (by decide) ⟨rfl, rfl⟩
theorem con_be {l : Launch} {Z : State} {a0 : Array Value} {cz : Int32} {fm : Value} (H : Ctx Z a0 cz fm) (u v z : Int32) (h1 : ¬ u < 0) (h2 : ¬ v < u) (h3 : ¬ z < v) (h0 : Heap)  :
    ConX l Z consts_1 (⟨"java/lang/String", "checkBoundsBeginEnd", "(III)V"⟩ : MethodName) jdk_42_method_158_code 3 (none : Option FieldType) [] ({ frames := 1, cells := 0, slots := 0, locals := 15 } : Room) #[(.int u), (.int v), (.int z)] h0 (fun r h => r = none ∧ h0 = h) := by
  obtain ⟨hw, hE, S0, hcz, S1, rf⟩ := id H
  refine ConX.of own_pf8 ?_
  intro p e s m below meth c T hby hml hret hlk hnm X0
  have EX0 := ext_refl h0
  refine OEnds.cast (own_ef6 m u v z ) ?_
  show OEnds p e below _ T (mkF m 0 #[.val (.int u), .val (.int v), .val (.int z)] [])
  refine OEnds.go (fun _ q => XS.iloadN X0.here X0.hx rfl (hb hby d_jdk_42_method_158_0) rfl q) ?_
  show OEnds p e below _ T (mkF m 1 #[.val (.int u), .val (.int v), .val (.int z)] [(.int u)])
  refine OEnds.go (fun _ q => XS.iloadN X0.here X0.hx rfl (hb hby d_jdk_42_method_158_1) rfl q) ?_
  show OEnds p e below _ T (mkF m 2 #[.val (.int u), .val (.int v), .val (.int z)] [(.int v), (.int u)])
  refine OEnds.go (fun _ q => XS.iloadN X0.here X0.hx rfl (hb hby d_jdk_42_method_158_2) rfl q) ?_
  show OEnds p e below _ T (mkF m 3 #[.val (.int u), .val (.int v), .val (.int z)] [(.int z), (.int v), (.int u)])
  refine X0.getS (hw _ (List.mem_of_getElem? (i := 50) rfl)) Via.refl (S1.ext X0.old) (hb hby d_jdk_42_method_158_3) ?_
  intro T1 X2
  show OEnds p e below _ T1 (mkF m 6 #[.val (.int u), .val (.int v), .val (.int z)] [(fm), (.int z), (.int v), (.int u)])
  refine X2.callS hE (con_ft H u v z fm rf h1 h2 h3 h0) (hw _ (List.mem_of_getElem? (i := 113) rfl)) (hw _ (List.mem_of_getElem? (i := 114) rfl)) (hw _ (List.mem_of_getElem? (i := 51) rfl)) (hw _ (List.mem_of_getElem? (i := 115) rfl))  (by decide) (W := 0) (by decide) (by decide) (argsL := [(.int u), (.int v), (.int z), (fm)]) (rest := []) rfl (lenOf own_pd4 rfl) rfl (by rw [hml]; rfl) (Nat.le_of_eq rfl) (hb hby d_jdk_42_method_158_6) (by decide) (by decide) ?_
  intro v8 vm6 T3 h5 X4 C7 q9
  obtain ⟨rfl, rfl⟩ := q9
  show OEnds p e below _ T3 (mkF m 9 #[.val (.int u), .val (.int v), .val (.int z)] [(.int u)])
  refine OEnds.go (fun _ q => XS.pop X4.here X4.hx rfl (hb hby d_jdk_42_method_158_9) rfl rfl q) ?_
  show OEnds p e below _ T3 (mkF m 10 #[.val (.int u), .val (.int v), .val (.int z)] [])
  exact X4.ret0 hE hlk  hret (hb hby d_jdk_42_method_158_10) (by decide) (by decide) ⟨rfl, rfl⟩
theorem con_sub {l : Launch} {Z : State} {a0 : Array Value} {cz : Int32} {fm : Value} (H : Ctx Z a0 cz fm) (x : Addr) (cs : List Int32) (i j : Nat) (hij : i ≤ j) (hj : j ≤ cs.length) (hN : cs.length ≤ 16) (h0 : Heap) (Sx : OStr Z h0 x cs) :
    ConX l Z consts_1 (⟨"java/lang/String", "substring", "(II)Ljava/lang/String;"⟩ : MethodName) jdk_42_method_92_code 5 (some (FieldType.object "java/lang/String")) [] ({ frames := 4, cells := 2, slots := 20, locals := 106 } : Room) #[(.ref x), (.int (Int32.ofNat i)), (.int (Int32.ofNat j))] h0 (fun r h => ∃ y : Addr, r = some (.ref y) ∧ Ext h0 h ∧ OStr Z h y ((cs.drop i).take (j - i))) := by
  obtain ⟨hw, hE, S0, hcz, S1, rf⟩ := id H
  refine ConX.of own_pf9 ?_
  intro p e s m below meth c T hby hml hret hlk hnm X0
  have EX0 := ext_refl h0
  refine OEnds.cast (own_ef1 m x (Int32.ofNat i) (Int32.ofNat j) ) ?_
  show OEnds p e below _ T (mkF m 0 #[.val (.ref x), .val (.int (Int32.ofNat i)), .val (.int (Int32.ofNat j)), .unset, .unset] [])
  refine OEnds.go (fun _ q => XS.aloadN X0.here X0.hx rfl (hb hby d_jdk_42_method_92_0) rfl rfl q) ?_
  show OEnds p e below _ T (mkF m 1 #[.val (.ref x), .val (.int (Int32.ofNat i)), .val (.int (Int32.ofNat j)), .unset, .unset] [(.ref x)])
  refine X0.payV (own_len H (W := 0) X0.hZ X0.old Sx (by decide) (by decide)) (okPure X0) (hw _ (List.mem_of_getElem? (i := 109) rfl)) (hw _ (List.mem_of_getElem? (i := 21) rfl)) (hw _ (List.mem_of_getElem? (i := 23) rfl)) (hw _ (List.mem_of_getElem? (i := 22) rfl)) (X0.nf (hw _ (List.mem_of_getElem? (i := 23) rfl))) (by decide) Sx.exa (argsL := []) (rest := []) rfl (lenOf own_pd5 rfl) rfl (by rw [hml]; rfl) (Nat.le_of_eq rfl) (hb hby d_jdk_42_method_92_1) (by decide) (by decide) ?_
  intro v1 T2 h3 L4 X5 q6
  obtain ⟨rfl, -, e7⟩ := q6
  obtain rfl := e7.symm
  show OEnds p e below _ T2 (mkF m 4 #[.val (.ref x), .val (.int (Int32.ofNat i)), .val (.int (Int32.ofNat j)), .unset, .unset] [(.int (Int32.ofNat cs.length))])
  refine OEnds.go (fun _ q => XS.istoreN X5.here X5.hx rfl (hb hby d_jdk_42_method_92_4) rfl (l' := #[.val (.ref x), .val (.int (Int32.ofNat i)), .val (.int (Int32.ofNat j)), .val (.int (Int32.ofNat cs.length)), .unset]) rfl q) ?_
  show OEnds p e below _ T2 (mkF m 5 #[.val (.ref x), .val (.int (Int32.ofNat i)), .val (.int (Int32.ofNat j)), .val (.int (Int32.ofNat cs.length)), .unset] [])
  refine OEnds.go (fun _ q => XS.iloadN X5.here X5.hx rfl (hb hby d_jdk_42_method_92_5) rfl q) ?_
  show OEnds p e below _ T2 (mkF m 6 #[.val (.ref x), .val (.int (Int32.ofNat i)), .val (.int (Int32.ofNat j)), .val (.int (Int32.ofNat cs.length)), .unset] [(.int (Int32.ofNat i))])
  refine OEnds.go (fun _ q => XS.iloadN X5.here X5.hx rfl (hb hby d_jdk_42_method_92_6) rfl q) ?_
  show OEnds p e below _ T2 (mkF m 7 #[.val (.ref x), .val (.int (Int32.ofNat i)), .val (.int (Int32.ofNat j)), .val (.int (Int32.ofNat cs.length)), .unset] [(.int (Int32.ofNat j)), (.int (Int32.ofNat i))])
  refine OEnds.go (fun _ q => XS.iloadN X5.here X5.hx rfl (hb hby d_jdk_42_method_92_7) rfl q) ?_
  show OEnds p e below _ T2 (mkF m 8 #[.val (.ref x), .val (.int (Int32.ofNat i)), .val (.int (Int32.ofNat j)), .val (.int (Int32.ofNat cs.length)), .unset] [(.int (Int32.ofNat cs.length)), (.int (Int32.ofNat j)), (.int (Int32.ofNat i))])
  refine X5.callS hE (con_be H (Int32.ofNat i) (Int32.ofNat j) (Int32.ofNat cs.length) (ofN_neg (by omega)) (by rw [ofN_lt (by omega) (by omega)]; omega) (by rw [ofN_lt (by omega) (by omega)]; omega) h0) (hw _ (List.mem_of_getElem? (i := 110) rfl)) (hw _ (List.mem_of_getElem? (i := 111) rfl)) (hw _ (List.mem_of_getElem? (i := 13) rfl)) (hw _ (List.mem_of_getElem? (i := 112) rfl))  (by decide) (W := 0) (by decide) (by decide) (argsL := [(.int (Int32.ofNat i)), (.int (Int32.ofNat j)), (.int (Int32.ofNat cs.length))]) (rest := []) rfl (lenOf own_pd6 rfl) rfl (by rw [hml]; rfl) (Nat.le_of_eq rfl) (hb hby d_jdk_42_method_92_8) (by decide) (by decide) ?_
  intro v13 vm11 T8 h10 X9 C12 q14
  obtain ⟨rfl, rfl⟩ := q14
  show OEnds p e below _ T8 (mkF m 11 #[.val (.ref x), .val (.int (Int32.ofNat i)), .val (.int (Int32.ofNat j)), .val (.int (Int32.ofNat cs.length)), .unset] [])
  refine OEnds.go (fun _ q => XS.iloadN X9.here X9.hx rfl (hb hby d_jdk_42_method_92_11) rfl q) ?_
  show OEnds p e below _ T8 (mkF m 12 #[.val (.ref x), .val (.int (Int32.ofNat i)), .val (.int (Int32.ofNat j)), .val (.int (Int32.ofNat cs.length)), .unset] [(.int (Int32.ofNat i))])
  have J : ¬ (i = 0 ∧ j = cs.length) → OEnds p e below (GW Z consts_1 s (fun r h => ∃ y : Addr, r = some (.ref y) ∧ Ext h0 h ∧ OStr Z h y ((cs.drop i).take (j - i))) ({ frames := 4, cells := 2, slots := 20, locals := 106 } : Room).cells ({ frames := 4, cells := 2, slots := 20, locals := 106 } : Room).slots) T8 (mkF m 22 #[.val (.ref x), .val (.int (Int32.ofNat i)), .val (.int (Int32.ofNat j)), .val (.int (Int32.ofNat cs.length)), .unset] []) := by
    intro  hne
    refine OEnds.go (fun _ q => XS.iloadN X9.here X9.hx rfl (hb hby d_jdk_42_method_92_22) rfl q) ?_
    show OEnds p e below _ T8 (mkF m 23 #[.val (.ref x), .val (.int (Int32.ofNat i)), .val (.int (Int32.ofNat j)), .val (.int (Int32.ofNat cs.length)), .unset] [(.int (Int32.ofNat j))])
    refine OEnds.go (fun _ q => XS.iloadN X9.here X9.hx rfl (hb hby d_jdk_42_method_92_23) rfl q) ?_
    show OEnds p e below _ T8 (mkF m 24 #[.val (.ref x), .val (.int (Int32.ofNat i)), .val (.int (Int32.ofNat j)), .val (.int (Int32.ofNat cs.length)), .unset] [(.int (Int32.ofNat i)), (.int (Int32.ofNat j))])
    refine OEnds.go (fun _ q => XS.isub X9.here X9.hx rfl (hb hby d_jdk_42_method_92_24) rfl q) ?_
    show OEnds p e below _ T8 (mkF m 25 #[.val (.ref x), .val (.int (Int32.ofNat i)), .val (.int (Int32.ofNat j)), .val (.int (Int32.ofNat cs.length)), .unset] [(.int ((Int32.ofNat j) - (Int32.ofNat i)))])
    rw [ofN_sub (by omega) hij]
    show OEnds p e below _ T8 (mkF m 25 #[.val (.ref x), .val (.int (Int32.ofNat i)), .val (.int (Int32.ofNat j)), .val (.int (Int32.ofNat cs.length)), .unset] [(.int (Int32.ofNat (j - i)))])
    obtain ⟨Ax, Fc, ⟨t, kb, Fv, Kt⟩, hbd, -⟩ := id Sx
    refine OEnds.go (fun _ q => XS.istore X9.here X9.hx rfl (hb hby d_jdk_42_method_92_25) rfl (l' := #[.val (.ref x), .val (.int (Int32.ofNat i)), .val (.int (Int32.ofNat j)), .val (.int (Int32.ofNat cs.length)), .val (.int (Int32.ofNat (j - i)))]) rfl q) ?_
    show OEnds p e below _ T8 (mkF m 27 #[.val (.ref x), .val (.int (Int32.ofNat i)), .val (.int (Int32.ofNat j)), .val (.int (Int32.ofNat cs.length)), .val (.int (Int32.ofNat (j - i)))] [])
    refine OEnds.go (fun _ q => XS.aloadN X9.here X9.hx rfl (hb hby d_jdk_42_method_92_27) rfl rfl q) ?_
    show OEnds p e below _ T8 (mkF m 28 #[.val (.ref x), .val (.int (Int32.ofNat i)), .val (.int (Int32.ofNat j)), .val (.int (Int32.ofNat cs.length)), .val (.int (Int32.ofNat (j - i)))] [(.ref x)])
    refine X9.callV hE (con_isL H x h0 Fc) (hw _ (List.mem_of_getElem? (i := 38) rfl)) (hw _ (List.mem_of_getElem? (i := 39) rfl)) (hw _ (List.mem_of_getElem? (i := 41) rfl)) (hw _ (List.mem_of_getElem? (i := 40) rfl)) (hw _ (List.mem_of_getElem? (i := 13) rfl)) (hw _ (List.mem_of_getElem? (i := 42) rfl)) (X9.nf (hw _ (List.mem_of_getElem? (i := 41) rfl))) (by decide) (W := 0) (by decide) (by decide) Ax (argsL := []) (rest := []) rfl (lenOf own_pd7 rfl) rfl (by rw [hml]; rfl) (Nat.le_of_eq rfl) (hb hby d_jdk_42_method_92_28) (by decide) (by decide) ?_
    intro v20 vm18 T15 h17 X16 C19 q21
    obtain ⟨rfl, rfl⟩ := q21
    show OEnds p e below _ T15 (mkF m 31 #[.val (.ref x), .val (.int (Int32.ofNat i)), .val (.int (Int32.ofNat j)), .val (.int (Int32.ofNat cs.length)), .val (.int (Int32.ofNat (j - i)))] [(.int (1 : Int32))])
    refine OEnds.go (fun _ q => XS.ifNo X16.here X16.hx rfl (hb hby d_jdk_42_method_92_31) rfl ((if0 _ _).trans (feq (by decide)).1) q) ?_
    show OEnds p e below _ T15 (mkF m 34 #[.val (.ref x), .val (.int (Int32.ofNat i)), .val (.int (Int32.ofNat j)), .val (.int (Int32.ofNat cs.length)), .val (.int (Int32.ofNat (j - i)))] [])
    refine OEnds.go (fun _ q => XS.aloadN X16.here X16.hx rfl (hb hby d_jdk_42_method_92_34) rfl rfl q) ?_
    show OEnds p e below _ T15 (mkF m 35 #[.val (.ref x), .val (.int (Int32.ofNat i)), .val (.int (Int32.ofNat j)), .val (.int (Int32.ofNat cs.length)), .val (.int (Int32.ofNat (j - i)))] [(.ref x)])
    refine X16.getF (hw _ (List.mem_of_getElem? (i := 25) rfl)) Via.refl Fv (hb hby d_jdk_42_method_92_35) ?_
    intro T22 X23
    show OEnds p e below _ T22 (mkF m 38 #[.val (.ref x), .val (.int (Int32.ofNat i)), .val (.int (Int32.ofNat j)), .val (.int (Int32.ofNat cs.length)), .val (.int (Int32.ofNat (j - i)))] [(.ref t)])
    refine OEnds.go (fun _ q => XS.iloadN X23.here X23.hx rfl (hb hby d_jdk_42_method_92_38) rfl q) ?_
    show OEnds p e below _ T22 (mkF m 39 #[.val (.ref x), .val (.int (Int32.ofNat i)), .val (.int (Int32.ofNat j)), .val (.int (Int32.ofNat cs.length)), .val (.int (Int32.ofNat (j - i)))] [(.int (Int32.ofNat i)), (.ref t)])
    refine OEnds.go (fun _ q => XS.iload X23.here X23.hx rfl (hb hby d_jdk_42_method_92_39) rfl q) ?_
    show OEnds p e below _ T22 (mkF m 41 #[.val (.ref x), .val (.int (Int32.ofNat i)), .val (.int (Int32.ofNat j)), .val (.int (Int32.ofNat cs.length)), .val (.int (Int32.ofNat (j - i)))] [(.int (Int32.ofNat (j - i))), (.int (Int32.ofNat i)), (.ref t)])
    refine X23.callS hE (con_newS H t kb cs i (j - i) (by omega) hN (fun q => hne ⟨q.1, by omega⟩) hbd h0 Kt) (hw _ (List.mem_of_getElem? (i := 116) rfl)) (hw _ (List.mem_of_getElem? (i := 117) rfl)) (hw _ (List.mem_of_getElem? (i := 45) rfl)) (hw _ (List.mem_of_getElem? (i := 118) rfl))  (by decide) (W := 0) (by decide) (by decide) (argsL := [(.ref t), (.int (Int32.ofNat i)), (.int (Int32.ofNat (j - i)))]) (rest := []) rfl (lenOf own_pd8 rfl) rfl (by rw [hml]; rfl) (Nat.le_of_eq rfl) (hb hby d_jdk_42_method_92_41) (by decide) (by decide) ?_
    intro v29 vm27 T24 h26 X25 C28 q30
    obtain ⟨y, rfl, Ey, Sy⟩ := q30
    have Sx_h26 := Sx.ext Ey
    have Ax_h26 := Ax.ext Ey
    have Fc_h26 := Fc.ext Ey
    have Fv_h26 := Fv.ext Ey
    have EX_h26 := ext_trans EX0 Ey
    show OEnds p e below _ T24 (mkF m 44 #[.val (.ref x), .val (.int (Int32.ofNat i)), .val (.int (Int32.ofNat j)), .val (.int (Int32.ofNat cs.length)), .val (.int (Int32.ofNat (j - i)))] [(.ref y)])
    refine OEnds.go (fun _ q => XS.goto X25.here X25.hx rfl (pc0 := 44) (pc' := 57) rfl (hb hby d_jdk_42_method_92_44) (by decide) (by decide) q) ?_
    show OEnds p e below _ T24 (mkF m 57 #[.val (.ref x), .val (.int (Int32.ofNat i)), .val (.int (Int32.ofNat j)), .val (.int (Int32.ofNat cs.length)), .val (.int (Int32.ofNat (j - i)))] [(.ref y)])
    exact X25.retRef hE hlk rfl (t := (FieldType.object "java/lang/String")) rfl hret (hb hby d_jdk_42_method_92_57) (by decide) (by decide) ⟨y, rfl, EX_h26, Sy⟩
  by_cases hi : (Int32.ofNat i) = (0 : Int32)
  · skip
    refine OEnds.go (fun _ q => XS.ifNo X9.here X9.hx rfl (hb hby d_jdk_42_method_92_12) rfl ((if0 _ _).trans (teq hi).2) q) ?_
    show OEnds p e below _ T8 (mkF m 15 #[.val (.ref x), .val (.int (Int32.ofNat i)), .val (.int (Int32.ofNat j)), .val (.int (Int32.ofNat cs.length)), .unset] [])
    refine OEnds.go (fun _ q => XS.iloadN X9.here X9.hx rfl (hb hby d_jdk_42_method_92_15) rfl q) ?_
    show OEnds p e below _ T8 (mkF m 16 #[.val (.ref x), .val (.int (Int32.ofNat i)), .val (.int (Int32.ofNat j)), .val (.int (Int32.ofNat cs.length)), .unset] [(.int (Int32.ofNat j))])
    refine OEnds.go (fun _ q => XS.iloadN X9.here X9.hx rfl (hb hby d_jdk_42_method_92_16) rfl q) ?_
    show OEnds p e below _ T8 (mkF m 17 #[.val (.ref x), .val (.int (Int32.ofNat i)), .val (.int (Int32.ofNat j)), .val (.int (Int32.ofNat cs.length)), .unset] [(.int (Int32.ofNat cs.length)), (.int (Int32.ofNat j))])
    by_cases hjl : (Int32.ofNat j) = (Int32.ofNat cs.length)
    · skip
      refine OEnds.go (fun _ q => XS.icmpNo X9.here X9.hx rfl (hb hby d_jdk_42_method_92_17) rfl (teq hjl).2 q) ?_
      show OEnds p e below _ T8 (mkF m 20 #[.val (.ref x), .val (.int (Int32.ofNat i)), .val (.int (Int32.ofNat j)), .val (.int (Int32.ofNat cs.length)), .unset] [])
      refine OEnds.go (fun _ q => XS.aloadN X9.here X9.hx rfl (hb hby d_jdk_42_method_92_20) rfl rfl q) ?_
      show OEnds p e below _ T8 (mkF m 21 #[.val (.ref x), .val (.int (Int32.ofNat i)), .val (.int (Int32.ofNat j)), .val (.int (Int32.ofNat cs.length)), .unset] [(.ref x)])
      have hs := own_sub_all ((ofN_eq (by omega) (by decide)).mp hi) ((ofN_eq (by omega) (by omega)).mp hjl)
      have hS := Sx
      rw [← hs] at hS
      exact X9.retRef hE hlk rfl (t := (FieldType.object "java/lang/String")) rfl hret (hb hby d_jdk_42_method_92_21) (by decide) (by decide) ⟨x, rfl, EX0, hS⟩
    · skip
      refine OEnds.go (fun _ q => XS.icmpYes X9.here X9.hx rfl (pc0 := 17) (pc' := 22) rfl (hb hby d_jdk_42_method_92_17) rfl (feq hjl).2 (by decide) (by decide) q) ?_
      show OEnds p e below _ T8 (mkF m 22 #[.val (.ref x), .val (.int (Int32.ofNat i)), .val (.int (Int32.ofNat j)), .val (.int (Int32.ofNat cs.length)), .unset] [])
      exact J fun q => hjl (by rw [q.2])
  · skip
    refine OEnds.go (fun _ q => XS.ifYes X9.here X9.hx rfl (pc0 := 12) (pc' := 22) rfl (hb hby d_jdk_42_method_92_12) rfl ((if0 _ _).trans (feq hi).2) (by decide) (by decide) q) ?_
    show OEnds p e below _ T8 (mkF m 22 #[.val (.ref x), .val (.int (Int32.ofNat i)), .val (.int (Int32.ofNat j)), .val (.int (Int32.ofNat cs.length)), .unset] [])
    exact J fun q => hi (by rw [q.1]; rfl)
theorem con_raw {l : Launch} {Z : State} {a0 : Array Value} {cz : Int32} {fm : Value} (H : Ctx Z a0 cz fm) (a b i : Int32) (h0 : Heap)  :
    ConN l Z (⟨"com/example/riden/riden/parse/ComponentsQueryPinLaw", "raw", "(III)I"⟩ : MethodName) method_2_code 4 (some FieldType.int) [] ({ frames := 0, cells := 0, slots := 0, locals := 0 } : Room) #[(.int a), (.int b), (.int i)] h0 (fun r h => (∃ v : Int32, r = some (.int v) ∧ (¬ v < 0 ∧ ¬ (255 : Int32) < v)) ∧ h0 = h) := by
  obtain ⟨hw, hE, S0, hcz, S1, rf⟩ := id H
  refine ConN.of own_pf10 ?_
  intro p e s m below meth c T hby hml hret hlk hnm X0
  have EX0 := ext_refl h0
  refine OEnds.cast (own_ef7 m a b i ) ?_
  show OEnds p e below _ T (mkF m 0 #[.val (.int a), .val (.int b), .val (.int i), .unset] [])
  refine OEnds.go (fun _ q => XS.iloadN X0.here X0.hx rfl (hb hby d_method_2_0) rfl q) ?_
  show OEnds p e below _ T (mkF m 1 #[.val (.int a), .val (.int b), .val (.int i), .unset] [(.int i)])
  refine OEnds.go (fun _ q => XS.iconst X0.here X0.hx rfl (hb hby d_method_2_1) q) ?_
  show OEnds p e below _ T (mkF m 2 #[.val (.int a), .val (.int b), .val (.int i), .unset] [(.int (4 : Int32)), (.int i)])
  have J : ∀ (x : Int32), OEnds p e below (GN Z s (fun r h => (∃ v : Int32, r = some (.int v) ∧ (¬ v < 0 ∧ ¬ (255 : Int32) < v)) ∧ h0 = h) ({ frames := 0, cells := 0, slots := 0, locals := 0 } : Room).cells ({ frames := 0, cells := 0, slots := 0, locals := 0 } : Room).slots) T (mkF m 10 #[.val (.int a), .val (.int b), .val (.int i), .unset] [(.int x)]) := by
    intro x 
    refine OEnds.go (fun _ q => XS.istoreN X0.here X0.hx rfl (hb hby d_method_2_10) rfl (l' := #[.val (.int a), .val (.int b), .val (.int i), .val (.int x)]) rfl q) ?_
    show OEnds p e below _ T (mkF m 11 #[.val (.int a), .val (.int b), .val (.int i), .val (.int x)] [])
    refine OEnds.go (fun _ q => XS.iloadN X0.here X0.hx rfl (hb hby d_method_2_11) rfl q) ?_
    show OEnds p e below _ T (mkF m 12 #[.val (.int a), .val (.int b), .val (.int i), .val (.int x)] [(.int x)])
    refine OEnds.go (fun _ q => XS.bipush X0.here X0.hx rfl (hb hby d_method_2_12) q) ?_
    show OEnds p e below _ T (mkF m 14 #[.val (.int a), .val (.int b), .val (.int i), .val (.int x)] [(.int (8 : Int32)), (.int x)])
    refine OEnds.go (fun _ q => XS.iloadN X0.here X0.hx rfl (hb hby d_method_2_14) rfl q) ?_
    show OEnds p e below _ T (mkF m 15 #[.val (.int a), .val (.int b), .val (.int i), .val (.int x)] [(.int i), (.int (8 : Int32)), (.int x)])
    refine OEnds.go (fun _ q => XS.iconst X0.here X0.hx rfl (hb hby d_method_2_15) q) ?_
    show OEnds p e below _ T (mkF m 16 #[.val (.int a), .val (.int b), .val (.int i), .val (.int x)] [(.int (3 : Int32)), (.int i), (.int (8 : Int32)), (.int x)])
    refine OEnds.go (fun _ q => XS.iand X0.here X0.hx rfl (hb hby d_method_2_16) rfl q) ?_
    show OEnds p e below _ T (mkF m 17 #[.val (.int a), .val (.int b), .val (.int i), .val (.int x)] [(.int (i &&& (3 : Int32))), (.int (8 : Int32)), (.int x)])
    refine OEnds.go (fun _ q => XS.imul X0.here X0.hx rfl (hb hby d_method_2_17) rfl q) ?_
    show OEnds p e below _ T (mkF m 18 #[.val (.int a), .val (.int b), .val (.int i), .val (.int x)] [(.int ((8 : Int32) * (i &&& (3 : Int32)))), (.int x)])
    refine OEnds.go (fun _ q => XS.iushr X0.here X0.hx rfl (hb hby d_method_2_18) rfl q) ?_
    show OEnds p e below _ T (mkF m 19 #[.val (.int a), .val (.int b), .val (.int i), .val (.int x)] [(.int (x.toUInt32 >>> (((8 : Int32) * (i &&& (3 : Int32))) &&& 31).toUInt32).toInt32)])
    refine OEnds.go (fun _ q => XS.sipush X0.here X0.hx rfl (hb hby d_method_2_19) q) ?_
    show OEnds p e below _ T (mkF m 22 #[.val (.int a), .val (.int b), .val (.int i), .val (.int x)] [(.int (255 : Int32)), (.int (x.toUInt32 >>> (((8 : Int32) * (i &&& (3 : Int32))) &&& 31).toUInt32).toInt32)])
    refine OEnds.go (fun _ q => XS.iand X0.here X0.hx rfl (hb hby d_method_2_22) rfl q) ?_
    show OEnds p e below _ T (mkF m 23 #[.val (.int a), .val (.int b), .val (.int i), .val (.int x)] [(.int ((x.toUInt32 >>> (((8 : Int32) * (i &&& (3 : Int32))) &&& 31).toUInt32).toInt32 &&& (255 : Int32)))])
    obtain ⟨cv, hcv⟩ : ∃ z : Int32, z = ((x.toUInt32 >>> (((8 : Int32) * (i &&& (3 : Int32))) &&& 31).toUInt32).toInt32 &&& (255 : Int32)) := ⟨_, rfl⟩
    rw [← hcv]
    show OEnds p e below _ T (mkF m 23 #[.val (.int a), .val (.int b), .val (.int i), .val (.int x)] [(.int cv)])
    exact X0.retIntN hlk  hret (hb hby d_method_2_23) (by decide) (by decide) ⟨⟨_, rfl, hcv ▸ and255 _⟩, rfl⟩
  by_cases hc : i < (4 : Int32)
  · skip
    refine OEnds.go (fun _ q => XS.icmpNo X0.here X0.hx rfl (hb hby d_method_2_2) rfl (tlt hc).2.1 q) ?_
    show OEnds p e below _ T (mkF m 5 #[.val (.int a), .val (.int b), .val (.int i), .unset] [])
    refine OEnds.go (fun _ q => XS.iloadN X0.here X0.hx rfl (hb hby d_method_2_5) rfl q) ?_
    show OEnds p e below _ T (mkF m 6 #[.val (.int a), .val (.int b), .val (.int i), .unset] [(.int a)])
    refine OEnds.go (fun _ q => XS.goto X0.here X0.hx rfl (pc0 := 6) (pc' := 10) rfl (hb hby d_method_2_6) (by decide) (by decide) q) ?_
    show OEnds p e below _ T (mkF m 10 #[.val (.int a), .val (.int b), .val (.int i), .unset] [(.int a)])
    exact J _
  · skip
    refine OEnds.go (fun _ q => XS.icmpYes X0.here X0.hx rfl (pc0 := 2) (pc' := 9) rfl (hb hby d_method_2_2) rfl (flt hc).2.1 (by decide) (by decide) q) ?_
    show OEnds p e below _ T (mkF m 9 #[.val (.int a), .val (.int b), .val (.int i), .unset] [])
    refine OEnds.go (fun _ q => XS.iloadN X0.here X0.hx rfl (hb hby d_method_2_9) rfl q) ?_
    show OEnds p e below _ T (mkF m 10 #[.val (.int a), .val (.int b), .val (.int i), .unset] [(.int b)])
    exact J _
theorem con_cell1 {l : Launch} {Z : State} {a0 : Array Value} {cz : Int32} {fm : Value} (H : Ctx Z a0 cz fm) (i ps pe qe hq rv : Int32) (hr : ¬ rv < 0 ∧ ¬ (255 : Int32) < rv) (la : Addr) (h0 : Heap) (Sl : OStr Z h0 la own_cs) :
    ConNV l Z (⟨"com/example/riden/riden/parse/ComponentsQueryPinLaw", "cell", "(IIIIZI)C"⟩ : MethodName) method_3_code 7 (some FieldType.char) ({ frames := 4, cells := 0, slots := 0, locals := 53 } : Room) #[(.int i), (.int ps), (.int pe), (.int qe), (.int hq), (.int rv)] h0 (LitV Z "com/example/riden/riden/parse/ComponentsQueryPinLaw" 7 la) (fun r h => (∃ v : Int32, r = some (.int v) ∧ (¬ v < 0 ∧ ¬ (255 : Int32) < v)) ∧ h0 = h) := by
  obtain ⟨hw, hE, S0, hcz, S1, rf⟩ := id H
  refine ConNV.of own_pf11 ?_
  intro p e s m below meth c T hby hml hret hlk hnm X0 hV
  have EX0 := ext_refl h0
  refine OEnds.cast (own_ef8 m i ps pe qe hq rv ) ?_
  show OEnds p e below _ T (mkF m 0 #[.val (.int i), .val (.int ps), .val (.int pe), .val (.int qe), .val (.int hq), .val (.int rv), .unset] [])
  refine X0.ldcA (text := own_text) (hw _ (List.mem_of_getElem? (i := 12) rfl)) hV (hb hby d_method_3_0) ?_
  show OEnds p e below _ T (mkF m 2 #[.val (.int i), .val (.int ps), .val (.int pe), .val (.int qe), .val (.int hq), .val (.int rv), .unset] [(.ref la)])
  refine OEnds.go (fun _ q => XS.astore X0.here X0.hx rfl (hb hby d_method_3_2) rfl rfl (l' := #[.val (.int i), .val (.int ps), .val (.int pe), .val (.int qe), .val (.int hq), .val (.int rv), .val (.ref la)]) rfl q) ?_
  show OEnds p e below _ T (mkF m 4 #[.val (.int i), .val (.int ps), .val (.int pe), .val (.int qe), .val (.int hq), .val (.int rv), .val (.ref la)] [])
  refine OEnds.go (fun _ q => XS.iloadN X0.here X0.hx rfl (hb hby d_method_3_4) rfl q) ?_
  show OEnds p e below _ T (mkF m 5 #[.val (.int i), .val (.int ps), .val (.int pe), .val (.int qe), .val (.int hq), .val (.int rv), .val (.ref la)] [(.int i)])
  refine OEnds.go (fun _ q => XS.iloadN X0.here X0.hx rfl (hb hby d_method_3_5) rfl q) ?_
  show OEnds p e below _ T (mkF m 6 #[.val (.int i), .val (.int ps), .val (.int pe), .val (.int qe), .val (.int hq), .val (.int rv), .val (.ref la)] [(.int ps), (.int i)])
  by_cases h1 : i < ps
  · skip
    refine OEnds.go (fun _ q => XS.icmpNo X0.here X0.hx rfl (hb hby d_method_3_6) rfl (tlt h1).2.1 q) ?_
    show OEnds p e below _ T (mkF m 9 #[.val (.int i), .val (.int ps), .val (.int pe), .val (.int qe), .val (.int hq), .val (.int rv), .val (.ref la)] [])
    refine OEnds.go (fun _ q => XS.iloadN X0.here X0.hx rfl (hb hby d_method_3_9) rfl q) ?_
    show OEnds p e below _ T (mkF m 10 #[.val (.int i), .val (.int ps), .val (.int pe), .val (.int qe), .val (.int hq), .val (.int rv), .val (.ref la)] [(.int i)])
    by_cases h2 : i = (0 : Int32)
    · skip
      refine OEnds.go (fun _ q => XS.ifNo X0.here X0.hx rfl (hb hby d_method_3_10) rfl ((if0 _ _).trans (teq h2).2) q) ?_
      show OEnds p e below _ T (mkF m 13 #[.val (.int i), .val (.int ps), .val (.int pe), .val (.int qe), .val (.int hq), .val (.int rv), .val (.ref la)] [])
      refine OEnds.go (fun _ q => XS.bipush X0.here X0.hx rfl (hb hby d_method_3_13) q) ?_
      show OEnds p e below _ T (mkF m 15 #[.val (.int i), .val (.int ps), .val (.int pe), .val (.int qe), .val (.int hq), .val (.int rv), .val (.ref la)] [(.int (104 : Int32))])
      refine OEnds.go (fun _ q => XS.goto X0.here X0.hx rfl (pc0 := 15) (pc' := 20) rfl (hb hby d_method_3_15) (by decide) (by decide) q) ?_
      show OEnds p e below _ T (mkF m 20 #[.val (.int i), .val (.int ps), .val (.int pe), .val (.int qe), .val (.int hq), .val (.int rv), .val (.ref la)] [(.int (104 : Int32))])
      exact X0.retCharN hlk (by decide) hret (hb hby d_method_3_20) (by decide) (by decide) ⟨⟨_, rfl, (by decide)⟩, rfl⟩
    · skip
      refine OEnds.go (fun _ q => XS.ifYes X0.here X0.hx rfl (pc0 := 10) (pc' := 18) rfl (hb hby d_method_3_10) rfl ((if0 _ _).trans (feq h2).2) (by decide) (by decide) q) ?_
      show OEnds p e below _ T (mkF m 18 #[.val (.int i), .val (.int ps), .val (.int pe), .val (.int qe), .val (.int hq), .val (.int rv), .val (.ref la)] [])
      refine OEnds.go (fun _ q => XS.bipush X0.here X0.hx rfl (hb hby d_method_3_18) q) ?_
      show OEnds p e below _ T (mkF m 20 #[.val (.int i), .val (.int ps), .val (.int pe), .val (.int qe), .val (.int hq), .val (.int rv), .val (.ref la)] [(.int (58 : Int32))])
      exact X0.retCharN hlk (by decide) hret (hb hby d_method_3_20) (by decide) (by decide) ⟨⟨_, rfl, (by decide)⟩, rfl⟩
  · skip
    refine OEnds.go (fun _ q => XS.icmpYes X0.here X0.hx rfl (pc0 := 6) (pc' := 21) rfl (hb hby d_method_3_6) rfl (flt h1).2.1 (by decide) (by decide) q) ?_
    show OEnds p e below _ T (mkF m 21 #[.val (.int i), .val (.int ps), .val (.int pe), .val (.int qe), .val (.int hq), .val (.int rv), .val (.ref la)] [])
    refine OEnds.go (fun _ q => XS.iloadN X0.here X0.hx rfl (hb hby d_method_3_21) rfl q) ?_
    show OEnds p e below _ T (mkF m 22 #[.val (.int i), .val (.int ps), .val (.int pe), .val (.int qe), .val (.int hq), .val (.int rv), .val (.ref la)] [(.int i)])
    refine OEnds.go (fun _ q => XS.iloadN X0.here X0.hx rfl (hb hby d_method_3_22) rfl q) ?_
    show OEnds p e below _ T (mkF m 23 #[.val (.int i), .val (.int ps), .val (.int pe), .val (.int qe), .val (.int hq), .val (.int rv), .val (.ref la)] [(.int pe), (.int i)])
    by_cases h3 : i < pe
    · skip
      refine OEnds.go (fun _ q => XS.icmpNo X0.here X0.hx rfl (hb hby d_method_3_23) rfl (tlt h3).2.1 q) ?_
      show OEnds p e below _ T (mkF m 26 #[.val (.int i), .val (.int ps), .val (.int pe), .val (.int qe), .val (.int hq), .val (.int rv), .val (.ref la)] [])
      refine OEnds.go (fun _ q => XS.aload X0.here X0.hx rfl (hb hby d_method_3_26) rfl rfl q) ?_
      show OEnds p e below _ T (mkF m 28 #[.val (.int i), .val (.int ps), .val (.int pe), .val (.int qe), .val (.int hq), .val (.int rv), .val (.ref la)] [(.ref la)])
      refine OEnds.go (fun _ q => XS.iload X0.here X0.hx rfl (hb hby d_method_3_28) rfl q) ?_
      show OEnds p e below _ T (mkF m 30 #[.val (.int i), .val (.int ps), .val (.int pe), .val (.int qe), .val (.int hq), .val (.int rv), .val (.ref la)] [(.int rv), (.ref la)])
      refine OEnds.go (fun _ q => XS.bipush X0.here X0.hx rfl (hb hby d_method_3_30) q) ?_
      show OEnds p e below _ T (mkF m 32 #[.val (.int i), .val (.int ps), .val (.int pe), .val (.int qe), .val (.int hq), .val (.int rv), .val (.ref la)] [(.int (62 : Int32)), (.int rv), (.ref la)])
      refine OEnds.go (fun _ q => own_irem X0.here X0.hx rfl (hb hby d_method_3_32) rfl (by decide) q) ?_
      show OEnds p e below _ T (mkF m 33 #[.val (.int i), .val (.int ps), .val (.int pe), .val (.int qe), .val (.int hq), .val (.int rv), .val (.ref la)] [(.int (rv % (62 : Int32))), (.ref la)])
      refine X0.payV (own_chr H (W := 0) X0.hZ X0.old (i := ((rv % (62 : Int32))).toNatClampNeg) Sl (by rw [own_cs_len]; exact (own_rem (n := 62) (k := 62) hr.1 (by decide) (by decide) (by decide)).2) (ofN_of (own_rem (n := 62) (k := 62) hr.1 (by decide) (by decide) (by decide)).1).1 (by decide) (by decide)) (okPure X0) (hw _ (List.mem_of_getElem? (i := 33) rfl)) (hw _ (List.mem_of_getElem? (i := 34) rfl)) (hw _ (List.mem_of_getElem? (i := 36) rfl)) (hw _ (List.mem_of_getElem? (i := 35) rfl)) (X0.nf (hw _ (List.mem_of_getElem? (i := 36) rfl))) (by decide) Sl.exa (argsL := [(.int (rv % (62 : Int32)))]) (rest := []) rfl (lenOf own_pd9 rfl) rfl (by rw [hml]; rfl) (Nat.le_of_eq rfl) (hb hby d_method_3_33) (by decide) (by decide) ?_
      intro v1 T2 h3 L4 X5 q6
      obtain ⟨rfl, -, e7⟩ := q6
      obtain rfl := e7.symm
      show OEnds p e below _ T2 (mkF m 36 #[.val (.int i), .val (.int ps), .val (.int pe), .val (.int qe), .val (.int hq), .val (.int rv), .val (.ref la)] [(.int (own_cs.getD ((rv % (62 : Int32))).toNatClampNeg 0))])
      exact X5.retCharN hlk (up255 (own_getD_b own_cs_b (by decide))) hret (hb hby d_method_3_36) (by decide) (by decide) ⟨⟨_, rfl, (own_getD_b own_cs_b (by decide))⟩, rfl⟩
    · skip
      refine OEnds.go (fun _ q => XS.icmpYes X0.here X0.hx rfl (pc0 := 23) (pc' := 37) rfl (hb hby d_method_3_23) rfl (flt h3).2.1 (by decide) (by decide) q) ?_
      show OEnds p e below _ T (mkF m 37 #[.val (.int i), .val (.int ps), .val (.int pe), .val (.int qe), .val (.int hq), .val (.int rv), .val (.ref la)] [])
      refine OEnds.go (fun _ q => XS.iloadN X0.here X0.hx rfl (hb hby d_method_3_37) rfl q) ?_
      show OEnds p e below _ T (mkF m 38 #[.val (.int i), .val (.int ps), .val (.int pe), .val (.int qe), .val (.int hq), .val (.int rv), .val (.ref la)] [(.int i)])
      refine OEnds.go (fun _ q => XS.iloadN X0.here X0.hx rfl (hb hby d_method_3_38) rfl q) ?_
      show OEnds p e below _ T (mkF m 39 #[.val (.int i), .val (.int ps), .val (.int pe), .val (.int qe), .val (.int hq), .val (.int rv), .val (.ref la)] [(.int pe), (.int i)])
      by_cases h4 : i = pe
      · skip
        refine OEnds.go (fun _ q => XS.icmpNo X0.here X0.hx rfl (hb hby d_method_3_39) rfl (teq h4).2 q) ?_
        show OEnds p e below _ T (mkF m 42 #[.val (.int i), .val (.int ps), .val (.int pe), .val (.int qe), .val (.int hq), .val (.int rv), .val (.ref la)] [])
        refine OEnds.go (fun _ q => XS.iload X0.here X0.hx rfl (hb hby d_method_3_42) rfl q) ?_
        show OEnds p e below _ T (mkF m 44 #[.val (.int i), .val (.int ps), .val (.int pe), .val (.int qe), .val (.int hq), .val (.int rv), .val (.ref la)] [(.int hq)])
        by_cases h5 : hq = (0 : Int32)
        · skip
          refine OEnds.go (fun _ q => XS.ifYes X0.here X0.hx rfl (pc0 := 44) (pc' := 52) rfl (hb hby d_method_3_44) rfl ((if0 _ _).trans (teq h5).1) (by decide) (by decide) q) ?_
          show OEnds p e below _ T (mkF m 52 #[.val (.int i), .val (.int ps), .val (.int pe), .val (.int qe), .val (.int hq), .val (.int rv), .val (.ref la)] [])
          refine OEnds.go (fun _ q => XS.bipush X0.here X0.hx rfl (hb hby d_method_3_52) q) ?_
          show OEnds p e below _ T (mkF m 54 #[.val (.int i), .val (.int ps), .val (.int pe), .val (.int qe), .val (.int hq), .val (.int rv), .val (.ref la)] [(.int (35 : Int32))])
          exact X0.retCharN hlk (by decide) hret (hb hby d_method_3_54) (by decide) (by decide) ⟨⟨_, rfl, (by decide)⟩, rfl⟩
        · skip
          refine OEnds.go (fun _ q => XS.ifNo X0.here X0.hx rfl (hb hby d_method_3_44) rfl ((if0 _ _).trans (feq h5).1) q) ?_
          show OEnds p e below _ T (mkF m 47 #[.val (.int i), .val (.int ps), .val (.int pe), .val (.int qe), .val (.int hq), .val (.int rv), .val (.ref la)] [])
          refine OEnds.go (fun _ q => XS.bipush X0.here X0.hx rfl (hb hby d_method_3_47) q) ?_
          show OEnds p e below _ T (mkF m 49 #[.val (.int i), .val (.int ps), .val (.int pe), .val (.int qe), .val (.int hq), .val (.int rv), .val (.ref la)] [(.int (63 : Int32))])
          refine OEnds.go (fun _ q => XS.goto X0.here X0.hx rfl (pc0 := 49) (pc' := 54) rfl (hb hby d_method_3_49) (by decide) (by decide) q) ?_
          show OEnds p e below _ T (mkF m 54 #[.val (.int i), .val (.int ps), .val (.int pe), .val (.int qe), .val (.int hq), .val (.int rv), .val (.ref la)] [(.int (63 : Int32))])
          exact X0.retCharN hlk (by decide) hret (hb hby d_method_3_54) (by decide) (by decide) ⟨⟨_, rfl, (by decide)⟩, rfl⟩
      · skip
        refine OEnds.go (fun _ q => XS.icmpYes X0.here X0.hx rfl (pc0 := 39) (pc' := 55) rfl (hb hby d_method_3_39) rfl (feq h4).2 (by decide) (by decide) q) ?_
        show OEnds p e below _ T (mkF m 55 #[.val (.int i), .val (.int ps), .val (.int pe), .val (.int qe), .val (.int hq), .val (.int rv), .val (.ref la)] [])
        refine OEnds.go (fun _ q => XS.iload X0.here X0.hx rfl (hb hby d_method_3_55) rfl q) ?_
        show OEnds p e below _ T (mkF m 57 #[.val (.int i), .val (.int ps), .val (.int pe), .val (.int qe), .val (.int hq), .val (.int rv), .val (.ref la)] [(.int hq)])
        have J79 : OEnds p e below (GN Z s (fun r h => (∃ v : Int32, r = some (.int v) ∧ (¬ v < 0 ∧ ¬ (255 : Int32) < v)) ∧ h0 = h) ({ frames := 4, cells := 0, slots := 0, locals := 53 } : Room).cells ({ frames := 4, cells := 0, slots := 0, locals := 53 } : Room).slots) T (mkF m 79 #[.val (.int i), .val (.int ps), .val (.int pe), .val (.int qe), .val (.int hq), .val (.int rv), .val (.ref la)] []) := by
          refine OEnds.go (fun _ q => XS.iloadN X0.here X0.hx rfl (hb hby d_method_3_79) rfl q) ?_
          show OEnds p e below _ T (mkF m 80 #[.val (.int i), .val (.int ps), .val (.int pe), .val (.int qe), .val (.int hq), .val (.int rv), .val (.ref la)] [(.int i)])
          refine OEnds.go (fun _ q => XS.iloadN X0.here X0.hx rfl (hb hby d_method_3_80) rfl q) ?_
          show OEnds p e below _ T (mkF m 81 #[.val (.int i), .val (.int ps), .val (.int pe), .val (.int qe), .val (.int hq), .val (.int rv), .val (.ref la)] [(.int qe), (.int i)])
          by_cases h8 : i = qe
          · skip
            refine OEnds.go (fun _ q => XS.icmpNo X0.here X0.hx rfl (hb hby d_method_3_81) rfl (teq h8).2 q) ?_
            show OEnds p e below _ T (mkF m 84 #[.val (.int i), .val (.int ps), .val (.int pe), .val (.int qe), .val (.int hq), .val (.int rv), .val (.ref la)] [])
            refine OEnds.go (fun _ q => XS.bipush X0.here X0.hx rfl (hb hby d_method_3_84) q) ?_
            show OEnds p e below _ T (mkF m 86 #[.val (.int i), .val (.int ps), .val (.int pe), .val (.int qe), .val (.int hq), .val (.int rv), .val (.ref la)] [(.int (35 : Int32))])
            exact X0.retCharN hlk (by decide) hret (hb hby d_method_3_86) (by decide) (by decide) ⟨⟨_, rfl, (by decide)⟩, rfl⟩
          · skip
            refine OEnds.go (fun _ q => XS.icmpYes X0.here X0.hx rfl (pc0 := 81) (pc' := 87) rfl (hb hby d_method_3_81) rfl (feq h8).2 (by decide) (by decide) q) ?_
            show OEnds p e below _ T (mkF m 87 #[.val (.int i), .val (.int ps), .val (.int pe), .val (.int qe), .val (.int hq), .val (.int rv), .val (.ref la)] [])
            refine OEnds.go (fun _ q => XS.aload X0.here X0.hx rfl (hb hby d_method_3_87) rfl rfl q) ?_
            show OEnds p e below _ T (mkF m 89 #[.val (.int i), .val (.int ps), .val (.int pe), .val (.int qe), .val (.int hq), .val (.int rv), .val (.ref la)] [(.ref la)])
            refine OEnds.go (fun _ q => XS.iload X0.here X0.hx rfl (hb hby d_method_3_89) rfl q) ?_
            show OEnds p e below _ T (mkF m 91 #[.val (.int i), .val (.int ps), .val (.int pe), .val (.int qe), .val (.int hq), .val (.int rv), .val (.ref la)] [(.int rv), (.ref la)])
            refine OEnds.go (fun _ q => XS.aload X0.here X0.hx rfl (hb hby d_method_3_91) rfl rfl q) ?_
            show OEnds p e below _ T (mkF m 93 #[.val (.int i), .val (.int ps), .val (.int pe), .val (.int qe), .val (.int hq), .val (.int rv), .val (.ref la)] [(.ref la), (.int rv), (.ref la)])
            refine X0.payV (own_len H (W := 2) X0.hZ X0.old Sl (by decide) (by decide)) (okPure X0) (hw _ (List.mem_of_getElem? (i := 20) rfl)) (hw _ (List.mem_of_getElem? (i := 21) rfl)) (hw _ (List.mem_of_getElem? (i := 23) rfl)) (hw _ (List.mem_of_getElem? (i := 22) rfl)) (X0.nf (hw _ (List.mem_of_getElem? (i := 23) rfl))) (by decide) Sl.exa (argsL := []) (rest := [(.int rv), (.ref la)]) rfl (lenOf own_pd5 rfl) rfl (by rw [hml]; rfl) (Nat.le_of_eq rfl) (hb hby d_method_3_93) (by decide) (by decide) ?_
            intro v8 T9 h10 L11 X12 q13
            obtain ⟨rfl, -, e14⟩ := q13
            obtain rfl := e14.symm
            show OEnds p e below _ T9 (mkF m 96 #[.val (.int i), .val (.int ps), .val (.int pe), .val (.int qe), .val (.int hq), .val (.int rv), .val (.ref la)] [(.int (Int32.ofNat own_cs.length)), (.int rv), (.ref la)])
            rw [own_cs_len]
            show OEnds p e below _ T9 (mkF m 96 #[.val (.int i), .val (.int ps), .val (.int pe), .val (.int qe), .val (.int hq), .val (.int rv), .val (.ref la)] [(.int (81 : Int32)), (.int rv), (.ref la)])
            refine OEnds.go (fun _ q => own_irem X12.here X12.hx rfl (hb hby d_method_3_96) rfl (by decide) q) ?_
            show OEnds p e below _ T9 (mkF m 97 #[.val (.int i), .val (.int ps), .val (.int pe), .val (.int qe), .val (.int hq), .val (.int rv), .val (.ref la)] [(.int (rv % (81 : Int32))), (.ref la)])
            refine X12.payV (own_chr H (W := 0) X12.hZ X12.old (i := ((rv % (81 : Int32))).toNatClampNeg) Sl (by rw [own_cs_len]; exact (own_rem (n := 81) (k := 81) hr.1 (by decide) (by decide) (by decide)).2) (ofN_of (own_rem (n := 81) (k := 81) hr.1 (by decide) (by decide) (by decide)).1).1 (by decide) (by decide)) (okPure X12) (hw _ (List.mem_of_getElem? (i := 33) rfl)) (hw _ (List.mem_of_getElem? (i := 34) rfl)) (hw _ (List.mem_of_getElem? (i := 36) rfl)) (hw _ (List.mem_of_getElem? (i := 35) rfl)) (X12.nf (hw _ (List.mem_of_getElem? (i := 36) rfl))) (by decide) Sl.exa (argsL := [(.int (rv % (81 : Int32)))]) (rest := []) rfl (lenOf own_pd9 rfl) rfl (by rw [hml]; rfl) (Nat.le_of_eq rfl) (hb hby d_method_3_97) (by decide) (by decide) ?_
            intro v15 T16 h17 L18 X19 q20
            obtain ⟨rfl, -, e21⟩ := q20
            obtain rfl := e21.symm
            show OEnds p e below _ T16 (mkF m 100 #[.val (.int i), .val (.int ps), .val (.int pe), .val (.int qe), .val (.int hq), .val (.int rv), .val (.ref la)] [(.int (own_cs.getD ((rv % (81 : Int32))).toNatClampNeg 0))])
            exact X19.retCharN hlk (up255 (own_getD_b own_cs_b (by decide))) hret (hb hby d_method_3_100) (by decide) (by decide) ⟨⟨_, rfl, (own_getD_b own_cs_b (by decide))⟩, rfl⟩
        by_cases h6 : hq = (0 : Int32)
        · skip
          refine OEnds.go (fun _ q => XS.ifYes X0.here X0.hx rfl (pc0 := 57) (pc' := 79) rfl (hb hby d_method_3_57) rfl ((if0 _ _).trans (teq h6).1) (by decide) (by decide) q) ?_
          show OEnds p e below _ T (mkF m 79 #[.val (.int i), .val (.int ps), .val (.int pe), .val (.int qe), .val (.int hq), .val (.int rv), .val (.ref la)] [])
          exact J79
        · skip
          refine OEnds.go (fun _ q => XS.ifNo X0.here X0.hx rfl (hb hby d_method_3_57) rfl ((if0 _ _).trans (feq h6).1) q) ?_
          show OEnds p e below _ T (mkF m 60 #[.val (.int i), .val (.int ps), .val (.int pe), .val (.int qe), .val (.int hq), .val (.int rv), .val (.ref la)] [])
          refine OEnds.go (fun _ q => XS.iloadN X0.here X0.hx rfl (hb hby d_method_3_60) rfl q) ?_
          show OEnds p e below _ T (mkF m 61 #[.val (.int i), .val (.int ps), .val (.int pe), .val (.int qe), .val (.int hq), .val (.int rv), .val (.ref la)] [(.int i)])
          refine OEnds.go (fun _ q => XS.iloadN X0.here X0.hx rfl (hb hby d_method_3_61) rfl q) ?_
          show OEnds p e below _ T (mkF m 62 #[.val (.int i), .val (.int ps), .val (.int pe), .val (.int qe), .val (.int hq), .val (.int rv), .val (.ref la)] [(.int qe), (.int i)])
          by_cases h7 : i < qe
          · skip
            refine OEnds.go (fun _ q => XS.icmpNo X0.here X0.hx rfl (hb hby d_method_3_62) rfl (tlt h7).2.1 q) ?_
            show OEnds p e below _ T (mkF m 65 #[.val (.int i), .val (.int ps), .val (.int pe), .val (.int qe), .val (.int hq), .val (.int rv), .val (.ref la)] [])
            refine OEnds.go (fun _ q => XS.aload X0.here X0.hx rfl (hb hby d_method_3_65) rfl rfl q) ?_
            show OEnds p e below _ T (mkF m 67 #[.val (.int i), .val (.int ps), .val (.int pe), .val (.int qe), .val (.int hq), .val (.int rv), .val (.ref la)] [(.ref la)])
            refine OEnds.go (fun _ q => XS.iload X0.here X0.hx rfl (hb hby d_method_3_67) rfl q) ?_
            show OEnds p e below _ T (mkF m 69 #[.val (.int i), .val (.int ps), .val (.int pe), .val (.int qe), .val (.int hq), .val (.int rv), .val (.ref la)] [(.int rv), (.ref la)])
            refine OEnds.go (fun _ q => XS.aload X0.here X0.hx rfl (hb hby d_method_3_69) rfl rfl q) ?_
            show OEnds p e below _ T (mkF m 71 #[.val (.int i), .val (.int ps), .val (.int pe), .val (.int qe), .val (.int hq), .val (.int rv), .val (.ref la)] [(.ref la), (.int rv), (.ref la)])
            refine X0.payV (own_len H (W := 2) X0.hZ X0.old Sl (by decide) (by decide)) (okPure X0) (hw _ (List.mem_of_getElem? (i := 20) rfl)) (hw _ (List.mem_of_getElem? (i := 21) rfl)) (hw _ (List.mem_of_getElem? (i := 23) rfl)) (hw _ (List.mem_of_getElem? (i := 22) rfl)) (X0.nf (hw _ (List.mem_of_getElem? (i := 23) rfl))) (by decide) Sl.exa (argsL := []) (rest := [(.int rv), (.ref la)]) rfl (lenOf own_pd5 rfl) rfl (by rw [hml]; rfl) (Nat.le_of_eq rfl) (hb hby d_method_3_71) (by decide) (by decide) ?_
            intro v22 T23 h24 L25 X26 q27
            obtain ⟨rfl, -, e28⟩ := q27
            obtain rfl := e28.symm
            show OEnds p e below _ T23 (mkF m 74 #[.val (.int i), .val (.int ps), .val (.int pe), .val (.int qe), .val (.int hq), .val (.int rv), .val (.ref la)] [(.int (Int32.ofNat own_cs.length)), (.int rv), (.ref la)])
            rw [own_cs_len]
            show OEnds p e below _ T23 (mkF m 74 #[.val (.int i), .val (.int ps), .val (.int pe), .val (.int qe), .val (.int hq), .val (.int rv), .val (.ref la)] [(.int (81 : Int32)), (.int rv), (.ref la)])
            refine OEnds.go (fun _ q => own_irem X26.here X26.hx rfl (hb hby d_method_3_74) rfl (by decide) q) ?_
            show OEnds p e below _ T23 (mkF m 75 #[.val (.int i), .val (.int ps), .val (.int pe), .val (.int qe), .val (.int hq), .val (.int rv), .val (.ref la)] [(.int (rv % (81 : Int32))), (.ref la)])
            refine X26.payV (own_chr H (W := 0) X26.hZ X26.old (i := ((rv % (81 : Int32))).toNatClampNeg) Sl (by rw [own_cs_len]; exact (own_rem (n := 81) (k := 81) hr.1 (by decide) (by decide) (by decide)).2) (ofN_of (own_rem (n := 81) (k := 81) hr.1 (by decide) (by decide) (by decide)).1).1 (by decide) (by decide)) (okPure X26) (hw _ (List.mem_of_getElem? (i := 33) rfl)) (hw _ (List.mem_of_getElem? (i := 34) rfl)) (hw _ (List.mem_of_getElem? (i := 36) rfl)) (hw _ (List.mem_of_getElem? (i := 35) rfl)) (X26.nf (hw _ (List.mem_of_getElem? (i := 36) rfl))) (by decide) Sl.exa (argsL := [(.int (rv % (81 : Int32)))]) (rest := []) rfl (lenOf own_pd9 rfl) rfl (by rw [hml]; rfl) (Nat.le_of_eq rfl) (hb hby d_method_3_75) (by decide) (by decide) ?_
            intro v29 T30 h31 L32 X33 q34
            obtain ⟨rfl, -, e35⟩ := q34
            obtain rfl := e35.symm
            show OEnds p e below _ T30 (mkF m 78 #[.val (.int i), .val (.int ps), .val (.int pe), .val (.int qe), .val (.int hq), .val (.int rv), .val (.ref la)] [(.int (own_cs.getD ((rv % (81 : Int32))).toNatClampNeg 0))])
            exact X33.retCharN hlk (up255 (own_getD_b own_cs_b (by decide))) hret (hb hby d_method_3_78) (by decide) (by decide) ⟨⟨_, rfl, (own_getD_b own_cs_b (by decide))⟩, rfl⟩
          · skip
            refine OEnds.go (fun _ q => XS.icmpYes X0.here X0.hx rfl (pc0 := 62) (pc' := 79) rfl (hb hby d_method_3_62) rfl (flt h7).2.1 (by decide) (by decide) q) ?_
            show OEnds p e below _ T (mkF m 79 #[.val (.int i), .val (.int ps), .val (.int pe), .val (.int qe), .val (.int hq), .val (.int rv), .val (.ref la)] [])
            exact J79
theorem con_cell0 {l : Launch} {Z : State} {a0 : Array Value} {cz : Int32} {fm : Value} (H : Ctx Z a0 cz fm) (i ps pe qe hq rv : Int32) (hr : ¬ rv < 0 ∧ ¬ (255 : Int32) < rv) (h0 : Heap)  :
    ConW l Z consts_1 (⟨"com/example/riden/riden/parse/ComponentsQueryPinLaw", "cell", "(IIIIZI)C"⟩ : MethodName) method_3_code 7 (some FieldType.char) ({ frames := 4, cells := 2, slots := 328, locals := 53 } : Room) #[(.int i), (.int ps), (.int pe), (.int qe), (.int hq), (.int rv)] h0 (fun r h vm => ∃ (v : Int32) (la : Addr), r = some (.int v) ∧ (¬ v < 0 ∧ ¬ (255 : Int32) < v) ∧ Ext h0 h ∧ OStr Z h la own_cs ∧ LitV Z "com/example/riden/riden/parse/ComponentsQueryPinLaw" 7 la vm) := by
  obtain ⟨hw, hE, S0, hcz, S1, rf⟩ := id H
  refine ConW.of own_pf11 ?_
  intro p e s m below meth c T hby hml hret hlk hnm X0
  have EX0 := ext_refl h0
  refine OEnds.cast (own_ef8 m i ps pe qe hq rv ) ?_
  show OEnds p e below _ T (mkF m 0 #[.val (.int i), .val (.int ps), .val (.int pe), .val (.int qe), .val (.int hq), .val (.int rv), .unset] [])
  refine X0.ldcRL hE (text := own_text) (hw _ (List.mem_of_getElem? (i := 12) rfl)) (own_wS hw) (List.mem_of_getElem? (i := 0) rfl) (z := 81) own_tx (by decide) own_vs_len (hb hby d_method_3_0) (j := 324) own_tx_len (by decide) (by decide) (by decide) ?_
  intro vmL TL hL la lb kb XL EL CL AL CcL VL KL LL
  have SL : OStr Z hL la own_cs := ⟨AL, CcL, ⟨lb, kb, VL, by rw [own_cs_len]; exact KL⟩, own_cs_b, by rw [own_cs_len]; decide⟩
  show OEnds p e below _ TL (mkF m 2 #[.val (.int i), .val (.int ps), .val (.int pe), .val (.int qe), .val (.int hq), .val (.int rv), .unset] [(.ref la)])
  refine OEnds.go (fun _ q => XS.astore XL.here XL.hx rfl (hb hby d_method_3_2) rfl rfl (l' := #[.val (.int i), .val (.int ps), .val (.int pe), .val (.int qe), .val (.int hq), .val (.int rv), .val (.ref la)]) rfl q) ?_
  show OEnds p e below _ TL (mkF m 4 #[.val (.int i), .val (.int ps), .val (.int pe), .val (.int qe), .val (.int hq), .val (.int rv), .val (.ref la)] [])
  refine OEnds.go (fun _ q => XS.iloadN XL.here XL.hx rfl (hb hby d_method_3_4) rfl q) ?_
  show OEnds p e below _ TL (mkF m 5 #[.val (.int i), .val (.int ps), .val (.int pe), .val (.int qe), .val (.int hq), .val (.int rv), .val (.ref la)] [(.int i)])
  refine OEnds.go (fun _ q => XS.iloadN XL.here XL.hx rfl (hb hby d_method_3_5) rfl q) ?_
  show OEnds p e below _ TL (mkF m 6 #[.val (.int i), .val (.int ps), .val (.int pe), .val (.int qe), .val (.int hq), .val (.int rv), .val (.ref la)] [(.int ps), (.int i)])
  by_cases h1 : i < ps
  · skip
    refine OEnds.go (fun _ q => XS.icmpNo XL.here XL.hx rfl (hb hby d_method_3_6) rfl (tlt h1).2.1 q) ?_
    show OEnds p e below _ TL (mkF m 9 #[.val (.int i), .val (.int ps), .val (.int pe), .val (.int qe), .val (.int hq), .val (.int rv), .val (.ref la)] [])
    refine OEnds.go (fun _ q => XS.iloadN XL.here XL.hx rfl (hb hby d_method_3_9) rfl q) ?_
    show OEnds p e below _ TL (mkF m 10 #[.val (.int i), .val (.int ps), .val (.int pe), .val (.int qe), .val (.int hq), .val (.int rv), .val (.ref la)] [(.int i)])
    by_cases h2 : i = (0 : Int32)
    · skip
      refine OEnds.go (fun _ q => XS.ifNo XL.here XL.hx rfl (hb hby d_method_3_10) rfl ((if0 _ _).trans (teq h2).2) q) ?_
      show OEnds p e below _ TL (mkF m 13 #[.val (.int i), .val (.int ps), .val (.int pe), .val (.int qe), .val (.int hq), .val (.int rv), .val (.ref la)] [])
      refine OEnds.go (fun _ q => XS.bipush XL.here XL.hx rfl (hb hby d_method_3_13) q) ?_
      show OEnds p e below _ TL (mkF m 15 #[.val (.int i), .val (.int ps), .val (.int pe), .val (.int qe), .val (.int hq), .val (.int rv), .val (.ref la)] [(.int (104 : Int32))])
      refine OEnds.go (fun _ q => XS.goto XL.here XL.hx rfl (pc0 := 15) (pc' := 20) rfl (hb hby d_method_3_15) (by decide) (by decide) q) ?_
      show OEnds p e below _ TL (mkF m 20 #[.val (.int i), .val (.int ps), .val (.int pe), .val (.int qe), .val (.int hq), .val (.int rv), .val (.ref la)] [(.int (104 : Int32))])
      exact XL.retCharV hE hlk (by decide) hret (hb hby d_method_3_20) (by decide) (by decide) (fun vm' hW => ⟨_, la, rfl, (by decide), EL, SL, LL.stays hW⟩)
    · skip
      refine OEnds.go (fun _ q => XS.ifYes XL.here XL.hx rfl (pc0 := 10) (pc' := 18) rfl (hb hby d_method_3_10) rfl ((if0 _ _).trans (feq h2).2) (by decide) (by decide) q) ?_
      show OEnds p e below _ TL (mkF m 18 #[.val (.int i), .val (.int ps), .val (.int pe), .val (.int qe), .val (.int hq), .val (.int rv), .val (.ref la)] [])
      refine OEnds.go (fun _ q => XS.bipush XL.here XL.hx rfl (hb hby d_method_3_18) q) ?_
      show OEnds p e below _ TL (mkF m 20 #[.val (.int i), .val (.int ps), .val (.int pe), .val (.int qe), .val (.int hq), .val (.int rv), .val (.ref la)] [(.int (58 : Int32))])
      exact XL.retCharV hE hlk (by decide) hret (hb hby d_method_3_20) (by decide) (by decide) (fun vm' hW => ⟨_, la, rfl, (by decide), EL, SL, LL.stays hW⟩)
  · skip
    refine OEnds.go (fun _ q => XS.icmpYes XL.here XL.hx rfl (pc0 := 6) (pc' := 21) rfl (hb hby d_method_3_6) rfl (flt h1).2.1 (by decide) (by decide) q) ?_
    show OEnds p e below _ TL (mkF m 21 #[.val (.int i), .val (.int ps), .val (.int pe), .val (.int qe), .val (.int hq), .val (.int rv), .val (.ref la)] [])
    refine OEnds.go (fun _ q => XS.iloadN XL.here XL.hx rfl (hb hby d_method_3_21) rfl q) ?_
    show OEnds p e below _ TL (mkF m 22 #[.val (.int i), .val (.int ps), .val (.int pe), .val (.int qe), .val (.int hq), .val (.int rv), .val (.ref la)] [(.int i)])
    refine OEnds.go (fun _ q => XS.iloadN XL.here XL.hx rfl (hb hby d_method_3_22) rfl q) ?_
    show OEnds p e below _ TL (mkF m 23 #[.val (.int i), .val (.int ps), .val (.int pe), .val (.int qe), .val (.int hq), .val (.int rv), .val (.ref la)] [(.int pe), (.int i)])
    by_cases h3 : i < pe
    · skip
      refine OEnds.go (fun _ q => XS.icmpNo XL.here XL.hx rfl (hb hby d_method_3_23) rfl (tlt h3).2.1 q) ?_
      show OEnds p e below _ TL (mkF m 26 #[.val (.int i), .val (.int ps), .val (.int pe), .val (.int qe), .val (.int hq), .val (.int rv), .val (.ref la)] [])
      refine OEnds.go (fun _ q => XS.aload XL.here XL.hx rfl (hb hby d_method_3_26) rfl rfl q) ?_
      show OEnds p e below _ TL (mkF m 28 #[.val (.int i), .val (.int ps), .val (.int pe), .val (.int qe), .val (.int hq), .val (.int rv), .val (.ref la)] [(.ref la)])
      refine OEnds.go (fun _ q => XS.iload XL.here XL.hx rfl (hb hby d_method_3_28) rfl q) ?_
      show OEnds p e below _ TL (mkF m 30 #[.val (.int i), .val (.int ps), .val (.int pe), .val (.int qe), .val (.int hq), .val (.int rv), .val (.ref la)] [(.int rv), (.ref la)])
      refine OEnds.go (fun _ q => XS.bipush XL.here XL.hx rfl (hb hby d_method_3_30) q) ?_
      show OEnds p e below _ TL (mkF m 32 #[.val (.int i), .val (.int ps), .val (.int pe), .val (.int qe), .val (.int hq), .val (.int rv), .val (.ref la)] [(.int (62 : Int32)), (.int rv), (.ref la)])
      refine OEnds.go (fun _ q => own_irem XL.here XL.hx rfl (hb hby d_method_3_32) rfl (by decide) q) ?_
      show OEnds p e below _ TL (mkF m 33 #[.val (.int i), .val (.int ps), .val (.int pe), .val (.int qe), .val (.int hq), .val (.int rv), .val (.ref la)] [(.int (rv % (62 : Int32))), (.ref la)])
      refine XL.payV (own_chr H (W := 0) XL.hZ XL.old (i := ((rv % (62 : Int32))).toNatClampNeg) SL (by rw [own_cs_len]; exact (own_rem (n := 62) (k := 62) hr.1 (by decide) (by decide) (by decide)).2) (ofN_of (own_rem (n := 62) (k := 62) hr.1 (by decide) (by decide) (by decide)).1).1 (by decide) (by decide)) (okPure XL) (hw _ (List.mem_of_getElem? (i := 33) rfl)) (hw _ (List.mem_of_getElem? (i := 34) rfl)) (hw _ (List.mem_of_getElem? (i := 36) rfl)) (hw _ (List.mem_of_getElem? (i := 35) rfl)) (XL.nf (hw _ (List.mem_of_getElem? (i := 36) rfl))) (by decide) SL.exa (argsL := [(.int (rv % (62 : Int32)))]) (rest := []) rfl (lenOf own_pd9 rfl) rfl (by rw [hml]; rfl) (Nat.le_of_eq rfl) (hb hby d_method_3_33) (by decide) (by decide) ?_
      intro v1 T2 h3 L4 X5 q6
      obtain ⟨rfl, -, e7⟩ := q6
      obtain rfl := e7.symm
      show OEnds p e below _ T2 (mkF m 36 #[.val (.int i), .val (.int ps), .val (.int pe), .val (.int qe), .val (.int hq), .val (.int rv), .val (.ref la)] [(.int (own_cs.getD ((rv % (62 : Int32))).toNatClampNeg 0))])
      exact X5.retCharV hE hlk (up255 (own_getD_b own_cs_b (by decide))) hret (hb hby d_method_3_36) (by decide) (by decide) (fun vm' hW => ⟨_, la, rfl, (own_getD_b own_cs_b (by decide)), EL, SL, LL.stays hW⟩)
    · skip
      refine OEnds.go (fun _ q => XS.icmpYes XL.here XL.hx rfl (pc0 := 23) (pc' := 37) rfl (hb hby d_method_3_23) rfl (flt h3).2.1 (by decide) (by decide) q) ?_
      show OEnds p e below _ TL (mkF m 37 #[.val (.int i), .val (.int ps), .val (.int pe), .val (.int qe), .val (.int hq), .val (.int rv), .val (.ref la)] [])
      refine OEnds.go (fun _ q => XS.iloadN XL.here XL.hx rfl (hb hby d_method_3_37) rfl q) ?_
      show OEnds p e below _ TL (mkF m 38 #[.val (.int i), .val (.int ps), .val (.int pe), .val (.int qe), .val (.int hq), .val (.int rv), .val (.ref la)] [(.int i)])
      refine OEnds.go (fun _ q => XS.iloadN XL.here XL.hx rfl (hb hby d_method_3_38) rfl q) ?_
      show OEnds p e below _ TL (mkF m 39 #[.val (.int i), .val (.int ps), .val (.int pe), .val (.int qe), .val (.int hq), .val (.int rv), .val (.ref la)] [(.int pe), (.int i)])
      by_cases h4 : i = pe
      · skip
        refine OEnds.go (fun _ q => XS.icmpNo XL.here XL.hx rfl (hb hby d_method_3_39) rfl (teq h4).2 q) ?_
        show OEnds p e below _ TL (mkF m 42 #[.val (.int i), .val (.int ps), .val (.int pe), .val (.int qe), .val (.int hq), .val (.int rv), .val (.ref la)] [])
        refine OEnds.go (fun _ q => XS.iload XL.here XL.hx rfl (hb hby d_method_3_42) rfl q) ?_
        show OEnds p e below _ TL (mkF m 44 #[.val (.int i), .val (.int ps), .val (.int pe), .val (.int qe), .val (.int hq), .val (.int rv), .val (.ref la)] [(.int hq)])
        by_cases h5 : hq = (0 : Int32)
        · skip
          refine OEnds.go (fun _ q => XS.ifYes XL.here XL.hx rfl (pc0 := 44) (pc' := 52) rfl (hb hby d_method_3_44) rfl ((if0 _ _).trans (teq h5).1) (by decide) (by decide) q) ?_
          show OEnds p e below _ TL (mkF m 52 #[.val (.int i), .val (.int ps), .val (.int pe), .val (.int qe), .val (.int hq), .val (.int rv), .val (.ref la)] [])
          refine OEnds.go (fun _ q => XS.bipush XL.here XL.hx rfl (hb hby d_method_3_52) q) ?_
          show OEnds p e below _ TL (mkF m 54 #[.val (.int i), .val (.int ps), .val (.int pe), .val (.int qe), .val (.int hq), .val (.int rv), .val (.ref la)] [(.int (35 : Int32))])
          exact XL.retCharV hE hlk (by decide) hret (hb hby d_method_3_54) (by decide) (by decide) (fun vm' hW => ⟨_, la, rfl, (by decide), EL, SL, LL.stays hW⟩)
        · skip
          refine OEnds.go (fun _ q => XS.ifNo XL.here XL.hx rfl (hb hby d_method_3_44) rfl ((if0 _ _).trans (feq h5).1) q) ?_
          show OEnds p e below _ TL (mkF m 47 #[.val (.int i), .val (.int ps), .val (.int pe), .val (.int qe), .val (.int hq), .val (.int rv), .val (.ref la)] [])
          refine OEnds.go (fun _ q => XS.bipush XL.here XL.hx rfl (hb hby d_method_3_47) q) ?_
          show OEnds p e below _ TL (mkF m 49 #[.val (.int i), .val (.int ps), .val (.int pe), .val (.int qe), .val (.int hq), .val (.int rv), .val (.ref la)] [(.int (63 : Int32))])
          refine OEnds.go (fun _ q => XS.goto XL.here XL.hx rfl (pc0 := 49) (pc' := 54) rfl (hb hby d_method_3_49) (by decide) (by decide) q) ?_
          show OEnds p e below _ TL (mkF m 54 #[.val (.int i), .val (.int ps), .val (.int pe), .val (.int qe), .val (.int hq), .val (.int rv), .val (.ref la)] [(.int (63 : Int32))])
          exact XL.retCharV hE hlk (by decide) hret (hb hby d_method_3_54) (by decide) (by decide) (fun vm' hW => ⟨_, la, rfl, (by decide), EL, SL, LL.stays hW⟩)
      · skip
        refine OEnds.go (fun _ q => XS.icmpYes XL.here XL.hx rfl (pc0 := 39) (pc' := 55) rfl (hb hby d_method_3_39) rfl (feq h4).2 (by decide) (by decide) q) ?_
        show OEnds p e below _ TL (mkF m 55 #[.val (.int i), .val (.int ps), .val (.int pe), .val (.int qe), .val (.int hq), .val (.int rv), .val (.ref la)] [])
        refine OEnds.go (fun _ q => XS.iload XL.here XL.hx rfl (hb hby d_method_3_55) rfl q) ?_
        show OEnds p e below _ TL (mkF m 57 #[.val (.int i), .val (.int ps), .val (.int pe), .val (.int qe), .val (.int hq), .val (.int rv), .val (.ref la)] [(.int hq)])
        have J79 : OEnds p e below (GWV Z consts_1 s (fun r h vm => ∃ (v : Int32) (la : Addr), r = some (.int v) ∧ (¬ v < 0 ∧ ¬ (255 : Int32) < v) ∧ Ext h0 h ∧ OStr Z h la own_cs ∧ LitV Z "com/example/riden/riden/parse/ComponentsQueryPinLaw" 7 la vm) ({ frames := 4, cells := 2, slots := 328, locals := 53 } : Room).cells ({ frames := 4, cells := 2, slots := 328, locals := 53 } : Room).slots) TL (mkF m 79 #[.val (.int i), .val (.int ps), .val (.int pe), .val (.int qe), .val (.int hq), .val (.int rv), .val (.ref la)] []) := by
          refine OEnds.go (fun _ q => XS.iloadN XL.here XL.hx rfl (hb hby d_method_3_79) rfl q) ?_
          show OEnds p e below _ TL (mkF m 80 #[.val (.int i), .val (.int ps), .val (.int pe), .val (.int qe), .val (.int hq), .val (.int rv), .val (.ref la)] [(.int i)])
          refine OEnds.go (fun _ q => XS.iloadN XL.here XL.hx rfl (hb hby d_method_3_80) rfl q) ?_
          show OEnds p e below _ TL (mkF m 81 #[.val (.int i), .val (.int ps), .val (.int pe), .val (.int qe), .val (.int hq), .val (.int rv), .val (.ref la)] [(.int qe), (.int i)])
          by_cases h8 : i = qe
          · skip
            refine OEnds.go (fun _ q => XS.icmpNo XL.here XL.hx rfl (hb hby d_method_3_81) rfl (teq h8).2 q) ?_
            show OEnds p e below _ TL (mkF m 84 #[.val (.int i), .val (.int ps), .val (.int pe), .val (.int qe), .val (.int hq), .val (.int rv), .val (.ref la)] [])
            refine OEnds.go (fun _ q => XS.bipush XL.here XL.hx rfl (hb hby d_method_3_84) q) ?_
            show OEnds p e below _ TL (mkF m 86 #[.val (.int i), .val (.int ps), .val (.int pe), .val (.int qe), .val (.int hq), .val (.int rv), .val (.ref la)] [(.int (35 : Int32))])
            exact XL.retCharV hE hlk (by decide) hret (hb hby d_method_3_86) (by decide) (by decide) (fun vm' hW => ⟨_, la, rfl, (by decide), EL, SL, LL.stays hW⟩)
          · skip
            refine OEnds.go (fun _ q => XS.icmpYes XL.here XL.hx rfl (pc0 := 81) (pc' := 87) rfl (hb hby d_method_3_81) rfl (feq h8).2 (by decide) (by decide) q) ?_
            show OEnds p e below _ TL (mkF m 87 #[.val (.int i), .val (.int ps), .val (.int pe), .val (.int qe), .val (.int hq), .val (.int rv), .val (.ref la)] [])
            refine OEnds.go (fun _ q => XS.aload XL.here XL.hx rfl (hb hby d_method_3_87) rfl rfl q) ?_
            show OEnds p e below _ TL (mkF m 89 #[.val (.int i), .val (.int ps), .val (.int pe), .val (.int qe), .val (.int hq), .val (.int rv), .val (.ref la)] [(.ref la)])
            refine OEnds.go (fun _ q => XS.iload XL.here XL.hx rfl (hb hby d_method_3_89) rfl q) ?_
            show OEnds p e below _ TL (mkF m 91 #[.val (.int i), .val (.int ps), .val (.int pe), .val (.int qe), .val (.int hq), .val (.int rv), .val (.ref la)] [(.int rv), (.ref la)])
            refine OEnds.go (fun _ q => XS.aload XL.here XL.hx rfl (hb hby d_method_3_91) rfl rfl q) ?_
            show OEnds p e below _ TL (mkF m 93 #[.val (.int i), .val (.int ps), .val (.int pe), .val (.int qe), .val (.int hq), .val (.int rv), .val (.ref la)] [(.ref la), (.int rv), (.ref la)])
            refine XL.payV (own_len H (W := 2) XL.hZ XL.old SL (by decide) (by decide)) (okPure XL) (hw _ (List.mem_of_getElem? (i := 20) rfl)) (hw _ (List.mem_of_getElem? (i := 21) rfl)) (hw _ (List.mem_of_getElem? (i := 23) rfl)) (hw _ (List.mem_of_getElem? (i := 22) rfl)) (XL.nf (hw _ (List.mem_of_getElem? (i := 23) rfl))) (by decide) SL.exa (argsL := []) (rest := [(.int rv), (.ref la)]) rfl (lenOf own_pd5 rfl) rfl (by rw [hml]; rfl) (Nat.le_of_eq rfl) (hb hby d_method_3_93) (by decide) (by decide) ?_
            intro v8 T9 h10 L11 X12 q13
            obtain ⟨rfl, -, e14⟩ := q13
            obtain rfl := e14.symm
            show OEnds p e below _ T9 (mkF m 96 #[.val (.int i), .val (.int ps), .val (.int pe), .val (.int qe), .val (.int hq), .val (.int rv), .val (.ref la)] [(.int (Int32.ofNat own_cs.length)), (.int rv), (.ref la)])
            rw [own_cs_len]
            show OEnds p e below _ T9 (mkF m 96 #[.val (.int i), .val (.int ps), .val (.int pe), .val (.int qe), .val (.int hq), .val (.int rv), .val (.ref la)] [(.int (81 : Int32)), (.int rv), (.ref la)])
            refine OEnds.go (fun _ q => own_irem X12.here X12.hx rfl (hb hby d_method_3_96) rfl (by decide) q) ?_
            show OEnds p e below _ T9 (mkF m 97 #[.val (.int i), .val (.int ps), .val (.int pe), .val (.int qe), .val (.int hq), .val (.int rv), .val (.ref la)] [(.int (rv % (81 : Int32))), (.ref la)])
            refine X12.payV (own_chr H (W := 0) X12.hZ X12.old (i := ((rv % (81 : Int32))).toNatClampNeg) SL (by rw [own_cs_len]; exact (own_rem (n := 81) (k := 81) hr.1 (by decide) (by decide) (by decide)).2) (ofN_of (own_rem (n := 81) (k := 81) hr.1 (by decide) (by decide) (by decide)).1).1 (by decide) (by decide)) (okPure X12) (hw _ (List.mem_of_getElem? (i := 33) rfl)) (hw _ (List.mem_of_getElem? (i := 34) rfl)) (hw _ (List.mem_of_getElem? (i := 36) rfl)) (hw _ (List.mem_of_getElem? (i := 35) rfl)) (X12.nf (hw _ (List.mem_of_getElem? (i := 36) rfl))) (by decide) SL.exa (argsL := [(.int (rv % (81 : Int32)))]) (rest := []) rfl (lenOf own_pd9 rfl) rfl (by rw [hml]; rfl) (Nat.le_of_eq rfl) (hb hby d_method_3_97) (by decide) (by decide) ?_
            intro v15 T16 h17 L18 X19 q20
            obtain ⟨rfl, -, e21⟩ := q20
            obtain rfl := e21.symm
            show OEnds p e below _ T16 (mkF m 100 #[.val (.int i), .val (.int ps), .val (.int pe), .val (.int qe), .val (.int hq), .val (.int rv), .val (.ref la)] [(.int (own_cs.getD ((rv % (81 : Int32))).toNatClampNeg 0))])
            exact X19.retCharV hE hlk (up255 (own_getD_b own_cs_b (by decide))) hret (hb hby d_method_3_100) (by decide) (by decide) (fun vm' hW => ⟨_, la, rfl, (own_getD_b own_cs_b (by decide)), EL, SL, LL.stays hW⟩)
        by_cases h6 : hq = (0 : Int32)
        · skip
          refine OEnds.go (fun _ q => XS.ifYes XL.here XL.hx rfl (pc0 := 57) (pc' := 79) rfl (hb hby d_method_3_57) rfl ((if0 _ _).trans (teq h6).1) (by decide) (by decide) q) ?_
          show OEnds p e below _ TL (mkF m 79 #[.val (.int i), .val (.int ps), .val (.int pe), .val (.int qe), .val (.int hq), .val (.int rv), .val (.ref la)] [])
          exact J79
        · skip
          refine OEnds.go (fun _ q => XS.ifNo XL.here XL.hx rfl (hb hby d_method_3_57) rfl ((if0 _ _).trans (feq h6).1) q) ?_
          show OEnds p e below _ TL (mkF m 60 #[.val (.int i), .val (.int ps), .val (.int pe), .val (.int qe), .val (.int hq), .val (.int rv), .val (.ref la)] [])
          refine OEnds.go (fun _ q => XS.iloadN XL.here XL.hx rfl (hb hby d_method_3_60) rfl q) ?_
          show OEnds p e below _ TL (mkF m 61 #[.val (.int i), .val (.int ps), .val (.int pe), .val (.int qe), .val (.int hq), .val (.int rv), .val (.ref la)] [(.int i)])
          refine OEnds.go (fun _ q => XS.iloadN XL.here XL.hx rfl (hb hby d_method_3_61) rfl q) ?_
          show OEnds p e below _ TL (mkF m 62 #[.val (.int i), .val (.int ps), .val (.int pe), .val (.int qe), .val (.int hq), .val (.int rv), .val (.ref la)] [(.int qe), (.int i)])
          by_cases h7 : i < qe
          · skip
            refine OEnds.go (fun _ q => XS.icmpNo XL.here XL.hx rfl (hb hby d_method_3_62) rfl (tlt h7).2.1 q) ?_
            show OEnds p e below _ TL (mkF m 65 #[.val (.int i), .val (.int ps), .val (.int pe), .val (.int qe), .val (.int hq), .val (.int rv), .val (.ref la)] [])
            refine OEnds.go (fun _ q => XS.aload XL.here XL.hx rfl (hb hby d_method_3_65) rfl rfl q) ?_
            show OEnds p e below _ TL (mkF m 67 #[.val (.int i), .val (.int ps), .val (.int pe), .val (.int qe), .val (.int hq), .val (.int rv), .val (.ref la)] [(.ref la)])
            refine OEnds.go (fun _ q => XS.iload XL.here XL.hx rfl (hb hby d_method_3_67) rfl q) ?_
            show OEnds p e below _ TL (mkF m 69 #[.val (.int i), .val (.int ps), .val (.int pe), .val (.int qe), .val (.int hq), .val (.int rv), .val (.ref la)] [(.int rv), (.ref la)])
            refine OEnds.go (fun _ q => XS.aload XL.here XL.hx rfl (hb hby d_method_3_69) rfl rfl q) ?_
            show OEnds p e below _ TL (mkF m 71 #[.val (.int i), .val (.int ps), .val (.int pe), .val (.int qe), .val (.int hq), .val (.int rv), .val (.ref la)] [(.ref la), (.int rv), (.ref la)])
            refine XL.payV (own_len H (W := 2) XL.hZ XL.old SL (by decide) (by decide)) (okPure XL) (hw _ (List.mem_of_getElem? (i := 20) rfl)) (hw _ (List.mem_of_getElem? (i := 21) rfl)) (hw _ (List.mem_of_getElem? (i := 23) rfl)) (hw _ (List.mem_of_getElem? (i := 22) rfl)) (XL.nf (hw _ (List.mem_of_getElem? (i := 23) rfl))) (by decide) SL.exa (argsL := []) (rest := [(.int rv), (.ref la)]) rfl (lenOf own_pd5 rfl) rfl (by rw [hml]; rfl) (Nat.le_of_eq rfl) (hb hby d_method_3_71) (by decide) (by decide) ?_
            intro v22 T23 h24 L25 X26 q27
            obtain ⟨rfl, -, e28⟩ := q27
            obtain rfl := e28.symm
            show OEnds p e below _ T23 (mkF m 74 #[.val (.int i), .val (.int ps), .val (.int pe), .val (.int qe), .val (.int hq), .val (.int rv), .val (.ref la)] [(.int (Int32.ofNat own_cs.length)), (.int rv), (.ref la)])
            rw [own_cs_len]
            show OEnds p e below _ T23 (mkF m 74 #[.val (.int i), .val (.int ps), .val (.int pe), .val (.int qe), .val (.int hq), .val (.int rv), .val (.ref la)] [(.int (81 : Int32)), (.int rv), (.ref la)])
            refine OEnds.go (fun _ q => own_irem X26.here X26.hx rfl (hb hby d_method_3_74) rfl (by decide) q) ?_
            show OEnds p e below _ T23 (mkF m 75 #[.val (.int i), .val (.int ps), .val (.int pe), .val (.int qe), .val (.int hq), .val (.int rv), .val (.ref la)] [(.int (rv % (81 : Int32))), (.ref la)])
            refine X26.payV (own_chr H (W := 0) X26.hZ X26.old (i := ((rv % (81 : Int32))).toNatClampNeg) SL (by rw [own_cs_len]; exact (own_rem (n := 81) (k := 81) hr.1 (by decide) (by decide) (by decide)).2) (ofN_of (own_rem (n := 81) (k := 81) hr.1 (by decide) (by decide) (by decide)).1).1 (by decide) (by decide)) (okPure X26) (hw _ (List.mem_of_getElem? (i := 33) rfl)) (hw _ (List.mem_of_getElem? (i := 34) rfl)) (hw _ (List.mem_of_getElem? (i := 36) rfl)) (hw _ (List.mem_of_getElem? (i := 35) rfl)) (X26.nf (hw _ (List.mem_of_getElem? (i := 36) rfl))) (by decide) SL.exa (argsL := [(.int (rv % (81 : Int32)))]) (rest := []) rfl (lenOf own_pd9 rfl) rfl (by rw [hml]; rfl) (Nat.le_of_eq rfl) (hb hby d_method_3_75) (by decide) (by decide) ?_
            intro v29 T30 h31 L32 X33 q34
            obtain ⟨rfl, -, e35⟩ := q34
            obtain rfl := e35.symm
            show OEnds p e below _ T30 (mkF m 78 #[.val (.int i), .val (.int ps), .val (.int pe), .val (.int qe), .val (.int hq), .val (.int rv), .val (.ref la)] [(.int (own_cs.getD ((rv % (81 : Int32))).toNatClampNeg 0))])
            exact X33.retCharV hE hlk (up255 (own_getD_b own_cs_b (by decide))) hret (hb hby d_method_3_78) (by decide) (by decide) (fun vm' hW => ⟨_, la, rfl, (own_getD_b own_cs_b (by decide)), EL, SL, LL.stays hW⟩)
          · skip
            refine OEnds.go (fun _ q => XS.icmpYes XL.here XL.hx rfl (pc0 := 62) (pc' := 79) rfl (hb hby d_method_3_62) rfl (flt h7).2.1 (by decide) (by decide) q) ?_
            show OEnds p e below _ TL (mkF m 79 #[.val (.int i), .val (.int ps), .val (.int pe), .val (.int qe), .val (.int hq), .val (.int rv), .val (.ref la)] [])
            exact J79
theorem con_at {l : Launch} {Z : State} {a0 : Array Value} {cz : Int32} {fm : Value} (H : Ctx Z a0 cz fm) (x ar : Addr) (k sv : Int32) (kc : ClassId) (ds vs : List Int32) (hp : own_pa ds vs sv k) (h0 : Heap) (Sx : OStr Z h0 x ds) (Ka : Arv Z h0 ar kc .char (8 : Int32) (vs.map Value.int) (.int (0 : Int32))) :
    ConX l Z consts_1 (⟨"com/example/riden/riden/parse/ComponentsQueryPinLaw", "at", "(Ljava/lang/String;[CII)Z"⟩ : MethodName) method_4_code 4 (some FieldType.boolean) [] ({ frames := 4, cells := 0, slots := 0, locals := 53 } : Room) #[(.ref x), (.ref ar), (.int sv), (.int k)] h0 (fun r h => r = some (.int 1) ∧ h0 = h) := by
  obtain ⟨hw, hE, S0, hcz, S1, rf⟩ := id H
  refine ConX.of own_pf12 ?_
  intro p e s m below meth c T hby hml hret hlk hnm X0
  have EX0 := ext_refl h0
  refine OEnds.cast (own_ef9 m x ar sv k ) ?_
  show OEnds p e below _ T (mkF m 0 #[.val (.ref x), .val (.ref ar), .val (.int sv), .val (.int k)] [])
  refine OEnds.go (fun _ q => XS.iloadN X0.here X0.hx rfl (hb hby d_method_4_0) rfl q) ?_
  show OEnds p e below _ T (mkF m 1 #[.val (.ref x), .val (.ref ar), .val (.int sv), .val (.int k)] [(.int k)])
  refine OEnds.go (fun _ q => XS.aloadN X0.here X0.hx rfl (hb hby d_method_4_1) rfl rfl q) ?_
  show OEnds p e below _ T (mkF m 2 #[.val (.ref x), .val (.ref ar), .val (.int sv), .val (.int k)] [(.ref x), (.int k)])
  refine X0.payV (own_len H (W := 1) X0.hZ X0.old Sx (by decide) (by decide)) (okPure X0) (hw _ (List.mem_of_getElem? (i := 20) rfl)) (hw _ (List.mem_of_getElem? (i := 21) rfl)) (hw _ (List.mem_of_getElem? (i := 23) rfl)) (hw _ (List.mem_of_getElem? (i := 22) rfl)) (X0.nf (hw _ (List.mem_of_getElem? (i := 23) rfl))) (by decide) Sx.exa (argsL := []) (rest := [(.int k)]) rfl (lenOf own_pd5 rfl) rfl (by rw [hml]; rfl) (Nat.le_of_eq rfl) (hb hby d_method_4_2) (by decide) (by decide) ?_
  intro v1 T2 h3 L4 X5 q6
  obtain ⟨rfl, -, e7⟩ := q6
  obtain rfl := e7.symm
  show OEnds p e below _ T2 (mkF m 5 #[.val (.ref x), .val (.ref ar), .val (.int sv), .val (.int k)] [(.int (Int32.ofNat ds.length)), (.int k)])
  rcases hp with hp | ⟨hp, q1, q2, q3, q4, q5⟩
  · skip
    refine OEnds.go (fun _ q => XS.icmpYes X5.here X5.hx rfl (pc0 := 5) (pc' := 21) rfl (hb hby d_method_4_5) rfl (flt hp).2.1 (by decide) (by decide) q) ?_
    show OEnds p e below _ T2 (mkF m 21 #[.val (.ref x), .val (.ref ar), .val (.int sv), .val (.int k)] [])
    refine OEnds.go (fun _ q => XS.iconst X5.here X5.hx rfl (hb hby d_method_4_21) q) ?_
    show OEnds p e below _ T2 (mkF m 22 #[.val (.ref x), .val (.ref ar), .val (.int sv), .val (.int k)] [(.int (1 : Int32))])
    refine OEnds.go (fun _ q => XS.goto X5.here X5.hx rfl (pc0 := 22) (pc' := 26) rfl (hb hby d_method_4_22) (by decide) (by decide) q) ?_
    show OEnds p e below _ T2 (mkF m 26 #[.val (.ref x), .val (.ref ar), .val (.int sv), .val (.int k)] [(.int (1 : Int32))])
    exact X5.retBool hE hlk (by first | exact Or.inl rfl | exact Or.inr rfl | assumption) hret (hb hby d_method_4_26) (by decide) (by decide) ⟨rfl, rfl⟩
  · skip
    refine OEnds.go (fun _ q => XS.icmpNo X5.here X5.hx rfl (hb hby d_method_4_5) rfl (tlt hp).2.1 q) ?_
    show OEnds p e below _ T2 (mkF m 8 #[.val (.ref x), .val (.ref ar), .val (.int sv), .val (.int k)] [])
    refine OEnds.go (fun _ q => XS.aloadN X5.here X5.hx rfl (hb hby d_method_4_8) rfl rfl q) ?_
    show OEnds p e below _ T2 (mkF m 9 #[.val (.ref x), .val (.ref ar), .val (.int sv), .val (.int k)] [(.ref x)])
    refine OEnds.go (fun _ q => XS.iloadN X5.here X5.hx rfl (hb hby d_method_4_9) rfl q) ?_
    show OEnds p e below _ T2 (mkF m 10 #[.val (.ref x), .val (.ref ar), .val (.int sv), .val (.int k)] [(.int k), (.ref x)])
    refine X5.payV (own_chr H (W := 0) X5.hZ X5.old (i := k.toNatClampNeg) Sx q1 q2 (by decide) (by decide)) (okPure X5) (hw _ (List.mem_of_getElem? (i := 33) rfl)) (hw _ (List.mem_of_getElem? (i := 34) rfl)) (hw _ (List.mem_of_getElem? (i := 36) rfl)) (hw _ (List.mem_of_getElem? (i := 35) rfl)) (X5.nf (hw _ (List.mem_of_getElem? (i := 36) rfl))) (by decide) Sx.exa (argsL := [(.int k)]) (rest := []) rfl (lenOf own_pd9 rfl) rfl (by rw [hml]; rfl) (Nat.le_of_eq rfl) (hb hby d_method_4_10) (by decide) (by decide) ?_
    intro v8 T9 h10 L11 X12 q13
    obtain ⟨rfl, -, e14⟩ := q13
    obtain rfl := e14.symm
    show OEnds p e below _ T9 (mkF m 13 #[.val (.ref x), .val (.ref ar), .val (.int sv), .val (.int k)] [(.int (ds.getD k.toNatClampNeg 0))])
    refine OEnds.go (fun _ q => XS.aloadN X12.here X12.hx rfl (hb hby d_method_4_13) rfl rfl q) ?_
    show OEnds p e below _ T9 (mkF m 14 #[.val (.ref x), .val (.ref ar), .val (.int sv), .val (.int k)] [(.ref ar), (.int (ds.getD k.toNatClampNeg 0))])
    refine OEnds.go (fun _ q => XS.iloadN X12.here X12.hx rfl (hb hby d_method_4_14) rfl q) ?_
    show OEnds p e below _ T9 (mkF m 15 #[.val (.ref x), .val (.ref ar), .val (.int sv), .val (.int k)] [(.int sv), (.ref ar), (.int (ds.getD k.toNatClampNeg 0))])
    refine OEnds.go (fun _ q => XS.iloadN X12.here X12.hx rfl (hb hby d_method_4_15) rfl q) ?_
    show OEnds p e below _ T9 (mkF m 16 #[.val (.ref x), .val (.ref ar), .val (.int sv), .val (.int k)] [(.int k), (.int sv), (.ref ar), (.int (ds.getD k.toNatClampNeg 0))])
    refine OEnds.go (fun _ q => XS.iadd X12.here X12.hx rfl (hb hby d_method_4_16) rfl q) ?_
    show OEnds p e below _ T9 (mkF m 17 #[.val (.ref x), .val (.ref ar), .val (.int sv), .val (.int k)] [(.int (sv + k)), (.ref ar), (.int (ds.getD k.toNatClampNeg 0))])
    refine X12.cald Ka ⟨q3, q4⟩ (v := .int (vs.getD (sv + k).toNatClampNeg 0)) (by rw [List.getD_eq_getElem?_getD, List.getElem?_map, List.getD_eq_getElem?_getD]; cases vs[(sv + k).toNatClampNeg]? <;> rfl) (hb hby d_method_4_17) ?_
    show OEnds p e below _ T9 (mkF m 18 #[.val (.ref x), .val (.ref ar), .val (.int sv), .val (.int k)] [(.int (vs.getD (sv + k).toNatClampNeg 0)), (.int (ds.getD k.toNatClampNeg 0))])
    refine OEnds.go (fun _ q => XS.icmpNo X12.here X12.hx rfl (hb hby d_method_4_18) rfl (teq q5.symm).2 q) ?_
    show OEnds p e below _ T9 (mkF m 21 #[.val (.ref x), .val (.ref ar), .val (.int sv), .val (.int k)] [])
    refine OEnds.go (fun _ q => XS.iconst X12.here X12.hx rfl (hb hby d_method_4_21) q) ?_
    show OEnds p e below _ T9 (mkF m 22 #[.val (.ref x), .val (.ref ar), .val (.int sv), .val (.int k)] [(.int (1 : Int32))])
    refine OEnds.go (fun _ q => XS.goto X12.here X12.hx rfl (pc0 := 22) (pc' := 26) rfl (hb hby d_method_4_22) (by decide) (by decide) q) ?_
    show OEnds p e below _ T9 (mkF m 26 #[.val (.ref x), .val (.ref ar), .val (.int sv), .val (.int k)] [(.int (1 : Int32))])
    exact X12.retBool hE hlk (by first | exact Or.inl rfl | exact Or.inr rfl | assumption) hret (hb hby d_method_4_26) (by decide) (by decide) ⟨rfl, rfl⟩
theorem con_cmp {l : Launch} {Z : State} {a0 : Array Value} {cz : Int32} {fm : Value} (H : Ctx Z a0 cz fm) (a : Addr) (s1 : Addr) (f1 : Int32) (f2 : Int32) (f3 : Int32) (hv : Value) (f4 : Int32) (f5 : Int32) (f6 : Int32) (r_hv : hv.isRef = true) (gza : Z.heap.size ≤ a) (h0 : Heap) (Aa : Exa Z h0 a "com/example/riden/riden/parse/Components") (Fa_text : Fld Z h0 a "com/example/riden/riden/parse/Components" "text" "Ljava/lang/String;" .null) (Fa_schemeEnd : Fld Z h0 a "com/example/riden/riden/parse/Components" "schemeEnd" "I" (.int (0 : Int32))) (Fa_hostStart : Fld Z h0 a "com/example/riden/riden/parse/Components" "hostStart" "I" (.int (0 : Int32))) (Fa_hostEnd : Fld Z h0 a "com/example/riden/riden/parse/Components" "hostEnd" "I" (.int (0 : Int32))) (Fa_hostKind : Fld Z h0 a "com/example/riden/riden/parse/Components" "hostKind" "Lcom/example/riden/riden/model/HostKind;" .null) (Fa_pathStart : Fld Z h0 a "com/example/riden/riden/parse/Components" "pathStart" "I" (.int (0 : Int32))) (Fa_pathEnd : Fld Z h0 a "com/example/riden/riden/parse/Components" "pathEnd" "I" (.int (0 : Int32))) (Fa_queryEnd : Fld Z h0 a "com/example/riden/riden/parse/Components" "queryEnd" "I" (.int (0 : Int32))) :
    ConX l Z consts_1 (⟨"com/example/riden/riden/parse/Components", "<init>", "(Ljava/lang/String;IIILcom/example/riden/riden/model/HostKind;III)V"⟩ : MethodName) prog_11_method_1_code 9 (none : Option FieldType) [] ({ frames := 1, cells := 0, slots := 0, locals := 12 } : Room) #[(.ref a), (.ref s1), (.int f1), (.int f2), (.int f3), (hv), (.int f4), (.int f5), (.int f6)] h0 (fun r h => r = none ∧ Keep h0 h [a] ∧ Exa Z h a "com/example/riden/riden/parse/Components" ∧ Fld Z h a "com/example/riden/riden/parse/Components" "text" "Ljava/lang/String;" (.ref s1) ∧ Fld Z h a "com/example/riden/riden/parse/Components" "schemeEnd" "I" (.int f1) ∧ Fld Z h a "com/example/riden/riden/parse/Components" "hostStart" "I" (.int f2) ∧ Fld Z h a "com/example/riden/riden/parse/Components" "hostEnd" "I" (.int f3) ∧ Fld Z h a "com/example/riden/riden/parse/Components" "hostKind" "Lcom/example/riden/riden/model/HostKind;" (hv) ∧ Fld Z h a "com/example/riden/riden/parse/Components" "pathStart" "I" (.int f4) ∧ Fld Z h a "com/example/riden/riden/parse/Components" "pathEnd" "I" (.int f5) ∧ Fld Z h a "com/example/riden/riden/parse/Components" "queryEnd" "I" (.int f6)) := by
  obtain ⟨hw, hE, S0, hcz, S1, rf⟩ := id H
  refine ConX.of own_pf13 ?_
  intro p e s m below meth c T hby hml hret hlk hnm X0
  have EX0 := ext_refl h0
  refine OEnds.cast (own_ef10 m a s1 f1 f2 f3 hv f4 f5 f6 r_hv) ?_
  show OEnds p e below _ T (mkF m 0 #[.val (.ref a), .val (.ref s1), .val (.int f1), .val (.int f2), .val (.int f3), .val (hv), .val (.int f4), .val (.int f5), .val (.int f6)] [])
  have K0 := Keep.refl h0 [a]
  refine OEnds.go (fun _ q => XS.aloadN X0.here X0.hx rfl (hb hby d_prog_11_method_1_0) rfl rfl q) ?_
  show OEnds p e below _ T (mkF m 1 #[.val (.ref a), .val (.ref s1), .val (.int f1), .val (.int f2), .val (.int f3), .val (hv), .val (.int f4), .val (.int f5), .val (.int f6)] [(.ref a)])
  refine X0.initO (hw _ (List.mem_of_getElem? (i := 82) rfl)) (hw _ (List.mem_of_getElem? (i := 67) rfl)) (hw _ (List.mem_of_getElem? (i := 68) rfl)) (by rw [hml]; rfl) (hb hby d_prog_11_method_1_1) (by decide) (W := 0) (Nat.le_of_eq rfl) (by decide) ?_
  intro T1 X2
  show OEnds p e below _ T1 (mkF m 4 #[.val (.ref a), .val (.ref s1), .val (.int f1), .val (.int f2), .val (.int f3), .val (hv), .val (.int f4), .val (.int f5), .val (.int f6)] [])
  refine OEnds.go (fun _ q => XS.aloadN X2.here X2.hx rfl (hb hby d_prog_11_method_1_4) rfl rfl q) ?_
  show OEnds p e below _ T1 (mkF m 5 #[.val (.ref a), .val (.ref s1), .val (.int f1), .val (.int f2), .val (.int f3), .val (hv), .val (.int f4), .val (.int f5), .val (.int f6)] [(.ref a)])
  refine OEnds.go (fun _ q => XS.aloadN X2.here X2.hx rfl (hb hby d_prog_11_method_1_5) rfl rfl q) ?_
  show OEnds p e below _ T1 (mkF m 6 #[.val (.ref a), .val (.ref s1), .val (.int f1), .val (.int f2), .val (.int f3), .val (hv), .val (.int f4), .val (.int f5), .val (.int f6)] [(.ref s1), (.ref a)])
  refine X2.putF (v := (.ref s1)) (hw _ (List.mem_of_getElem? (i := 83) rfl)) Via.refl Fa_text Aa (Or.inr ⟨(hw _ (List.mem_of_getElem? (i := 84) rfl)), rfl, hnm⟩) (hw _ (List.mem_of_getElem? (i := 56) rfl)) (ty := (FieldType.object "java/lang/String")) (by decide) rfl rfl (Safe.exa X2.al Aa (by decide) (by decide)) gza (hb hby d_prog_11_method_1_6) ?_
  intro T3 h5 X4 W6
  have Fa_text_h5 := Fa_text.same W6
  have Aa_h5 := Aa.wr W6
  have Fa_schemeEnd_h5 := Fa_schemeEnd.other W6 (Or.inr (slot_ne (a0 := a0) (Or.inr (hw _ (List.mem_of_getElem? (i := 86) rfl))) (Or.inr (hw _ (List.mem_of_getElem? (i := 84) rfl))) (by decide) (t := FieldType.int) (by decide) (t' := (FieldType.object "java/lang/String")) (by decide)))
  have Fa_hostStart_h5 := Fa_hostStart.other W6 (Or.inr (slot_ne (a0 := a0) (Or.inr (hw _ (List.mem_of_getElem? (i := 88) rfl))) (Or.inr (hw _ (List.mem_of_getElem? (i := 84) rfl))) (by decide) (t := FieldType.int) (by decide) (t' := (FieldType.object "java/lang/String")) (by decide)))
  have Fa_hostEnd_h5 := Fa_hostEnd.other W6 (Or.inr (slot_ne (a0 := a0) (Or.inr (hw _ (List.mem_of_getElem? (i := 90) rfl))) (Or.inr (hw _ (List.mem_of_getElem? (i := 84) rfl))) (by decide) (t := FieldType.int) (by decide) (t' := (FieldType.object "java/lang/String")) (by decide)))
  have Fa_hostKind_h5 := Fa_hostKind.other W6 (Or.inr (slot_ne (a0 := a0) (Or.inr (hw _ (List.mem_of_getElem? (i := 92) rfl))) (Or.inr (hw _ (List.mem_of_getElem? (i := 84) rfl))) (by decide) (t := (FieldType.object "com/example/riden/riden/model/HostKind")) (by decide) (t' := (FieldType.object "java/lang/String")) (by decide)))
  have Fa_pathStart_h5 := Fa_pathStart.other W6 (Or.inr (slot_ne (a0 := a0) (Or.inr (hw _ (List.mem_of_getElem? (i := 94) rfl))) (Or.inr (hw _ (List.mem_of_getElem? (i := 84) rfl))) (by decide) (t := FieldType.int) (by decide) (t' := (FieldType.object "java/lang/String")) (by decide)))
  have Fa_pathEnd_h5 := Fa_pathEnd.other W6 (Or.inr (slot_ne (a0 := a0) (Or.inr (hw _ (List.mem_of_getElem? (i := 96) rfl))) (Or.inr (hw _ (List.mem_of_getElem? (i := 84) rfl))) (by decide) (t := FieldType.int) (by decide) (t' := (FieldType.object "java/lang/String")) (by decide)))
  have Fa_queryEnd_h5 := Fa_queryEnd.other W6 (Or.inr (slot_ne (a0 := a0) (Or.inr (hw _ (List.mem_of_getElem? (i := 98) rfl))) (Or.inr (hw _ (List.mem_of_getElem? (i := 84) rfl))) (by decide) (t := FieldType.int) (by decide) (t' := (FieldType.object "java/lang/String")) (by decide)))
  have K7 := K0.wr W6 (Or.inl (List.mem_of_getElem? (i := 0) rfl))
  show OEnds p e below _ T3 (mkF m 9 #[.val (.ref a), .val (.ref s1), .val (.int f1), .val (.int f2), .val (.int f3), .val (hv), .val (.int f4), .val (.int f5), .val (.int f6)] [])
  refine OEnds.go (fun _ q => XS.aloadN X4.here X4.hx rfl (hb hby d_prog_11_method_1_9) rfl rfl q) ?_
  show OEnds p e below _ T3 (mkF m 10 #[.val (.ref a), .val (.ref s1), .val (.int f1), .val (.int f2), .val (.int f3), .val (hv), .val (.int f4), .val (.int f5), .val (.int f6)] [(.ref a)])
  refine OEnds.go (fun _ q => XS.iloadN X4.here X4.hx rfl (hb hby d_prog_11_method_1_10) rfl q) ?_
  show OEnds p e below _ T3 (mkF m 11 #[.val (.ref a), .val (.ref s1), .val (.int f1), .val (.int f2), .val (.int f3), .val (hv), .val (.int f4), .val (.int f5), .val (.int f6)] [(.int f1), (.ref a)])
  refine X4.putF (v := (.int f1)) (hw _ (List.mem_of_getElem? (i := 85) rfl)) Via.refl Fa_schemeEnd_h5 Aa_h5 (Or.inr ⟨(hw _ (List.mem_of_getElem? (i := 86) rfl)), rfl, hnm⟩) (hw _ (List.mem_of_getElem? (i := 56) rfl)) (ty := FieldType.int) (by decide) rfl rfl (Safe.exa X4.al Aa_h5 (by decide) (by decide)) gza (hb hby d_prog_11_method_1_11) ?_
  intro T8 h10 X9 W11
  have Fa_schemeEnd_h10 := Fa_schemeEnd_h5.same W11
  have Aa_h10 := Aa_h5.wr W11
  have Fa_text_h10 := Fa_text_h5.other W11 (Or.inr (slot_ne (a0 := a0) (Or.inr (hw _ (List.mem_of_getElem? (i := 84) rfl))) (Or.inr (hw _ (List.mem_of_getElem? (i := 86) rfl))) (by decide) (t := (FieldType.object "java/lang/String")) (by decide) (t' := FieldType.int) (by decide)))
  have Fa_hostStart_h10 := Fa_hostStart_h5.other W11 (Or.inr (slot_ne (a0 := a0) (Or.inr (hw _ (List.mem_of_getElem? (i := 88) rfl))) (Or.inr (hw _ (List.mem_of_getElem? (i := 86) rfl))) (by decide) (t := FieldType.int) (by decide) (t' := FieldType.int) (by decide)))
  have Fa_hostEnd_h10 := Fa_hostEnd_h5.other W11 (Or.inr (slot_ne (a0 := a0) (Or.inr (hw _ (List.mem_of_getElem? (i := 90) rfl))) (Or.inr (hw _ (List.mem_of_getElem? (i := 86) rfl))) (by decide) (t := FieldType.int) (by decide) (t' := FieldType.int) (by decide)))
  have Fa_hostKind_h10 := Fa_hostKind_h5.other W11 (Or.inr (slot_ne (a0 := a0) (Or.inr (hw _ (List.mem_of_getElem? (i := 92) rfl))) (Or.inr (hw _ (List.mem_of_getElem? (i := 86) rfl))) (by decide) (t := (FieldType.object "com/example/riden/riden/model/HostKind")) (by decide) (t' := FieldType.int) (by decide)))
  have Fa_pathStart_h10 := Fa_pathStart_h5.other W11 (Or.inr (slot_ne (a0 := a0) (Or.inr (hw _ (List.mem_of_getElem? (i := 94) rfl))) (Or.inr (hw _ (List.mem_of_getElem? (i := 86) rfl))) (by decide) (t := FieldType.int) (by decide) (t' := FieldType.int) (by decide)))
  have Fa_pathEnd_h10 := Fa_pathEnd_h5.other W11 (Or.inr (slot_ne (a0 := a0) (Or.inr (hw _ (List.mem_of_getElem? (i := 96) rfl))) (Or.inr (hw _ (List.mem_of_getElem? (i := 86) rfl))) (by decide) (t := FieldType.int) (by decide) (t' := FieldType.int) (by decide)))
  have Fa_queryEnd_h10 := Fa_queryEnd_h5.other W11 (Or.inr (slot_ne (a0 := a0) (Or.inr (hw _ (List.mem_of_getElem? (i := 98) rfl))) (Or.inr (hw _ (List.mem_of_getElem? (i := 86) rfl))) (by decide) (t := FieldType.int) (by decide) (t' := FieldType.int) (by decide)))
  have K12 := K7.wr W11 (Or.inl (List.mem_of_getElem? (i := 0) rfl))
  show OEnds p e below _ T8 (mkF m 14 #[.val (.ref a), .val (.ref s1), .val (.int f1), .val (.int f2), .val (.int f3), .val (hv), .val (.int f4), .val (.int f5), .val (.int f6)] [])
  refine OEnds.go (fun _ q => XS.aloadN X9.here X9.hx rfl (hb hby d_prog_11_method_1_14) rfl rfl q) ?_
  show OEnds p e below _ T8 (mkF m 15 #[.val (.ref a), .val (.ref s1), .val (.int f1), .val (.int f2), .val (.int f3), .val (hv), .val (.int f4), .val (.int f5), .val (.int f6)] [(.ref a)])
  refine OEnds.go (fun _ q => XS.iloadN X9.here X9.hx rfl (hb hby d_prog_11_method_1_15) rfl q) ?_
  show OEnds p e below _ T8 (mkF m 16 #[.val (.ref a), .val (.ref s1), .val (.int f1), .val (.int f2), .val (.int f3), .val (hv), .val (.int f4), .val (.int f5), .val (.int f6)] [(.int f2), (.ref a)])
  refine X9.putF (v := (.int f2)) (hw _ (List.mem_of_getElem? (i := 87) rfl)) Via.refl Fa_hostStart_h10 Aa_h10 (Or.inr ⟨(hw _ (List.mem_of_getElem? (i := 88) rfl)), rfl, hnm⟩) (hw _ (List.mem_of_getElem? (i := 56) rfl)) (ty := FieldType.int) (by decide) rfl rfl (Safe.exa X9.al Aa_h10 (by decide) (by decide)) gza (hb hby d_prog_11_method_1_16) ?_
  intro T13 h15 X14 W16
  have Fa_hostStart_h15 := Fa_hostStart_h10.same W16
  have Aa_h15 := Aa_h10.wr W16
  have Fa_schemeEnd_h15 := Fa_schemeEnd_h10.other W16 (Or.inr (slot_ne (a0 := a0) (Or.inr (hw _ (List.mem_of_getElem? (i := 86) rfl))) (Or.inr (hw _ (List.mem_of_getElem? (i := 88) rfl))) (by decide) (t := FieldType.int) (by decide) (t' := FieldType.int) (by decide)))
  have Fa_text_h15 := Fa_text_h10.other W16 (Or.inr (slot_ne (a0 := a0) (Or.inr (hw _ (List.mem_of_getElem? (i := 84) rfl))) (Or.inr (hw _ (List.mem_of_getElem? (i := 88) rfl))) (by decide) (t := (FieldType.object "java/lang/String")) (by decide) (t' := FieldType.int) (by decide)))
  have Fa_hostEnd_h15 := Fa_hostEnd_h10.other W16 (Or.inr (slot_ne (a0 := a0) (Or.inr (hw _ (List.mem_of_getElem? (i := 90) rfl))) (Or.inr (hw _ (List.mem_of_getElem? (i := 88) rfl))) (by decide) (t := FieldType.int) (by decide) (t' := FieldType.int) (by decide)))
  have Fa_hostKind_h15 := Fa_hostKind_h10.other W16 (Or.inr (slot_ne (a0 := a0) (Or.inr (hw _ (List.mem_of_getElem? (i := 92) rfl))) (Or.inr (hw _ (List.mem_of_getElem? (i := 88) rfl))) (by decide) (t := (FieldType.object "com/example/riden/riden/model/HostKind")) (by decide) (t' := FieldType.int) (by decide)))
  have Fa_pathStart_h15 := Fa_pathStart_h10.other W16 (Or.inr (slot_ne (a0 := a0) (Or.inr (hw _ (List.mem_of_getElem? (i := 94) rfl))) (Or.inr (hw _ (List.mem_of_getElem? (i := 88) rfl))) (by decide) (t := FieldType.int) (by decide) (t' := FieldType.int) (by decide)))
  have Fa_pathEnd_h15 := Fa_pathEnd_h10.other W16 (Or.inr (slot_ne (a0 := a0) (Or.inr (hw _ (List.mem_of_getElem? (i := 96) rfl))) (Or.inr (hw _ (List.mem_of_getElem? (i := 88) rfl))) (by decide) (t := FieldType.int) (by decide) (t' := FieldType.int) (by decide)))
  have Fa_queryEnd_h15 := Fa_queryEnd_h10.other W16 (Or.inr (slot_ne (a0 := a0) (Or.inr (hw _ (List.mem_of_getElem? (i := 98) rfl))) (Or.inr (hw _ (List.mem_of_getElem? (i := 88) rfl))) (by decide) (t := FieldType.int) (by decide) (t' := FieldType.int) (by decide)))
  have K17 := K12.wr W16 (Or.inl (List.mem_of_getElem? (i := 0) rfl))
  show OEnds p e below _ T13 (mkF m 19 #[.val (.ref a), .val (.ref s1), .val (.int f1), .val (.int f2), .val (.int f3), .val (hv), .val (.int f4), .val (.int f5), .val (.int f6)] [])
  refine OEnds.go (fun _ q => XS.aloadN X14.here X14.hx rfl (hb hby d_prog_11_method_1_19) rfl rfl q) ?_
  show OEnds p e below _ T13 (mkF m 20 #[.val (.ref a), .val (.ref s1), .val (.int f1), .val (.int f2), .val (.int f3), .val (hv), .val (.int f4), .val (.int f5), .val (.int f6)] [(.ref a)])
  refine OEnds.go (fun _ q => XS.iload X14.here X14.hx rfl (hb hby d_prog_11_method_1_20) rfl q) ?_
  show OEnds p e below _ T13 (mkF m 22 #[.val (.ref a), .val (.ref s1), .val (.int f1), .val (.int f2), .val (.int f3), .val (hv), .val (.int f4), .val (.int f5), .val (.int f6)] [(.int f3), (.ref a)])
  refine X14.putF (v := (.int f3)) (hw _ (List.mem_of_getElem? (i := 89) rfl)) Via.refl Fa_hostEnd_h15 Aa_h15 (Or.inr ⟨(hw _ (List.mem_of_getElem? (i := 90) rfl)), rfl, hnm⟩) (hw _ (List.mem_of_getElem? (i := 56) rfl)) (ty := FieldType.int) (by decide) rfl rfl (Safe.exa X14.al Aa_h15 (by decide) (by decide)) gza (hb hby d_prog_11_method_1_22) ?_
  intro T18 h20 X19 W21
  have Fa_hostEnd_h20 := Fa_hostEnd_h15.same W21
  have Aa_h20 := Aa_h15.wr W21
  have Fa_hostStart_h20 := Fa_hostStart_h15.other W21 (Or.inr (slot_ne (a0 := a0) (Or.inr (hw _ (List.mem_of_getElem? (i := 88) rfl))) (Or.inr (hw _ (List.mem_of_getElem? (i := 90) rfl))) (by decide) (t := FieldType.int) (by decide) (t' := FieldType.int) (by decide)))
  have Fa_schemeEnd_h20 := Fa_schemeEnd_h15.other W21 (Or.inr (slot_ne (a0 := a0) (Or.inr (hw _ (List.mem_of_getElem? (i := 86) rfl))) (Or.inr (hw _ (List.mem_of_getElem? (i := 90) rfl))) (by decide) (t := FieldType.int) (by decide) (t' := FieldType.int) (by decide)))
  have Fa_text_h20 := Fa_text_h15.other W21 (Or.inr (slot_ne (a0 := a0) (Or.inr (hw _ (List.mem_of_getElem? (i := 84) rfl))) (Or.inr (hw _ (List.mem_of_getElem? (i := 90) rfl))) (by decide) (t := (FieldType.object "java/lang/String")) (by decide) (t' := FieldType.int) (by decide)))
  have Fa_hostKind_h20 := Fa_hostKind_h15.other W21 (Or.inr (slot_ne (a0 := a0) (Or.inr (hw _ (List.mem_of_getElem? (i := 92) rfl))) (Or.inr (hw _ (List.mem_of_getElem? (i := 90) rfl))) (by decide) (t := (FieldType.object "com/example/riden/riden/model/HostKind")) (by decide) (t' := FieldType.int) (by decide)))
  have Fa_pathStart_h20 := Fa_pathStart_h15.other W21 (Or.inr (slot_ne (a0 := a0) (Or.inr (hw _ (List.mem_of_getElem? (i := 94) rfl))) (Or.inr (hw _ (List.mem_of_getElem? (i := 90) rfl))) (by decide) (t := FieldType.int) (by decide) (t' := FieldType.int) (by decide)))
  have Fa_pathEnd_h20 := Fa_pathEnd_h15.other W21 (Or.inr (slot_ne (a0 := a0) (Or.inr (hw _ (List.mem_of_getElem? (i := 96) rfl))) (Or.inr (hw _ (List.mem_of_getElem? (i := 90) rfl))) (by decide) (t := FieldType.int) (by decide) (t' := FieldType.int) (by decide)))
  have Fa_queryEnd_h20 := Fa_queryEnd_h15.other W21 (Or.inr (slot_ne (a0 := a0) (Or.inr (hw _ (List.mem_of_getElem? (i := 98) rfl))) (Or.inr (hw _ (List.mem_of_getElem? (i := 90) rfl))) (by decide) (t := FieldType.int) (by decide) (t' := FieldType.int) (by decide)))
  have K22 := K17.wr W21 (Or.inl (List.mem_of_getElem? (i := 0) rfl))
  show OEnds p e below _ T18 (mkF m 25 #[.val (.ref a), .val (.ref s1), .val (.int f1), .val (.int f2), .val (.int f3), .val (hv), .val (.int f4), .val (.int f5), .val (.int f6)] [])
  refine OEnds.go (fun _ q => XS.aloadN X19.here X19.hx rfl (hb hby d_prog_11_method_1_25) rfl rfl q) ?_
  show OEnds p e below _ T18 (mkF m 26 #[.val (.ref a), .val (.ref s1), .val (.int f1), .val (.int f2), .val (.int f3), .val (hv), .val (.int f4), .val (.int f5), .val (.int f6)] [(.ref a)])
  refine OEnds.go (fun _ q => XS.aload X19.here X19.hx rfl (hb hby d_prog_11_method_1_26) rfl r_hv q) ?_
  show OEnds p e below _ T18 (mkF m 28 #[.val (.ref a), .val (.ref s1), .val (.int f1), .val (.int f2), .val (.int f3), .val (hv), .val (.int f4), .val (.int f5), .val (.int f6)] [(hv), (.ref a)])
  refine X19.putF (v := (hv)) (hw _ (List.mem_of_getElem? (i := 91) rfl)) Via.refl Fa_hostKind_h20 Aa_h20 (Or.inr ⟨(hw _ (List.mem_of_getElem? (i := 92) rfl)), rfl, hnm⟩) (hw _ (List.mem_of_getElem? (i := 56) rfl)) (ty := (FieldType.object "com/example/riden/riden/model/HostKind")) (by decide) (narrow_obj rfl) (own_fits rfl r_hv) (Safe.exa X19.al Aa_h20 (by decide) (by decide)) gza (hb hby d_prog_11_method_1_28) ?_
  intro T23 h25 X24 W26
  have Fa_hostKind_h25 := Fa_hostKind_h20.same W26
  have Aa_h25 := Aa_h20.wr W26
  have Fa_hostEnd_h25 := Fa_hostEnd_h20.other W26 (Or.inr (slot_ne (a0 := a0) (Or.inr (hw _ (List.mem_of_getElem? (i := 90) rfl))) (Or.inr (hw _ (List.mem_of_getElem? (i := 92) rfl))) (by decide) (t := FieldType.int) (by decide) (t' := (FieldType.object "com/example/riden/riden/model/HostKind")) (by decide)))
  have Fa_hostStart_h25 := Fa_hostStart_h20.other W26 (Or.inr (slot_ne (a0 := a0) (Or.inr (hw _ (List.mem_of_getElem? (i := 88) rfl))) (Or.inr (hw _ (List.mem_of_getElem? (i := 92) rfl))) (by decide) (t := FieldType.int) (by decide) (t' := (FieldType.object "com/example/riden/riden/model/HostKind")) (by decide)))
  have Fa_schemeEnd_h25 := Fa_schemeEnd_h20.other W26 (Or.inr (slot_ne (a0 := a0) (Or.inr (hw _ (List.mem_of_getElem? (i := 86) rfl))) (Or.inr (hw _ (List.mem_of_getElem? (i := 92) rfl))) (by decide) (t := FieldType.int) (by decide) (t' := (FieldType.object "com/example/riden/riden/model/HostKind")) (by decide)))
  have Fa_text_h25 := Fa_text_h20.other W26 (Or.inr (slot_ne (a0 := a0) (Or.inr (hw _ (List.mem_of_getElem? (i := 84) rfl))) (Or.inr (hw _ (List.mem_of_getElem? (i := 92) rfl))) (by decide) (t := (FieldType.object "java/lang/String")) (by decide) (t' := (FieldType.object "com/example/riden/riden/model/HostKind")) (by decide)))
  have Fa_pathStart_h25 := Fa_pathStart_h20.other W26 (Or.inr (slot_ne (a0 := a0) (Or.inr (hw _ (List.mem_of_getElem? (i := 94) rfl))) (Or.inr (hw _ (List.mem_of_getElem? (i := 92) rfl))) (by decide) (t := FieldType.int) (by decide) (t' := (FieldType.object "com/example/riden/riden/model/HostKind")) (by decide)))
  have Fa_pathEnd_h25 := Fa_pathEnd_h20.other W26 (Or.inr (slot_ne (a0 := a0) (Or.inr (hw _ (List.mem_of_getElem? (i := 96) rfl))) (Or.inr (hw _ (List.mem_of_getElem? (i := 92) rfl))) (by decide) (t := FieldType.int) (by decide) (t' := (FieldType.object "com/example/riden/riden/model/HostKind")) (by decide)))
  have Fa_queryEnd_h25 := Fa_queryEnd_h20.other W26 (Or.inr (slot_ne (a0 := a0) (Or.inr (hw _ (List.mem_of_getElem? (i := 98) rfl))) (Or.inr (hw _ (List.mem_of_getElem? (i := 92) rfl))) (by decide) (t := FieldType.int) (by decide) (t' := (FieldType.object "com/example/riden/riden/model/HostKind")) (by decide)))
  have K27 := K22.wr W26 (Or.inl (List.mem_of_getElem? (i := 0) rfl))
  show OEnds p e below _ T23 (mkF m 31 #[.val (.ref a), .val (.ref s1), .val (.int f1), .val (.int f2), .val (.int f3), .val (hv), .val (.int f4), .val (.int f5), .val (.int f6)] [])
  refine OEnds.go (fun _ q => XS.aloadN X24.here X24.hx rfl (hb hby d_prog_11_method_1_31) rfl rfl q) ?_
  show OEnds p e below _ T23 (mkF m 32 #[.val (.ref a), .val (.ref s1), .val (.int f1), .val (.int f2), .val (.int f3), .val (hv), .val (.int f4), .val (.int f5), .val (.int f6)] [(.ref a)])
  refine OEnds.go (fun _ q => XS.iload X24.here X24.hx rfl (hb hby d_prog_11_method_1_32) rfl q) ?_
  show OEnds p e below _ T23 (mkF m 34 #[.val (.ref a), .val (.ref s1), .val (.int f1), .val (.int f2), .val (.int f3), .val (hv), .val (.int f4), .val (.int f5), .val (.int f6)] [(.int f4), (.ref a)])
  refine X24.putF (v := (.int f4)) (hw _ (List.mem_of_getElem? (i := 93) rfl)) Via.refl Fa_pathStart_h25 Aa_h25 (Or.inr ⟨(hw _ (List.mem_of_getElem? (i := 94) rfl)), rfl, hnm⟩) (hw _ (List.mem_of_getElem? (i := 56) rfl)) (ty := FieldType.int) (by decide) rfl rfl (Safe.exa X24.al Aa_h25 (by decide) (by decide)) gza (hb hby d_prog_11_method_1_34) ?_
  intro T28 h30 X29 W31
  have Fa_pathStart_h30 := Fa_pathStart_h25.same W31
  have Aa_h30 := Aa_h25.wr W31
  have Fa_hostKind_h30 := Fa_hostKind_h25.other W31 (Or.inr (slot_ne (a0 := a0) (Or.inr (hw _ (List.mem_of_getElem? (i := 92) rfl))) (Or.inr (hw _ (List.mem_of_getElem? (i := 94) rfl))) (by decide) (t := (FieldType.object "com/example/riden/riden/model/HostKind")) (by decide) (t' := FieldType.int) (by decide)))
  have Fa_hostEnd_h30 := Fa_hostEnd_h25.other W31 (Or.inr (slot_ne (a0 := a0) (Or.inr (hw _ (List.mem_of_getElem? (i := 90) rfl))) (Or.inr (hw _ (List.mem_of_getElem? (i := 94) rfl))) (by decide) (t := FieldType.int) (by decide) (t' := FieldType.int) (by decide)))
  have Fa_hostStart_h30 := Fa_hostStart_h25.other W31 (Or.inr (slot_ne (a0 := a0) (Or.inr (hw _ (List.mem_of_getElem? (i := 88) rfl))) (Or.inr (hw _ (List.mem_of_getElem? (i := 94) rfl))) (by decide) (t := FieldType.int) (by decide) (t' := FieldType.int) (by decide)))
  have Fa_schemeEnd_h30 := Fa_schemeEnd_h25.other W31 (Or.inr (slot_ne (a0 := a0) (Or.inr (hw _ (List.mem_of_getElem? (i := 86) rfl))) (Or.inr (hw _ (List.mem_of_getElem? (i := 94) rfl))) (by decide) (t := FieldType.int) (by decide) (t' := FieldType.int) (by decide)))
  have Fa_text_h30 := Fa_text_h25.other W31 (Or.inr (slot_ne (a0 := a0) (Or.inr (hw _ (List.mem_of_getElem? (i := 84) rfl))) (Or.inr (hw _ (List.mem_of_getElem? (i := 94) rfl))) (by decide) (t := (FieldType.object "java/lang/String")) (by decide) (t' := FieldType.int) (by decide)))
  have Fa_pathEnd_h30 := Fa_pathEnd_h25.other W31 (Or.inr (slot_ne (a0 := a0) (Or.inr (hw _ (List.mem_of_getElem? (i := 96) rfl))) (Or.inr (hw _ (List.mem_of_getElem? (i := 94) rfl))) (by decide) (t := FieldType.int) (by decide) (t' := FieldType.int) (by decide)))
  have Fa_queryEnd_h30 := Fa_queryEnd_h25.other W31 (Or.inr (slot_ne (a0 := a0) (Or.inr (hw _ (List.mem_of_getElem? (i := 98) rfl))) (Or.inr (hw _ (List.mem_of_getElem? (i := 94) rfl))) (by decide) (t := FieldType.int) (by decide) (t' := FieldType.int) (by decide)))
  have K32 := K27.wr W31 (Or.inl (List.mem_of_getElem? (i := 0) rfl))
  show OEnds p e below _ T28 (mkF m 37 #[.val (.ref a), .val (.ref s1), .val (.int f1), .val (.int f2), .val (.int f3), .val (hv), .val (.int f4), .val (.int f5), .val (.int f6)] [])
  refine OEnds.go (fun _ q => XS.aloadN X29.here X29.hx rfl (hb hby d_prog_11_method_1_37) rfl rfl q) ?_
  show OEnds p e below _ T28 (mkF m 38 #[.val (.ref a), .val (.ref s1), .val (.int f1), .val (.int f2), .val (.int f3), .val (hv), .val (.int f4), .val (.int f5), .val (.int f6)] [(.ref a)])
  refine OEnds.go (fun _ q => XS.iload X29.here X29.hx rfl (hb hby d_prog_11_method_1_38) rfl q) ?_
  show OEnds p e below _ T28 (mkF m 40 #[.val (.ref a), .val (.ref s1), .val (.int f1), .val (.int f2), .val (.int f3), .val (hv), .val (.int f4), .val (.int f5), .val (.int f6)] [(.int f5), (.ref a)])
  refine X29.putF (v := (.int f5)) (hw _ (List.mem_of_getElem? (i := 95) rfl)) Via.refl Fa_pathEnd_h30 Aa_h30 (Or.inr ⟨(hw _ (List.mem_of_getElem? (i := 96) rfl)), rfl, hnm⟩) (hw _ (List.mem_of_getElem? (i := 56) rfl)) (ty := FieldType.int) (by decide) rfl rfl (Safe.exa X29.al Aa_h30 (by decide) (by decide)) gza (hb hby d_prog_11_method_1_40) ?_
  intro T33 h35 X34 W36
  have Fa_pathEnd_h35 := Fa_pathEnd_h30.same W36
  have Aa_h35 := Aa_h30.wr W36
  have Fa_pathStart_h35 := Fa_pathStart_h30.other W36 (Or.inr (slot_ne (a0 := a0) (Or.inr (hw _ (List.mem_of_getElem? (i := 94) rfl))) (Or.inr (hw _ (List.mem_of_getElem? (i := 96) rfl))) (by decide) (t := FieldType.int) (by decide) (t' := FieldType.int) (by decide)))
  have Fa_hostKind_h35 := Fa_hostKind_h30.other W36 (Or.inr (slot_ne (a0 := a0) (Or.inr (hw _ (List.mem_of_getElem? (i := 92) rfl))) (Or.inr (hw _ (List.mem_of_getElem? (i := 96) rfl))) (by decide) (t := (FieldType.object "com/example/riden/riden/model/HostKind")) (by decide) (t' := FieldType.int) (by decide)))
  have Fa_hostEnd_h35 := Fa_hostEnd_h30.other W36 (Or.inr (slot_ne (a0 := a0) (Or.inr (hw _ (List.mem_of_getElem? (i := 90) rfl))) (Or.inr (hw _ (List.mem_of_getElem? (i := 96) rfl))) (by decide) (t := FieldType.int) (by decide) (t' := FieldType.int) (by decide)))
  have Fa_hostStart_h35 := Fa_hostStart_h30.other W36 (Or.inr (slot_ne (a0 := a0) (Or.inr (hw _ (List.mem_of_getElem? (i := 88) rfl))) (Or.inr (hw _ (List.mem_of_getElem? (i := 96) rfl))) (by decide) (t := FieldType.int) (by decide) (t' := FieldType.int) (by decide)))
  have Fa_schemeEnd_h35 := Fa_schemeEnd_h30.other W36 (Or.inr (slot_ne (a0 := a0) (Or.inr (hw _ (List.mem_of_getElem? (i := 86) rfl))) (Or.inr (hw _ (List.mem_of_getElem? (i := 96) rfl))) (by decide) (t := FieldType.int) (by decide) (t' := FieldType.int) (by decide)))
  have Fa_text_h35 := Fa_text_h30.other W36 (Or.inr (slot_ne (a0 := a0) (Or.inr (hw _ (List.mem_of_getElem? (i := 84) rfl))) (Or.inr (hw _ (List.mem_of_getElem? (i := 96) rfl))) (by decide) (t := (FieldType.object "java/lang/String")) (by decide) (t' := FieldType.int) (by decide)))
  have Fa_queryEnd_h35 := Fa_queryEnd_h30.other W36 (Or.inr (slot_ne (a0 := a0) (Or.inr (hw _ (List.mem_of_getElem? (i := 98) rfl))) (Or.inr (hw _ (List.mem_of_getElem? (i := 96) rfl))) (by decide) (t := FieldType.int) (by decide) (t' := FieldType.int) (by decide)))
  have K37 := K32.wr W36 (Or.inl (List.mem_of_getElem? (i := 0) rfl))
  show OEnds p e below _ T33 (mkF m 43 #[.val (.ref a), .val (.ref s1), .val (.int f1), .val (.int f2), .val (.int f3), .val (hv), .val (.int f4), .val (.int f5), .val (.int f6)] [])
  refine OEnds.go (fun _ q => XS.aloadN X34.here X34.hx rfl (hb hby d_prog_11_method_1_43) rfl rfl q) ?_
  show OEnds p e below _ T33 (mkF m 44 #[.val (.ref a), .val (.ref s1), .val (.int f1), .val (.int f2), .val (.int f3), .val (hv), .val (.int f4), .val (.int f5), .val (.int f6)] [(.ref a)])
  refine OEnds.go (fun _ q => XS.iload X34.here X34.hx rfl (hb hby d_prog_11_method_1_44) rfl q) ?_
  show OEnds p e below _ T33 (mkF m 46 #[.val (.ref a), .val (.ref s1), .val (.int f1), .val (.int f2), .val (.int f3), .val (hv), .val (.int f4), .val (.int f5), .val (.int f6)] [(.int f6), (.ref a)])
  refine X34.putF (v := (.int f6)) (hw _ (List.mem_of_getElem? (i := 97) rfl)) Via.refl Fa_queryEnd_h35 Aa_h35 (Or.inr ⟨(hw _ (List.mem_of_getElem? (i := 98) rfl)), rfl, hnm⟩) (hw _ (List.mem_of_getElem? (i := 56) rfl)) (ty := FieldType.int) (by decide) rfl rfl (Safe.exa X34.al Aa_h35 (by decide) (by decide)) gza (hb hby d_prog_11_method_1_46) ?_
  intro T38 h40 X39 W41
  have Fa_queryEnd_h40 := Fa_queryEnd_h35.same W41
  have Aa_h40 := Aa_h35.wr W41
  have Fa_pathEnd_h40 := Fa_pathEnd_h35.other W41 (Or.inr (slot_ne (a0 := a0) (Or.inr (hw _ (List.mem_of_getElem? (i := 96) rfl))) (Or.inr (hw _ (List.mem_of_getElem? (i := 98) rfl))) (by decide) (t := FieldType.int) (by decide) (t' := FieldType.int) (by decide)))
  have Fa_pathStart_h40 := Fa_pathStart_h35.other W41 (Or.inr (slot_ne (a0 := a0) (Or.inr (hw _ (List.mem_of_getElem? (i := 94) rfl))) (Or.inr (hw _ (List.mem_of_getElem? (i := 98) rfl))) (by decide) (t := FieldType.int) (by decide) (t' := FieldType.int) (by decide)))
  have Fa_hostKind_h40 := Fa_hostKind_h35.other W41 (Or.inr (slot_ne (a0 := a0) (Or.inr (hw _ (List.mem_of_getElem? (i := 92) rfl))) (Or.inr (hw _ (List.mem_of_getElem? (i := 98) rfl))) (by decide) (t := (FieldType.object "com/example/riden/riden/model/HostKind")) (by decide) (t' := FieldType.int) (by decide)))
  have Fa_hostEnd_h40 := Fa_hostEnd_h35.other W41 (Or.inr (slot_ne (a0 := a0) (Or.inr (hw _ (List.mem_of_getElem? (i := 90) rfl))) (Or.inr (hw _ (List.mem_of_getElem? (i := 98) rfl))) (by decide) (t := FieldType.int) (by decide) (t' := FieldType.int) (by decide)))
  have Fa_hostStart_h40 := Fa_hostStart_h35.other W41 (Or.inr (slot_ne (a0 := a0) (Or.inr (hw _ (List.mem_of_getElem? (i := 88) rfl))) (Or.inr (hw _ (List.mem_of_getElem? (i := 98) rfl))) (by decide) (t := FieldType.int) (by decide) (t' := FieldType.int) (by decide)))
  have Fa_schemeEnd_h40 := Fa_schemeEnd_h35.other W41 (Or.inr (slot_ne (a0 := a0) (Or.inr (hw _ (List.mem_of_getElem? (i := 86) rfl))) (Or.inr (hw _ (List.mem_of_getElem? (i := 98) rfl))) (by decide) (t := FieldType.int) (by decide) (t' := FieldType.int) (by decide)))
  have Fa_text_h40 := Fa_text_h35.other W41 (Or.inr (slot_ne (a0 := a0) (Or.inr (hw _ (List.mem_of_getElem? (i := 84) rfl))) (Or.inr (hw _ (List.mem_of_getElem? (i := 98) rfl))) (by decide) (t := (FieldType.object "java/lang/String")) (by decide) (t' := FieldType.int) (by decide)))
  have K42 := K37.wr W41 (Or.inl (List.mem_of_getElem? (i := 0) rfl))
  show OEnds p e below _ T38 (mkF m 49 #[.val (.ref a), .val (.ref s1), .val (.int f1), .val (.int f2), .val (.int f3), .val (hv), .val (.int f4), .val (.int f5), .val (.int f6)] [])
  exact X39.ret0 hE hlk  hret (hb hby d_prog_11_method_1_49) (by decide) (by decide) ⟨rfl, K42, Aa_h40, Fa_text_h40, Fa_schemeEnd_h40, Fa_hostStart_h40, Fa_hostEnd_h40, Fa_hostKind_h40, Fa_pathStart_h40, Fa_pathEnd_h40, Fa_queryEnd_h40⟩
theorem con_q0 {l : Launch} {Z : State} {a0 : Array Value} {cz : Int32} {fm : Value} (H : Ctx Z a0 cz fm) (a : Addr) (u v : Int32) (hc : v = u) (h0 : Heap) (F_pathEnd : Fld Z h0 a "com/example/riden/riden/parse/Components" "pathEnd" "I" (.int u)) (F_queryEnd : Fld Z h0 a "com/example/riden/riden/parse/Components" "queryEnd" "I" (.int v)) :
    ConX l Z consts_1 (⟨"com/example/riden/riden/parse/Components", "query", "()Ljava/lang/String;"⟩ : MethodName) prog_11_method_12_code 1 (some (FieldType.object "java/lang/String")) [] ({ frames := 0, cells := 0, slots := 0, locals := 0 } : Room) #[(.ref a)] h0 (fun r h => r = some .null ∧ h0 = h) := by
  obtain ⟨hw, hE, S0, hcz, S1, rf⟩ := id H
  refine ConX.of own_pf14 ?_
  intro p e s m below meth c T hby hml hret hlk hnm X0
  have EX0 := ext_refl h0
  refine OEnds.cast (own_ef4 m a ) ?_
  show OEnds p e below _ T (mkF m 0 #[.val (.ref a)] [])
  refine OEnds.go (fun _ q => XS.aloadN X0.here X0.hx rfl (hb hby d_prog_11_method_12_0) rfl rfl q) ?_
  show OEnds p e below _ T (mkF m 1 #[.val (.ref a)] [(.ref a)])
  refine X0.getF (hw _ (List.mem_of_getElem? (i := 97) rfl)) Via.refl F_queryEnd (hb hby d_prog_11_method_12_1) ?_
  intro T1 X2
  show OEnds p e below _ T1 (mkF m 4 #[.val (.ref a)] [(.int v)])
  refine OEnds.go (fun _ q => XS.aloadN X2.here X2.hx rfl (hb hby d_prog_11_method_12_4) rfl rfl q) ?_
  show OEnds p e below _ T1 (mkF m 5 #[.val (.ref a)] [(.ref a), (.int v)])
  refine X2.getF (hw _ (List.mem_of_getElem? (i := 95) rfl)) Via.refl F_pathEnd (hb hby d_prog_11_method_12_5) ?_
  intro T3 X4
  show OEnds p e below _ T3 (mkF m 8 #[.val (.ref a)] [(.int u), (.int v)])
  refine OEnds.go (fun _ q => XS.icmpNo X4.here X4.hx rfl (hb hby d_prog_11_method_12_8) rfl (teq hc).2 q) ?_
  show OEnds p e below _ T3 (mkF m 11 #[.val (.ref a)] [])
  refine OEnds.go (fun _ q => XS.aconstNull X4.here X4.hx rfl (hb hby d_prog_11_method_12_11) q) ?_
  show OEnds p e below _ T3 (mkF m 12 #[.val (.ref a)] [(.null)])
  refine OEnds.go (fun _ q => XS.goto X4.here X4.hx rfl (pc0 := 12) (pc' := 32) rfl (hb hby d_prog_11_method_12_12) (by decide) (by decide) q) ?_
  show OEnds p e below _ T3 (mkF m 32 #[.val (.ref a)] [(.null)])
  exact X4.retRef hE hlk rfl (t := (FieldType.object "java/lang/String")) rfl hret (hb hby d_prog_11_method_12_32) (by decide) (by decide) ⟨rfl, rfl⟩
theorem con_q1 {l : Launch} {Z : State} {a0 : Array Value} {cz : Int32} {fm : Value} (H : Ctx Z a0 cz fm) (a b : Addr) (cs : List Int32) (E P : Nat) (hEP : E + 1 ≤ P) (hP : P ≤ cs.length) (hN : cs.length ≤ 16) (h0 : Heap) (F_pathEnd : Fld Z h0 a "com/example/riden/riden/parse/Components" "pathEnd" "I" (.int (Int32.ofNat E))) (F_queryEnd : Fld Z h0 a "com/example/riden/riden/parse/Components" "queryEnd" "I" (.int (Int32.ofNat P))) (F_text : Fld Z h0 a "com/example/riden/riden/parse/Components" "text" "Ljava/lang/String;" (.ref b)) (Sb : OStr Z h0 b cs) :
    ConX l Z consts_1 (⟨"com/example/riden/riden/parse/Components", "query", "()Ljava/lang/String;"⟩ : MethodName) prog_11_method_12_code 1 (some (FieldType.object "java/lang/String")) [] ({ frames := 5, cells := 2, slots := 20, locals := 122 } : Room) #[(.ref a)] h0 (fun r h => ∃ y : Addr, r = some (.ref y) ∧ Ext h0 h ∧ OStr Z h y ((cs.drop (E + 1)).take (P - (E + 1)))) := by
  obtain ⟨hw, hE, S0, hcz, S1, rf⟩ := id H
  refine ConX.of own_pf14 ?_
  intro p e s m below meth c T hby hml hret hlk hnm X0
  have EX0 := ext_refl h0
  refine OEnds.cast (own_ef4 m a ) ?_
  show OEnds p e below _ T (mkF m 0 #[.val (.ref a)] [])
  refine OEnds.go (fun _ q => XS.aloadN X0.here X0.hx rfl (hb hby d_prog_11_method_12_0) rfl rfl q) ?_
  show OEnds p e below _ T (mkF m 1 #[.val (.ref a)] [(.ref a)])
  refine X0.getF (hw _ (List.mem_of_getElem? (i := 97) rfl)) Via.refl F_queryEnd (hb hby d_prog_11_method_12_1) ?_
  intro T1 X2
  show OEnds p e below _ T1 (mkF m 4 #[.val (.ref a)] [(.int (Int32.ofNat P))])
  refine OEnds.go (fun _ q => XS.aloadN X2.here X2.hx rfl (hb hby d_prog_11_method_12_4) rfl rfl q) ?_
  show OEnds p e below _ T1 (mkF m 5 #[.val (.ref a)] [(.ref a), (.int (Int32.ofNat P))])
  refine X2.getF (hw _ (List.mem_of_getElem? (i := 95) rfl)) Via.refl F_pathEnd (hb hby d_prog_11_method_12_5) ?_
  intro T3 X4
  show OEnds p e below _ T3 (mkF m 8 #[.val (.ref a)] [(.int (Int32.ofNat E)), (.int (Int32.ofNat P))])
  refine OEnds.go (fun _ q => XS.icmpYes X4.here X4.hx rfl (pc0 := 8) (pc' := 15) rfl (hb hby d_prog_11_method_12_8) rfl (feq (fun q => absurd ((ofN_eq (by omega) (by omega)).mp q) (by omega))).2 (by decide) (by decide) q) ?_
  show OEnds p e below _ T3 (mkF m 15 #[.val (.ref a)] [])
  refine OEnds.go (fun _ q => XS.aloadN X4.here X4.hx rfl (hb hby d_prog_11_method_12_15) rfl rfl q) ?_
  show OEnds p e below _ T3 (mkF m 16 #[.val (.ref a)] [(.ref a)])
  refine X4.getF (hw _ (List.mem_of_getElem? (i := 83) rfl)) Via.refl F_text (hb hby d_prog_11_method_12_16) ?_
  intro T5 X6
  show OEnds p e below _ T5 (mkF m 19 #[.val (.ref a)] [(.ref b)])
  refine OEnds.go (fun _ q => XS.aloadN X6.here X6.hx rfl (hb hby d_prog_11_method_12_19) rfl rfl q) ?_
  show OEnds p e below _ T5 (mkF m 20 #[.val (.ref a)] [(.ref a), (.ref b)])
  refine X6.getF (hw _ (List.mem_of_getElem? (i := 95) rfl)) Via.refl F_pathEnd (hb hby d_prog_11_method_12_20) ?_
  intro T7 X8
  show OEnds p e below _ T7 (mkF m 23 #[.val (.ref a)] [(.int (Int32.ofNat E)), (.ref b)])
  refine OEnds.go (fun _ q => XS.iconst X8.here X8.hx rfl (hb hby d_prog_11_method_12_23) q) ?_
  show OEnds p e below _ T7 (mkF m 24 #[.val (.ref a)] [(.int (1 : Int32)), (.int (Int32.ofNat E)), (.ref b)])
  refine OEnds.go (fun _ q => XS.iadd X8.here X8.hx rfl (hb hby d_prog_11_method_12_24) rfl q) ?_
  show OEnds p e below _ T7 (mkF m 25 #[.val (.ref a)] [(.int ((Int32.ofNat E) + (1 : Int32))), (.ref b)])
  rw [ofN_succ (by omega)]
  show OEnds p e below _ T7 (mkF m 25 #[.val (.ref a)] [(.int (Int32.ofNat (E + 1))), (.ref b)])
  refine OEnds.go (fun _ q => XS.aloadN X8.here X8.hx rfl (hb hby d_prog_11_method_12_25) rfl rfl q) ?_
  show OEnds p e below _ T7 (mkF m 26 #[.val (.ref a)] [(.ref a), (.int (Int32.ofNat (E + 1))), (.ref b)])
  refine X8.getF (hw _ (List.mem_of_getElem? (i := 97) rfl)) Via.refl F_queryEnd (hb hby d_prog_11_method_12_26) ?_
  intro T9 X10
  show OEnds p e below _ T9 (mkF m 29 #[.val (.ref a)] [(.int (Int32.ofNat P)), (.int (Int32.ofNat (E + 1))), (.ref b)])
  refine X10.callV hE (con_sub H b cs (E + 1) P hEP hP hN h0 Sb) (hw _ (List.mem_of_getElem? (i := 104) rfl)) (hw _ (List.mem_of_getElem? (i := 105) rfl)) (hw _ (List.mem_of_getElem? (i := 107) rfl)) (hw _ (List.mem_of_getElem? (i := 106) rfl)) (hw _ (List.mem_of_getElem? (i := 13) rfl)) (hw _ (List.mem_of_getElem? (i := 108) rfl)) (X10.nf (hw _ (List.mem_of_getElem? (i := 107) rfl))) (by decide) (W := 0) (by decide) (by decide) Sb.exa (argsL := [(.int (Int32.ofNat (E + 1))), (.int (Int32.ofNat P))]) (rest := []) rfl (lenOf own_pd10 rfl) rfl (by rw [hml]; rfl) (Nat.le_of_eq rfl) (hb hby d_prog_11_method_12_29) (by decide) (by decide) ?_
  intro v16 vm14 T11 h13 X12 C15 q17
  obtain ⟨y, rfl, Ey, Sy⟩ := q17
  show OEnds p e below _ T11 (mkF m 32 #[.val (.ref a)] [(.ref y)])
  exact X12.retRef hE hlk rfl (t := (FieldType.object "java/lang/String")) rfl hret (hb hby d_prog_11_method_12_32) (by decide) (by decide) ⟨y, rfl, Ey, Sy⟩
theorem con_law {l : Launch} {Z : State} {a0 : Array Value} {cz : Int32} {fm : Value} (H : Ctx Z a0 cz fm) (x0 x1 x2 : Int32) (h0 : Heap)  :
    ConX l Z consts_1 x code maxLocals ret tables_1 room_1 #[(.int x0), (.int x1), (.int x2)] h0 (fun r h => r = some (.int 1)) := by
  obtain ⟨hw, hE, S0, hcz, S1, rf⟩ := id H
  refine ConX.of own_pf15 ?_
  intro p e s m below meth c T hby hml hret hlk hnm X0
  have EX0 := ext_refl h0
  refine OEnds.cast (own_ef11 m x0 x1 x2 ) ?_
  show OEnds p e below _ T (mkF m 0 #[.val (.int x0), .val (.int x1), .val (.int x2), .unset, .unset, .unset, .unset, .unset, .unset, .unset, .unset, .unset, .unset, .unset, .unset] [])
  refine OEnds.go (fun _ q => XS.iloadN X0.here X0.hx rfl (hb hby at_0) rfl q) ?_
  show OEnds p e below _ T (mkF m 1 #[.val (.int x0), .val (.int x1), .val (.int x2), .unset, .unset, .unset, .unset, .unset, .unset, .unset, .unset, .unset, .unset, .unset, .unset] [(.int x2)])
  refine OEnds.go (fun _ q => XS.iconst X0.here X0.hx rfl (hb hby at_1) q) ?_
  show OEnds p e below _ T (mkF m 2 #[.val (.int x0), .val (.int x1), .val (.int x2), .unset, .unset, .unset, .unset, .unset, .unset, .unset, .unset, .unset, .unset, .unset, .unset] [(.int (1 : Int32)), (.int x2)])
  refine OEnds.go (fun _ q => XS.iand X0.here X0.hx rfl (hb hby at_2) rfl q) ?_
  show OEnds p e below _ T (mkF m 3 #[.val (.int x0), .val (.int x1), .val (.int x2), .unset, .unset, .unset, .unset, .unset, .unset, .unset, .unset, .unset, .unset, .unset, .unset] [(.int (x2 &&& (1 : Int32)))])
  have J1 : ∀ (ps : Int32), (ps = 0 ∨ ps = 2) → OEnds p e below (GW Z consts_1 s (fun r h => r = some (.int 1)) room_1.cells room_1.slots) T (mkF m 11 #[.val (.int x0), .val (.int x1), .val (.int x2), .unset, .unset, .unset, .unset, .unset, .unset, .unset, .unset, .unset, .unset, .unset, .unset] [(.int ps)]) := by
    intro ps hps
    refine OEnds.go (fun _ q => XS.istoreN X0.here X0.hx rfl (hb hby at_11) rfl (l' := #[.val (.int x0), .val (.int x1), .val (.int x2), .val (.int ps), .unset, .unset, .unset, .unset, .unset, .unset, .unset, .unset, .unset, .unset, .unset]) rfl q) ?_
    show OEnds p e below _ T (mkF m 12 #[.val (.int x0), .val (.int x1), .val (.int x2), .val (.int ps), .unset, .unset, .unset, .unset, .unset, .unset, .unset, .unset, .unset, .unset, .unset] [])
    refine OEnds.go (fun _ q => XS.iloadN X0.here X0.hx rfl (hb hby at_12) rfl q) ?_
    show OEnds p e below _ T (mkF m 13 #[.val (.int x0), .val (.int x1), .val (.int x2), .val (.int ps), .unset, .unset, .unset, .unset, .unset, .unset, .unset, .unset, .unset, .unset, .unset] [(.int x2)])
    refine OEnds.go (fun _ q => XS.iconst X0.here X0.hx rfl (hb hby at_13) q) ?_
    show OEnds p e below _ T (mkF m 14 #[.val (.int x0), .val (.int x1), .val (.int x2), .val (.int ps), .unset, .unset, .unset, .unset, .unset, .unset, .unset, .unset, .unset, .unset, .unset] [(.int (2 : Int32)), (.int x2)])
    refine OEnds.go (fun _ q => XS.iand X0.here X0.hx rfl (hb hby at_14) rfl q) ?_
    show OEnds p e below _ T (mkF m 15 #[.val (.int x0), .val (.int x1), .val (.int x2), .val (.int ps), .unset, .unset, .unset, .unset, .unset, .unset, .unset, .unset, .unset, .unset, .unset] [(.int (x2 &&& (2 : Int32)))])
    have J2 : ∀ (hq : Int32), (hq = 0 ∨ hq = 1) → OEnds p e below (GW Z consts_1 s (fun r h => r = some (.int 1)) room_1.cells room_1.slots) T (mkF m 23 #[.val (.int x0), .val (.int x1), .val (.int x2), .val (.int ps), .unset, .unset, .unset, .unset, .unset, .unset, .unset, .unset, .unset, .unset, .unset] [(.int hq)]) := by
      intro hq hhq
      refine OEnds.go (fun _ q => XS.istore X0.here X0.hx rfl (hb hby at_23) rfl (l' := #[.val (.int x0), .val (.int x1), .val (.int x2), .val (.int ps), .val (.int hq), .unset, .unset, .unset, .unset, .unset, .unset, .unset, .unset, .unset, .unset]) rfl q) ?_
      show OEnds p e below _ T (mkF m 25 #[.val (.int x0), .val (.int x1), .val (.int x2), .val (.int ps), .val (.int hq), .unset, .unset, .unset, .unset, .unset, .unset, .unset, .unset, .unset, .unset] [])
      refine OEnds.go (fun _ q => XS.iloadN X0.here X0.hx rfl (hb hby at_25) rfl q) ?_
      show OEnds p e below _ T (mkF m 26 #[.val (.int x0), .val (.int x1), .val (.int x2), .val (.int ps), .val (.int hq), .unset, .unset, .unset, .unset, .unset, .unset, .unset, .unset, .unset, .unset] [(.int x2)])
      refine OEnds.go (fun _ q => XS.iconst X0.here X0.hx rfl (hb hby at_26) q) ?_
      show OEnds p e below _ T (mkF m 27 #[.val (.int x0), .val (.int x1), .val (.int x2), .val (.int ps), .val (.int hq), .unset, .unset, .unset, .unset, .unset, .unset, .unset, .unset, .unset, .unset] [(.int (4 : Int32)), (.int x2)])
      refine OEnds.go (fun _ q => XS.iand X0.here X0.hx rfl (hb hby at_27) rfl q) ?_
      show OEnds p e below _ T (mkF m 28 #[.val (.int x0), .val (.int x1), .val (.int x2), .val (.int ps), .val (.int hq), .unset, .unset, .unset, .unset, .unset, .unset, .unset, .unset, .unset, .unset] [(.int (x2 &&& (4 : Int32)))])
      have J3 : ∀ (pt : Int32), (pt = 0 ∨ pt = 1) → OEnds p e below (GW Z consts_1 s (fun r h => r = some (.int 1)) room_1.cells room_1.slots) T (mkF m 36 #[.val (.int x0), .val (.int x1), .val (.int x2), .val (.int ps), .val (.int hq), .unset, .unset, .unset, .unset, .unset, .unset, .unset, .unset, .unset, .unset] [(.int pt)]) := by
        intro pt hpt
        refine OEnds.go (fun _ q => XS.istore X0.here X0.hx rfl (hb hby at_36) rfl (l' := #[.val (.int x0), .val (.int x1), .val (.int x2), .val (.int ps), .val (.int hq), .val (.int pt), .unset, .unset, .unset, .unset, .unset, .unset, .unset, .unset, .unset]) rfl q) ?_
        show OEnds p e below _ T (mkF m 38 #[.val (.int x0), .val (.int x1), .val (.int x2), .val (.int ps), .val (.int hq), .val (.int pt), .unset, .unset, .unset, .unset, .unset, .unset, .unset, .unset, .unset] [])
        refine OEnds.go (fun _ q => XS.iloadN X0.here X0.hx rfl (hb hby at_38) rfl q) ?_
        show OEnds p e below _ T (mkF m 39 #[.val (.int x0), .val (.int x1), .val (.int x2), .val (.int ps), .val (.int hq), .val (.int pt), .unset, .unset, .unset, .unset, .unset, .unset, .unset, .unset, .unset] [(.int x2)])
        refine OEnds.go (fun _ q => XS.iconst X0.here X0.hx rfl (hb hby at_39) q) ?_
        show OEnds p e below _ T (mkF m 40 #[.val (.int x0), .val (.int x1), .val (.int x2), .val (.int ps), .val (.int hq), .val (.int pt), .unset, .unset, .unset, .unset, .unset, .unset, .unset, .unset, .unset] [(.int (3 : Int32)), (.int x2)])
        refine OEnds.go (fun _ q => XS.iushr X0.here X0.hx rfl (hb hby at_40) rfl q) ?_
        show OEnds p e below _ T (mkF m 41 #[.val (.int x0), .val (.int x1), .val (.int x2), .val (.int ps), .val (.int hq), .val (.int pt), .unset, .unset, .unset, .unset, .unset, .unset, .unset, .unset, .unset] [(.int (x2.toUInt32 >>> ((3 : Int32) &&& 31).toUInt32).toInt32)])
        refine OEnds.go (fun _ q => XS.iconst X0.here X0.hx rfl (hb hby at_41) q) ?_
        show OEnds p e below _ T (mkF m 42 #[.val (.int x0), .val (.int x1), .val (.int x2), .val (.int ps), .val (.int hq), .val (.int pt), .unset, .unset, .unset, .unset, .unset, .unset, .unset, .unset, .unset] [(.int (3 : Int32)), (.int (x2.toUInt32 >>> ((3 : Int32) &&& 31).toUInt32).toInt32)])
        refine OEnds.go (fun _ q => XS.iand X0.here X0.hx rfl (hb hby at_42) rfl q) ?_
        show OEnds p e below _ T (mkF m 43 #[.val (.int x0), .val (.int x1), .val (.int x2), .val (.int ps), .val (.int hq), .val (.int pt), .unset, .unset, .unset, .unset, .unset, .unset, .unset, .unset, .unset] [(.int ((x2.toUInt32 >>> ((3 : Int32) &&& 31).toUInt32).toInt32 &&& (3 : Int32)))])
        obtain ⟨pl, hpl⟩ : ∃ z : Int32, z = ((x2.toUInt32 >>> ((3 : Int32) &&& 31).toUInt32).toInt32 &&& (3 : Int32)) := ⟨_, rfl⟩
        rw [← hpl]
        show OEnds p e below _ T (mkF m 43 #[.val (.int x0), .val (.int x1), .val (.int x2), .val (.int ps), .val (.int hq), .val (.int pt), .unset, .unset, .unset, .unset, .unset, .unset, .unset, .unset, .unset] [(.int pl)])
        have hpl2 := own_maskN (K := 3) hpl rfl
        refine OEnds.go (fun _ q => XS.istore X0.here X0.hx rfl (hb hby at_43) rfl (l' := #[.val (.int x0), .val (.int x1), .val (.int x2), .val (.int ps), .val (.int hq), .val (.int pt), .val (.int pl), .unset, .unset, .unset, .unset, .unset, .unset, .unset, .unset]) rfl q) ?_
        show OEnds p e below _ T (mkF m 45 #[.val (.int x0), .val (.int x1), .val (.int x2), .val (.int ps), .val (.int hq), .val (.int pt), .val (.int pl), .unset, .unset, .unset, .unset, .unset, .unset, .unset, .unset] [])
        refine OEnds.go (fun _ q => XS.iloadN X0.here X0.hx rfl (hb hby at_45) rfl q) ?_
        show OEnds p e below _ T (mkF m 46 #[.val (.int x0), .val (.int x1), .val (.int x2), .val (.int ps), .val (.int hq), .val (.int pt), .val (.int pl), .unset, .unset, .unset, .unset, .unset, .unset, .unset, .unset] [(.int x2)])
        refine OEnds.go (fun _ q => XS.iconst X0.here X0.hx rfl (hb hby at_46) q) ?_
        show OEnds p e below _ T (mkF m 47 #[.val (.int x0), .val (.int x1), .val (.int x2), .val (.int ps), .val (.int hq), .val (.int pt), .val (.int pl), .unset, .unset, .unset, .unset, .unset, .unset, .unset, .unset] [(.int (5 : Int32)), (.int x2)])
        refine OEnds.go (fun _ q => XS.iushr X0.here X0.hx rfl (hb hby at_47) rfl q) ?_
        show OEnds p e below _ T (mkF m 48 #[.val (.int x0), .val (.int x1), .val (.int x2), .val (.int ps), .val (.int hq), .val (.int pt), .val (.int pl), .unset, .unset, .unset, .unset, .unset, .unset, .unset, .unset] [(.int (x2.toUInt32 >>> ((5 : Int32) &&& 31).toUInt32).toInt32)])
        refine OEnds.go (fun _ q => XS.bipush X0.here X0.hx rfl (hb hby at_48) q) ?_
        show OEnds p e below _ T (mkF m 50 #[.val (.int x0), .val (.int x1), .val (.int x2), .val (.int ps), .val (.int hq), .val (.int pt), .val (.int pl), .unset, .unset, .unset, .unset, .unset, .unset, .unset, .unset] [(.int (7 : Int32)), (.int (x2.toUInt32 >>> ((5 : Int32) &&& 31).toUInt32).toInt32)])
        refine OEnds.go (fun _ q => XS.iand X0.here X0.hx rfl (hb hby at_50) rfl q) ?_
        show OEnds p e below _ T (mkF m 51 #[.val (.int x0), .val (.int x1), .val (.int x2), .val (.int ps), .val (.int hq), .val (.int pt), .val (.int pl), .unset, .unset, .unset, .unset, .unset, .unset, .unset, .unset] [(.int ((x2.toUInt32 >>> ((5 : Int32) &&& 31).toUInt32).toInt32 &&& (7 : Int32)))])
        obtain ⟨ql, hql⟩ : ∃ z : Int32, z = ((x2.toUInt32 >>> ((5 : Int32) &&& 31).toUInt32).toInt32 &&& (7 : Int32)) := ⟨_, rfl⟩
        rw [← hql]
        show OEnds p e below _ T (mkF m 51 #[.val (.int x0), .val (.int x1), .val (.int x2), .val (.int ps), .val (.int hq), .val (.int pt), .val (.int pl), .unset, .unset, .unset, .unset, .unset, .unset, .unset, .unset] [(.int ql)])
        have hql2 := own_maskN (K := 7) hql rfl
        refine OEnds.go (fun _ q => XS.istore X0.here X0.hx rfl (hb hby at_51) rfl (l' := #[.val (.int x0), .val (.int x1), .val (.int x2), .val (.int ps), .val (.int hq), .val (.int pt), .val (.int pl), .val (.int ql), .unset, .unset, .unset, .unset, .unset, .unset, .unset]) rfl q) ?_
        show OEnds p e below _ T (mkF m 53 #[.val (.int x0), .val (.int x1), .val (.int x2), .val (.int ps), .val (.int hq), .val (.int pt), .val (.int pl), .val (.int ql), .unset, .unset, .unset, .unset, .unset, .unset, .unset] [])
        refine OEnds.go (fun _ q => XS.iload X0.here X0.hx rfl (hb hby at_53) rfl q) ?_
        show OEnds p e below _ T (mkF m 55 #[.val (.int x0), .val (.int x1), .val (.int x2), .val (.int ps), .val (.int hq), .val (.int pt), .val (.int pl), .val (.int ql), .unset, .unset, .unset, .unset, .unset, .unset, .unset] [(.int hq)])
        have J4 : ∀ (pe : Int32), (hq = 0 ∨ ∃ PE : Nat, pe = Int32.ofNat PE ∧ PE ≤ 5) → OEnds p e below (GW Z consts_1 s (fun r h => r = some (.int 1)) room_1.cells room_1.slots) T (mkF m 72 #[.val (.int x0), .val (.int x1), .val (.int x2), .val (.int ps), .val (.int hq), .val (.int pt), .val (.int pl), .val (.int ql), .unset, .unset, .unset, .unset, .unset, .unset, .unset] [(.int pe)]) := by
          intro pe hpe
          refine OEnds.go (fun _ q => XS.istore X0.here X0.hx rfl (hb hby at_72) rfl (l' := #[.val (.int x0), .val (.int x1), .val (.int x2), .val (.int ps), .val (.int hq), .val (.int pt), .val (.int pl), .val (.int ql), .val (.int pe), .unset, .unset, .unset, .unset, .unset, .unset]) rfl q) ?_
          show OEnds p e below _ T (mkF m 74 #[.val (.int x0), .val (.int x1), .val (.int x2), .val (.int ps), .val (.int hq), .val (.int pt), .val (.int pl), .val (.int ql), .val (.int pe), .unset, .unset, .unset, .unset, .unset, .unset] [])
          refine OEnds.go (fun _ q => XS.iload X0.here X0.hx rfl (hb hby at_74) rfl q) ?_
          show OEnds p e below _ T (mkF m 76 #[.val (.int x0), .val (.int x1), .val (.int x2), .val (.int ps), .val (.int hq), .val (.int pt), .val (.int pl), .val (.int ql), .val (.int pe), .unset, .unset, .unset, .unset, .unset, .unset] [(.int hq)])
          have J5 : ∀ (vmj2 : Vm) (Tj2 : State) (hj2 : Heap) (qe : Int32), OSt p l e room_1 s m #[(.int x0), (.int x1), (.int x2)] below meth c "com/example/riden/riden/parse/ComponentsQueryPinLaw" Z consts_1 vmj2 Tj2 hj2 0 0 → own_E hq pe qe → OEnds p e below (GW Z consts_1 s (fun r h => r = some (.int 1)) room_1.cells room_1.slots) Tj2 (mkF m 96 #[.val (.int x0), .val (.int x1), .val (.int x2), .val (.int ps), .val (.int hq), .val (.int pt), .val (.int pl), .val (.int ql), .val (.int pe), .unset, .unset, .unset, .unset, .unset, .unset] [(.int qe)]) := by
            intro vmj2 Tj2 hj2 qe Xj2 hqe
            refine OEnds.go (fun _ q => XS.istore Xj2.here Xj2.hx rfl (hb hby at_96) rfl (l' := #[.val (.int x0), .val (.int x1), .val (.int x2), .val (.int ps), .val (.int hq), .val (.int pt), .val (.int pl), .val (.int ql), .val (.int pe), .val (.int qe), .unset, .unset, .unset, .unset, .unset]) rfl q) ?_
            show OEnds p e below _ Tj2 (mkF m 98 #[.val (.int x0), .val (.int x1), .val (.int x2), .val (.int ps), .val (.int hq), .val (.int pt), .val (.int pl), .val (.int ql), .val (.int pe), .val (.int qe), .unset, .unset, .unset, .unset, .unset] [])
            refine OEnds.go (fun _ q => XS.bipush Xj2.here Xj2.hx rfl (hb hby at_98) q) ?_
            show OEnds p e below _ Tj2 (mkF m 100 #[.val (.int x0), .val (.int x1), .val (.int x2), .val (.int ps), .val (.int hq), .val (.int pt), .val (.int pl), .val (.int ql), .val (.int pe), .val (.int qe), .unset, .unset, .unset, .unset, .unset] [(.int (8 : Int32))])
            refine Xj2.newP (hw _ (List.mem_of_getElem? (i := 4) rfl)) (hb hby at_100) (by decide) (cap := 8) (by decide) (by decide) (by decide) (by decide) ?_
            intro T3 h5 a7 ka7 ga7 X4 E6 Ka7
            have gza7 : Z.heap.size ≤ a7 := ga7 ▸ Xj2.old.1
            have Ka7_0 : Arv Z h5 a7 ka7 .char (8 : Int32) [.int (0 : Int32), .int (0 : Int32), .int (0 : Int32), .int (0 : Int32), .int (0 : Int32), .int (0 : Int32), .int (0 : Int32), .int (0 : Int32)] (.int (0 : Int32)) := Ka7.pad (pad_rep [] (.int (0 : Int32)) 8)
            show OEnds p e below _ T3 (mkF m 102 #[.val (.int x0), .val (.int x1), .val (.int x2), .val (.int ps), .val (.int hq), .val (.int pt), .val (.int pl), .val (.int ql), .val (.int pe), .val (.int qe), .unset, .unset, .unset, .unset, .unset] [(.ref a7)])
            refine OEnds.go (fun _ q => XS.astore X4.here X4.hx rfl (hb hby at_102) rfl rfl (l' := #[.val (.int x0), .val (.int x1), .val (.int x2), .val (.int ps), .val (.int hq), .val (.int pt), .val (.int pl), .val (.int ql), .val (.int pe), .val (.int qe), .val (.ref a7), .unset, .unset, .unset, .unset]) rfl q) ?_
            show OEnds p e below _ T3 (mkF m 104 #[.val (.int x0), .val (.int x1), .val (.int x2), .val (.int ps), .val (.int hq), .val (.int pt), .val (.int pl), .val (.int ql), .val (.int pe), .val (.int qe), .val (.ref a7), .unset, .unset, .unset, .unset] [])
            refine OEnds.go (fun _ q => XS.aload X4.here X4.hx rfl (hb hby at_104) rfl rfl q) ?_
            show OEnds p e below _ T3 (mkF m 106 #[.val (.int x0), .val (.int x1), .val (.int x2), .val (.int ps), .val (.int hq), .val (.int pt), .val (.int pl), .val (.int ql), .val (.int pe), .val (.int qe), .val (.ref a7), .unset, .unset, .unset, .unset] [(.ref a7)])
            refine OEnds.go (fun _ q => XS.iconst X4.here X4.hx rfl (hb hby at_106) q) ?_
            show OEnds p e below _ T3 (mkF m 107 #[.val (.int x0), .val (.int x1), .val (.int x2), .val (.int ps), .val (.int hq), .val (.int pt), .val (.int pl), .val (.int ql), .val (.int pe), .val (.int qe), .val (.ref a7), .unset, .unset, .unset, .unset] [(.int (0 : Int32)), (.ref a7)])
            refine OEnds.go (fun _ q => XS.iconst X4.here X4.hx rfl (hb hby at_107) q) ?_
            show OEnds p e below _ T3 (mkF m 108 #[.val (.int x0), .val (.int x1), .val (.int x2), .val (.int ps), .val (.int hq), .val (.int pt), .val (.int pl), .val (.int ql), .val (.int pe), .val (.int qe), .val (.ref a7), .unset, .unset, .unset, .unset] [(.int (0 : Int32)), (.int (0 : Int32)), (.ref a7)])
            refine OEnds.go (fun _ q => XS.iloadN X4.here X4.hx rfl (hb hby at_108) rfl q) ?_
            show OEnds p e below _ T3 (mkF m 109 #[.val (.int x0), .val (.int x1), .val (.int x2), .val (.int ps), .val (.int hq), .val (.int pt), .val (.int pl), .val (.int ql), .val (.int pe), .val (.int qe), .val (.ref a7), .unset, .unset, .unset, .unset] [(.int ps), (.int (0 : Int32)), (.int (0 : Int32)), (.ref a7)])
            refine OEnds.go (fun _ q => XS.iload X4.here X4.hx rfl (hb hby at_109) rfl q) ?_
            show OEnds p e below _ T3 (mkF m 111 #[.val (.int x0), .val (.int x1), .val (.int x2), .val (.int ps), .val (.int hq), .val (.int pt), .val (.int pl), .val (.int ql), .val (.int pe), .val (.int qe), .val (.ref a7), .unset, .unset, .unset, .unset] [(.int pe), (.int ps), (.int (0 : Int32)), (.int (0 : Int32)), (.ref a7)])
            refine OEnds.go (fun _ q => XS.iload X4.here X4.hx rfl (hb hby at_111) rfl q) ?_
            show OEnds p e below _ T3 (mkF m 113 #[.val (.int x0), .val (.int x1), .val (.int x2), .val (.int ps), .val (.int hq), .val (.int pt), .val (.int pl), .val (.int ql), .val (.int pe), .val (.int qe), .val (.ref a7), .unset, .unset, .unset, .unset] [(.int qe), (.int pe), (.int ps), (.int (0 : Int32)), (.int (0 : Int32)), (.ref a7)])
            refine OEnds.go (fun _ q => XS.iload X4.here X4.hx rfl (hb hby at_113) rfl q) ?_
            show OEnds p e below _ T3 (mkF m 115 #[.val (.int x0), .val (.int x1), .val (.int x2), .val (.int ps), .val (.int hq), .val (.int pt), .val (.int pl), .val (.int ql), .val (.int pe), .val (.int qe), .val (.ref a7), .unset, .unset, .unset, .unset] [(.int hq), (.int qe), (.int pe), (.int ps), (.int (0 : Int32)), (.int (0 : Int32)), (.ref a7)])
            refine OEnds.go (fun _ q => XS.iloadN X4.here X4.hx rfl (hb hby at_115) rfl q) ?_
            show OEnds p e below _ T3 (mkF m 116 #[.val (.int x0), .val (.int x1), .val (.int x2), .val (.int ps), .val (.int hq), .val (.int pt), .val (.int pl), .val (.int ql), .val (.int pe), .val (.int qe), .val (.ref a7), .unset, .unset, .unset, .unset] [(.int x0), (.int hq), (.int qe), (.int pe), (.int ps), (.int (0 : Int32)), (.int (0 : Int32)), (.ref a7)])
            refine OEnds.go (fun _ q => XS.iloadN X4.here X4.hx rfl (hb hby at_116) rfl q) ?_
            show OEnds p e below _ T3 (mkF m 117 #[.val (.int x0), .val (.int x1), .val (.int x2), .val (.int ps), .val (.int hq), .val (.int pt), .val (.int pl), .val (.int ql), .val (.int pe), .val (.int qe), .val (.ref a7), .unset, .unset, .unset, .unset] [(.int x1), (.int x0), (.int hq), (.int qe), (.int pe), (.int ps), (.int (0 : Int32)), (.int (0 : Int32)), (.ref a7)])
            refine OEnds.go (fun _ q => XS.iconst X4.here X4.hx rfl (hb hby at_117) q) ?_
            show OEnds p e below _ T3 (mkF m 118 #[.val (.int x0), .val (.int x1), .val (.int x2), .val (.int ps), .val (.int hq), .val (.int pt), .val (.int pl), .val (.int ql), .val (.int pe), .val (.int qe), .val (.ref a7), .unset, .unset, .unset, .unset] [(.int (0 : Int32)), (.int x1), (.int x0), (.int hq), (.int qe), (.int pe), (.int ps), (.int (0 : Int32)), (.int (0 : Int32)), (.ref a7)])
            refine X4.payS (ConN.back (W := 7) (con_raw H x0 x1 (0 : Int32) h5) X4.old X4.hZ  (hw _ (List.mem_of_getElem? (i := 8) rfl)) (hw _ (List.mem_of_getElem? (i := 7) rfl)) (by decide) (by decide)) (okV X4) (hw _ (List.mem_of_getElem? (i := 5) rfl)) (hw _ (List.mem_of_getElem? (i := 6) rfl)) (hw _ (List.mem_of_getElem? (i := 7) rfl)) (hw _ (List.mem_of_getElem? (i := 8) rfl)) (by decide) (argsL := [(.int x0), (.int x1), (.int (0 : Int32))]) (rest := [(.int hq), (.int qe), (.int pe), (.int ps), (.int (0 : Int32)), (.int (0 : Int32)), (.ref a7)]) rfl (lenOf own_pd11 rfl) rfl (by rw [hml]; rfl) (Nat.le_of_eq rfl) (hb hby at_118) (by decide) (by decide) ?_
            intro v8 T9 h10 L11 X12 q13
            obtain ⟨⟨⟨r0, rfl, hr0⟩, rfl⟩, -⟩ := q13
            show OEnds p e below _ T9 (mkF m 121 #[.val (.int x0), .val (.int x1), .val (.int x2), .val (.int ps), .val (.int hq), .val (.int pt), .val (.int pl), .val (.int ql), .val (.int pe), .val (.int qe), .val (.ref a7), .unset, .unset, .unset, .unset] [(.int r0), (.int hq), (.int qe), (.int pe), (.int ps), (.int (0 : Int32)), (.int (0 : Int32)), (.ref a7)])
            refine X12.callSW hE (con_cell0 H (0 : Int32) ps pe qe hq r0 hr0 h5) (hw _ (List.mem_of_getElem? (i := 9) rfl)) (hw _ (List.mem_of_getElem? (i := 10) rfl)) (hw _ (List.mem_of_getElem? (i := 7) rfl)) (hw _ (List.mem_of_getElem? (i := 11) rfl)) (by decide) (W := 2) (by decide) (by decide) (argsL := [(.int (0 : Int32)), (.int ps), (.int pe), (.int qe), (.int hq), (.int r0)]) (rest := [(.int (0 : Int32)), (.ref a7)]) rfl (lenOf own_pd12 rfl) rfl (by rw [hml]; rfl) (Nat.le_of_eq rfl) (hb hby at_121) (by decide) (by decide) ?_
            intro v14 vm15 T16 h17 X18 C19 q20
            obtain ⟨v0, la, rfl, rv0, Ec, Sla, hLV⟩ := q20
            have Ka7_0_h17 := Ka7_0.ext Ec
            have EBa7_h17 := ext_trans E6 Ec
            show OEnds p e below _ T16 (mkF m 124 #[.val (.int x0), .val (.int x1), .val (.int x2), .val (.int ps), .val (.int hq), .val (.int pt), .val (.int pl), .val (.int ql), .val (.int pe), .val (.int qe), .val (.ref a7), .unset, .unset, .unset, .unset] [(.int v0), (.int (0 : Int32)), (.ref a7)])
            refine X18.stC Ka7_0_h17 (by decide) (up255 rv0) (i := 0) rfl (Nat.le_of_ble_eq_true rfl) gza7 (hb hby at_124) ?_
            intro T21 h23 X22 W24 Ka7_h23x
            have Ka7_h23 : Arv Z h23 a7 ka7 .char (8 : Int32) [.int v0, .int (0 : Int32), .int (0 : Int32), .int (0 : Int32), .int (0 : Int32), .int (0 : Int32), .int (0 : Int32), .int (0 : Int32)] (.int (0 : Int32)) := Ka7_h23x
            have EBa7_h23 := ext_wr EBa7_h17 W24 (Nat.le_of_eq ga7)
            have Sla_h23 := Sla.wrC W24 Ka7_0_h17 (hw _ (List.mem_of_getElem? (i := 14) rfl))
            show OEnds p e below _ T21 (mkF m 125 #[.val (.int x0), .val (.int x1), .val (.int x2), .val (.int ps), .val (.int hq), .val (.int pt), .val (.int pl), .val (.int ql), .val (.int pe), .val (.int qe), .val (.ref a7), .unset, .unset, .unset, .unset] [])
            refine OEnds.go (fun _ q => XS.aload X22.here X22.hx rfl (hb hby at_125) rfl rfl q) ?_
            show OEnds p e below _ T21 (mkF m 127 #[.val (.int x0), .val (.int x1), .val (.int x2), .val (.int ps), .val (.int hq), .val (.int pt), .val (.int pl), .val (.int ql), .val (.int pe), .val (.int qe), .val (.ref a7), .unset, .unset, .unset, .unset] [(.ref a7)])
            refine OEnds.go (fun _ q => XS.iconst X22.here X22.hx rfl (hb hby at_127) q) ?_
            show OEnds p e below _ T21 (mkF m 128 #[.val (.int x0), .val (.int x1), .val (.int x2), .val (.int ps), .val (.int hq), .val (.int pt), .val (.int pl), .val (.int ql), .val (.int pe), .val (.int qe), .val (.ref a7), .unset, .unset, .unset, .unset] [(.int (1 : Int32)), (.ref a7)])
            refine OEnds.go (fun _ q => XS.iconst X22.here X22.hx rfl (hb hby at_128) q) ?_
            show OEnds p e below _ T21 (mkF m 129 #[.val (.int x0), .val (.int x1), .val (.int x2), .val (.int ps), .val (.int hq), .val (.int pt), .val (.int pl), .val (.int ql), .val (.int pe), .val (.int qe), .val (.ref a7), .unset, .unset, .unset, .unset] [(.int (1 : Int32)), (.int (1 : Int32)), (.ref a7)])
            refine OEnds.go (fun _ q => XS.iloadN X22.here X22.hx rfl (hb hby at_129) rfl q) ?_
            show OEnds p e below _ T21 (mkF m 130 #[.val (.int x0), .val (.int x1), .val (.int x2), .val (.int ps), .val (.int hq), .val (.int pt), .val (.int pl), .val (.int ql), .val (.int pe), .val (.int qe), .val (.ref a7), .unset, .unset, .unset, .unset] [(.int ps), (.int (1 : Int32)), (.int (1 : Int32)), (.ref a7)])
            refine OEnds.go (fun _ q => XS.iload X22.here X22.hx rfl (hb hby at_130) rfl q) ?_
            show OEnds p e below _ T21 (mkF m 132 #[.val (.int x0), .val (.int x1), .val (.int x2), .val (.int ps), .val (.int hq), .val (.int pt), .val (.int pl), .val (.int ql), .val (.int pe), .val (.int qe), .val (.ref a7), .unset, .unset, .unset, .unset] [(.int pe), (.int ps), (.int (1 : Int32)), (.int (1 : Int32)), (.ref a7)])
            refine OEnds.go (fun _ q => XS.iload X22.here X22.hx rfl (hb hby at_132) rfl q) ?_
            show OEnds p e below _ T21 (mkF m 134 #[.val (.int x0), .val (.int x1), .val (.int x2), .val (.int ps), .val (.int hq), .val (.int pt), .val (.int pl), .val (.int ql), .val (.int pe), .val (.int qe), .val (.ref a7), .unset, .unset, .unset, .unset] [(.int qe), (.int pe), (.int ps), (.int (1 : Int32)), (.int (1 : Int32)), (.ref a7)])
            refine OEnds.go (fun _ q => XS.iload X22.here X22.hx rfl (hb hby at_134) rfl q) ?_
            show OEnds p e below _ T21 (mkF m 136 #[.val (.int x0), .val (.int x1), .val (.int x2), .val (.int ps), .val (.int hq), .val (.int pt), .val (.int pl), .val (.int ql), .val (.int pe), .val (.int qe), .val (.ref a7), .unset, .unset, .unset, .unset] [(.int hq), (.int qe), (.int pe), (.int ps), (.int (1 : Int32)), (.int (1 : Int32)), (.ref a7)])
            refine OEnds.go (fun _ q => XS.iloadN X22.here X22.hx rfl (hb hby at_136) rfl q) ?_
            show OEnds p e below _ T21 (mkF m 137 #[.val (.int x0), .val (.int x1), .val (.int x2), .val (.int ps), .val (.int hq), .val (.int pt), .val (.int pl), .val (.int ql), .val (.int pe), .val (.int qe), .val (.ref a7), .unset, .unset, .unset, .unset] [(.int x0), (.int hq), (.int qe), (.int pe), (.int ps), (.int (1 : Int32)), (.int (1 : Int32)), (.ref a7)])
            refine OEnds.go (fun _ q => XS.iloadN X22.here X22.hx rfl (hb hby at_137) rfl q) ?_
            show OEnds p e below _ T21 (mkF m 138 #[.val (.int x0), .val (.int x1), .val (.int x2), .val (.int ps), .val (.int hq), .val (.int pt), .val (.int pl), .val (.int ql), .val (.int pe), .val (.int qe), .val (.ref a7), .unset, .unset, .unset, .unset] [(.int x1), (.int x0), (.int hq), (.int qe), (.int pe), (.int ps), (.int (1 : Int32)), (.int (1 : Int32)), (.ref a7)])
            refine OEnds.go (fun _ q => XS.iconst X22.here X22.hx rfl (hb hby at_138) q) ?_
            show OEnds p e below _ T21 (mkF m 139 #[.val (.int x0), .val (.int x1), .val (.int x2), .val (.int ps), .val (.int hq), .val (.int pt), .val (.int pl), .val (.int ql), .val (.int pe), .val (.int qe), .val (.ref a7), .unset, .unset, .unset, .unset] [(.int (1 : Int32)), (.int x1), (.int x0), (.int hq), (.int qe), (.int pe), (.int ps), (.int (1 : Int32)), (.int (1 : Int32)), (.ref a7)])
            refine X22.payS (ConN.back (W := 7) (con_raw H x0 x1 (1 : Int32) h23) X22.old X22.hZ  (hw _ (List.mem_of_getElem? (i := 8) rfl)) (hw _ (List.mem_of_getElem? (i := 7) rfl)) (by decide) (by decide)) (okV X22) (hw _ (List.mem_of_getElem? (i := 5) rfl)) (hw _ (List.mem_of_getElem? (i := 6) rfl)) (hw _ (List.mem_of_getElem? (i := 7) rfl)) (hw _ (List.mem_of_getElem? (i := 8) rfl)) (by decide) (argsL := [(.int x0), (.int x1), (.int (1 : Int32))]) (rest := [(.int hq), (.int qe), (.int pe), (.int ps), (.int (1 : Int32)), (.int (1 : Int32)), (.ref a7)]) rfl (lenOf own_pd11 rfl) rfl (by rw [hml]; rfl) (Nat.le_of_eq rfl) (hb hby at_139) (by decide) (by decide) ?_
            intro v25 T26 h27 L28 X29 q30
            obtain ⟨⟨⟨r1, rfl, hr1⟩, rfl⟩, -⟩ := q30
            show OEnds p e below _ T26 (mkF m 142 #[.val (.int x0), .val (.int x1), .val (.int x2), .val (.int ps), .val (.int hq), .val (.int pt), .val (.int pl), .val (.int ql), .val (.int pe), .val (.int qe), .val (.ref a7), .unset, .unset, .unset, .unset] [(.int r1), (.int hq), (.int qe), (.int pe), (.int ps), (.int (1 : Int32)), (.int (1 : Int32)), (.ref a7)])
            refine X29.payS (ConNV.back (W := 2) (con_cell1 H (1 : Int32) ps pe qe hq r1 hr1 la h23 Sla_h23) X29.old X29.hZ (fun vm' hW => hLV.stays hW.wide) (hw _ (List.mem_of_getElem? (i := 11) rfl)) (hw _ (List.mem_of_getElem? (i := 7) rfl)) (by decide) (by decide)) (okV X29) (hw _ (List.mem_of_getElem? (i := 9) rfl)) (hw _ (List.mem_of_getElem? (i := 10) rfl)) (hw _ (List.mem_of_getElem? (i := 7) rfl)) (hw _ (List.mem_of_getElem? (i := 11) rfl)) (by decide) (argsL := [(.int (1 : Int32)), (.int ps), (.int pe), (.int qe), (.int hq), (.int r1)]) (rest := [(.int (1 : Int32)), (.ref a7)]) rfl (lenOf own_pd12 rfl) rfl (by rw [hml]; rfl) (Nat.le_of_eq rfl) (hb hby at_142) (by decide) (by decide) ?_
            intro v31 T32 h33 L34 X35 q36
            obtain ⟨⟨⟨v1, rfl, rv1⟩, rfl⟩, -⟩ := q36
            show OEnds p e below _ T32 (mkF m 145 #[.val (.int x0), .val (.int x1), .val (.int x2), .val (.int ps), .val (.int hq), .val (.int pt), .val (.int pl), .val (.int ql), .val (.int pe), .val (.int qe), .val (.ref a7), .unset, .unset, .unset, .unset] [(.int v1), (.int (1 : Int32)), (.ref a7)])
            refine X35.stC Ka7_h23 (by decide) (up255 rv1) (i := 1) rfl (Nat.le_of_ble_eq_true rfl) gza7 (hb hby at_145) ?_
            intro T37 h39 X38 W40 Ka7_h39x
            have Ka7_h39 : Arv Z h39 a7 ka7 .char (8 : Int32) [.int v0, .int v1, .int (0 : Int32), .int (0 : Int32), .int (0 : Int32), .int (0 : Int32), .int (0 : Int32), .int (0 : Int32)] (.int (0 : Int32)) := Ka7_h39x
            have EBa7_h39 := ext_wr EBa7_h23 W40 (Nat.le_of_eq ga7)
            have Sla_h39 := Sla_h23.wrC W40 Ka7_h23 (hw _ (List.mem_of_getElem? (i := 14) rfl))
            show OEnds p e below _ T37 (mkF m 146 #[.val (.int x0), .val (.int x1), .val (.int x2), .val (.int ps), .val (.int hq), .val (.int pt), .val (.int pl), .val (.int ql), .val (.int pe), .val (.int qe), .val (.ref a7), .unset, .unset, .unset, .unset] [])
            refine OEnds.go (fun _ q => XS.aload X38.here X38.hx rfl (hb hby at_146) rfl rfl q) ?_
            show OEnds p e below _ T37 (mkF m 148 #[.val (.int x0), .val (.int x1), .val (.int x2), .val (.int ps), .val (.int hq), .val (.int pt), .val (.int pl), .val (.int ql), .val (.int pe), .val (.int qe), .val (.ref a7), .unset, .unset, .unset, .unset] [(.ref a7)])
            refine OEnds.go (fun _ q => XS.iconst X38.here X38.hx rfl (hb hby at_148) q) ?_
            show OEnds p e below _ T37 (mkF m 149 #[.val (.int x0), .val (.int x1), .val (.int x2), .val (.int ps), .val (.int hq), .val (.int pt), .val (.int pl), .val (.int ql), .val (.int pe), .val (.int qe), .val (.ref a7), .unset, .unset, .unset, .unset] [(.int (2 : Int32)), (.ref a7)])
            refine OEnds.go (fun _ q => XS.iconst X38.here X38.hx rfl (hb hby at_149) q) ?_
            show OEnds p e below _ T37 (mkF m 150 #[.val (.int x0), .val (.int x1), .val (.int x2), .val (.int ps), .val (.int hq), .val (.int pt), .val (.int pl), .val (.int ql), .val (.int pe), .val (.int qe), .val (.ref a7), .unset, .unset, .unset, .unset] [(.int (2 : Int32)), (.int (2 : Int32)), (.ref a7)])
            refine OEnds.go (fun _ q => XS.iloadN X38.here X38.hx rfl (hb hby at_150) rfl q) ?_
            show OEnds p e below _ T37 (mkF m 151 #[.val (.int x0), .val (.int x1), .val (.int x2), .val (.int ps), .val (.int hq), .val (.int pt), .val (.int pl), .val (.int ql), .val (.int pe), .val (.int qe), .val (.ref a7), .unset, .unset, .unset, .unset] [(.int ps), (.int (2 : Int32)), (.int (2 : Int32)), (.ref a7)])
            refine OEnds.go (fun _ q => XS.iload X38.here X38.hx rfl (hb hby at_151) rfl q) ?_
            show OEnds p e below _ T37 (mkF m 153 #[.val (.int x0), .val (.int x1), .val (.int x2), .val (.int ps), .val (.int hq), .val (.int pt), .val (.int pl), .val (.int ql), .val (.int pe), .val (.int qe), .val (.ref a7), .unset, .unset, .unset, .unset] [(.int pe), (.int ps), (.int (2 : Int32)), (.int (2 : Int32)), (.ref a7)])
            refine OEnds.go (fun _ q => XS.iload X38.here X38.hx rfl (hb hby at_153) rfl q) ?_
            show OEnds p e below _ T37 (mkF m 155 #[.val (.int x0), .val (.int x1), .val (.int x2), .val (.int ps), .val (.int hq), .val (.int pt), .val (.int pl), .val (.int ql), .val (.int pe), .val (.int qe), .val (.ref a7), .unset, .unset, .unset, .unset] [(.int qe), (.int pe), (.int ps), (.int (2 : Int32)), (.int (2 : Int32)), (.ref a7)])
            refine OEnds.go (fun _ q => XS.iload X38.here X38.hx rfl (hb hby at_155) rfl q) ?_
            show OEnds p e below _ T37 (mkF m 157 #[.val (.int x0), .val (.int x1), .val (.int x2), .val (.int ps), .val (.int hq), .val (.int pt), .val (.int pl), .val (.int ql), .val (.int pe), .val (.int qe), .val (.ref a7), .unset, .unset, .unset, .unset] [(.int hq), (.int qe), (.int pe), (.int ps), (.int (2 : Int32)), (.int (2 : Int32)), (.ref a7)])
            refine OEnds.go (fun _ q => XS.iloadN X38.here X38.hx rfl (hb hby at_157) rfl q) ?_
            show OEnds p e below _ T37 (mkF m 158 #[.val (.int x0), .val (.int x1), .val (.int x2), .val (.int ps), .val (.int hq), .val (.int pt), .val (.int pl), .val (.int ql), .val (.int pe), .val (.int qe), .val (.ref a7), .unset, .unset, .unset, .unset] [(.int x0), (.int hq), (.int qe), (.int pe), (.int ps), (.int (2 : Int32)), (.int (2 : Int32)), (.ref a7)])
            refine OEnds.go (fun _ q => XS.iloadN X38.here X38.hx rfl (hb hby at_158) rfl q) ?_
            show OEnds p e below _ T37 (mkF m 159 #[.val (.int x0), .val (.int x1), .val (.int x2), .val (.int ps), .val (.int hq), .val (.int pt), .val (.int pl), .val (.int ql), .val (.int pe), .val (.int qe), .val (.ref a7), .unset, .unset, .unset, .unset] [(.int x1), (.int x0), (.int hq), (.int qe), (.int pe), (.int ps), (.int (2 : Int32)), (.int (2 : Int32)), (.ref a7)])
            refine OEnds.go (fun _ q => XS.iconst X38.here X38.hx rfl (hb hby at_159) q) ?_
            show OEnds p e below _ T37 (mkF m 160 #[.val (.int x0), .val (.int x1), .val (.int x2), .val (.int ps), .val (.int hq), .val (.int pt), .val (.int pl), .val (.int ql), .val (.int pe), .val (.int qe), .val (.ref a7), .unset, .unset, .unset, .unset] [(.int (2 : Int32)), (.int x1), (.int x0), (.int hq), (.int qe), (.int pe), (.int ps), (.int (2 : Int32)), (.int (2 : Int32)), (.ref a7)])
            refine X38.payS (ConN.back (W := 7) (con_raw H x0 x1 (2 : Int32) h39) X38.old X38.hZ  (hw _ (List.mem_of_getElem? (i := 8) rfl)) (hw _ (List.mem_of_getElem? (i := 7) rfl)) (by decide) (by decide)) (okV X38) (hw _ (List.mem_of_getElem? (i := 5) rfl)) (hw _ (List.mem_of_getElem? (i := 6) rfl)) (hw _ (List.mem_of_getElem? (i := 7) rfl)) (hw _ (List.mem_of_getElem? (i := 8) rfl)) (by decide) (argsL := [(.int x0), (.int x1), (.int (2 : Int32))]) (rest := [(.int hq), (.int qe), (.int pe), (.int ps), (.int (2 : Int32)), (.int (2 : Int32)), (.ref a7)]) rfl (lenOf own_pd11 rfl) rfl (by rw [hml]; rfl) (Nat.le_of_eq rfl) (hb hby at_160) (by decide) (by decide) ?_
            intro v41 T42 h43 L44 X45 q46
            obtain ⟨⟨⟨r2, rfl, hr2⟩, rfl⟩, -⟩ := q46
            show OEnds p e below _ T42 (mkF m 163 #[.val (.int x0), .val (.int x1), .val (.int x2), .val (.int ps), .val (.int hq), .val (.int pt), .val (.int pl), .val (.int ql), .val (.int pe), .val (.int qe), .val (.ref a7), .unset, .unset, .unset, .unset] [(.int r2), (.int hq), (.int qe), (.int pe), (.int ps), (.int (2 : Int32)), (.int (2 : Int32)), (.ref a7)])
            refine X45.payS (ConNV.back (W := 2) (con_cell1 H (2 : Int32) ps pe qe hq r2 hr2 la h39 Sla_h39) X45.old X45.hZ (fun vm' hW => hLV.stays hW.wide) (hw _ (List.mem_of_getElem? (i := 11) rfl)) (hw _ (List.mem_of_getElem? (i := 7) rfl)) (by decide) (by decide)) (okV X45) (hw _ (List.mem_of_getElem? (i := 9) rfl)) (hw _ (List.mem_of_getElem? (i := 10) rfl)) (hw _ (List.mem_of_getElem? (i := 7) rfl)) (hw _ (List.mem_of_getElem? (i := 11) rfl)) (by decide) (argsL := [(.int (2 : Int32)), (.int ps), (.int pe), (.int qe), (.int hq), (.int r2)]) (rest := [(.int (2 : Int32)), (.ref a7)]) rfl (lenOf own_pd12 rfl) rfl (by rw [hml]; rfl) (Nat.le_of_eq rfl) (hb hby at_163) (by decide) (by decide) ?_
            intro v47 T48 h49 L50 X51 q52
            obtain ⟨⟨⟨v2, rfl, rv2⟩, rfl⟩, -⟩ := q52
            show OEnds p e below _ T48 (mkF m 166 #[.val (.int x0), .val (.int x1), .val (.int x2), .val (.int ps), .val (.int hq), .val (.int pt), .val (.int pl), .val (.int ql), .val (.int pe), .val (.int qe), .val (.ref a7), .unset, .unset, .unset, .unset] [(.int v2), (.int (2 : Int32)), (.ref a7)])
            refine X51.stC Ka7_h39 (by decide) (up255 rv2) (i := 2) rfl (Nat.le_of_ble_eq_true rfl) gza7 (hb hby at_166) ?_
            intro T53 h55 X54 W56 Ka7_h55x
            have Ka7_h55 : Arv Z h55 a7 ka7 .char (8 : Int32) [.int v0, .int v1, .int v2, .int (0 : Int32), .int (0 : Int32), .int (0 : Int32), .int (0 : Int32), .int (0 : Int32)] (.int (0 : Int32)) := Ka7_h55x
            have EBa7_h55 := ext_wr EBa7_h39 W56 (Nat.le_of_eq ga7)
            have Sla_h55 := Sla_h39.wrC W56 Ka7_h39 (hw _ (List.mem_of_getElem? (i := 14) rfl))
            show OEnds p e below _ T53 (mkF m 167 #[.val (.int x0), .val (.int x1), .val (.int x2), .val (.int ps), .val (.int hq), .val (.int pt), .val (.int pl), .val (.int ql), .val (.int pe), .val (.int qe), .val (.ref a7), .unset, .unset, .unset, .unset] [])
            refine OEnds.go (fun _ q => XS.aload X54.here X54.hx rfl (hb hby at_167) rfl rfl q) ?_
            show OEnds p e below _ T53 (mkF m 169 #[.val (.int x0), .val (.int x1), .val (.int x2), .val (.int ps), .val (.int hq), .val (.int pt), .val (.int pl), .val (.int ql), .val (.int pe), .val (.int qe), .val (.ref a7), .unset, .unset, .unset, .unset] [(.ref a7)])
            refine OEnds.go (fun _ q => XS.iconst X54.here X54.hx rfl (hb hby at_169) q) ?_
            show OEnds p e below _ T53 (mkF m 170 #[.val (.int x0), .val (.int x1), .val (.int x2), .val (.int ps), .val (.int hq), .val (.int pt), .val (.int pl), .val (.int ql), .val (.int pe), .val (.int qe), .val (.ref a7), .unset, .unset, .unset, .unset] [(.int (3 : Int32)), (.ref a7)])
            refine OEnds.go (fun _ q => XS.iconst X54.here X54.hx rfl (hb hby at_170) q) ?_
            show OEnds p e below _ T53 (mkF m 171 #[.val (.int x0), .val (.int x1), .val (.int x2), .val (.int ps), .val (.int hq), .val (.int pt), .val (.int pl), .val (.int ql), .val (.int pe), .val (.int qe), .val (.ref a7), .unset, .unset, .unset, .unset] [(.int (3 : Int32)), (.int (3 : Int32)), (.ref a7)])
            refine OEnds.go (fun _ q => XS.iloadN X54.here X54.hx rfl (hb hby at_171) rfl q) ?_
            show OEnds p e below _ T53 (mkF m 172 #[.val (.int x0), .val (.int x1), .val (.int x2), .val (.int ps), .val (.int hq), .val (.int pt), .val (.int pl), .val (.int ql), .val (.int pe), .val (.int qe), .val (.ref a7), .unset, .unset, .unset, .unset] [(.int ps), (.int (3 : Int32)), (.int (3 : Int32)), (.ref a7)])
            refine OEnds.go (fun _ q => XS.iload X54.here X54.hx rfl (hb hby at_172) rfl q) ?_
            show OEnds p e below _ T53 (mkF m 174 #[.val (.int x0), .val (.int x1), .val (.int x2), .val (.int ps), .val (.int hq), .val (.int pt), .val (.int pl), .val (.int ql), .val (.int pe), .val (.int qe), .val (.ref a7), .unset, .unset, .unset, .unset] [(.int pe), (.int ps), (.int (3 : Int32)), (.int (3 : Int32)), (.ref a7)])
            refine OEnds.go (fun _ q => XS.iload X54.here X54.hx rfl (hb hby at_174) rfl q) ?_
            show OEnds p e below _ T53 (mkF m 176 #[.val (.int x0), .val (.int x1), .val (.int x2), .val (.int ps), .val (.int hq), .val (.int pt), .val (.int pl), .val (.int ql), .val (.int pe), .val (.int qe), .val (.ref a7), .unset, .unset, .unset, .unset] [(.int qe), (.int pe), (.int ps), (.int (3 : Int32)), (.int (3 : Int32)), (.ref a7)])
            refine OEnds.go (fun _ q => XS.iload X54.here X54.hx rfl (hb hby at_176) rfl q) ?_
            show OEnds p e below _ T53 (mkF m 178 #[.val (.int x0), .val (.int x1), .val (.int x2), .val (.int ps), .val (.int hq), .val (.int pt), .val (.int pl), .val (.int ql), .val (.int pe), .val (.int qe), .val (.ref a7), .unset, .unset, .unset, .unset] [(.int hq), (.int qe), (.int pe), (.int ps), (.int (3 : Int32)), (.int (3 : Int32)), (.ref a7)])
            refine OEnds.go (fun _ q => XS.iloadN X54.here X54.hx rfl (hb hby at_178) rfl q) ?_
            show OEnds p e below _ T53 (mkF m 179 #[.val (.int x0), .val (.int x1), .val (.int x2), .val (.int ps), .val (.int hq), .val (.int pt), .val (.int pl), .val (.int ql), .val (.int pe), .val (.int qe), .val (.ref a7), .unset, .unset, .unset, .unset] [(.int x0), (.int hq), (.int qe), (.int pe), (.int ps), (.int (3 : Int32)), (.int (3 : Int32)), (.ref a7)])
            refine OEnds.go (fun _ q => XS.iloadN X54.here X54.hx rfl (hb hby at_179) rfl q) ?_
            show OEnds p e below _ T53 (mkF m 180 #[.val (.int x0), .val (.int x1), .val (.int x2), .val (.int ps), .val (.int hq), .val (.int pt), .val (.int pl), .val (.int ql), .val (.int pe), .val (.int qe), .val (.ref a7), .unset, .unset, .unset, .unset] [(.int x1), (.int x0), (.int hq), (.int qe), (.int pe), (.int ps), (.int (3 : Int32)), (.int (3 : Int32)), (.ref a7)])
            refine OEnds.go (fun _ q => XS.iconst X54.here X54.hx rfl (hb hby at_180) q) ?_
            show OEnds p e below _ T53 (mkF m 181 #[.val (.int x0), .val (.int x1), .val (.int x2), .val (.int ps), .val (.int hq), .val (.int pt), .val (.int pl), .val (.int ql), .val (.int pe), .val (.int qe), .val (.ref a7), .unset, .unset, .unset, .unset] [(.int (3 : Int32)), (.int x1), (.int x0), (.int hq), (.int qe), (.int pe), (.int ps), (.int (3 : Int32)), (.int (3 : Int32)), (.ref a7)])
            refine X54.payS (ConN.back (W := 7) (con_raw H x0 x1 (3 : Int32) h55) X54.old X54.hZ  (hw _ (List.mem_of_getElem? (i := 8) rfl)) (hw _ (List.mem_of_getElem? (i := 7) rfl)) (by decide) (by decide)) (okV X54) (hw _ (List.mem_of_getElem? (i := 5) rfl)) (hw _ (List.mem_of_getElem? (i := 6) rfl)) (hw _ (List.mem_of_getElem? (i := 7) rfl)) (hw _ (List.mem_of_getElem? (i := 8) rfl)) (by decide) (argsL := [(.int x0), (.int x1), (.int (3 : Int32))]) (rest := [(.int hq), (.int qe), (.int pe), (.int ps), (.int (3 : Int32)), (.int (3 : Int32)), (.ref a7)]) rfl (lenOf own_pd11 rfl) rfl (by rw [hml]; rfl) (Nat.le_of_eq rfl) (hb hby at_181) (by decide) (by decide) ?_
            intro v57 T58 h59 L60 X61 q62
            obtain ⟨⟨⟨r3, rfl, hr3⟩, rfl⟩, -⟩ := q62
            show OEnds p e below _ T58 (mkF m 184 #[.val (.int x0), .val (.int x1), .val (.int x2), .val (.int ps), .val (.int hq), .val (.int pt), .val (.int pl), .val (.int ql), .val (.int pe), .val (.int qe), .val (.ref a7), .unset, .unset, .unset, .unset] [(.int r3), (.int hq), (.int qe), (.int pe), (.int ps), (.int (3 : Int32)), (.int (3 : Int32)), (.ref a7)])
            refine X61.payS (ConNV.back (W := 2) (con_cell1 H (3 : Int32) ps pe qe hq r3 hr3 la h55 Sla_h55) X61.old X61.hZ (fun vm' hW => hLV.stays hW.wide) (hw _ (List.mem_of_getElem? (i := 11) rfl)) (hw _ (List.mem_of_getElem? (i := 7) rfl)) (by decide) (by decide)) (okV X61) (hw _ (List.mem_of_getElem? (i := 9) rfl)) (hw _ (List.mem_of_getElem? (i := 10) rfl)) (hw _ (List.mem_of_getElem? (i := 7) rfl)) (hw _ (List.mem_of_getElem? (i := 11) rfl)) (by decide) (argsL := [(.int (3 : Int32)), (.int ps), (.int pe), (.int qe), (.int hq), (.int r3)]) (rest := [(.int (3 : Int32)), (.ref a7)]) rfl (lenOf own_pd12 rfl) rfl (by rw [hml]; rfl) (Nat.le_of_eq rfl) (hb hby at_184) (by decide) (by decide) ?_
            intro v63 T64 h65 L66 X67 q68
            obtain ⟨⟨⟨v3, rfl, rv3⟩, rfl⟩, -⟩ := q68
            show OEnds p e below _ T64 (mkF m 187 #[.val (.int x0), .val (.int x1), .val (.int x2), .val (.int ps), .val (.int hq), .val (.int pt), .val (.int pl), .val (.int ql), .val (.int pe), .val (.int qe), .val (.ref a7), .unset, .unset, .unset, .unset] [(.int v3), (.int (3 : Int32)), (.ref a7)])
            refine X67.stC Ka7_h55 (by decide) (up255 rv3) (i := 3) rfl (Nat.le_of_ble_eq_true rfl) gza7 (hb hby at_187) ?_
            intro T69 h71 X70 W72 Ka7_h71x
            have Ka7_h71 : Arv Z h71 a7 ka7 .char (8 : Int32) [.int v0, .int v1, .int v2, .int v3, .int (0 : Int32), .int (0 : Int32), .int (0 : Int32), .int (0 : Int32)] (.int (0 : Int32)) := Ka7_h71x
            have EBa7_h71 := ext_wr EBa7_h55 W72 (Nat.le_of_eq ga7)
            have Sla_h71 := Sla_h55.wrC W72 Ka7_h55 (hw _ (List.mem_of_getElem? (i := 14) rfl))
            show OEnds p e below _ T69 (mkF m 188 #[.val (.int x0), .val (.int x1), .val (.int x2), .val (.int ps), .val (.int hq), .val (.int pt), .val (.int pl), .val (.int ql), .val (.int pe), .val (.int qe), .val (.ref a7), .unset, .unset, .unset, .unset] [])
            refine OEnds.go (fun _ q => XS.aload X70.here X70.hx rfl (hb hby at_188) rfl rfl q) ?_
            show OEnds p e below _ T69 (mkF m 190 #[.val (.int x0), .val (.int x1), .val (.int x2), .val (.int ps), .val (.int hq), .val (.int pt), .val (.int pl), .val (.int ql), .val (.int pe), .val (.int qe), .val (.ref a7), .unset, .unset, .unset, .unset] [(.ref a7)])
            refine OEnds.go (fun _ q => XS.iconst X70.here X70.hx rfl (hb hby at_190) q) ?_
            show OEnds p e below _ T69 (mkF m 191 #[.val (.int x0), .val (.int x1), .val (.int x2), .val (.int ps), .val (.int hq), .val (.int pt), .val (.int pl), .val (.int ql), .val (.int pe), .val (.int qe), .val (.ref a7), .unset, .unset, .unset, .unset] [(.int (4 : Int32)), (.ref a7)])
            refine OEnds.go (fun _ q => XS.iconst X70.here X70.hx rfl (hb hby at_191) q) ?_
            show OEnds p e below _ T69 (mkF m 192 #[.val (.int x0), .val (.int x1), .val (.int x2), .val (.int ps), .val (.int hq), .val (.int pt), .val (.int pl), .val (.int ql), .val (.int pe), .val (.int qe), .val (.ref a7), .unset, .unset, .unset, .unset] [(.int (4 : Int32)), (.int (4 : Int32)), (.ref a7)])
            refine OEnds.go (fun _ q => XS.iloadN X70.here X70.hx rfl (hb hby at_192) rfl q) ?_
            show OEnds p e below _ T69 (mkF m 193 #[.val (.int x0), .val (.int x1), .val (.int x2), .val (.int ps), .val (.int hq), .val (.int pt), .val (.int pl), .val (.int ql), .val (.int pe), .val (.int qe), .val (.ref a7), .unset, .unset, .unset, .unset] [(.int ps), (.int (4 : Int32)), (.int (4 : Int32)), (.ref a7)])
            refine OEnds.go (fun _ q => XS.iload X70.here X70.hx rfl (hb hby at_193) rfl q) ?_
            show OEnds p e below _ T69 (mkF m 195 #[.val (.int x0), .val (.int x1), .val (.int x2), .val (.int ps), .val (.int hq), .val (.int pt), .val (.int pl), .val (.int ql), .val (.int pe), .val (.int qe), .val (.ref a7), .unset, .unset, .unset, .unset] [(.int pe), (.int ps), (.int (4 : Int32)), (.int (4 : Int32)), (.ref a7)])
            refine OEnds.go (fun _ q => XS.iload X70.here X70.hx rfl (hb hby at_195) rfl q) ?_
            show OEnds p e below _ T69 (mkF m 197 #[.val (.int x0), .val (.int x1), .val (.int x2), .val (.int ps), .val (.int hq), .val (.int pt), .val (.int pl), .val (.int ql), .val (.int pe), .val (.int qe), .val (.ref a7), .unset, .unset, .unset, .unset] [(.int qe), (.int pe), (.int ps), (.int (4 : Int32)), (.int (4 : Int32)), (.ref a7)])
            refine OEnds.go (fun _ q => XS.iload X70.here X70.hx rfl (hb hby at_197) rfl q) ?_
            show OEnds p e below _ T69 (mkF m 199 #[.val (.int x0), .val (.int x1), .val (.int x2), .val (.int ps), .val (.int hq), .val (.int pt), .val (.int pl), .val (.int ql), .val (.int pe), .val (.int qe), .val (.ref a7), .unset, .unset, .unset, .unset] [(.int hq), (.int qe), (.int pe), (.int ps), (.int (4 : Int32)), (.int (4 : Int32)), (.ref a7)])
            refine OEnds.go (fun _ q => XS.iloadN X70.here X70.hx rfl (hb hby at_199) rfl q) ?_
            show OEnds p e below _ T69 (mkF m 200 #[.val (.int x0), .val (.int x1), .val (.int x2), .val (.int ps), .val (.int hq), .val (.int pt), .val (.int pl), .val (.int ql), .val (.int pe), .val (.int qe), .val (.ref a7), .unset, .unset, .unset, .unset] [(.int x0), (.int hq), (.int qe), (.int pe), (.int ps), (.int (4 : Int32)), (.int (4 : Int32)), (.ref a7)])
            refine OEnds.go (fun _ q => XS.iloadN X70.here X70.hx rfl (hb hby at_200) rfl q) ?_
            show OEnds p e below _ T69 (mkF m 201 #[.val (.int x0), .val (.int x1), .val (.int x2), .val (.int ps), .val (.int hq), .val (.int pt), .val (.int pl), .val (.int ql), .val (.int pe), .val (.int qe), .val (.ref a7), .unset, .unset, .unset, .unset] [(.int x1), (.int x0), (.int hq), (.int qe), (.int pe), (.int ps), (.int (4 : Int32)), (.int (4 : Int32)), (.ref a7)])
            refine OEnds.go (fun _ q => XS.iconst X70.here X70.hx rfl (hb hby at_201) q) ?_
            show OEnds p e below _ T69 (mkF m 202 #[.val (.int x0), .val (.int x1), .val (.int x2), .val (.int ps), .val (.int hq), .val (.int pt), .val (.int pl), .val (.int ql), .val (.int pe), .val (.int qe), .val (.ref a7), .unset, .unset, .unset, .unset] [(.int (4 : Int32)), (.int x1), (.int x0), (.int hq), (.int qe), (.int pe), (.int ps), (.int (4 : Int32)), (.int (4 : Int32)), (.ref a7)])
            refine X70.payS (ConN.back (W := 7) (con_raw H x0 x1 (4 : Int32) h71) X70.old X70.hZ  (hw _ (List.mem_of_getElem? (i := 8) rfl)) (hw _ (List.mem_of_getElem? (i := 7) rfl)) (by decide) (by decide)) (okV X70) (hw _ (List.mem_of_getElem? (i := 5) rfl)) (hw _ (List.mem_of_getElem? (i := 6) rfl)) (hw _ (List.mem_of_getElem? (i := 7) rfl)) (hw _ (List.mem_of_getElem? (i := 8) rfl)) (by decide) (argsL := [(.int x0), (.int x1), (.int (4 : Int32))]) (rest := [(.int hq), (.int qe), (.int pe), (.int ps), (.int (4 : Int32)), (.int (4 : Int32)), (.ref a7)]) rfl (lenOf own_pd11 rfl) rfl (by rw [hml]; rfl) (Nat.le_of_eq rfl) (hb hby at_202) (by decide) (by decide) ?_
            intro v73 T74 h75 L76 X77 q78
            obtain ⟨⟨⟨r4, rfl, hr4⟩, rfl⟩, -⟩ := q78
            show OEnds p e below _ T74 (mkF m 205 #[.val (.int x0), .val (.int x1), .val (.int x2), .val (.int ps), .val (.int hq), .val (.int pt), .val (.int pl), .val (.int ql), .val (.int pe), .val (.int qe), .val (.ref a7), .unset, .unset, .unset, .unset] [(.int r4), (.int hq), (.int qe), (.int pe), (.int ps), (.int (4 : Int32)), (.int (4 : Int32)), (.ref a7)])
            refine X77.payS (ConNV.back (W := 2) (con_cell1 H (4 : Int32) ps pe qe hq r4 hr4 la h71 Sla_h71) X77.old X77.hZ (fun vm' hW => hLV.stays hW.wide) (hw _ (List.mem_of_getElem? (i := 11) rfl)) (hw _ (List.mem_of_getElem? (i := 7) rfl)) (by decide) (by decide)) (okV X77) (hw _ (List.mem_of_getElem? (i := 9) rfl)) (hw _ (List.mem_of_getElem? (i := 10) rfl)) (hw _ (List.mem_of_getElem? (i := 7) rfl)) (hw _ (List.mem_of_getElem? (i := 11) rfl)) (by decide) (argsL := [(.int (4 : Int32)), (.int ps), (.int pe), (.int qe), (.int hq), (.int r4)]) (rest := [(.int (4 : Int32)), (.ref a7)]) rfl (lenOf own_pd12 rfl) rfl (by rw [hml]; rfl) (Nat.le_of_eq rfl) (hb hby at_205) (by decide) (by decide) ?_
            intro v79 T80 h81 L82 X83 q84
            obtain ⟨⟨⟨v4, rfl, rv4⟩, rfl⟩, -⟩ := q84
            show OEnds p e below _ T80 (mkF m 208 #[.val (.int x0), .val (.int x1), .val (.int x2), .val (.int ps), .val (.int hq), .val (.int pt), .val (.int pl), .val (.int ql), .val (.int pe), .val (.int qe), .val (.ref a7), .unset, .unset, .unset, .unset] [(.int v4), (.int (4 : Int32)), (.ref a7)])
            refine X83.stC Ka7_h71 (by decide) (up255 rv4) (i := 4) rfl (Nat.le_of_ble_eq_true rfl) gza7 (hb hby at_208) ?_
            intro T85 h87 X86 W88 Ka7_h87x
            have Ka7_h87 : Arv Z h87 a7 ka7 .char (8 : Int32) [.int v0, .int v1, .int v2, .int v3, .int v4, .int (0 : Int32), .int (0 : Int32), .int (0 : Int32)] (.int (0 : Int32)) := Ka7_h87x
            have EBa7_h87 := ext_wr EBa7_h71 W88 (Nat.le_of_eq ga7)
            have Sla_h87 := Sla_h71.wrC W88 Ka7_h71 (hw _ (List.mem_of_getElem? (i := 14) rfl))
            show OEnds p e below _ T85 (mkF m 209 #[.val (.int x0), .val (.int x1), .val (.int x2), .val (.int ps), .val (.int hq), .val (.int pt), .val (.int pl), .val (.int ql), .val (.int pe), .val (.int qe), .val (.ref a7), .unset, .unset, .unset, .unset] [])
            refine OEnds.go (fun _ q => XS.aload X86.here X86.hx rfl (hb hby at_209) rfl rfl q) ?_
            show OEnds p e below _ T85 (mkF m 211 #[.val (.int x0), .val (.int x1), .val (.int x2), .val (.int ps), .val (.int hq), .val (.int pt), .val (.int pl), .val (.int ql), .val (.int pe), .val (.int qe), .val (.ref a7), .unset, .unset, .unset, .unset] [(.ref a7)])
            refine OEnds.go (fun _ q => XS.iconst X86.here X86.hx rfl (hb hby at_211) q) ?_
            show OEnds p e below _ T85 (mkF m 212 #[.val (.int x0), .val (.int x1), .val (.int x2), .val (.int ps), .val (.int hq), .val (.int pt), .val (.int pl), .val (.int ql), .val (.int pe), .val (.int qe), .val (.ref a7), .unset, .unset, .unset, .unset] [(.int (5 : Int32)), (.ref a7)])
            refine OEnds.go (fun _ q => XS.iconst X86.here X86.hx rfl (hb hby at_212) q) ?_
            show OEnds p e below _ T85 (mkF m 213 #[.val (.int x0), .val (.int x1), .val (.int x2), .val (.int ps), .val (.int hq), .val (.int pt), .val (.int pl), .val (.int ql), .val (.int pe), .val (.int qe), .val (.ref a7), .unset, .unset, .unset, .unset] [(.int (5 : Int32)), (.int (5 : Int32)), (.ref a7)])
            refine OEnds.go (fun _ q => XS.iloadN X86.here X86.hx rfl (hb hby at_213) rfl q) ?_
            show OEnds p e below _ T85 (mkF m 214 #[.val (.int x0), .val (.int x1), .val (.int x2), .val (.int ps), .val (.int hq), .val (.int pt), .val (.int pl), .val (.int ql), .val (.int pe), .val (.int qe), .val (.ref a7), .unset, .unset, .unset, .unset] [(.int ps), (.int (5 : Int32)), (.int (5 : Int32)), (.ref a7)])
            refine OEnds.go (fun _ q => XS.iload X86.here X86.hx rfl (hb hby at_214) rfl q) ?_
            show OEnds p e below _ T85 (mkF m 216 #[.val (.int x0), .val (.int x1), .val (.int x2), .val (.int ps), .val (.int hq), .val (.int pt), .val (.int pl), .val (.int ql), .val (.int pe), .val (.int qe), .val (.ref a7), .unset, .unset, .unset, .unset] [(.int pe), (.int ps), (.int (5 : Int32)), (.int (5 : Int32)), (.ref a7)])
            refine OEnds.go (fun _ q => XS.iload X86.here X86.hx rfl (hb hby at_216) rfl q) ?_
            show OEnds p e below _ T85 (mkF m 218 #[.val (.int x0), .val (.int x1), .val (.int x2), .val (.int ps), .val (.int hq), .val (.int pt), .val (.int pl), .val (.int ql), .val (.int pe), .val (.int qe), .val (.ref a7), .unset, .unset, .unset, .unset] [(.int qe), (.int pe), (.int ps), (.int (5 : Int32)), (.int (5 : Int32)), (.ref a7)])
            refine OEnds.go (fun _ q => XS.iload X86.here X86.hx rfl (hb hby at_218) rfl q) ?_
            show OEnds p e below _ T85 (mkF m 220 #[.val (.int x0), .val (.int x1), .val (.int x2), .val (.int ps), .val (.int hq), .val (.int pt), .val (.int pl), .val (.int ql), .val (.int pe), .val (.int qe), .val (.ref a7), .unset, .unset, .unset, .unset] [(.int hq), (.int qe), (.int pe), (.int ps), (.int (5 : Int32)), (.int (5 : Int32)), (.ref a7)])
            refine OEnds.go (fun _ q => XS.iloadN X86.here X86.hx rfl (hb hby at_220) rfl q) ?_
            show OEnds p e below _ T85 (mkF m 221 #[.val (.int x0), .val (.int x1), .val (.int x2), .val (.int ps), .val (.int hq), .val (.int pt), .val (.int pl), .val (.int ql), .val (.int pe), .val (.int qe), .val (.ref a7), .unset, .unset, .unset, .unset] [(.int x0), (.int hq), (.int qe), (.int pe), (.int ps), (.int (5 : Int32)), (.int (5 : Int32)), (.ref a7)])
            refine OEnds.go (fun _ q => XS.iloadN X86.here X86.hx rfl (hb hby at_221) rfl q) ?_
            show OEnds p e below _ T85 (mkF m 222 #[.val (.int x0), .val (.int x1), .val (.int x2), .val (.int ps), .val (.int hq), .val (.int pt), .val (.int pl), .val (.int ql), .val (.int pe), .val (.int qe), .val (.ref a7), .unset, .unset, .unset, .unset] [(.int x1), (.int x0), (.int hq), (.int qe), (.int pe), (.int ps), (.int (5 : Int32)), (.int (5 : Int32)), (.ref a7)])
            refine OEnds.go (fun _ q => XS.iconst X86.here X86.hx rfl (hb hby at_222) q) ?_
            show OEnds p e below _ T85 (mkF m 223 #[.val (.int x0), .val (.int x1), .val (.int x2), .val (.int ps), .val (.int hq), .val (.int pt), .val (.int pl), .val (.int ql), .val (.int pe), .val (.int qe), .val (.ref a7), .unset, .unset, .unset, .unset] [(.int (5 : Int32)), (.int x1), (.int x0), (.int hq), (.int qe), (.int pe), (.int ps), (.int (5 : Int32)), (.int (5 : Int32)), (.ref a7)])
            refine X86.payS (ConN.back (W := 7) (con_raw H x0 x1 (5 : Int32) h87) X86.old X86.hZ  (hw _ (List.mem_of_getElem? (i := 8) rfl)) (hw _ (List.mem_of_getElem? (i := 7) rfl)) (by decide) (by decide)) (okV X86) (hw _ (List.mem_of_getElem? (i := 5) rfl)) (hw _ (List.mem_of_getElem? (i := 6) rfl)) (hw _ (List.mem_of_getElem? (i := 7) rfl)) (hw _ (List.mem_of_getElem? (i := 8) rfl)) (by decide) (argsL := [(.int x0), (.int x1), (.int (5 : Int32))]) (rest := [(.int hq), (.int qe), (.int pe), (.int ps), (.int (5 : Int32)), (.int (5 : Int32)), (.ref a7)]) rfl (lenOf own_pd11 rfl) rfl (by rw [hml]; rfl) (Nat.le_of_eq rfl) (hb hby at_223) (by decide) (by decide) ?_
            intro v89 T90 h91 L92 X93 q94
            obtain ⟨⟨⟨r5, rfl, hr5⟩, rfl⟩, -⟩ := q94
            show OEnds p e below _ T90 (mkF m 226 #[.val (.int x0), .val (.int x1), .val (.int x2), .val (.int ps), .val (.int hq), .val (.int pt), .val (.int pl), .val (.int ql), .val (.int pe), .val (.int qe), .val (.ref a7), .unset, .unset, .unset, .unset] [(.int r5), (.int hq), (.int qe), (.int pe), (.int ps), (.int (5 : Int32)), (.int (5 : Int32)), (.ref a7)])
            refine X93.payS (ConNV.back (W := 2) (con_cell1 H (5 : Int32) ps pe qe hq r5 hr5 la h87 Sla_h87) X93.old X93.hZ (fun vm' hW => hLV.stays hW.wide) (hw _ (List.mem_of_getElem? (i := 11) rfl)) (hw _ (List.mem_of_getElem? (i := 7) rfl)) (by decide) (by decide)) (okV X93) (hw _ (List.mem_of_getElem? (i := 9) rfl)) (hw _ (List.mem_of_getElem? (i := 10) rfl)) (hw _ (List.mem_of_getElem? (i := 7) rfl)) (hw _ (List.mem_of_getElem? (i := 11) rfl)) (by decide) (argsL := [(.int (5 : Int32)), (.int ps), (.int pe), (.int qe), (.int hq), (.int r5)]) (rest := [(.int (5 : Int32)), (.ref a7)]) rfl (lenOf own_pd12 rfl) rfl (by rw [hml]; rfl) (Nat.le_of_eq rfl) (hb hby at_226) (by decide) (by decide) ?_
            intro v95 T96 h97 L98 X99 q100
            obtain ⟨⟨⟨v5, rfl, rv5⟩, rfl⟩, -⟩ := q100
            show OEnds p e below _ T96 (mkF m 229 #[.val (.int x0), .val (.int x1), .val (.int x2), .val (.int ps), .val (.int hq), .val (.int pt), .val (.int pl), .val (.int ql), .val (.int pe), .val (.int qe), .val (.ref a7), .unset, .unset, .unset, .unset] [(.int v5), (.int (5 : Int32)), (.ref a7)])
            refine X99.stC Ka7_h87 (by decide) (up255 rv5) (i := 5) rfl (Nat.le_of_ble_eq_true rfl) gza7 (hb hby at_229) ?_
            intro T101 h103 X102 W104 Ka7_h103x
            have Ka7_h103 : Arv Z h103 a7 ka7 .char (8 : Int32) [.int v0, .int v1, .int v2, .int v3, .int v4, .int v5, .int (0 : Int32), .int (0 : Int32)] (.int (0 : Int32)) := Ka7_h103x
            have EBa7_h103 := ext_wr EBa7_h87 W104 (Nat.le_of_eq ga7)
            have Sla_h103 := Sla_h87.wrC W104 Ka7_h87 (hw _ (List.mem_of_getElem? (i := 14) rfl))
            show OEnds p e below _ T101 (mkF m 230 #[.val (.int x0), .val (.int x1), .val (.int x2), .val (.int ps), .val (.int hq), .val (.int pt), .val (.int pl), .val (.int ql), .val (.int pe), .val (.int qe), .val (.ref a7), .unset, .unset, .unset, .unset] [])
            refine OEnds.go (fun _ q => XS.aload X102.here X102.hx rfl (hb hby at_230) rfl rfl q) ?_
            show OEnds p e below _ T101 (mkF m 232 #[.val (.int x0), .val (.int x1), .val (.int x2), .val (.int ps), .val (.int hq), .val (.int pt), .val (.int pl), .val (.int ql), .val (.int pe), .val (.int qe), .val (.ref a7), .unset, .unset, .unset, .unset] [(.ref a7)])
            refine OEnds.go (fun _ q => XS.bipush X102.here X102.hx rfl (hb hby at_232) q) ?_
            show OEnds p e below _ T101 (mkF m 234 #[.val (.int x0), .val (.int x1), .val (.int x2), .val (.int ps), .val (.int hq), .val (.int pt), .val (.int pl), .val (.int ql), .val (.int pe), .val (.int qe), .val (.ref a7), .unset, .unset, .unset, .unset] [(.int (6 : Int32)), (.ref a7)])
            refine OEnds.go (fun _ q => XS.bipush X102.here X102.hx rfl (hb hby at_234) q) ?_
            show OEnds p e below _ T101 (mkF m 236 #[.val (.int x0), .val (.int x1), .val (.int x2), .val (.int ps), .val (.int hq), .val (.int pt), .val (.int pl), .val (.int ql), .val (.int pe), .val (.int qe), .val (.ref a7), .unset, .unset, .unset, .unset] [(.int (6 : Int32)), (.int (6 : Int32)), (.ref a7)])
            refine OEnds.go (fun _ q => XS.iloadN X102.here X102.hx rfl (hb hby at_236) rfl q) ?_
            show OEnds p e below _ T101 (mkF m 237 #[.val (.int x0), .val (.int x1), .val (.int x2), .val (.int ps), .val (.int hq), .val (.int pt), .val (.int pl), .val (.int ql), .val (.int pe), .val (.int qe), .val (.ref a7), .unset, .unset, .unset, .unset] [(.int ps), (.int (6 : Int32)), (.int (6 : Int32)), (.ref a7)])
            refine OEnds.go (fun _ q => XS.iload X102.here X102.hx rfl (hb hby at_237) rfl q) ?_
            show OEnds p e below _ T101 (mkF m 239 #[.val (.int x0), .val (.int x1), .val (.int x2), .val (.int ps), .val (.int hq), .val (.int pt), .val (.int pl), .val (.int ql), .val (.int pe), .val (.int qe), .val (.ref a7), .unset, .unset, .unset, .unset] [(.int pe), (.int ps), (.int (6 : Int32)), (.int (6 : Int32)), (.ref a7)])
            refine OEnds.go (fun _ q => XS.iload X102.here X102.hx rfl (hb hby at_239) rfl q) ?_
            show OEnds p e below _ T101 (mkF m 241 #[.val (.int x0), .val (.int x1), .val (.int x2), .val (.int ps), .val (.int hq), .val (.int pt), .val (.int pl), .val (.int ql), .val (.int pe), .val (.int qe), .val (.ref a7), .unset, .unset, .unset, .unset] [(.int qe), (.int pe), (.int ps), (.int (6 : Int32)), (.int (6 : Int32)), (.ref a7)])
            refine OEnds.go (fun _ q => XS.iload X102.here X102.hx rfl (hb hby at_241) rfl q) ?_
            show OEnds p e below _ T101 (mkF m 243 #[.val (.int x0), .val (.int x1), .val (.int x2), .val (.int ps), .val (.int hq), .val (.int pt), .val (.int pl), .val (.int ql), .val (.int pe), .val (.int qe), .val (.ref a7), .unset, .unset, .unset, .unset] [(.int hq), (.int qe), (.int pe), (.int ps), (.int (6 : Int32)), (.int (6 : Int32)), (.ref a7)])
            refine OEnds.go (fun _ q => XS.iloadN X102.here X102.hx rfl (hb hby at_243) rfl q) ?_
            show OEnds p e below _ T101 (mkF m 244 #[.val (.int x0), .val (.int x1), .val (.int x2), .val (.int ps), .val (.int hq), .val (.int pt), .val (.int pl), .val (.int ql), .val (.int pe), .val (.int qe), .val (.ref a7), .unset, .unset, .unset, .unset] [(.int x0), (.int hq), (.int qe), (.int pe), (.int ps), (.int (6 : Int32)), (.int (6 : Int32)), (.ref a7)])
            refine OEnds.go (fun _ q => XS.iloadN X102.here X102.hx rfl (hb hby at_244) rfl q) ?_
            show OEnds p e below _ T101 (mkF m 245 #[.val (.int x0), .val (.int x1), .val (.int x2), .val (.int ps), .val (.int hq), .val (.int pt), .val (.int pl), .val (.int ql), .val (.int pe), .val (.int qe), .val (.ref a7), .unset, .unset, .unset, .unset] [(.int x1), (.int x0), (.int hq), (.int qe), (.int pe), (.int ps), (.int (6 : Int32)), (.int (6 : Int32)), (.ref a7)])
            refine OEnds.go (fun _ q => XS.bipush X102.here X102.hx rfl (hb hby at_245) q) ?_
            show OEnds p e below _ T101 (mkF m 247 #[.val (.int x0), .val (.int x1), .val (.int x2), .val (.int ps), .val (.int hq), .val (.int pt), .val (.int pl), .val (.int ql), .val (.int pe), .val (.int qe), .val (.ref a7), .unset, .unset, .unset, .unset] [(.int (6 : Int32)), (.int x1), (.int x0), (.int hq), (.int qe), (.int pe), (.int ps), (.int (6 : Int32)), (.int (6 : Int32)), (.ref a7)])
            refine X102.payS (ConN.back (W := 7) (con_raw H x0 x1 (6 : Int32) h103) X102.old X102.hZ  (hw _ (List.mem_of_getElem? (i := 8) rfl)) (hw _ (List.mem_of_getElem? (i := 7) rfl)) (by decide) (by decide)) (okV X102) (hw _ (List.mem_of_getElem? (i := 5) rfl)) (hw _ (List.mem_of_getElem? (i := 6) rfl)) (hw _ (List.mem_of_getElem? (i := 7) rfl)) (hw _ (List.mem_of_getElem? (i := 8) rfl)) (by decide) (argsL := [(.int x0), (.int x1), (.int (6 : Int32))]) (rest := [(.int hq), (.int qe), (.int pe), (.int ps), (.int (6 : Int32)), (.int (6 : Int32)), (.ref a7)]) rfl (lenOf own_pd11 rfl) rfl (by rw [hml]; rfl) (Nat.le_of_eq rfl) (hb hby at_247) (by decide) (by decide) ?_
            intro v105 T106 h107 L108 X109 q110
            obtain ⟨⟨⟨r6, rfl, hr6⟩, rfl⟩, -⟩ := q110
            show OEnds p e below _ T106 (mkF m 250 #[.val (.int x0), .val (.int x1), .val (.int x2), .val (.int ps), .val (.int hq), .val (.int pt), .val (.int pl), .val (.int ql), .val (.int pe), .val (.int qe), .val (.ref a7), .unset, .unset, .unset, .unset] [(.int r6), (.int hq), (.int qe), (.int pe), (.int ps), (.int (6 : Int32)), (.int (6 : Int32)), (.ref a7)])
            refine X109.payS (ConNV.back (W := 2) (con_cell1 H (6 : Int32) ps pe qe hq r6 hr6 la h103 Sla_h103) X109.old X109.hZ (fun vm' hW => hLV.stays hW.wide) (hw _ (List.mem_of_getElem? (i := 11) rfl)) (hw _ (List.mem_of_getElem? (i := 7) rfl)) (by decide) (by decide)) (okV X109) (hw _ (List.mem_of_getElem? (i := 9) rfl)) (hw _ (List.mem_of_getElem? (i := 10) rfl)) (hw _ (List.mem_of_getElem? (i := 7) rfl)) (hw _ (List.mem_of_getElem? (i := 11) rfl)) (by decide) (argsL := [(.int (6 : Int32)), (.int ps), (.int pe), (.int qe), (.int hq), (.int r6)]) (rest := [(.int (6 : Int32)), (.ref a7)]) rfl (lenOf own_pd12 rfl) rfl (by rw [hml]; rfl) (Nat.le_of_eq rfl) (hb hby at_250) (by decide) (by decide) ?_
            intro v111 T112 h113 L114 X115 q116
            obtain ⟨⟨⟨v6, rfl, rv6⟩, rfl⟩, -⟩ := q116
            show OEnds p e below _ T112 (mkF m 253 #[.val (.int x0), .val (.int x1), .val (.int x2), .val (.int ps), .val (.int hq), .val (.int pt), .val (.int pl), .val (.int ql), .val (.int pe), .val (.int qe), .val (.ref a7), .unset, .unset, .unset, .unset] [(.int v6), (.int (6 : Int32)), (.ref a7)])
            refine X115.stC Ka7_h103 (by decide) (up255 rv6) (i := 6) rfl (Nat.le_of_ble_eq_true rfl) gza7 (hb hby at_253) ?_
            intro T117 h119 X118 W120 Ka7_h119x
            have Ka7_h119 : Arv Z h119 a7 ka7 .char (8 : Int32) [.int v0, .int v1, .int v2, .int v3, .int v4, .int v5, .int v6, .int (0 : Int32)] (.int (0 : Int32)) := Ka7_h119x
            have EBa7_h119 := ext_wr EBa7_h103 W120 (Nat.le_of_eq ga7)
            have Sla_h119 := Sla_h103.wrC W120 Ka7_h103 (hw _ (List.mem_of_getElem? (i := 14) rfl))
            show OEnds p e below _ T117 (mkF m 254 #[.val (.int x0), .val (.int x1), .val (.int x2), .val (.int ps), .val (.int hq), .val (.int pt), .val (.int pl), .val (.int ql), .val (.int pe), .val (.int qe), .val (.ref a7), .unset, .unset, .unset, .unset] [])
            refine OEnds.go (fun _ q => XS.aload X118.here X118.hx rfl (hb hby at_254) rfl rfl q) ?_
            show OEnds p e below _ T117 (mkF m 256 #[.val (.int x0), .val (.int x1), .val (.int x2), .val (.int ps), .val (.int hq), .val (.int pt), .val (.int pl), .val (.int ql), .val (.int pe), .val (.int qe), .val (.ref a7), .unset, .unset, .unset, .unset] [(.ref a7)])
            refine OEnds.go (fun _ q => XS.bipush X118.here X118.hx rfl (hb hby at_256) q) ?_
            show OEnds p e below _ T117 (mkF m 258 #[.val (.int x0), .val (.int x1), .val (.int x2), .val (.int ps), .val (.int hq), .val (.int pt), .val (.int pl), .val (.int ql), .val (.int pe), .val (.int qe), .val (.ref a7), .unset, .unset, .unset, .unset] [(.int (7 : Int32)), (.ref a7)])
            refine OEnds.go (fun _ q => XS.bipush X118.here X118.hx rfl (hb hby at_258) q) ?_
            show OEnds p e below _ T117 (mkF m 260 #[.val (.int x0), .val (.int x1), .val (.int x2), .val (.int ps), .val (.int hq), .val (.int pt), .val (.int pl), .val (.int ql), .val (.int pe), .val (.int qe), .val (.ref a7), .unset, .unset, .unset, .unset] [(.int (7 : Int32)), (.int (7 : Int32)), (.ref a7)])
            refine OEnds.go (fun _ q => XS.iloadN X118.here X118.hx rfl (hb hby at_260) rfl q) ?_
            show OEnds p e below _ T117 (mkF m 261 #[.val (.int x0), .val (.int x1), .val (.int x2), .val (.int ps), .val (.int hq), .val (.int pt), .val (.int pl), .val (.int ql), .val (.int pe), .val (.int qe), .val (.ref a7), .unset, .unset, .unset, .unset] [(.int ps), (.int (7 : Int32)), (.int (7 : Int32)), (.ref a7)])
            refine OEnds.go (fun _ q => XS.iload X118.here X118.hx rfl (hb hby at_261) rfl q) ?_
            show OEnds p e below _ T117 (mkF m 263 #[.val (.int x0), .val (.int x1), .val (.int x2), .val (.int ps), .val (.int hq), .val (.int pt), .val (.int pl), .val (.int ql), .val (.int pe), .val (.int qe), .val (.ref a7), .unset, .unset, .unset, .unset] [(.int pe), (.int ps), (.int (7 : Int32)), (.int (7 : Int32)), (.ref a7)])
            refine OEnds.go (fun _ q => XS.iload X118.here X118.hx rfl (hb hby at_263) rfl q) ?_
            show OEnds p e below _ T117 (mkF m 265 #[.val (.int x0), .val (.int x1), .val (.int x2), .val (.int ps), .val (.int hq), .val (.int pt), .val (.int pl), .val (.int ql), .val (.int pe), .val (.int qe), .val (.ref a7), .unset, .unset, .unset, .unset] [(.int qe), (.int pe), (.int ps), (.int (7 : Int32)), (.int (7 : Int32)), (.ref a7)])
            refine OEnds.go (fun _ q => XS.iload X118.here X118.hx rfl (hb hby at_265) rfl q) ?_
            show OEnds p e below _ T117 (mkF m 267 #[.val (.int x0), .val (.int x1), .val (.int x2), .val (.int ps), .val (.int hq), .val (.int pt), .val (.int pl), .val (.int ql), .val (.int pe), .val (.int qe), .val (.ref a7), .unset, .unset, .unset, .unset] [(.int hq), (.int qe), (.int pe), (.int ps), (.int (7 : Int32)), (.int (7 : Int32)), (.ref a7)])
            refine OEnds.go (fun _ q => XS.iloadN X118.here X118.hx rfl (hb hby at_267) rfl q) ?_
            show OEnds p e below _ T117 (mkF m 268 #[.val (.int x0), .val (.int x1), .val (.int x2), .val (.int ps), .val (.int hq), .val (.int pt), .val (.int pl), .val (.int ql), .val (.int pe), .val (.int qe), .val (.ref a7), .unset, .unset, .unset, .unset] [(.int x0), (.int hq), (.int qe), (.int pe), (.int ps), (.int (7 : Int32)), (.int (7 : Int32)), (.ref a7)])
            refine OEnds.go (fun _ q => XS.iloadN X118.here X118.hx rfl (hb hby at_268) rfl q) ?_
            show OEnds p e below _ T117 (mkF m 269 #[.val (.int x0), .val (.int x1), .val (.int x2), .val (.int ps), .val (.int hq), .val (.int pt), .val (.int pl), .val (.int ql), .val (.int pe), .val (.int qe), .val (.ref a7), .unset, .unset, .unset, .unset] [(.int x1), (.int x0), (.int hq), (.int qe), (.int pe), (.int ps), (.int (7 : Int32)), (.int (7 : Int32)), (.ref a7)])
            refine OEnds.go (fun _ q => XS.bipush X118.here X118.hx rfl (hb hby at_269) q) ?_
            show OEnds p e below _ T117 (mkF m 271 #[.val (.int x0), .val (.int x1), .val (.int x2), .val (.int ps), .val (.int hq), .val (.int pt), .val (.int pl), .val (.int ql), .val (.int pe), .val (.int qe), .val (.ref a7), .unset, .unset, .unset, .unset] [(.int (7 : Int32)), (.int x1), (.int x0), (.int hq), (.int qe), (.int pe), (.int ps), (.int (7 : Int32)), (.int (7 : Int32)), (.ref a7)])
            refine X118.payS (ConN.back (W := 7) (con_raw H x0 x1 (7 : Int32) h119) X118.old X118.hZ  (hw _ (List.mem_of_getElem? (i := 8) rfl)) (hw _ (List.mem_of_getElem? (i := 7) rfl)) (by decide) (by decide)) (okV X118) (hw _ (List.mem_of_getElem? (i := 5) rfl)) (hw _ (List.mem_of_getElem? (i := 6) rfl)) (hw _ (List.mem_of_getElem? (i := 7) rfl)) (hw _ (List.mem_of_getElem? (i := 8) rfl)) (by decide) (argsL := [(.int x0), (.int x1), (.int (7 : Int32))]) (rest := [(.int hq), (.int qe), (.int pe), (.int ps), (.int (7 : Int32)), (.int (7 : Int32)), (.ref a7)]) rfl (lenOf own_pd11 rfl) rfl (by rw [hml]; rfl) (Nat.le_of_eq rfl) (hb hby at_271) (by decide) (by decide) ?_
            intro v121 T122 h123 L124 X125 q126
            obtain ⟨⟨⟨r7, rfl, hr7⟩, rfl⟩, -⟩ := q126
            show OEnds p e below _ T122 (mkF m 274 #[.val (.int x0), .val (.int x1), .val (.int x2), .val (.int ps), .val (.int hq), .val (.int pt), .val (.int pl), .val (.int ql), .val (.int pe), .val (.int qe), .val (.ref a7), .unset, .unset, .unset, .unset] [(.int r7), (.int hq), (.int qe), (.int pe), (.int ps), (.int (7 : Int32)), (.int (7 : Int32)), (.ref a7)])
            refine X125.payS (ConNV.back (W := 2) (con_cell1 H (7 : Int32) ps pe qe hq r7 hr7 la h119 Sla_h119) X125.old X125.hZ (fun vm' hW => hLV.stays hW.wide) (hw _ (List.mem_of_getElem? (i := 11) rfl)) (hw _ (List.mem_of_getElem? (i := 7) rfl)) (by decide) (by decide)) (okV X125) (hw _ (List.mem_of_getElem? (i := 9) rfl)) (hw _ (List.mem_of_getElem? (i := 10) rfl)) (hw _ (List.mem_of_getElem? (i := 7) rfl)) (hw _ (List.mem_of_getElem? (i := 11) rfl)) (by decide) (argsL := [(.int (7 : Int32)), (.int ps), (.int pe), (.int qe), (.int hq), (.int r7)]) (rest := [(.int (7 : Int32)), (.ref a7)]) rfl (lenOf own_pd12 rfl) rfl (by rw [hml]; rfl) (Nat.le_of_eq rfl) (hb hby at_274) (by decide) (by decide) ?_
            intro v127 T128 h129 L130 X131 q132
            obtain ⟨⟨⟨v7, rfl, rv7⟩, rfl⟩, -⟩ := q132
            show OEnds p e below _ T128 (mkF m 277 #[.val (.int x0), .val (.int x1), .val (.int x2), .val (.int ps), .val (.int hq), .val (.int pt), .val (.int pl), .val (.int ql), .val (.int pe), .val (.int qe), .val (.ref a7), .unset, .unset, .unset, .unset] [(.int v7), (.int (7 : Int32)), (.ref a7)])
            refine X131.stC Ka7_h119 (by decide) (up255 rv7) (i := 7) rfl (Nat.le_of_ble_eq_true rfl) gza7 (hb hby at_277) ?_
            intro T133 h135 X134 W136 Ka7_h135x
            have Ka7_h135 : Arv Z h135 a7 ka7 .char (8 : Int32) [.int v0, .int v1, .int v2, .int v3, .int v4, .int v5, .int v6, .int v7] (.int (0 : Int32)) := Ka7_h135x
            have EBa7_h135 := ext_wr EBa7_h119 W136 (Nat.le_of_eq ga7)
            have Sla_h135 := Sla_h119.wrC W136 Ka7_h119 (hw _ (List.mem_of_getElem? (i := 14) rfl))
            show OEnds p e below _ T133 (mkF m 278 #[.val (.int x0), .val (.int x1), .val (.int x2), .val (.int ps), .val (.int hq), .val (.int pt), .val (.int pl), .val (.int ql), .val (.int pe), .val (.int qe), .val (.ref a7), .unset, .unset, .unset, .unset] [])
            refine X134.newO (hw _ (List.mem_of_getElem? (i := 55) rfl)) (hw _ (List.mem_of_getElem? (i := 56) rfl)) (hw _ (List.mem_of_getElem? (i := 57) rfl)) (hb hby at_278) (by decide) (by decide) ?_
            intro T137 h139 a141 ga141 X138 E140 Aa141 Da141 Ua141
            have gza141 : Z.heap.size ≤ a141 := ga141 ▸ X134.old.1
            have Ka7_h139 := Ka7_h135.ext E140
            have EBa7_h139 := ext_trans EBa7_h135 E140
            have Fa141_text : Fld Z h139 a141 "com/example/riden/riden/parse/Components" "text" "Ljava/lang/String;" .null := Da141 (Or.inr (hw _ (List.mem_of_getElem? (i := 84) rfl))) (ty := (FieldType.object "java/lang/String")) (by decide)
            have Fa141_schemeEnd : Fld Z h139 a141 "com/example/riden/riden/parse/Components" "schemeEnd" "I" (.int (0 : Int32)) := Da141 (Or.inr (hw _ (List.mem_of_getElem? (i := 86) rfl))) (ty := FieldType.int) (by decide)
            have Fa141_hostStart : Fld Z h139 a141 "com/example/riden/riden/parse/Components" "hostStart" "I" (.int (0 : Int32)) := Da141 (Or.inr (hw _ (List.mem_of_getElem? (i := 88) rfl))) (ty := FieldType.int) (by decide)
            have Fa141_hostEnd : Fld Z h139 a141 "com/example/riden/riden/parse/Components" "hostEnd" "I" (.int (0 : Int32)) := Da141 (Or.inr (hw _ (List.mem_of_getElem? (i := 90) rfl))) (ty := FieldType.int) (by decide)
            have Fa141_hostKind : Fld Z h139 a141 "com/example/riden/riden/parse/Components" "hostKind" "Lcom/example/riden/riden/model/HostKind;" .null := Da141 (Or.inr (hw _ (List.mem_of_getElem? (i := 92) rfl))) (ty := (FieldType.object "com/example/riden/riden/model/HostKind")) (by decide)
            have Fa141_pathStart : Fld Z h139 a141 "com/example/riden/riden/parse/Components" "pathStart" "I" (.int (0 : Int32)) := Da141 (Or.inr (hw _ (List.mem_of_getElem? (i := 94) rfl))) (ty := FieldType.int) (by decide)
            have Fa141_pathEnd : Fld Z h139 a141 "com/example/riden/riden/parse/Components" "pathEnd" "I" (.int (0 : Int32)) := Da141 (Or.inr (hw _ (List.mem_of_getElem? (i := 96) rfl))) (ty := FieldType.int) (by decide)
            have Fa141_queryEnd : Fld Z h139 a141 "com/example/riden/riden/parse/Components" "queryEnd" "I" (.int (0 : Int32)) := Da141 (Or.inr (hw _ (List.mem_of_getElem? (i := 98) rfl))) (ty := FieldType.int) (by decide)
            show OEnds p e below _ T137 (mkF m 281 #[.val (.int x0), .val (.int x1), .val (.int x2), .val (.int ps), .val (.int hq), .val (.int pt), .val (.int pl), .val (.int ql), .val (.int pe), .val (.int qe), .val (.ref a7), .unset, .unset, .unset, .unset] [(.ref a141)])
            refine OEnds.go (fun _ q => XS.dup X138.here X138.hx rfl (hb hby at_281) rfl rfl q) ?_
            show OEnds p e below _ T137 (mkF m 282 #[.val (.int x0), .val (.int x1), .val (.int x2), .val (.int ps), .val (.int hq), .val (.int pt), .val (.int pl), .val (.int ql), .val (.int pe), .val (.int qe), .val (.ref a7), .unset, .unset, .unset, .unset] [(.ref a141), (.ref a141)])
            refine X138.newO (hw _ (List.mem_of_getElem? (i := 58) rfl)) (hw _ (List.mem_of_getElem? (i := 14) rfl)) (hw _ (List.mem_of_getElem? (i := 13) rfl)) (hb hby at_282) (by decide) (by decide) ?_
            intro T142 h144 a146 ga146 X143 E145 Aa146 Da146 Ua146
            have gza146 : Z.heap.size ≤ a146 := ga146 ▸ X138.old.1
            have Ka7_h144 := Ka7_h139.ext E145
            have Aa141_h144 := Aa141.ext E145
            have Fa141_text_h144 := Fa141_text.ext E145
            have Fa141_schemeEnd_h144 := Fa141_schemeEnd.ext E145
            have Fa141_hostStart_h144 := Fa141_hostStart.ext E145
            have Fa141_hostEnd_h144 := Fa141_hostEnd.ext E145
            have Fa141_hostKind_h144 := Fa141_hostKind.ext E145
            have Fa141_pathStart_h144 := Fa141_pathStart.ext E145
            have Fa141_pathEnd_h144 := Fa141_pathEnd.ext E145
            have Fa141_queryEnd_h144 := Fa141_queryEnd.ext E145
            have EBa7_h144 := ext_trans EBa7_h139 E145
            have EBa141_h144 := ext_trans E140 E145
            have Fa146_value : Fld Z h144 a146 "java/lang/String" "value" "[B" .null := Da146 (Or.inr (hw _ (List.mem_of_getElem? (i := 16) rfl))) (ty := (FieldType.array FieldType.byte)) (by decide)
            have Fa146_coder : Fld Z h144 a146 "java/lang/String" "coder" "B" (.int (0 : Int32)) := Da146 (Or.inr (hw _ (List.mem_of_getElem? (i := 17) rfl))) (ty := FieldType.byte) (by decide)
            show OEnds p e below _ T142 (mkF m 285 #[.val (.int x0), .val (.int x1), .val (.int x2), .val (.int ps), .val (.int hq), .val (.int pt), .val (.int pl), .val (.int ql), .val (.int pe), .val (.int qe), .val (.ref a7), .unset, .unset, .unset, .unset] [(.ref a146), (.ref a141), (.ref a141)])
            refine OEnds.go (fun _ q => XS.dup X143.here X143.hx rfl (hb hby at_285) rfl rfl q) ?_
            show OEnds p e below _ T142 (mkF m 286 #[.val (.int x0), .val (.int x1), .val (.int x2), .val (.int ps), .val (.int hq), .val (.int pt), .val (.int pl), .val (.int ql), .val (.int pe), .val (.int qe), .val (.ref a7), .unset, .unset, .unset, .unset] [(.ref a146), (.ref a146), (.ref a141), (.ref a141)])
            refine OEnds.go (fun _ q => XS.aload X143.here X143.hx rfl (hb hby at_286) rfl rfl q) ?_
            show OEnds p e below _ T142 (mkF m 288 #[.val (.int x0), .val (.int x1), .val (.int x2), .val (.int ps), .val (.int hq), .val (.int pt), .val (.int pl), .val (.int ql), .val (.int pe), .val (.int qe), .val (.ref a7), .unset, .unset, .unset, .unset] [(.ref a7), (.ref a146), (.ref a146), (.ref a141), (.ref a141)])
            refine own_newStr H X143 (cs := [v0, v1, v2, v3, v4, v5, v6, v7]) (j := 8) gza146 Aa146 Fa146_value Fa146_coder Ka7_h144 rfl rfl (by decide) (by decide) (all_cons rv0 (all_cons rv1 (all_cons rv2 (all_cons rv3 (all_cons rv4 (all_cons rv5 (all_cons rv6 (all_cons rv7 all_nil)))))))) (hw _ (List.mem_of_getElem? (i := 59) rfl)) (W := 3) (by decide) (by decide) (by rw [hml]; rfl) (Nat.le_of_eq rfl) (hb hby at_288) (by decide) (by decide) ?_
            intro T147 h149 X148 K150 Str151
            have EBa146_h149 := ext_keep E145 K150 (allS (Nat.le_of_eq ga146) all0)
            have Ka7_h149 := Ka7_h139.ext EBa146_h149
            have Aa141_h149 := Aa141.ext EBa146_h149
            have Fa141_text_h149 := Fa141_text.ext EBa146_h149
            have Fa141_schemeEnd_h149 := Fa141_schemeEnd.ext EBa146_h149
            have Fa141_hostStart_h149 := Fa141_hostStart.ext EBa146_h149
            have Fa141_hostEnd_h149 := Fa141_hostEnd.ext EBa146_h149
            have Fa141_hostKind_h149 := Fa141_hostKind.ext EBa146_h149
            have Fa141_pathStart_h149 := Fa141_pathStart.ext EBa146_h149
            have Fa141_pathEnd_h149 := Fa141_pathEnd.ext EBa146_h149
            have Fa141_queryEnd_h149 := Fa141_queryEnd.ext EBa146_h149
            have EBa7_h149 := ext_keep EBa7_h144 K150 (allS (Nat.le_trans EBa7_h139.1 (Nat.le_of_eq ga146)) all0)
            have EBa141_h149 := ext_keep EBa141_h144 K150 (allS (Nat.le_trans E140.1 (Nat.le_of_eq ga146)) all0)
            show OEnds p e below _ T147 (mkF m 291 #[.val (.int x0), .val (.int x1), .val (.int x2), .val (.int ps), .val (.int hq), .val (.int pt), .val (.int pl), .val (.int ql), .val (.int pe), .val (.int qe), .val (.ref a7), .unset, .unset, .unset, .unset] [(.ref a146), (.ref a141), (.ref a141)])
            refine OEnds.go (fun _ q => XS.iloadN X148.here X148.hx rfl (hb hby at_291) rfl q) ?_
            show OEnds p e below _ T147 (mkF m 292 #[.val (.int x0), .val (.int x1), .val (.int x2), .val (.int ps), .val (.int hq), .val (.int pt), .val (.int pl), .val (.int ql), .val (.int pe), .val (.int qe), .val (.ref a7), .unset, .unset, .unset, .unset] [(.int ps), (.ref a146), (.ref a141), (.ref a141)])
            refine OEnds.go (fun _ q => XS.iconst X148.here X148.hx rfl (hb hby at_292) q) ?_
            show OEnds p e below _ T147 (mkF m 293 #[.val (.int x0), .val (.int x1), .val (.int x2), .val (.int ps), .val (.int hq), .val (.int pt), .val (.int pl), .val (.int ql), .val (.int pe), .val (.int qe), .val (.ref a7), .unset, .unset, .unset, .unset] [(.int (2 : Int32)), (.int ps), (.ref a146), (.ref a141), (.ref a141)])
            have J6 : ∀ (se : Int32), OEnds p e below (GW Z consts_1 s (fun r h => r = some (.int 1)) room_1.cells room_1.slots) T147 (mkF m 301 #[.val (.int x0), .val (.int x1), .val (.int x2), .val (.int ps), .val (.int hq), .val (.int pt), .val (.int pl), .val (.int ql), .val (.int pe), .val (.int qe), .val (.ref a7), .unset, .unset, .unset, .unset] [(.int se), (.ref a146), (.ref a141), (.ref a141)]) := by
              intro se 
              refine OEnds.go (fun _ q => XS.iconst X148.here X148.hx rfl (hb hby at_301) q) ?_
              show OEnds p e below _ T147 (mkF m 302 #[.val (.int x0), .val (.int x1), .val (.int x2), .val (.int ps), .val (.int hq), .val (.int pt), .val (.int pl), .val (.int ql), .val (.int pe), .val (.int qe), .val (.ref a7), .unset, .unset, .unset, .unset] [(.int (-1 : Int32)), (.int se), (.ref a146), (.ref a141), (.ref a141)])
              refine OEnds.go (fun _ q => XS.iconst X148.here X148.hx rfl (hb hby at_302) q) ?_
              show OEnds p e below _ T147 (mkF m 303 #[.val (.int x0), .val (.int x1), .val (.int x2), .val (.int ps), .val (.int hq), .val (.int pt), .val (.int pl), .val (.int ql), .val (.int pe), .val (.int qe), .val (.ref a7), .unset, .unset, .unset, .unset] [(.int (-1 : Int32)), (.int (-1 : Int32)), (.int se), (.ref a146), (.ref a141), (.ref a141)])
              refine OEnds.go (fun _ q => XS.aconstNull X148.here X148.hx rfl (hb hby at_303) q) ?_
              show OEnds p e below _ T147 (mkF m 304 #[.val (.int x0), .val (.int x1), .val (.int x2), .val (.int ps), .val (.int hq), .val (.int pt), .val (.int pl), .val (.int ql), .val (.int pe), .val (.int qe), .val (.ref a7), .unset, .unset, .unset, .unset] [(.null), (.int (-1 : Int32)), (.int (-1 : Int32)), (.int se), (.ref a146), (.ref a141), (.ref a141)])
              refine OEnds.go (fun _ q => XS.iloadN X148.here X148.hx rfl (hb hby at_304) rfl q) ?_
              show OEnds p e below _ T147 (mkF m 305 #[.val (.int x0), .val (.int x1), .val (.int x2), .val (.int ps), .val (.int hq), .val (.int pt), .val (.int pl), .val (.int ql), .val (.int pe), .val (.int qe), .val (.ref a7), .unset, .unset, .unset, .unset] [(.int ps), (.null), (.int (-1 : Int32)), (.int (-1 : Int32)), (.int se), (.ref a146), (.ref a141), (.ref a141)])
              refine OEnds.go (fun _ q => XS.iload X148.here X148.hx rfl (hb hby at_305) rfl q) ?_
              show OEnds p e below _ T147 (mkF m 307 #[.val (.int x0), .val (.int x1), .val (.int x2), .val (.int ps), .val (.int hq), .val (.int pt), .val (.int pl), .val (.int ql), .val (.int pe), .val (.int qe), .val (.ref a7), .unset, .unset, .unset, .unset] [(.int pe), (.int ps), (.null), (.int (-1 : Int32)), (.int (-1 : Int32)), (.int se), (.ref a146), (.ref a141), (.ref a141)])
              refine OEnds.go (fun _ q => XS.iload X148.here X148.hx rfl (hb hby at_307) rfl q) ?_
              show OEnds p e below _ T147 (mkF m 309 #[.val (.int x0), .val (.int x1), .val (.int x2), .val (.int ps), .val (.int hq), .val (.int pt), .val (.int pl), .val (.int ql), .val (.int pe), .val (.int qe), .val (.ref a7), .unset, .unset, .unset, .unset] [(.int qe), (.int pe), (.int ps), (.null), (.int (-1 : Int32)), (.int (-1 : Int32)), (.int se), (.ref a146), (.ref a141), (.ref a141)])
              refine X148.callI hE (con_cmp H a141 a146 se (-1 : Int32) (-1 : Int32) .null ps pe qe rfl gza141 h149 Aa141_h149 Fa141_text_h149 Fa141_schemeEnd_h149 Fa141_hostStart_h149 Fa141_hostEnd_h149 Fa141_hostKind_h149 Fa141_pathStart_h149 Fa141_pathEnd_h149 Fa141_queryEnd_h149) (hw _ (List.mem_of_getElem? (i := 79) rfl)) (hw _ (List.mem_of_getElem? (i := 80) rfl)) (hw _ (List.mem_of_getElem? (i := 57) rfl)) (hw _ (List.mem_of_getElem? (i := 81) rfl)) rfl (by decide) (W := 1) (by decide) (by decide) (a := a141) (argsL := [(.ref a146), (.int se), (.int (-1 : Int32)), (.int (-1 : Int32)), (.null), (.int ps), (.int pe), (.int qe)]) (rest := [(.ref a141)]) rfl (lenOf own_pd13 rfl) rfl (by rw [hml]; rfl) (Nat.le_of_eq rfl) (hb hby at_309) (by decide) (by decide) ?_
              intro v167 vm165 T162 h164 X163 C166 q168
              obtain ⟨rfl, K152, E153, Ff154_text, Ff155_schemeEnd, Ff156_hostStart, Ff157_hostEnd, Ff158_hostKind, Ff159_pathStart, Ff160_pathEnd, Ff161_queryEnd⟩ := q168
              have EBa141_h164 := ext_keep EBa141_h149 K152 (allS (Nat.le_of_eq ga141) all0)
              have Ka7_h164 := Ka7_h135.ext EBa141_h164
              have Str151_h164 := Str151.keepX K152 Aa141_h149 (hw _ (List.mem_of_getElem? (i := 56) rfl)) (by decide)
              show OEnds p e below _ T162 (mkF m 312 #[.val (.int x0), .val (.int x1), .val (.int x2), .val (.int ps), .val (.int hq), .val (.int pt), .val (.int pl), .val (.int ql), .val (.int pe), .val (.int qe), .val (.ref a7), .unset, .unset, .unset, .unset] [(.ref a141)])
              refine OEnds.go (fun _ q => XS.astore X163.here X163.hx rfl (hb hby at_312) rfl rfl (l' := #[.val (.int x0), .val (.int x1), .val (.int x2), .val (.int ps), .val (.int hq), .val (.int pt), .val (.int pl), .val (.int ql), .val (.int pe), .val (.int qe), .val (.ref a7), .val (.ref a141), .unset, .unset, .unset]) rfl q) ?_
              show OEnds p e below _ T162 (mkF m 314 #[.val (.int x0), .val (.int x1), .val (.int x2), .val (.int ps), .val (.int hq), .val (.int pt), .val (.int pl), .val (.int ql), .val (.int pe), .val (.int qe), .val (.ref a7), .val (.ref a141), .unset, .unset, .unset] [])
              refine OEnds.go (fun _ q => XS.aload X163.here X163.hx rfl (hb hby at_314) rfl rfl q) ?_
              show OEnds p e below _ T162 (mkF m 316 #[.val (.int x0), .val (.int x1), .val (.int x2), .val (.int ps), .val (.int hq), .val (.int pt), .val (.int pl), .val (.int ql), .val (.int pe), .val (.int qe), .val (.ref a7), .val (.ref a141), .unset, .unset, .unset] [(.ref a141)])
              by_cases hq0 : hq = 0
              · skip
                refine X163.callV hE (con_q0 H a141 pe qe (hqe.elim (fun q => q.2) (fun q => absurd hq0 q.1)) h164 Ff160_pathEnd Ff161_queryEnd) (hw _ (List.mem_of_getElem? (i := 99) rfl)) (hw _ (List.mem_of_getElem? (i := 100) rfl)) (hw _ (List.mem_of_getElem? (i := 102) rfl)) (hw _ (List.mem_of_getElem? (i := 101) rfl)) (hw _ (List.mem_of_getElem? (i := 57) rfl)) (hw _ (List.mem_of_getElem? (i := 103) rfl)) (X163.nf (hw _ (List.mem_of_getElem? (i := 102) rfl))) (by decide) (W := 0) (by decide) (by decide) E153 (argsL := []) (rest := []) rfl (lenOf own_pd14 rfl) rfl (by rw [hml]; rfl) (Nat.le_of_eq rfl) (hb hby at_316) (by decide) (by decide) ?_
                intro v174 vm172 T169 h171 X170 C173 q175
                obtain ⟨rfl, rfl⟩ := q175
                show OEnds p e below _ T169 (mkF m 319 #[.val (.int x0), .val (.int x1), .val (.int x2), .val (.int ps), .val (.int hq), .val (.int pt), .val (.int pl), .val (.int ql), .val (.int pe), .val (.int qe), .val (.ref a7), .val (.ref a141), .unset, .unset, .unset] [(.null)])
                refine OEnds.go (fun _ q => XS.astore X170.here X170.hx rfl (hb hby at_319) rfl rfl (l' := #[.val (.int x0), .val (.int x1), .val (.int x2), .val (.int ps), .val (.int hq), .val (.int pt), .val (.int pl), .val (.int ql), .val (.int pe), .val (.int qe), .val (.ref a7), .val (.ref a141), .val (.null), .unset, .unset]) rfl q) ?_
                show OEnds p e below _ T169 (mkF m 321 #[.val (.int x0), .val (.int x1), .val (.int x2), .val (.int ps), .val (.int hq), .val (.int pt), .val (.int pl), .val (.int ql), .val (.int pe), .val (.int qe), .val (.ref a7), .val (.ref a141), .val (.null), .unset, .unset] [])
                refine OEnds.go (fun _ q => XS.iload X170.here X170.hx rfl (hb hby at_321) rfl q) ?_
                show OEnds p e below _ T169 (mkF m 323 #[.val (.int x0), .val (.int x1), .val (.int x2), .val (.int ps), .val (.int hq), .val (.int pt), .val (.int pl), .val (.int ql), .val (.int pe), .val (.int qe), .val (.ref a7), .val (.ref a141), .val (.null), .unset, .unset] [(.int hq)])
                refine OEnds.go (fun _ q => XS.ifNo X170.here X170.hx rfl (hb hby at_323) rfl ((if0 _ _).trans (teq hq0).2) q) ?_
                show OEnds p e below _ T169 (mkF m 326 #[.val (.int x0), .val (.int x1), .val (.int x2), .val (.int ps), .val (.int hq), .val (.int pt), .val (.int pl), .val (.int ql), .val (.int pe), .val (.int qe), .val (.ref a7), .val (.ref a141), .val (.null), .unset, .unset] [])
                refine OEnds.go (fun _ q => XS.aload X170.here X170.hx rfl (hb hby at_326) rfl rfl q) ?_
                show OEnds p e below _ T169 (mkF m 328 #[.val (.int x0), .val (.int x1), .val (.int x2), .val (.int ps), .val (.int hq), .val (.int pt), .val (.int pl), .val (.int ql), .val (.int pe), .val (.int qe), .val (.ref a7), .val (.ref a141), .val (.null), .unset, .unset] [(.null)])
                refine OEnds.go (fun _ q => XS.ifnonnullNo X170.here X170.hx rfl (hb hby at_328) rfl q) ?_
                show OEnds p e below _ T169 (mkF m 331 #[.val (.int x0), .val (.int x1), .val (.int x2), .val (.int ps), .val (.int hq), .val (.int pt), .val (.int pl), .val (.int ql), .val (.int pe), .val (.int qe), .val (.ref a7), .val (.ref a141), .val (.null), .unset, .unset] [])
                refine OEnds.go (fun _ q => XS.iconst X170.here X170.hx rfl (hb hby at_331) q) ?_
                show OEnds p e below _ T169 (mkF m 332 #[.val (.int x0), .val (.int x1), .val (.int x2), .val (.int ps), .val (.int hq), .val (.int pt), .val (.int pl), .val (.int ql), .val (.int pe), .val (.int qe), .val (.ref a7), .val (.ref a141), .val (.null), .unset, .unset] [(.int (1 : Int32))])
                refine OEnds.go (fun _ q => XS.goto X170.here X170.hx rfl (pc0 := 332) (pc' := 336) rfl (hb hby at_332) (by decide) (by decide) q) ?_
                show OEnds p e below _ T169 (mkF m 336 #[.val (.int x0), .val (.int x1), .val (.int x2), .val (.int ps), .val (.int hq), .val (.int pt), .val (.int pl), .val (.int ql), .val (.int pe), .val (.int qe), .val (.ref a7), .val (.ref a141), .val (.null), .unset, .unset] [(.int (1 : Int32))])
                exact X170.retBool hE hlk (by first | exact Or.inl rfl | exact Or.inr rfl | assumption) hret (hb hby at_336) (by decide) (by decide) rfl
              · skip
                obtain ⟨-, PE, QE, rfl, rfl, k1, k2⟩ := hqe.resolve_left (fun q => hq0 q.1)
                show OEnds p e below _ T162 (mkF m 316 #[.val (.int x0), .val (.int x1), .val (.int x2), .val (.int ps), .val (.int hq), .val (.int pt), .val (.int pl), .val (.int ql), .val (.int (Int32.ofNat PE)), .val (.int (Int32.ofNat QE)), .val (.ref a7), .val (.ref a141), .unset, .unset, .unset] [(.ref a141)])
                refine X163.callV hE (con_q1 H a141 a146 [v0, v1, v2, v3, v4, v5, v6, v7] PE QE k1 k2 (Nat.le_of_ble_eq_true rfl) h164 Ff160_pathEnd Ff161_queryEnd Ff154_text Str151_h164) (hw _ (List.mem_of_getElem? (i := 99) rfl)) (hw _ (List.mem_of_getElem? (i := 100) rfl)) (hw _ (List.mem_of_getElem? (i := 102) rfl)) (hw _ (List.mem_of_getElem? (i := 101) rfl)) (hw _ (List.mem_of_getElem? (i := 57) rfl)) (hw _ (List.mem_of_getElem? (i := 103) rfl)) (X163.nf (hw _ (List.mem_of_getElem? (i := 102) rfl))) (by decide) (W := 0) (by decide) (by decide) E153 (argsL := []) (rest := []) rfl (lenOf own_pd14 rfl) rfl (by rw [hml]; rfl) (Nat.le_of_eq rfl) (hb hby at_316) (by decide) (by decide) ?_
                intro v181 vm179 T176 h178 X177 C180 q182
                obtain ⟨yy, rfl, Ey, Sy⟩ := q182
                have Ka7_h178 := Ka7_h164.ext Ey
                have Str151_h178 := Str151_h164.ext Ey
                have E153_h178 := E153.ext Ey
                have Ff154_text_h178 := Ff154_text.ext Ey
                have Ff160_pathEnd_h178 := Ff160_pathEnd.ext Ey
                have Ff161_queryEnd_h178 := Ff161_queryEnd.ext Ey
                show OEnds p e below _ T176 (mkF m 319 #[.val (.int x0), .val (.int x1), .val (.int x2), .val (.int ps), .val (.int hq), .val (.int pt), .val (.int pl), .val (.int ql), .val (.int (Int32.ofNat PE)), .val (.int (Int32.ofNat QE)), .val (.ref a7), .val (.ref a141), .unset, .unset, .unset] [(.ref yy)])
                obtain ⟨ds, hds⟩ : ∃ z : List Int32, z = (([v0, v1, v2, v3, v4, v5, v6, v7] : List Int32).drop (PE + 1)).take (QE - (PE + 1)) := ⟨_, rfl⟩
                rw [← hds] at Sy
                obtain ⟨hf1, hf2⟩ := own_fin rfl k1 k2 hds
                refine OEnds.go (fun _ q => XS.astore X177.here X177.hx rfl (hb hby at_319) rfl rfl (l' := #[.val (.int x0), .val (.int x1), .val (.int x2), .val (.int ps), .val (.int hq), .val (.int pt), .val (.int pl), .val (.int ql), .val (.int (Int32.ofNat PE)), .val (.int (Int32.ofNat QE)), .val (.ref a7), .val (.ref a141), .val (.ref yy), .unset, .unset]) rfl q) ?_
                show OEnds p e below _ T176 (mkF m 321 #[.val (.int x0), .val (.int x1), .val (.int x2), .val (.int ps), .val (.int hq), .val (.int pt), .val (.int pl), .val (.int ql), .val (.int (Int32.ofNat PE)), .val (.int (Int32.ofNat QE)), .val (.ref a7), .val (.ref a141), .val (.ref yy), .unset, .unset] [])
                refine OEnds.go (fun _ q => XS.iload X177.here X177.hx rfl (hb hby at_321) rfl q) ?_
                show OEnds p e below _ T176 (mkF m 323 #[.val (.int x0), .val (.int x1), .val (.int x2), .val (.int ps), .val (.int hq), .val (.int pt), .val (.int pl), .val (.int ql), .val (.int (Int32.ofNat PE)), .val (.int (Int32.ofNat QE)), .val (.ref a7), .val (.ref a141), .val (.ref yy), .unset, .unset] [(.int hq)])
                refine OEnds.go (fun _ q => XS.ifYes X177.here X177.hx rfl (pc0 := 323) (pc' := 337) rfl (hb hby at_323) rfl ((if0 _ _).trans (feq hq0).2) (by decide) (by decide) q) ?_
                show OEnds p e below _ T176 (mkF m 337 #[.val (.int x0), .val (.int x1), .val (.int x2), .val (.int ps), .val (.int hq), .val (.int pt), .val (.int pl), .val (.int ql), .val (.int (Int32.ofNat PE)), .val (.int (Int32.ofNat QE)), .val (.ref a7), .val (.ref a141), .val (.ref yy), .unset, .unset] [])
                refine OEnds.go (fun _ q => XS.iload X177.here X177.hx rfl (hb hby at_337) rfl q) ?_
                show OEnds p e below _ T176 (mkF m 339 #[.val (.int x0), .val (.int x1), .val (.int x2), .val (.int ps), .val (.int hq), .val (.int pt), .val (.int pl), .val (.int ql), .val (.int (Int32.ofNat PE)), .val (.int (Int32.ofNat QE)), .val (.ref a7), .val (.ref a141), .val (.ref yy), .unset, .unset] [(.int (Int32.ofNat QE))])
                refine OEnds.go (fun _ q => XS.iload X177.here X177.hx rfl (hb hby at_339) rfl q) ?_
                show OEnds p e below _ T176 (mkF m 341 #[.val (.int x0), .val (.int x1), .val (.int x2), .val (.int ps), .val (.int hq), .val (.int pt), .val (.int pl), .val (.int ql), .val (.int (Int32.ofNat PE)), .val (.int (Int32.ofNat QE)), .val (.ref a7), .val (.ref a141), .val (.ref yy), .unset, .unset] [(.int (Int32.ofNat PE)), (.int (Int32.ofNat QE))])
                refine OEnds.go (fun _ q => XS.isub X177.here X177.hx rfl (hb hby at_341) rfl q) ?_
                show OEnds p e below _ T176 (mkF m 342 #[.val (.int x0), .val (.int x1), .val (.int x2), .val (.int ps), .val (.int hq), .val (.int pt), .val (.int pl), .val (.int ql), .val (.int (Int32.ofNat PE)), .val (.int (Int32.ofNat QE)), .val (.ref a7), .val (.ref a141), .val (.ref yy), .unset, .unset] [(.int ((Int32.ofNat QE) - (Int32.ofNat PE)))])
                rw [ofN_sub (by omega) (by omega)]
                show OEnds p e below _ T176 (mkF m 342 #[.val (.int x0), .val (.int x1), .val (.int x2), .val (.int ps), .val (.int hq), .val (.int pt), .val (.int pl), .val (.int ql), .val (.int (Int32.ofNat PE)), .val (.int (Int32.ofNat QE)), .val (.ref a7), .val (.ref a141), .val (.ref yy), .unset, .unset] [(.int (Int32.ofNat (QE - PE)))])
                refine OEnds.go (fun _ q => XS.iconst X177.here X177.hx rfl (hb hby at_342) q) ?_
                show OEnds p e below _ T176 (mkF m 343 #[.val (.int x0), .val (.int x1), .val (.int x2), .val (.int ps), .val (.int hq), .val (.int pt), .val (.int pl), .val (.int ql), .val (.int (Int32.ofNat PE)), .val (.int (Int32.ofNat QE)), .val (.ref a7), .val (.ref a141), .val (.ref yy), .unset, .unset] [(.int (1 : Int32)), (.int (Int32.ofNat (QE - PE)))])
                refine OEnds.go (fun _ q => XS.isub X177.here X177.hx rfl (hb hby at_343) rfl q) ?_
                show OEnds p e below _ T176 (mkF m 344 #[.val (.int x0), .val (.int x1), .val (.int x2), .val (.int ps), .val (.int hq), .val (.int pt), .val (.int pl), .val (.int ql), .val (.int (Int32.ofNat PE)), .val (.int (Int32.ofNat QE)), .val (.ref a7), .val (.ref a141), .val (.ref yy), .unset, .unset] [(.int ((Int32.ofNat (QE - PE)) - (1 : Int32)))])
                rw [ofN_sub1 (by omega) (by omega)]
                show OEnds p e below _ T176 (mkF m 344 #[.val (.int x0), .val (.int x1), .val (.int x2), .val (.int ps), .val (.int hq), .val (.int pt), .val (.int pl), .val (.int ql), .val (.int (Int32.ofNat PE)), .val (.int (Int32.ofNat QE)), .val (.ref a7), .val (.ref a141), .val (.ref yy), .unset, .unset] [(.int (Int32.ofNat (QE - PE - 1)))])
                refine OEnds.go (fun _ q => XS.istore X177.here X177.hx rfl (hb hby at_344) rfl (l' := #[.val (.int x0), .val (.int x1), .val (.int x2), .val (.int ps), .val (.int hq), .val (.int pt), .val (.int pl), .val (.int ql), .val (.int (Int32.ofNat PE)), .val (.int (Int32.ofNat QE)), .val (.ref a7), .val (.ref a141), .val (.ref yy), .val (.int (Int32.ofNat (QE - PE - 1))), .unset]) rfl q) ?_
                show OEnds p e below _ T176 (mkF m 346 #[.val (.int x0), .val (.int x1), .val (.int x2), .val (.int ps), .val (.int hq), .val (.int pt), .val (.int pl), .val (.int ql), .val (.int (Int32.ofNat PE)), .val (.int (Int32.ofNat QE)), .val (.ref a7), .val (.ref a141), .val (.ref yy), .val (.int (Int32.ofNat (QE - PE - 1))), .unset] [])
                refine OEnds.go (fun _ q => XS.iload X177.here X177.hx rfl (hb hby at_346) rfl q) ?_
                show OEnds p e below _ T176 (mkF m 348 #[.val (.int x0), .val (.int x1), .val (.int x2), .val (.int ps), .val (.int hq), .val (.int pt), .val (.int pl), .val (.int ql), .val (.int (Int32.ofNat PE)), .val (.int (Int32.ofNat QE)), .val (.ref a7), .val (.ref a141), .val (.ref yy), .val (.int (Int32.ofNat (QE - PE - 1))), .unset] [(.int (Int32.ofNat PE))])
                refine OEnds.go (fun _ q => XS.iconst X177.here X177.hx rfl (hb hby at_348) q) ?_
                show OEnds p e below _ T176 (mkF m 349 #[.val (.int x0), .val (.int x1), .val (.int x2), .val (.int ps), .val (.int hq), .val (.int pt), .val (.int pl), .val (.int ql), .val (.int (Int32.ofNat PE)), .val (.int (Int32.ofNat QE)), .val (.ref a7), .val (.ref a141), .val (.ref yy), .val (.int (Int32.ofNat (QE - PE - 1))), .unset] [(.int (1 : Int32)), (.int (Int32.ofNat PE))])
                refine OEnds.go (fun _ q => XS.iadd X177.here X177.hx rfl (hb hby at_349) rfl q) ?_
                show OEnds p e below _ T176 (mkF m 350 #[.val (.int x0), .val (.int x1), .val (.int x2), .val (.int ps), .val (.int hq), .val (.int pt), .val (.int pl), .val (.int ql), .val (.int (Int32.ofNat PE)), .val (.int (Int32.ofNat QE)), .val (.ref a7), .val (.ref a141), .val (.ref yy), .val (.int (Int32.ofNat (QE - PE - 1))), .unset] [(.int ((Int32.ofNat PE) + (1 : Int32)))])
                rw [ofN_succ (by omega)]
                show OEnds p e below _ T176 (mkF m 350 #[.val (.int x0), .val (.int x1), .val (.int x2), .val (.int ps), .val (.int hq), .val (.int pt), .val (.int pl), .val (.int ql), .val (.int (Int32.ofNat PE)), .val (.int (Int32.ofNat QE)), .val (.ref a7), .val (.ref a141), .val (.ref yy), .val (.int (Int32.ofNat (QE - PE - 1))), .unset] [(.int (Int32.ofNat (PE + 1)))])
                refine OEnds.go (fun _ q => XS.istore X177.here X177.hx rfl (hb hby at_350) rfl (l' := #[.val (.int x0), .val (.int x1), .val (.int x2), .val (.int ps), .val (.int hq), .val (.int pt), .val (.int pl), .val (.int ql), .val (.int (Int32.ofNat PE)), .val (.int (Int32.ofNat QE)), .val (.ref a7), .val (.ref a141), .val (.ref yy), .val (.int (Int32.ofNat (QE - PE - 1))), .val (.int (Int32.ofNat (PE + 1)))]) rfl q) ?_
                show OEnds p e below _ T176 (mkF m 352 #[.val (.int x0), .val (.int x1), .val (.int x2), .val (.int ps), .val (.int hq), .val (.int pt), .val (.int pl), .val (.int ql), .val (.int (Int32.ofNat PE)), .val (.int (Int32.ofNat QE)), .val (.ref a7), .val (.ref a141), .val (.ref yy), .val (.int (Int32.ofNat (QE - PE - 1))), .val (.int (Int32.ofNat (PE + 1)))] [])
                refine OEnds.go (fun _ q => XS.aload X177.here X177.hx rfl (hb hby at_352) rfl rfl q) ?_
                show OEnds p e below _ T176 (mkF m 354 #[.val (.int x0), .val (.int x1), .val (.int x2), .val (.int ps), .val (.int hq), .val (.int pt), .val (.int pl), .val (.int ql), .val (.int (Int32.ofNat PE)), .val (.int (Int32.ofNat QE)), .val (.ref a7), .val (.ref a141), .val (.ref yy), .val (.int (Int32.ofNat (QE - PE - 1))), .val (.int (Int32.ofNat (PE + 1)))] [(.ref yy)])
                refine OEnds.go (fun _ q => XS.ifnullNo X177.here X177.hx rfl (hb hby at_354) rfl q) ?_
                show OEnds p e below _ T176 (mkF m 357 #[.val (.int x0), .val (.int x1), .val (.int x2), .val (.int ps), .val (.int hq), .val (.int pt), .val (.int pl), .val (.int ql), .val (.int (Int32.ofNat PE)), .val (.int (Int32.ofNat QE)), .val (.ref a7), .val (.ref a141), .val (.ref yy), .val (.int (Int32.ofNat (QE - PE - 1))), .val (.int (Int32.ofNat (PE + 1)))] [])
                refine OEnds.go (fun _ q => XS.aload X177.here X177.hx rfl (hb hby at_357) rfl rfl q) ?_
                show OEnds p e below _ T176 (mkF m 359 #[.val (.int x0), .val (.int x1), .val (.int x2), .val (.int ps), .val (.int hq), .val (.int pt), .val (.int pl), .val (.int ql), .val (.int (Int32.ofNat PE)), .val (.int (Int32.ofNat QE)), .val (.ref a7), .val (.ref a141), .val (.ref yy), .val (.int (Int32.ofNat (QE - PE - 1))), .val (.int (Int32.ofNat (PE + 1)))] [(.ref yy)])
                refine X177.payV (own_len H (W := 0) X177.hZ X177.old Sy (by decide) (by decide)) (okPure X177) (hw _ (List.mem_of_getElem? (i := 20) rfl)) (hw _ (List.mem_of_getElem? (i := 21) rfl)) (hw _ (List.mem_of_getElem? (i := 23) rfl)) (hw _ (List.mem_of_getElem? (i := 22) rfl)) (X177.nf (hw _ (List.mem_of_getElem? (i := 23) rfl))) (by decide) Sy.exa (argsL := []) (rest := []) rfl (lenOf own_pd5 rfl) rfl (by rw [hml]; rfl) (Nat.le_of_eq rfl) (hb hby at_359) (by decide) (by decide) ?_
                intro v183 T184 h185 L186 X187 q188
                obtain ⟨rfl, -, e189⟩ := q188
                obtain rfl := e189.symm
                show OEnds p e below _ T184 (mkF m 362 #[.val (.int x0), .val (.int x1), .val (.int x2), .val (.int ps), .val (.int hq), .val (.int pt), .val (.int pl), .val (.int ql), .val (.int (Int32.ofNat PE)), .val (.int (Int32.ofNat QE)), .val (.ref a7), .val (.ref a141), .val (.ref yy), .val (.int (Int32.ofNat (QE - PE - 1))), .val (.int (Int32.ofNat (PE + 1)))] [(.int (Int32.ofNat ds.length))])
                refine OEnds.go (fun _ q => XS.iload X187.here X187.hx rfl (hb hby at_362) rfl q) ?_
                show OEnds p e below _ T184 (mkF m 364 #[.val (.int x0), .val (.int x1), .val (.int x2), .val (.int ps), .val (.int hq), .val (.int pt), .val (.int pl), .val (.int ql), .val (.int (Int32.ofNat PE)), .val (.int (Int32.ofNat QE)), .val (.ref a7), .val (.ref a141), .val (.ref yy), .val (.int (Int32.ofNat (QE - PE - 1))), .val (.int (Int32.ofNat (PE + 1)))] [(.int (Int32.ofNat (QE - PE - 1))), (.int (Int32.ofNat ds.length))])
                refine OEnds.go (fun _ q => XS.icmpNo X187.here X187.hx rfl (hb hby at_364) rfl (teq (congrArg Int32.ofNat hf1)).2 q) ?_
                show OEnds p e below _ T184 (mkF m 367 #[.val (.int x0), .val (.int x1), .val (.int x2), .val (.int ps), .val (.int hq), .val (.int pt), .val (.int pl), .val (.int ql), .val (.int (Int32.ofNat PE)), .val (.int (Int32.ofNat QE)), .val (.ref a7), .val (.ref a141), .val (.ref yy), .val (.int (Int32.ofNat (QE - PE - 1))), .val (.int (Int32.ofNat (PE + 1)))] [])
                refine OEnds.go (fun _ q => XS.aload X187.here X187.hx rfl (hb hby at_367) rfl rfl q) ?_
                show OEnds p e below _ T184 (mkF m 369 #[.val (.int x0), .val (.int x1), .val (.int x2), .val (.int ps), .val (.int hq), .val (.int pt), .val (.int pl), .val (.int ql), .val (.int (Int32.ofNat PE)), .val (.int (Int32.ofNat QE)), .val (.ref a7), .val (.ref a141), .val (.ref yy), .val (.int (Int32.ofNat (QE - PE - 1))), .val (.int (Int32.ofNat (PE + 1)))] [(.ref yy)])
                refine OEnds.go (fun _ q => XS.aload X187.here X187.hx rfl (hb hby at_369) rfl rfl q) ?_
                show OEnds p e below _ T184 (mkF m 371 #[.val (.int x0), .val (.int x1), .val (.int x2), .val (.int ps), .val (.int hq), .val (.int pt), .val (.int pl), .val (.int ql), .val (.int (Int32.ofNat PE)), .val (.int (Int32.ofNat QE)), .val (.ref a7), .val (.ref a141), .val (.ref yy), .val (.int (Int32.ofNat (QE - PE - 1))), .val (.int (Int32.ofNat (PE + 1)))] [(.ref a7), (.ref yy)])
                refine OEnds.go (fun _ q => XS.iload X187.here X187.hx rfl (hb hby at_371) rfl q) ?_
                show OEnds p e below _ T184 (mkF m 373 #[.val (.int x0), .val (.int x1), .val (.int x2), .val (.int ps), .val (.int hq), .val (.int pt), .val (.int pl), .val (.int ql), .val (.int (Int32.ofNat PE)), .val (.int (Int32.ofNat QE)), .val (.ref a7), .val (.ref a141), .val (.ref yy), .val (.int (Int32.ofNat (QE - PE - 1))), .val (.int (Int32.ofNat (PE + 1)))] [(.int (Int32.ofNat (PE + 1))), (.ref a7), (.ref yy)])
                refine OEnds.go (fun _ q => XS.iconst X187.here X187.hx rfl (hb hby at_373) q) ?_
                show OEnds p e below _ T184 (mkF m 374 #[.val (.int x0), .val (.int x1), .val (.int x2), .val (.int ps), .val (.int hq), .val (.int pt), .val (.int pl), .val (.int ql), .val (.int (Int32.ofNat PE)), .val (.int (Int32.ofNat QE)), .val (.ref a7), .val (.ref a141), .val (.ref yy), .val (.int (Int32.ofNat (QE - PE - 1))), .val (.int (Int32.ofNat (PE + 1)))] [(.int (0 : Int32)), (.int (Int32.ofNat (PE + 1))), (.ref a7), (.ref yy)])
                refine X187.callS hE (con_at H yy a7 (0 : Int32) (Int32.ofNat (PE + 1)) _ ds [v0, v1, v2, v3, v4, v5, v6, v7] (hf2 0 (by decide)) h178 Sy Ka7_h178) (hw _ (List.mem_of_getElem? (i := 120) rfl)) (hw _ (List.mem_of_getElem? (i := 121) rfl)) (hw _ (List.mem_of_getElem? (i := 7) rfl)) (hw _ (List.mem_of_getElem? (i := 122) rfl))  (by decide) (W := 0) (by decide) (by decide) (argsL := [(.ref yy), (.ref a7), (.int (Int32.ofNat (PE + 1))), (.int (0 : Int32))]) (rest := []) rfl (lenOf own_pd15 rfl) rfl (by rw [hml]; rfl) (Nat.le_of_eq rfl) (hb hby at_374) (by decide) (by decide) ?_
                intro v195 vm193 T190 h192 X191 C194 q196
                obtain ⟨rfl, rfl⟩ := q196
                show OEnds p e below _ T190 (mkF m 377 #[.val (.int x0), .val (.int x1), .val (.int x2), .val (.int ps), .val (.int hq), .val (.int pt), .val (.int pl), .val (.int ql), .val (.int (Int32.ofNat PE)), .val (.int (Int32.ofNat QE)), .val (.ref a7), .val (.ref a141), .val (.ref yy), .val (.int (Int32.ofNat (QE - PE - 1))), .val (.int (Int32.ofNat (PE + 1)))] [(.int (1 : Int32))])
                refine OEnds.go (fun _ q => XS.ifNo X191.here X191.hx rfl (hb hby at_377) rfl ((if0 _ _).trans (feq (by decide)).1) q) ?_
                show OEnds p e below _ T190 (mkF m 380 #[.val (.int x0), .val (.int x1), .val (.int x2), .val (.int ps), .val (.int hq), .val (.int pt), .val (.int pl), .val (.int ql), .val (.int (Int32.ofNat PE)), .val (.int (Int32.ofNat QE)), .val (.ref a7), .val (.ref a141), .val (.ref yy), .val (.int (Int32.ofNat (QE - PE - 1))), .val (.int (Int32.ofNat (PE + 1)))] [])
                refine OEnds.go (fun _ q => XS.aload X191.here X191.hx rfl (hb hby at_380) rfl rfl q) ?_
                show OEnds p e below _ T190 (mkF m 382 #[.val (.int x0), .val (.int x1), .val (.int x2), .val (.int ps), .val (.int hq), .val (.int pt), .val (.int pl), .val (.int ql), .val (.int (Int32.ofNat PE)), .val (.int (Int32.ofNat QE)), .val (.ref a7), .val (.ref a141), .val (.ref yy), .val (.int (Int32.ofNat (QE - PE - 1))), .val (.int (Int32.ofNat (PE + 1)))] [(.ref yy)])
                refine OEnds.go (fun _ q => XS.aload X191.here X191.hx rfl (hb hby at_382) rfl rfl q) ?_
                show OEnds p e below _ T190 (mkF m 384 #[.val (.int x0), .val (.int x1), .val (.int x2), .val (.int ps), .val (.int hq), .val (.int pt), .val (.int pl), .val (.int ql), .val (.int (Int32.ofNat PE)), .val (.int (Int32.ofNat QE)), .val (.ref a7), .val (.ref a141), .val (.ref yy), .val (.int (Int32.ofNat (QE - PE - 1))), .val (.int (Int32.ofNat (PE + 1)))] [(.ref a7), (.ref yy)])
                refine OEnds.go (fun _ q => XS.iload X191.here X191.hx rfl (hb hby at_384) rfl q) ?_
                show OEnds p e below _ T190 (mkF m 386 #[.val (.int x0), .val (.int x1), .val (.int x2), .val (.int ps), .val (.int hq), .val (.int pt), .val (.int pl), .val (.int ql), .val (.int (Int32.ofNat PE)), .val (.int (Int32.ofNat QE)), .val (.ref a7), .val (.ref a141), .val (.ref yy), .val (.int (Int32.ofNat (QE - PE - 1))), .val (.int (Int32.ofNat (PE + 1)))] [(.int (Int32.ofNat (PE + 1))), (.ref a7), (.ref yy)])
                refine OEnds.go (fun _ q => XS.iconst X191.here X191.hx rfl (hb hby at_386) q) ?_
                show OEnds p e below _ T190 (mkF m 387 #[.val (.int x0), .val (.int x1), .val (.int x2), .val (.int ps), .val (.int hq), .val (.int pt), .val (.int pl), .val (.int ql), .val (.int (Int32.ofNat PE)), .val (.int (Int32.ofNat QE)), .val (.ref a7), .val (.ref a141), .val (.ref yy), .val (.int (Int32.ofNat (QE - PE - 1))), .val (.int (Int32.ofNat (PE + 1)))] [(.int (1 : Int32)), (.int (Int32.ofNat (PE + 1))), (.ref a7), (.ref yy)])
                refine X191.callS hE (con_at H yy a7 (1 : Int32) (Int32.ofNat (PE + 1)) _ ds [v0, v1, v2, v3, v4, v5, v6, v7] (hf2 1 (by decide)) h178 Sy Ka7_h178) (hw _ (List.mem_of_getElem? (i := 120) rfl)) (hw _ (List.mem_of_getElem? (i := 121) rfl)) (hw _ (List.mem_of_getElem? (i := 7) rfl)) (hw _ (List.mem_of_getElem? (i := 122) rfl))  (by decide) (W := 0) (by decide) (by decide) (argsL := [(.ref yy), (.ref a7), (.int (Int32.ofNat (PE + 1))), (.int (1 : Int32))]) (rest := []) rfl (lenOf own_pd15 rfl) rfl (by rw [hml]; rfl) (Nat.le_of_eq rfl) (hb hby at_387) (by decide) (by decide) ?_
                intro v202 vm200 T197 h199 X198 C201 q203
                obtain ⟨rfl, rfl⟩ := q203
                show OEnds p e below _ T197 (mkF m 390 #[.val (.int x0), .val (.int x1), .val (.int x2), .val (.int ps), .val (.int hq), .val (.int pt), .val (.int pl), .val (.int ql), .val (.int (Int32.ofNat PE)), .val (.int (Int32.ofNat QE)), .val (.ref a7), .val (.ref a141), .val (.ref yy), .val (.int (Int32.ofNat (QE - PE - 1))), .val (.int (Int32.ofNat (PE + 1)))] [(.int (1 : Int32))])
                refine OEnds.go (fun _ q => XS.ifNo X198.here X198.hx rfl (hb hby at_390) rfl ((if0 _ _).trans (feq (by decide)).1) q) ?_
                show OEnds p e below _ T197 (mkF m 393 #[.val (.int x0), .val (.int x1), .val (.int x2), .val (.int ps), .val (.int hq), .val (.int pt), .val (.int pl), .val (.int ql), .val (.int (Int32.ofNat PE)), .val (.int (Int32.ofNat QE)), .val (.ref a7), .val (.ref a141), .val (.ref yy), .val (.int (Int32.ofNat (QE - PE - 1))), .val (.int (Int32.ofNat (PE + 1)))] [])
                refine OEnds.go (fun _ q => XS.aload X198.here X198.hx rfl (hb hby at_393) rfl rfl q) ?_
                show OEnds p e below _ T197 (mkF m 395 #[.val (.int x0), .val (.int x1), .val (.int x2), .val (.int ps), .val (.int hq), .val (.int pt), .val (.int pl), .val (.int ql), .val (.int (Int32.ofNat PE)), .val (.int (Int32.ofNat QE)), .val (.ref a7), .val (.ref a141), .val (.ref yy), .val (.int (Int32.ofNat (QE - PE - 1))), .val (.int (Int32.ofNat (PE + 1)))] [(.ref yy)])
                refine OEnds.go (fun _ q => XS.aload X198.here X198.hx rfl (hb hby at_395) rfl rfl q) ?_
                show OEnds p e below _ T197 (mkF m 397 #[.val (.int x0), .val (.int x1), .val (.int x2), .val (.int ps), .val (.int hq), .val (.int pt), .val (.int pl), .val (.int ql), .val (.int (Int32.ofNat PE)), .val (.int (Int32.ofNat QE)), .val (.ref a7), .val (.ref a141), .val (.ref yy), .val (.int (Int32.ofNat (QE - PE - 1))), .val (.int (Int32.ofNat (PE + 1)))] [(.ref a7), (.ref yy)])
                refine OEnds.go (fun _ q => XS.iload X198.here X198.hx rfl (hb hby at_397) rfl q) ?_
                show OEnds p e below _ T197 (mkF m 399 #[.val (.int x0), .val (.int x1), .val (.int x2), .val (.int ps), .val (.int hq), .val (.int pt), .val (.int pl), .val (.int ql), .val (.int (Int32.ofNat PE)), .val (.int (Int32.ofNat QE)), .val (.ref a7), .val (.ref a141), .val (.ref yy), .val (.int (Int32.ofNat (QE - PE - 1))), .val (.int (Int32.ofNat (PE + 1)))] [(.int (Int32.ofNat (PE + 1))), (.ref a7), (.ref yy)])
                refine OEnds.go (fun _ q => XS.iconst X198.here X198.hx rfl (hb hby at_399) q) ?_
                show OEnds p e below _ T197 (mkF m 400 #[.val (.int x0), .val (.int x1), .val (.int x2), .val (.int ps), .val (.int hq), .val (.int pt), .val (.int pl), .val (.int ql), .val (.int (Int32.ofNat PE)), .val (.int (Int32.ofNat QE)), .val (.ref a7), .val (.ref a141), .val (.ref yy), .val (.int (Int32.ofNat (QE - PE - 1))), .val (.int (Int32.ofNat (PE + 1)))] [(.int (2 : Int32)), (.int (Int32.ofNat (PE + 1))), (.ref a7), (.ref yy)])
                refine X198.callS hE (con_at H yy a7 (2 : Int32) (Int32.ofNat (PE + 1)) _ ds [v0, v1, v2, v3, v4, v5, v6, v7] (hf2 2 (by decide)) h178 Sy Ka7_h178) (hw _ (List.mem_of_getElem? (i := 120) rfl)) (hw _ (List.mem_of_getElem? (i := 121) rfl)) (hw _ (List.mem_of_getElem? (i := 7) rfl)) (hw _ (List.mem_of_getElem? (i := 122) rfl))  (by decide) (W := 0) (by decide) (by decide) (argsL := [(.ref yy), (.ref a7), (.int (Int32.ofNat (PE + 1))), (.int (2 : Int32))]) (rest := []) rfl (lenOf own_pd15 rfl) rfl (by rw [hml]; rfl) (Nat.le_of_eq rfl) (hb hby at_400) (by decide) (by decide) ?_
                intro v209 vm207 T204 h206 X205 C208 q210
                obtain ⟨rfl, rfl⟩ := q210
                show OEnds p e below _ T204 (mkF m 403 #[.val (.int x0), .val (.int x1), .val (.int x2), .val (.int ps), .val (.int hq), .val (.int pt), .val (.int pl), .val (.int ql), .val (.int (Int32.ofNat PE)), .val (.int (Int32.ofNat QE)), .val (.ref a7), .val (.ref a141), .val (.ref yy), .val (.int (Int32.ofNat (QE - PE - 1))), .val (.int (Int32.ofNat (PE + 1)))] [(.int (1 : Int32))])
                refine OEnds.go (fun _ q => XS.ifNo X205.here X205.hx rfl (hb hby at_403) rfl ((if0 _ _).trans (feq (by decide)).1) q) ?_
                show OEnds p e below _ T204 (mkF m 406 #[.val (.int x0), .val (.int x1), .val (.int x2), .val (.int ps), .val (.int hq), .val (.int pt), .val (.int pl), .val (.int ql), .val (.int (Int32.ofNat PE)), .val (.int (Int32.ofNat QE)), .val (.ref a7), .val (.ref a141), .val (.ref yy), .val (.int (Int32.ofNat (QE - PE - 1))), .val (.int (Int32.ofNat (PE + 1)))] [])
                refine OEnds.go (fun _ q => XS.aload X205.here X205.hx rfl (hb hby at_406) rfl rfl q) ?_
                show OEnds p e below _ T204 (mkF m 408 #[.val (.int x0), .val (.int x1), .val (.int x2), .val (.int ps), .val (.int hq), .val (.int pt), .val (.int pl), .val (.int ql), .val (.int (Int32.ofNat PE)), .val (.int (Int32.ofNat QE)), .val (.ref a7), .val (.ref a141), .val (.ref yy), .val (.int (Int32.ofNat (QE - PE - 1))), .val (.int (Int32.ofNat (PE + 1)))] [(.ref yy)])
                refine OEnds.go (fun _ q => XS.aload X205.here X205.hx rfl (hb hby at_408) rfl rfl q) ?_
                show OEnds p e below _ T204 (mkF m 410 #[.val (.int x0), .val (.int x1), .val (.int x2), .val (.int ps), .val (.int hq), .val (.int pt), .val (.int pl), .val (.int ql), .val (.int (Int32.ofNat PE)), .val (.int (Int32.ofNat QE)), .val (.ref a7), .val (.ref a141), .val (.ref yy), .val (.int (Int32.ofNat (QE - PE - 1))), .val (.int (Int32.ofNat (PE + 1)))] [(.ref a7), (.ref yy)])
                refine OEnds.go (fun _ q => XS.iload X205.here X205.hx rfl (hb hby at_410) rfl q) ?_
                show OEnds p e below _ T204 (mkF m 412 #[.val (.int x0), .val (.int x1), .val (.int x2), .val (.int ps), .val (.int hq), .val (.int pt), .val (.int pl), .val (.int ql), .val (.int (Int32.ofNat PE)), .val (.int (Int32.ofNat QE)), .val (.ref a7), .val (.ref a141), .val (.ref yy), .val (.int (Int32.ofNat (QE - PE - 1))), .val (.int (Int32.ofNat (PE + 1)))] [(.int (Int32.ofNat (PE + 1))), (.ref a7), (.ref yy)])
                refine OEnds.go (fun _ q => XS.iconst X205.here X205.hx rfl (hb hby at_412) q) ?_
                show OEnds p e below _ T204 (mkF m 413 #[.val (.int x0), .val (.int x1), .val (.int x2), .val (.int ps), .val (.int hq), .val (.int pt), .val (.int pl), .val (.int ql), .val (.int (Int32.ofNat PE)), .val (.int (Int32.ofNat QE)), .val (.ref a7), .val (.ref a141), .val (.ref yy), .val (.int (Int32.ofNat (QE - PE - 1))), .val (.int (Int32.ofNat (PE + 1)))] [(.int (3 : Int32)), (.int (Int32.ofNat (PE + 1))), (.ref a7), (.ref yy)])
                refine X205.callS hE (con_at H yy a7 (3 : Int32) (Int32.ofNat (PE + 1)) _ ds [v0, v1, v2, v3, v4, v5, v6, v7] (hf2 3 (by decide)) h178 Sy Ka7_h178) (hw _ (List.mem_of_getElem? (i := 120) rfl)) (hw _ (List.mem_of_getElem? (i := 121) rfl)) (hw _ (List.mem_of_getElem? (i := 7) rfl)) (hw _ (List.mem_of_getElem? (i := 122) rfl))  (by decide) (W := 0) (by decide) (by decide) (argsL := [(.ref yy), (.ref a7), (.int (Int32.ofNat (PE + 1))), (.int (3 : Int32))]) (rest := []) rfl (lenOf own_pd15 rfl) rfl (by rw [hml]; rfl) (Nat.le_of_eq rfl) (hb hby at_413) (by decide) (by decide) ?_
                intro v216 vm214 T211 h213 X212 C215 q217
                obtain ⟨rfl, rfl⟩ := q217
                show OEnds p e below _ T211 (mkF m 416 #[.val (.int x0), .val (.int x1), .val (.int x2), .val (.int ps), .val (.int hq), .val (.int pt), .val (.int pl), .val (.int ql), .val (.int (Int32.ofNat PE)), .val (.int (Int32.ofNat QE)), .val (.ref a7), .val (.ref a141), .val (.ref yy), .val (.int (Int32.ofNat (QE - PE - 1))), .val (.int (Int32.ofNat (PE + 1)))] [(.int (1 : Int32))])
                refine OEnds.go (fun _ q => XS.ifNo X212.here X212.hx rfl (hb hby at_416) rfl ((if0 _ _).trans (feq (by decide)).1) q) ?_
                show OEnds p e below _ T211 (mkF m 419 #[.val (.int x0), .val (.int x1), .val (.int x2), .val (.int ps), .val (.int hq), .val (.int pt), .val (.int pl), .val (.int ql), .val (.int (Int32.ofNat PE)), .val (.int (Int32.ofNat QE)), .val (.ref a7), .val (.ref a141), .val (.ref yy), .val (.int (Int32.ofNat (QE - PE - 1))), .val (.int (Int32.ofNat (PE + 1)))] [])
                refine OEnds.go (fun _ q => XS.aload X212.here X212.hx rfl (hb hby at_419) rfl rfl q) ?_
                show OEnds p e below _ T211 (mkF m 421 #[.val (.int x0), .val (.int x1), .val (.int x2), .val (.int ps), .val (.int hq), .val (.int pt), .val (.int pl), .val (.int ql), .val (.int (Int32.ofNat PE)), .val (.int (Int32.ofNat QE)), .val (.ref a7), .val (.ref a141), .val (.ref yy), .val (.int (Int32.ofNat (QE - PE - 1))), .val (.int (Int32.ofNat (PE + 1)))] [(.ref yy)])
                refine OEnds.go (fun _ q => XS.aload X212.here X212.hx rfl (hb hby at_421) rfl rfl q) ?_
                show OEnds p e below _ T211 (mkF m 423 #[.val (.int x0), .val (.int x1), .val (.int x2), .val (.int ps), .val (.int hq), .val (.int pt), .val (.int pl), .val (.int ql), .val (.int (Int32.ofNat PE)), .val (.int (Int32.ofNat QE)), .val (.ref a7), .val (.ref a141), .val (.ref yy), .val (.int (Int32.ofNat (QE - PE - 1))), .val (.int (Int32.ofNat (PE + 1)))] [(.ref a7), (.ref yy)])
                refine OEnds.go (fun _ q => XS.iload X212.here X212.hx rfl (hb hby at_423) rfl q) ?_
                show OEnds p e below _ T211 (mkF m 425 #[.val (.int x0), .val (.int x1), .val (.int x2), .val (.int ps), .val (.int hq), .val (.int pt), .val (.int pl), .val (.int ql), .val (.int (Int32.ofNat PE)), .val (.int (Int32.ofNat QE)), .val (.ref a7), .val (.ref a141), .val (.ref yy), .val (.int (Int32.ofNat (QE - PE - 1))), .val (.int (Int32.ofNat (PE + 1)))] [(.int (Int32.ofNat (PE + 1))), (.ref a7), (.ref yy)])
                refine OEnds.go (fun _ q => XS.iconst X212.here X212.hx rfl (hb hby at_425) q) ?_
                show OEnds p e below _ T211 (mkF m 426 #[.val (.int x0), .val (.int x1), .val (.int x2), .val (.int ps), .val (.int hq), .val (.int pt), .val (.int pl), .val (.int ql), .val (.int (Int32.ofNat PE)), .val (.int (Int32.ofNat QE)), .val (.ref a7), .val (.ref a141), .val (.ref yy), .val (.int (Int32.ofNat (QE - PE - 1))), .val (.int (Int32.ofNat (PE + 1)))] [(.int (4 : Int32)), (.int (Int32.ofNat (PE + 1))), (.ref a7), (.ref yy)])
                refine X212.callS hE (con_at H yy a7 (4 : Int32) (Int32.ofNat (PE + 1)) _ ds [v0, v1, v2, v3, v4, v5, v6, v7] (hf2 4 (by decide)) h178 Sy Ka7_h178) (hw _ (List.mem_of_getElem? (i := 120) rfl)) (hw _ (List.mem_of_getElem? (i := 121) rfl)) (hw _ (List.mem_of_getElem? (i := 7) rfl)) (hw _ (List.mem_of_getElem? (i := 122) rfl))  (by decide) (W := 0) (by decide) (by decide) (argsL := [(.ref yy), (.ref a7), (.int (Int32.ofNat (PE + 1))), (.int (4 : Int32))]) (rest := []) rfl (lenOf own_pd15 rfl) rfl (by rw [hml]; rfl) (Nat.le_of_eq rfl) (hb hby at_426) (by decide) (by decide) ?_
                intro v223 vm221 T218 h220 X219 C222 q224
                obtain ⟨rfl, rfl⟩ := q224
                show OEnds p e below _ T218 (mkF m 429 #[.val (.int x0), .val (.int x1), .val (.int x2), .val (.int ps), .val (.int hq), .val (.int pt), .val (.int pl), .val (.int ql), .val (.int (Int32.ofNat PE)), .val (.int (Int32.ofNat QE)), .val (.ref a7), .val (.ref a141), .val (.ref yy), .val (.int (Int32.ofNat (QE - PE - 1))), .val (.int (Int32.ofNat (PE + 1)))] [(.int (1 : Int32))])
                refine OEnds.go (fun _ q => XS.ifNo X219.here X219.hx rfl (hb hby at_429) rfl ((if0 _ _).trans (feq (by decide)).1) q) ?_
                show OEnds p e below _ T218 (mkF m 432 #[.val (.int x0), .val (.int x1), .val (.int x2), .val (.int ps), .val (.int hq), .val (.int pt), .val (.int pl), .val (.int ql), .val (.int (Int32.ofNat PE)), .val (.int (Int32.ofNat QE)), .val (.ref a7), .val (.ref a141), .val (.ref yy), .val (.int (Int32.ofNat (QE - PE - 1))), .val (.int (Int32.ofNat (PE + 1)))] [])
                refine OEnds.go (fun _ q => XS.aload X219.here X219.hx rfl (hb hby at_432) rfl rfl q) ?_
                show OEnds p e below _ T218 (mkF m 434 #[.val (.int x0), .val (.int x1), .val (.int x2), .val (.int ps), .val (.int hq), .val (.int pt), .val (.int pl), .val (.int ql), .val (.int (Int32.ofNat PE)), .val (.int (Int32.ofNat QE)), .val (.ref a7), .val (.ref a141), .val (.ref yy), .val (.int (Int32.ofNat (QE - PE - 1))), .val (.int (Int32.ofNat (PE + 1)))] [(.ref yy)])
                refine OEnds.go (fun _ q => XS.aload X219.here X219.hx rfl (hb hby at_434) rfl rfl q) ?_
                show OEnds p e below _ T218 (mkF m 436 #[.val (.int x0), .val (.int x1), .val (.int x2), .val (.int ps), .val (.int hq), .val (.int pt), .val (.int pl), .val (.int ql), .val (.int (Int32.ofNat PE)), .val (.int (Int32.ofNat QE)), .val (.ref a7), .val (.ref a141), .val (.ref yy), .val (.int (Int32.ofNat (QE - PE - 1))), .val (.int (Int32.ofNat (PE + 1)))] [(.ref a7), (.ref yy)])
                refine OEnds.go (fun _ q => XS.iload X219.here X219.hx rfl (hb hby at_436) rfl q) ?_
                show OEnds p e below _ T218 (mkF m 438 #[.val (.int x0), .val (.int x1), .val (.int x2), .val (.int ps), .val (.int hq), .val (.int pt), .val (.int pl), .val (.int ql), .val (.int (Int32.ofNat PE)), .val (.int (Int32.ofNat QE)), .val (.ref a7), .val (.ref a141), .val (.ref yy), .val (.int (Int32.ofNat (QE - PE - 1))), .val (.int (Int32.ofNat (PE + 1)))] [(.int (Int32.ofNat (PE + 1))), (.ref a7), (.ref yy)])
                refine OEnds.go (fun _ q => XS.iconst X219.here X219.hx rfl (hb hby at_438) q) ?_
                show OEnds p e below _ T218 (mkF m 439 #[.val (.int x0), .val (.int x1), .val (.int x2), .val (.int ps), .val (.int hq), .val (.int pt), .val (.int pl), .val (.int ql), .val (.int (Int32.ofNat PE)), .val (.int (Int32.ofNat QE)), .val (.ref a7), .val (.ref a141), .val (.ref yy), .val (.int (Int32.ofNat (QE - PE - 1))), .val (.int (Int32.ofNat (PE + 1)))] [(.int (5 : Int32)), (.int (Int32.ofNat (PE + 1))), (.ref a7), (.ref yy)])
                refine X219.callS hE (con_at H yy a7 (5 : Int32) (Int32.ofNat (PE + 1)) _ ds [v0, v1, v2, v3, v4, v5, v6, v7] (hf2 5 (by decide)) h178 Sy Ka7_h178) (hw _ (List.mem_of_getElem? (i := 120) rfl)) (hw _ (List.mem_of_getElem? (i := 121) rfl)) (hw _ (List.mem_of_getElem? (i := 7) rfl)) (hw _ (List.mem_of_getElem? (i := 122) rfl))  (by decide) (W := 0) (by decide) (by decide) (argsL := [(.ref yy), (.ref a7), (.int (Int32.ofNat (PE + 1))), (.int (5 : Int32))]) (rest := []) rfl (lenOf own_pd15 rfl) rfl (by rw [hml]; rfl) (Nat.le_of_eq rfl) (hb hby at_439) (by decide) (by decide) ?_
                intro v230 vm228 T225 h227 X226 C229 q231
                obtain ⟨rfl, rfl⟩ := q231
                show OEnds p e below _ T225 (mkF m 442 #[.val (.int x0), .val (.int x1), .val (.int x2), .val (.int ps), .val (.int hq), .val (.int pt), .val (.int pl), .val (.int ql), .val (.int (Int32.ofNat PE)), .val (.int (Int32.ofNat QE)), .val (.ref a7), .val (.ref a141), .val (.ref yy), .val (.int (Int32.ofNat (QE - PE - 1))), .val (.int (Int32.ofNat (PE + 1)))] [(.int (1 : Int32))])
                refine OEnds.go (fun _ q => XS.ifNo X226.here X226.hx rfl (hb hby at_442) rfl ((if0 _ _).trans (feq (by decide)).1) q) ?_
                show OEnds p e below _ T225 (mkF m 445 #[.val (.int x0), .val (.int x1), .val (.int x2), .val (.int ps), .val (.int hq), .val (.int pt), .val (.int pl), .val (.int ql), .val (.int (Int32.ofNat PE)), .val (.int (Int32.ofNat QE)), .val (.ref a7), .val (.ref a141), .val (.ref yy), .val (.int (Int32.ofNat (QE - PE - 1))), .val (.int (Int32.ofNat (PE + 1)))] [])
                refine OEnds.go (fun _ q => XS.aload X226.here X226.hx rfl (hb hby at_445) rfl rfl q) ?_
                show OEnds p e below _ T225 (mkF m 447 #[.val (.int x0), .val (.int x1), .val (.int x2), .val (.int ps), .val (.int hq), .val (.int pt), .val (.int pl), .val (.int ql), .val (.int (Int32.ofNat PE)), .val (.int (Int32.ofNat QE)), .val (.ref a7), .val (.ref a141), .val (.ref yy), .val (.int (Int32.ofNat (QE - PE - 1))), .val (.int (Int32.ofNat (PE + 1)))] [(.ref yy)])
                refine OEnds.go (fun _ q => XS.aload X226.here X226.hx rfl (hb hby at_447) rfl rfl q) ?_
                show OEnds p e below _ T225 (mkF m 449 #[.val (.int x0), .val (.int x1), .val (.int x2), .val (.int ps), .val (.int hq), .val (.int pt), .val (.int pl), .val (.int ql), .val (.int (Int32.ofNat PE)), .val (.int (Int32.ofNat QE)), .val (.ref a7), .val (.ref a141), .val (.ref yy), .val (.int (Int32.ofNat (QE - PE - 1))), .val (.int (Int32.ofNat (PE + 1)))] [(.ref a7), (.ref yy)])
                refine OEnds.go (fun _ q => XS.iload X226.here X226.hx rfl (hb hby at_449) rfl q) ?_
                show OEnds p e below _ T225 (mkF m 451 #[.val (.int x0), .val (.int x1), .val (.int x2), .val (.int ps), .val (.int hq), .val (.int pt), .val (.int pl), .val (.int ql), .val (.int (Int32.ofNat PE)), .val (.int (Int32.ofNat QE)), .val (.ref a7), .val (.ref a141), .val (.ref yy), .val (.int (Int32.ofNat (QE - PE - 1))), .val (.int (Int32.ofNat (PE + 1)))] [(.int (Int32.ofNat (PE + 1))), (.ref a7), (.ref yy)])
                refine OEnds.go (fun _ q => XS.bipush X226.here X226.hx rfl (hb hby at_451) q) ?_
                show OEnds p e below _ T225 (mkF m 453 #[.val (.int x0), .val (.int x1), .val (.int x2), .val (.int ps), .val (.int hq), .val (.int pt), .val (.int pl), .val (.int ql), .val (.int (Int32.ofNat PE)), .val (.int (Int32.ofNat QE)), .val (.ref a7), .val (.ref a141), .val (.ref yy), .val (.int (Int32.ofNat (QE - PE - 1))), .val (.int (Int32.ofNat (PE + 1)))] [(.int (6 : Int32)), (.int (Int32.ofNat (PE + 1))), (.ref a7), (.ref yy)])
                refine X226.callS hE (con_at H yy a7 (6 : Int32) (Int32.ofNat (PE + 1)) _ ds [v0, v1, v2, v3, v4, v5, v6, v7] (hf2 6 (by decide)) h178 Sy Ka7_h178) (hw _ (List.mem_of_getElem? (i := 120) rfl)) (hw _ (List.mem_of_getElem? (i := 121) rfl)) (hw _ (List.mem_of_getElem? (i := 7) rfl)) (hw _ (List.mem_of_getElem? (i := 122) rfl))  (by decide) (W := 0) (by decide) (by decide) (argsL := [(.ref yy), (.ref a7), (.int (Int32.ofNat (PE + 1))), (.int (6 : Int32))]) (rest := []) rfl (lenOf own_pd15 rfl) rfl (by rw [hml]; rfl) (Nat.le_of_eq rfl) (hb hby at_453) (by decide) (by decide) ?_
                intro v237 vm235 T232 h234 X233 C236 q238
                obtain ⟨rfl, rfl⟩ := q238
                show OEnds p e below _ T232 (mkF m 456 #[.val (.int x0), .val (.int x1), .val (.int x2), .val (.int ps), .val (.int hq), .val (.int pt), .val (.int pl), .val (.int ql), .val (.int (Int32.ofNat PE)), .val (.int (Int32.ofNat QE)), .val (.ref a7), .val (.ref a141), .val (.ref yy), .val (.int (Int32.ofNat (QE - PE - 1))), .val (.int (Int32.ofNat (PE + 1)))] [(.int (1 : Int32))])
                refine OEnds.go (fun _ q => XS.ifNo X233.here X233.hx rfl (hb hby at_456) rfl ((if0 _ _).trans (feq (by decide)).1) q) ?_
                show OEnds p e below _ T232 (mkF m 459 #[.val (.int x0), .val (.int x1), .val (.int x2), .val (.int ps), .val (.int hq), .val (.int pt), .val (.int pl), .val (.int ql), .val (.int (Int32.ofNat PE)), .val (.int (Int32.ofNat QE)), .val (.ref a7), .val (.ref a141), .val (.ref yy), .val (.int (Int32.ofNat (QE - PE - 1))), .val (.int (Int32.ofNat (PE + 1)))] [])
                refine OEnds.go (fun _ q => XS.iconst X233.here X233.hx rfl (hb hby at_459) q) ?_
                show OEnds p e below _ T232 (mkF m 460 #[.val (.int x0), .val (.int x1), .val (.int x2), .val (.int ps), .val (.int hq), .val (.int pt), .val (.int pl), .val (.int ql), .val (.int (Int32.ofNat PE)), .val (.int (Int32.ofNat QE)), .val (.ref a7), .val (.ref a141), .val (.ref yy), .val (.int (Int32.ofNat (QE - PE - 1))), .val (.int (Int32.ofNat (PE + 1)))] [(.int (1 : Int32))])
                refine OEnds.go (fun _ q => XS.goto X233.here X233.hx rfl (pc0 := 460) (pc' := 464) rfl (hb hby at_460) (by decide) (by decide) q) ?_
                show OEnds p e below _ T232 (mkF m 464 #[.val (.int x0), .val (.int x1), .val (.int x2), .val (.int ps), .val (.int hq), .val (.int pt), .val (.int pl), .val (.int ql), .val (.int (Int32.ofNat PE)), .val (.int (Int32.ofNat QE)), .val (.ref a7), .val (.ref a141), .val (.ref yy), .val (.int (Int32.ofNat (QE - PE - 1))), .val (.int (Int32.ofNat (PE + 1)))] [(.int (1 : Int32))])
                exact X233.retBool hE hlk (by first | exact Or.inl rfl | exact Or.inr rfl | assumption) hret (hb hby at_464) (by decide) (by decide) rfl
            by_cases hs0 : ps = (2 : Int32)
            · skip
              refine OEnds.go (fun _ q => XS.icmpNo X148.here X148.hx rfl (hb hby at_293) rfl (teq hs0).2 q) ?_
              show OEnds p e below _ T147 (mkF m 296 #[.val (.int x0), .val (.int x1), .val (.int x2), .val (.int ps), .val (.int hq), .val (.int pt), .val (.int pl), .val (.int ql), .val (.int pe), .val (.int qe), .val (.ref a7), .unset, .unset, .unset, .unset] [(.ref a146), (.ref a141), (.ref a141)])
              refine OEnds.go (fun _ q => XS.iconst X148.here X148.hx rfl (hb hby at_296) q) ?_
              show OEnds p e below _ T147 (mkF m 297 #[.val (.int x0), .val (.int x1), .val (.int x2), .val (.int ps), .val (.int hq), .val (.int pt), .val (.int pl), .val (.int ql), .val (.int pe), .val (.int qe), .val (.ref a7), .unset, .unset, .unset, .unset] [(.int (1 : Int32)), (.ref a146), (.ref a141), (.ref a141)])
              refine OEnds.go (fun _ q => XS.goto X148.here X148.hx rfl (pc0 := 297) (pc' := 301) rfl (hb hby at_297) (by decide) (by decide) q) ?_
              show OEnds p e below _ T147 (mkF m 301 #[.val (.int x0), .val (.int x1), .val (.int x2), .val (.int ps), .val (.int hq), .val (.int pt), .val (.int pl), .val (.int ql), .val (.int pe), .val (.int qe), .val (.ref a7), .unset, .unset, .unset, .unset] [(.int (1 : Int32)), (.ref a146), (.ref a141), (.ref a141)])
              exact J6 _
            · skip
              refine OEnds.go (fun _ q => XS.icmpYes X148.here X148.hx rfl (pc0 := 293) (pc' := 300) rfl (hb hby at_293) rfl (feq hs0).2 (by decide) (by decide) q) ?_
              show OEnds p e below _ T147 (mkF m 300 #[.val (.int x0), .val (.int x1), .val (.int x2), .val (.int ps), .val (.int hq), .val (.int pt), .val (.int pl), .val (.int ql), .val (.int pe), .val (.int qe), .val (.ref a7), .unset, .unset, .unset, .unset] [(.ref a146), (.ref a141), (.ref a141)])
              refine OEnds.go (fun _ q => XS.iconst X148.here X148.hx rfl (hb hby at_300) q) ?_
              show OEnds p e below _ T147 (mkF m 301 #[.val (.int x0), .val (.int x1), .val (.int x2), .val (.int ps), .val (.int hq), .val (.int pt), .val (.int pl), .val (.int ql), .val (.int pe), .val (.int qe), .val (.ref a7), .unset, .unset, .unset, .unset] [(.int (-1 : Int32)), (.ref a146), (.ref a141), (.ref a141)])
              exact J6 _
          by_cases hqz : hq = (0 : Int32)
          · skip
            refine OEnds.go (fun _ q => XS.ifYes X0.here X0.hx rfl (pc0 := 76) (pc' := 94) rfl (hb hby at_76) rfl ((if0 _ _).trans (teq hqz).1) (by decide) (by decide) q) ?_
            show OEnds p e below _ T (mkF m 94 #[.val (.int x0), .val (.int x1), .val (.int x2), .val (.int ps), .val (.int hq), .val (.int pt), .val (.int pl), .val (.int ql), .val (.int pe), .unset, .unset, .unset, .unset, .unset, .unset] [])
            refine OEnds.go (fun _ q => XS.iload X0.here X0.hx rfl (hb hby at_94) rfl q) ?_
            show OEnds p e below _ T (mkF m 96 #[.val (.int x0), .val (.int x1), .val (.int x2), .val (.int ps), .val (.int hq), .val (.int pt), .val (.int pl), .val (.int ql), .val (.int pe), .unset, .unset, .unset, .unset, .unset, .unset] [(.int pe)])
            exact J5 _ _ _ _ (X0.mono (by decide) (by decide))  (Or.inl ⟨hqz, rfl⟩) 
          · skip
            refine OEnds.go (fun _ q => XS.ifNo X0.here X0.hx rfl (hb hby at_76) rfl ((if0 _ _).trans (feq hqz).1) q) ?_
            show OEnds p e below _ T (mkF m 79 #[.val (.int x0), .val (.int x1), .val (.int x2), .val (.int ps), .val (.int hq), .val (.int pt), .val (.int pl), .val (.int ql), .val (.int pe), .unset, .unset, .unset, .unset, .unset, .unset] [])
            refine OEnds.go (fun _ q => XS.iload X0.here X0.hx rfl (hb hby at_79) rfl q) ?_
            show OEnds p e below _ T (mkF m 81 #[.val (.int x0), .val (.int x1), .val (.int x2), .val (.int ps), .val (.int hq), .val (.int pt), .val (.int pl), .val (.int ql), .val (.int pe), .unset, .unset, .unset, .unset, .unset, .unset] [(.int pe)])
            refine OEnds.go (fun _ q => XS.iconst X0.here X0.hx rfl (hb hby at_81) q) ?_
            show OEnds p e below _ T (mkF m 82 #[.val (.int x0), .val (.int x1), .val (.int x2), .val (.int ps), .val (.int hq), .val (.int pt), .val (.int pl), .val (.int ql), .val (.int pe), .unset, .unset, .unset, .unset, .unset, .unset] [(.int (1 : Int32)), (.int pe)])
            refine OEnds.go (fun _ q => XS.iadd X0.here X0.hx rfl (hb hby at_82) rfl q) ?_
            show OEnds p e below _ T (mkF m 83 #[.val (.int x0), .val (.int x1), .val (.int x2), .val (.int ps), .val (.int hq), .val (.int pt), .val (.int pl), .val (.int ql), .val (.int pe), .unset, .unset, .unset, .unset, .unset, .unset] [(.int (pe + (1 : Int32)))])
            refine OEnds.go (fun _ q => XS.iload X0.here X0.hx rfl (hb hby at_83) rfl q) ?_
            show OEnds p e below _ T (mkF m 85 #[.val (.int x0), .val (.int x1), .val (.int x2), .val (.int ps), .val (.int hq), .val (.int pt), .val (.int pl), .val (.int ql), .val (.int pe), .unset, .unset, .unset, .unset, .unset, .unset] [(.int ql), (.int (pe + (1 : Int32)))])
            refine OEnds.go (fun _ q => XS.iadd X0.here X0.hx rfl (hb hby at_85) rfl q) ?_
            show OEnds p e below _ T (mkF m 86 #[.val (.int x0), .val (.int x1), .val (.int x2), .val (.int ps), .val (.int hq), .val (.int pt), .val (.int pl), .val (.int ql), .val (.int pe), .unset, .unset, .unset, .unset, .unset, .unset] [(.int ((pe + (1 : Int32)) + ql))])
            refine OEnds.go (fun _ q => XS.bipush X0.here X0.hx rfl (hb hby at_86) q) ?_
            show OEnds p e below _ T (mkF m 88 #[.val (.int x0), .val (.int x1), .val (.int x2), .val (.int ps), .val (.int hq), .val (.int pt), .val (.int pl), .val (.int ql), .val (.int pe), .unset, .unset, .unset, .unset, .unset, .unset] [(.int (8 : Int32)), (.int ((pe + (1 : Int32)) + ql))])
            refine X0.callS hE (con_min H ((pe + (1 : Int32)) + ql) (8 : Int32) h0) (hw _ (List.mem_of_getElem? (i := 0) rfl)) (hw _ (List.mem_of_getElem? (i := 1) rfl)) (hw _ (List.mem_of_getElem? (i := 2) rfl)) (hw _ (List.mem_of_getElem? (i := 3) rfl))  (by decide) (W := 0) (by decide) (by decide) (argsL := [(.int ((pe + (1 : Int32)) + ql)), (.int (8 : Int32))]) (rest := []) rfl (lenOf own_pd1 rfl) rfl (by rw [hml]; rfl) (Nat.le_of_eq rfl) (hb hby at_88) (by decide) (by decide) ?_
            intro v244 vm242 T239 h241 X240 C243 q245
            obtain ⟨rfl, rfl⟩ := q245
            show OEnds p e below _ T239 (mkF m 91 #[.val (.int x0), .val (.int x1), .val (.int x2), .val (.int ps), .val (.int hq), .val (.int pt), .val (.int pl), .val (.int ql), .val (.int pe), .unset, .unset, .unset, .unset, .unset, .unset] [(.int (if (8 : Int32) < ((pe + (1 : Int32)) + ql) then (8 : Int32) else ((pe + (1 : Int32)) + ql)))])
            refine OEnds.go (fun _ q => XS.goto X240.here X240.hx rfl (pc0 := 91) (pc' := 96) rfl (hb hby at_91) (by decide) (by decide) q) ?_
            show OEnds p e below _ T239 (mkF m 96 #[.val (.int x0), .val (.int x1), .val (.int x2), .val (.int ps), .val (.int hq), .val (.int pt), .val (.int pl), .val (.int ql), .val (.int pe), .unset, .unset, .unset, .unset, .unset, .unset] [(.int (if (8 : Int32) < ((pe + (1 : Int32)) + ql) then (8 : Int32) else ((pe + (1 : Int32)) + ql)))])
            exact J5 _ _ _ _ (X240.mono (by decide) (by decide))  (own_qe hqz hpe hql2) 
        by_cases hv : hq = (0 : Int32)
        · skip
          refine OEnds.go (fun _ q => XS.ifNo X0.here X0.hx rfl (hb hby at_55) rfl ((if0 _ _).trans (teq hv).2) q) ?_
          show OEnds p e below _ T (mkF m 58 #[.val (.int x0), .val (.int x1), .val (.int x2), .val (.int ps), .val (.int hq), .val (.int pt), .val (.int pl), .val (.int ql), .unset, .unset, .unset, .unset, .unset, .unset, .unset] [])
          refine OEnds.go (fun _ q => XS.iload X0.here X0.hx rfl (hb hby at_58) rfl q) ?_
          show OEnds p e below _ T (mkF m 60 #[.val (.int x0), .val (.int x1), .val (.int x2), .val (.int ps), .val (.int hq), .val (.int pt), .val (.int pl), .val (.int ql), .unset, .unset, .unset, .unset, .unset, .unset, .unset] [(.int pt)])
          by_cases hu : pt = (0 : Int32)
          · skip
            refine OEnds.go (fun _ q => XS.ifYes X0.here X0.hx rfl (pc0 := 60) (pc' := 68) rfl (hb hby at_60) rfl ((if0 _ _).trans (teq hu).1) (by decide) (by decide) q) ?_
            show OEnds p e below _ T (mkF m 68 #[.val (.int x0), .val (.int x1), .val (.int x2), .val (.int ps), .val (.int hq), .val (.int pt), .val (.int pl), .val (.int ql), .unset, .unset, .unset, .unset, .unset, .unset, .unset] [])
            refine OEnds.go (fun _ q => XS.iloadN X0.here X0.hx rfl (hb hby at_68) rfl q) ?_
            show OEnds p e below _ T (mkF m 69 #[.val (.int x0), .val (.int x1), .val (.int x2), .val (.int ps), .val (.int hq), .val (.int pt), .val (.int pl), .val (.int ql), .unset, .unset, .unset, .unset, .unset, .unset, .unset] [(.int ps)])
            refine OEnds.go (fun _ q => XS.iload X0.here X0.hx rfl (hb hby at_69) rfl q) ?_
            show OEnds p e below _ T (mkF m 71 #[.val (.int x0), .val (.int x1), .val (.int x2), .val (.int ps), .val (.int hq), .val (.int pt), .val (.int pl), .val (.int ql), .unset, .unset, .unset, .unset, .unset, .unset, .unset] [(.int pl), (.int ps)])
            refine OEnds.go (fun _ q => XS.iadd X0.here X0.hx rfl (hb hby at_71) rfl q) ?_
            show OEnds p e below _ T (mkF m 72 #[.val (.int x0), .val (.int x1), .val (.int x2), .val (.int ps), .val (.int hq), .val (.int pt), .val (.int pl), .val (.int ql), .unset, .unset, .unset, .unset, .unset, .unset, .unset] [(.int (ps + pl))])
            exact J4 _ (Or.inl hv)
          · skip
            refine OEnds.go (fun _ q => XS.ifNo X0.here X0.hx rfl (hb hby at_60) rfl ((if0 _ _).trans (feq hu).1) q) ?_
            show OEnds p e below _ T (mkF m 63 #[.val (.int x0), .val (.int x1), .val (.int x2), .val (.int ps), .val (.int hq), .val (.int pt), .val (.int pl), .val (.int ql), .unset, .unset, .unset, .unset, .unset, .unset, .unset] [])
            refine OEnds.go (fun _ q => XS.bipush X0.here X0.hx rfl (hb hby at_63) q) ?_
            show OEnds p e below _ T (mkF m 65 #[.val (.int x0), .val (.int x1), .val (.int x2), .val (.int ps), .val (.int hq), .val (.int pt), .val (.int pl), .val (.int ql), .unset, .unset, .unset, .unset, .unset, .unset, .unset] [(.int (8 : Int32))])
            refine OEnds.go (fun _ q => XS.goto X0.here X0.hx rfl (pc0 := 65) (pc' := 72) rfl (hb hby at_65) (by decide) (by decide) q) ?_
            show OEnds p e below _ T (mkF m 72 #[.val (.int x0), .val (.int x1), .val (.int x2), .val (.int ps), .val (.int hq), .val (.int pt), .val (.int pl), .val (.int ql), .unset, .unset, .unset, .unset, .unset, .unset, .unset] [(.int (8 : Int32))])
            exact J4 _ (Or.inl hv)
        · skip
          refine OEnds.go (fun _ q => XS.ifYes X0.here X0.hx rfl (pc0 := 55) (pc' := 68) rfl (hb hby at_55) rfl ((if0 _ _).trans (feq hv).2) (by decide) (by decide) q) ?_
          show OEnds p e below _ T (mkF m 68 #[.val (.int x0), .val (.int x1), .val (.int x2), .val (.int ps), .val (.int hq), .val (.int pt), .val (.int pl), .val (.int ql), .unset, .unset, .unset, .unset, .unset, .unset, .unset] [])
          refine OEnds.go (fun _ q => XS.iloadN X0.here X0.hx rfl (hb hby at_68) rfl q) ?_
          show OEnds p e below _ T (mkF m 69 #[.val (.int x0), .val (.int x1), .val (.int x2), .val (.int ps), .val (.int hq), .val (.int pt), .val (.int pl), .val (.int ql), .unset, .unset, .unset, .unset, .unset, .unset, .unset] [(.int ps)])
          refine OEnds.go (fun _ q => XS.iload X0.here X0.hx rfl (hb hby at_69) rfl q) ?_
          show OEnds p e below _ T (mkF m 71 #[.val (.int x0), .val (.int x1), .val (.int x2), .val (.int ps), .val (.int hq), .val (.int pt), .val (.int pl), .val (.int ql), .unset, .unset, .unset, .unset, .unset, .unset, .unset] [(.int pl), (.int ps)])
          refine OEnds.go (fun _ q => XS.iadd X0.here X0.hx rfl (hb hby at_71) rfl q) ?_
          show OEnds p e below _ T (mkF m 72 #[.val (.int x0), .val (.int x1), .val (.int x2), .val (.int ps), .val (.int hq), .val (.int pt), .val (.int pl), .val (.int ql), .unset, .unset, .unset, .unset, .unset, .unset, .unset] [(.int (ps + pl))])
          exact J4 _ (Or.inr (own_pe hps hpl2))
      by_cases hb3 : (x2 &&& (4 : Int32)) = (0 : Int32)
      · skip
        refine OEnds.go (fun _ q => XS.ifYes X0.here X0.hx rfl (pc0 := 28) (pc' := 35) rfl (hb hby at_28) rfl ((if0 _ _).trans (teq hb3).1) (by decide) (by decide) q) ?_
        show OEnds p e below _ T (mkF m 35 #[.val (.int x0), .val (.int x1), .val (.int x2), .val (.int ps), .val (.int hq), .unset, .unset, .unset, .unset, .unset, .unset, .unset, .unset, .unset, .unset] [])
        refine OEnds.go (fun _ q => XS.iconst X0.here X0.hx rfl (hb hby at_35) q) ?_
        show OEnds p e below _ T (mkF m 36 #[.val (.int x0), .val (.int x1), .val (.int x2), .val (.int ps), .val (.int hq), .unset, .unset, .unset, .unset, .unset, .unset, .unset, .unset, .unset, .unset] [(.int (0 : Int32))])
        exact J3 _ (Or.inl rfl)
      · skip
        refine OEnds.go (fun _ q => XS.ifNo X0.here X0.hx rfl (hb hby at_28) rfl ((if0 _ _).trans (feq hb3).1) q) ?_
        show OEnds p e below _ T (mkF m 31 #[.val (.int x0), .val (.int x1), .val (.int x2), .val (.int ps), .val (.int hq), .unset, .unset, .unset, .unset, .unset, .unset, .unset, .unset, .unset, .unset] [])
        refine OEnds.go (fun _ q => XS.iconst X0.here X0.hx rfl (hb hby at_31) q) ?_
        show OEnds p e below _ T (mkF m 32 #[.val (.int x0), .val (.int x1), .val (.int x2), .val (.int ps), .val (.int hq), .unset, .unset, .unset, .unset, .unset, .unset, .unset, .unset, .unset, .unset] [(.int (1 : Int32))])
        refine OEnds.go (fun _ q => XS.goto X0.here X0.hx rfl (pc0 := 32) (pc' := 36) rfl (hb hby at_32) (by decide) (by decide) q) ?_
        show OEnds p e below _ T (mkF m 36 #[.val (.int x0), .val (.int x1), .val (.int x2), .val (.int ps), .val (.int hq), .unset, .unset, .unset, .unset, .unset, .unset, .unset, .unset, .unset, .unset] [(.int (1 : Int32))])
        exact J3 _ (Or.inr rfl)
    by_cases hb2 : (x2 &&& (2 : Int32)) = (0 : Int32)
    · skip
      refine OEnds.go (fun _ q => XS.ifYes X0.here X0.hx rfl (pc0 := 15) (pc' := 22) rfl (hb hby at_15) rfl ((if0 _ _).trans (teq hb2).1) (by decide) (by decide) q) ?_
      show OEnds p e below _ T (mkF m 22 #[.val (.int x0), .val (.int x1), .val (.int x2), .val (.int ps), .unset, .unset, .unset, .unset, .unset, .unset, .unset, .unset, .unset, .unset, .unset] [])
      refine OEnds.go (fun _ q => XS.iconst X0.here X0.hx rfl (hb hby at_22) q) ?_
      show OEnds p e below _ T (mkF m 23 #[.val (.int x0), .val (.int x1), .val (.int x2), .val (.int ps), .unset, .unset, .unset, .unset, .unset, .unset, .unset, .unset, .unset, .unset, .unset] [(.int (0 : Int32))])
      exact J2 _ (Or.inl rfl)
    · skip
      refine OEnds.go (fun _ q => XS.ifNo X0.here X0.hx rfl (hb hby at_15) rfl ((if0 _ _).trans (feq hb2).1) q) ?_
      show OEnds p e below _ T (mkF m 18 #[.val (.int x0), .val (.int x1), .val (.int x2), .val (.int ps), .unset, .unset, .unset, .unset, .unset, .unset, .unset, .unset, .unset, .unset, .unset] [])
      refine OEnds.go (fun _ q => XS.iconst X0.here X0.hx rfl (hb hby at_18) q) ?_
      show OEnds p e below _ T (mkF m 19 #[.val (.int x0), .val (.int x1), .val (.int x2), .val (.int ps), .unset, .unset, .unset, .unset, .unset, .unset, .unset, .unset, .unset, .unset, .unset] [(.int (1 : Int32))])
      refine OEnds.go (fun _ q => XS.goto X0.here X0.hx rfl (pc0 := 19) (pc' := 23) rfl (hb hby at_19) (by decide) (by decide) q) ?_
      show OEnds p e below _ T (mkF m 23 #[.val (.int x0), .val (.int x1), .val (.int x2), .val (.int ps), .unset, .unset, .unset, .unset, .unset, .unset, .unset, .unset, .unset, .unset, .unset] [(.int (1 : Int32))])
      exact J2 _ (Or.inr rfl)
  by_cases hb1 : (x2 &&& (1 : Int32)) = (0 : Int32)
  · skip
    refine OEnds.go (fun _ q => XS.ifYes X0.here X0.hx rfl (pc0 := 3) (pc' := 10) rfl (hb hby at_3) rfl ((if0 _ _).trans (teq hb1).1) (by decide) (by decide) q) ?_
    show OEnds p e below _ T (mkF m 10 #[.val (.int x0), .val (.int x1), .val (.int x2), .unset, .unset, .unset, .unset, .unset, .unset, .unset, .unset, .unset, .unset, .unset, .unset] [])
    refine OEnds.go (fun _ q => XS.iconst X0.here X0.hx rfl (hb hby at_10) q) ?_
    show OEnds p e below _ T (mkF m 11 #[.val (.int x0), .val (.int x1), .val (.int x2), .unset, .unset, .unset, .unset, .unset, .unset, .unset, .unset, .unset, .unset, .unset, .unset] [(.int (0 : Int32))])
    exact J1 _ (Or.inl rfl)
  · skip
    refine OEnds.go (fun _ q => XS.ifNo X0.here X0.hx rfl (hb hby at_3) rfl ((if0 _ _).trans (feq hb1).1) q) ?_
    show OEnds p e below _ T (mkF m 6 #[.val (.int x0), .val (.int x1), .val (.int x2), .unset, .unset, .unset, .unset, .unset, .unset, .unset, .unset, .unset, .unset, .unset, .unset] [])
    refine OEnds.go (fun _ q => XS.iconst X0.here X0.hx rfl (hb hby at_6) q) ?_
    show OEnds p e below _ T (mkF m 7 #[.val (.int x0), .val (.int x1), .val (.int x2), .unset, .unset, .unset, .unset, .unset, .unset, .unset, .unset, .unset, .unset, .unset, .unset] [(.int (2 : Int32))])
    refine OEnds.go (fun _ q => XS.goto X0.here X0.hx rfl (pc0 := 7) (pc' := 11) rfl (hb hby at_7) (by decide) (by decide) q) ?_
    show OEnds p e below _ T (mkF m 11 #[.val (.int x0), .val (.int x1), .val (.int x2), .unset, .unset, .unset, .unset, .unset, .unset, .unset, .unset, .unset, .unset, .unset, .unset] [(.int (2 : Int32))])
    exact J1 _ (Or.inr rfl)
theorem comes_1 {Post : Tables → Env → Array Value → State → Outcome → State → Prop} (hpost : ∀ tb e args s v u, (limb_1_1.after args s (.returned v) u = true ∧ limb_1_2.after args s (.returned v) u = true ∧ True) → ReturnedEndW s (.returned v) u (Jvm.fieldLocs frame_1_writes args s ++ Jvm.arrayLocs frame_1_arrays args s ++ Jvm.staticLocs frame_1_statics s) 24 2240 → Post tb e args s (.returned v) u) :
    ArmFor flags0 classFile x code maxLocals ret World_1 tables_1 room_1 Calls_1 rest_1 Pre_1 Post := by
  intro l hfl _ _ p e ha hc hk s m args below hf hA hF happ hP
  obtain ⟨hcalls, hrest, hpre⟩ := hP
  obtain ⟨-, -, -, hnamed, -, -, -, hat⟩ := (Spec.applies_iff hf).mp happ
  obtain ⟨hg, hn⟩ := and_e (Cond.before_iff.mp (show (Jvm.Cond.and given_1 narrow_1).before args s = true from hpre))
  obtain ⟨g0, gr⟩ := and_e hg
  obtain ⟨ga0, gr⟩ := and_e gr
  obtain ⟨ga1, gr⟩ := and_e gr
  obtain ⟨w0, w1, w2, rfl⟩ : ∃ w0 w1 w2 : Value, args = #[w0, w1, w2] := by
    have hs : args.size = 3 := by simpa [Cond.value, given_1] using g0
    obtain ⟨L⟩ := args
    match L, hs with
    | [w0, w1, w2], _ => exact ⟨w0, w1, w2, rfl⟩
  have hw := fun d (hd : d ∈ tables_1) => atoms_spec (ws := Jvm.Cond.code x code maxLocals ret :: tables_1) hat d (List.mem_cons_of_mem _ hd)
  obtain ⟨hsets, hown0⟩ := atoms_of _ (rest_1_c_eq ▸ (show rest_1_c.before _ s = true from hrest))
  have hfit : Fit s := fun {y c} hc i hi => by
    obtain ⟨ha, rfl⟩ := Array.getElem?_eq_some_iff.mp hc
    have q := List.all_eq_true.mp ((Array.all_eq_true_iff_forall_mem.mp hF) _ (Array.getElem_mem ha)) i (List.mem_range.mpr hi)
    simpa [Array.getElem?_eq_getElem hi] using q
  obtain ⟨i0, e0⟩ := is_v ga0
  obtain rfl : w0 = (.int i0) := Option.some.inj e0
  obtain ⟨i1, e1⟩ := is_v ga1
  obtain rfl : w1 = (.int i1) := Option.some.inj e1
  obtain ⟨i2, e2⟩ := is_v gr
  obtain rfl : w2 = (.int i2) := Option.some.inj e2
  obtain ⟨cz, ecz⟩ := is_v (Cond.before_iff.mp (hsets _ (List.mem_of_getElem? (i := 1) rfl)))
  have S0 : Sta s s.heap "java/lang/String" "COMPACT_STRINGS" "Z" (.int cz) := Sta.start ecz (Or.inl (hsets _ (List.mem_of_getElem? (i := 0) rfl)))
  have hcz : ¬ (cz = (0 : Int32)) := gotF (Cond.eq_ints ecz (Term.int_eval (0))) (not_v (Cond.before_iff.mp (hsets _ (List.mem_of_getElem? (i := 2) rfl))))
  obtain ⟨fm, efm, rf⟩ := isR_v (Cond.before_iff.mp (hsets _ (List.mem_of_getElem? (i := 8) rfl)))
  have S1 : Sta s s.heap "jdk/internal/util/Preconditions" "SIOOBE_FORMATTER" "Ljava/util/function/BiFunction;" fm := Sta.start efm (Or.inl (hsets _ (List.mem_of_getElem? (i := 7) rfl)))
  have hE : EW s #[.int i0, .int i1, .int i2] consts_1 := EW.cons (hw _ (List.mem_of_getElem? (i := 12) rfl)) (by decide) (EW.cons (hw _ (List.mem_of_getElem? (i := 119) rfl)) (by decide) (EW.nil))
  have hCH : CHv s consts_1 s.vm s.heap := CHv.start hE hcalls.1 (hsets _ (List.mem_of_getElem? (i := 2) rfl)) (hw _ (List.mem_of_getElem? (i := 15) rfl)) (hw _ (List.mem_of_getElem? (i := 14) rfl))
  obtain ⟨n, o, h1, h2, h3, v, L, rfl, ⟨rfl, N, -⟩, hq⟩ := con_law (l := l) (Z := s) (a0 := _) ⟨hw, hE, S0, hcz, S1, rf⟩ i0 i1 i2 s.heap (ext_refl _) p e ha hc hk s m _ below hf ((Spec.applies_iff_loose hf).mp happ).1 ⟨rfl, State.Warmed39.refl s, rfl, hCH⟩ trivial
  refine ⟨n, _, h1, h2, h3, hpost _ _ _ _ _ _ ⟨Cond.after_iff.mpr rfl, Cond.after_iff.mpr (eq_i res_at (Term.int_eval (1)) rfl), trivial⟩ ⟨hq.2.1, hq.2.2.1, hq.2.2.2.1, (hq.2.2.2.2.sift fun y hy => Or.inr (N y hy)).mono (by decide) (by decide)⟩⟩
theorem main_1_1 : Claimed_1_1 := comes_1 fun _ _ _ _ _ _ h hF => ⟨h.1, hF⟩
theorem main_1_2 : Claimed_1_2 := comes_1 fun _ _ _ _ _ _ h hF => ⟨h.2.1, hF⟩
end Jvm.Pilot.@@N@@
namespace Jvm.Pilot.@@N@@
open Jvm Jvm.ClassFile Sem Op Lib Jvm.Free Jvm.Stand Jvm.Pilot.@@N@@.Jvm.D
/-! MADE BY PROGRAM (witnessworld.py) out of the Statement's table words and the real class files: 23 classes; the members and pool entries that the words name. The judged class is class 1, her method 4. -/
namespace start1
open Jvm.ClassFile
def u (s : String) : CpInfo := .utf8 (stringToUtf16 s)
/-- a pool by its gaps: so many unusable entries, then the entry; so many at the end -/
def gap : Nat → List CpInfo → List CpInfo
  | 0, r => r
  | n + 1, r => .unusable :: gap n r
def poolList (es : List (Nat × CpInfo)) (last : Nat) : List CpInfo := es.foldr (fun e r => gap e.1 (e.2 :: r)) (gap last [])
def pool (es : List (Nat × CpInfo)) (last : Nat) : Array CpInfo := ⟨poolList es last⟩
def fileOf (pool : Array CpInfo) (this : Nat) (attrs : Array Attribute := #[]) (ms : Array MethodInfo := #[]) (fl : Nat := 33) (sup : Nat := 0) (ifs : Array Nat := #[]) (fds : Array FieldInfo := #[]) : ClassFile where
  minorVersion := 0
  majorVersion := 65
  constantPool := pool
  accessFlags := fl
  thisClass := this
  superClass := sup
  interfaces := ifs
  fields := fds
  methods := ms
  attributes := attrs
def plain (name : String) (sup : Option ClassId) : Class where
  name := name
  kind := .ordinary
  loader := none
  accessFlags := 33
  super := sup
  interfaces := #[]
  cf := none
  fields := #[]
  methods := #[]
  instanceTypes := #[]
  staticTypes := #[]
  resolved := #[]
  callSites := []
  init := .initialized
  statics := none
  mirror := none

def pool0 : Array CpInfo := pool [(5, u "<init>"), (0, u "()V"), (1, .class_ 10), (1, u "java/lang/Object")] 113

def k0c0 : Code := { maxStack := 0, maxLocals := 1, code := object_method_1_code, exceptionTable := #[], attributes := #[] }
def k0m0 : Method := { name := "<init>", desc := "()V", sig := { parameters := [], returnType := none }, accessFlags := 1, code := some k0c0 }
/-- java/lang/Object -/
def k0 : Class := { plain "java/lang/Object" none with
  accessFlags := 33
  interfaces := #[]
  cf := some (fileOf pool0 8 #[] #[{ accessFlags := 1, nameIndex := 5, descriptorIndex := 6, attributes := #[] }] 33 0 #[] #[])
  fields := #[]
  methods := #[k0m0]
  instanceTypes := #[]
  staticTypes := #[]
  resolved := Array.replicate 124 none
  statics := none }

def pool1 : Array CpInfo := pool [(2, .class_ 4), (1, u "java/lang/Object"), (0, u "<init>"), (0, u "()V"), (0, .string 8), (0, u "abcdefghijklmnopqrstuvwxyzABCDEFGHIJKLMNOPQRSTUVWXYZ0123456789-._~!$&'()*+,;=:@/?"), (0, .methodref 10 11), (0, .class_ 12), (0, .nameAndType 13 14), (0, u "java/lang/String"), (0, u "charAt"), (0, u "(I)C"), (0, .methodref 10 16), (0, .nameAndType 17 18), (0, u "length"), (0, u "()I"), (0, .methodref 20 21), (0, .class_ 22), (0, .nameAndType 23 24), (0, u "java/lang/Math"), (0, u "min"), (0, u "(II)I"), (0, .methodref 26 27), (0, .class_ 28), (0, .nameAndType 29 30), (0, u "com/example/riden/riden/parse/ComponentsQueryPinLaw"), (0, u "raw"), (0, u "(III)I"), (0, .methodref 26 32), (0, .nameAndType 33 34), (0, u "cell"), (0, u "(IIIIZI)C"), (0, .class_ 36), (0, u "com/example/riden/riden/parse/Components"), (0, .methodref 10 38), (0, .nameAndType 5 39), (0, u "([C)V"), (0, .methodref 35 41), (0, .nameAndType 5 42), (0, u "(Ljava/lang/String;IIILcom/example/riden/riden/model/HostKind;III)V"), (0, .methodref 35 44), (0, .nameAndType 45 46), (0, u "query"), (0, u "()Ljava/lang/String;"), (0, .methodref 26 48), (0, .nameAndType 49 50), (0, u "at"), (0, u "(Ljava/lang/String;[CII)Z"), (3, u "law"), (0, u "(III)Z")] 4

def k1m0 : Method := { name := "<init>", desc := "()V", sig := { parameters := [], returnType := none }, accessFlags := 1, code := none }
def k1c1 : Code := { maxStack := 4, maxLocals := 4, code := method_2_code, exceptionTable := #[], attributes := #[] }
def k1m1 : Method := { name := "raw", desc := "(III)I", sig := { parameters := [.int, .int, .int], returnType := some .int }, accessFlags := 10, code := some k1c1 }
def k1c2 : Code := { maxStack := 3, maxLocals := 7, code := method_3_code, exceptionTable := #[], attributes := #[] }
def k1m2 : Method := { name := "cell", desc := "(IIIIZI)C", sig := { parameters := [.int, .int, .int, .int, .boolean, .int], returnType := some .char }, accessFlags := 10, code := some k1c2 }
def k1c3 : Code := { maxStack := 4, maxLocals := 4, code := method_4_code, exceptionTable := #[], attributes := #[] }
def k1m3 : Method := { name := "at", desc := "(Ljava/lang/String;[CII)Z", sig := { parameters := [(.object "java/lang/String"), (.array .char), .int, .int], returnType := some .boolean }, accessFlags := 10, code := some k1c3 }
def k1c4 : Code := { maxStack := 10, maxLocals := 15, code := code, exceptionTable := #[], attributes := #[] }
def k1m4 : Method := { name := "law", desc := "(III)Z", sig := { parameters := [.int, .int, .int], returnType := some .boolean }, accessFlags := 9, code := some k1c4 }
/-- com/example/riden/riden/parse/ComponentsQueryPinLaw -/
def k1 : Class := { plain "com/example/riden/riden/parse/ComponentsQueryPinLaw" (some 0) with
  accessFlags := 49
  interfaces := #[]
  cf := some (fileOf pool1 26 #[] #[{ accessFlags := 1, nameIndex := 5, descriptorIndex := 6, attributes := #[] }, { accessFlags := 10, nameIndex := 29, descriptorIndex := 30, attributes := #[] }, { accessFlags := 10, nameIndex := 33, descriptorIndex := 34, attributes := #[] }, { accessFlags := 10, nameIndex := 49, descriptorIndex := 50, attributes := #[] }, { accessFlags := 9, nameIndex := 54, descriptorIndex := 55, attributes := #[] }] 49 2 #[] #[])
  fields := #[]
  methods := #[k1m0, k1m1, k1m2, k1m3, k1m4]
  instanceTypes := #[]
  staticTypes := #[]
  resolved := Array.replicate 60 none
  statics := none }

def pool2 : Array CpInfo := pool [(1, .class_ 2), (0, u "java/lang/Math"), (1, .class_ 6), (1, u "java/lang/Object"), (0, u "<init>"), (0, u "()V"), (89, .class_ 100), (1, u "java/lang/Math$RandomNumberGeneratorHolder"), (71, u "negativeZeroFloatBits"), (0, u "J"), (2, u "negativeZeroDoubleBits"), (24, u "min"), (43, u "$assertionsDisabled"), (0, u "Z"), (88, u "(II)I"), (2, u "twoToTheDoubleScaleDown"), (0, u "D"), (4, u "twoToTheDoubleScaleUp"), (9, u "E"), (3, u "PI"), (2, u "TAU"), (2, u "DEGREES_TO_RADIANS"), (0, u "RADIANS_TO_DEGREES")] 94

def k2m0 : Method := { name := "<init>", desc := "()V", sig := { parameters := [], returnType := none }, accessFlags := 2, code := none }
def k2c1 : Code := { maxStack := 2, maxLocals := 2, code := jdk_29_method_69_code, exceptionTable := #[], attributes := #[] }
def k2m1 : Method := { name := "min", desc := "(II)I", sig := { parameters := [.int, .int], returnType := some .int }, accessFlags := 9, code := some k2c1 }
/-- java/lang/Math -/
def k2 : Class := { plain "java/lang/Math" (some 0) with
  accessFlags := 49
  interfaces := #[]
  cf := some (fileOf pool2 1 #[.nestMembers #[98]] #[{ accessFlags := 2, nameIndex := 7, descriptorIndex := 8, attributes := #[] }, { accessFlags := 9, nameIndex := 201, descriptorIndex := 335, attributes := #[] }] 49 4 #[] #[{ accessFlags := 25, nameIndex := 354, descriptorIndex := 339, attributes := #[] }, { accessFlags := 25, nameIndex := 358, descriptorIndex := 339, attributes := #[] }, { accessFlags := 25, nameIndex := 361, descriptorIndex := 339, attributes := #[] }, { accessFlags := 26, nameIndex := 364, descriptorIndex := 339, attributes := #[] }, { accessFlags := 26, nameIndex := 365, descriptorIndex := 339, attributes := #[] }, { accessFlags := 26, nameIndex := 172, descriptorIndex := 173, attributes := #[] }, { accessFlags := 26, nameIndex := 176, descriptorIndex := 173, attributes := #[] }, { accessFlags := 8, nameIndex := 344, descriptorIndex := 339, attributes := #[] }, { accessFlags := 8, nameIndex := 338, descriptorIndex := 339, attributes := #[] }, { accessFlags := 4120, nameIndex := 245, descriptorIndex := 246, attributes := #[] }])
  fields := #[{ name := "E", type := .double, accessFlags := 25, slot := 0, constantValue := 0 }, { name := "PI", type := .double, accessFlags := 25, slot := 1, constantValue := 0 }, { name := "TAU", type := .double, accessFlags := 25, slot := 2, constantValue := 0 }, { name := "DEGREES_TO_RADIANS", type := .double, accessFlags := 26, slot := 3, constantValue := 0 }, { name := "RADIANS_TO_DEGREES", type := .double, accessFlags := 26, slot := 4, constantValue := 0 }, { name := "negativeZeroFloatBits", type := .long, accessFlags := 26, slot := 5, constantValue := 0 }, { name := "negativeZeroDoubleBits", type := .long, accessFlags := 26, slot := 6, constantValue := 0 }, { name := "twoToTheDoubleScaleUp", type := .double, accessFlags := 8, slot := 7, constantValue := 0 }, { name := "twoToTheDoubleScaleDown", type := .double, accessFlags := 8, slot := 8, constantValue := 0 }, { name := "$assertionsDisabled", type := .boolean, accessFlags := 4120, slot := 9, constantValue := 0 }]
  methods := #[k2m0, k2m1]
  instanceTypes := #[]
  staticTypes := #[.double, .double, .double, .double, .double, .long, .long, .double, .double, .boolean]
  resolved := Array.replicate 460 none
  statics := none }

def pool3 : Array CpInfo := pool [(1, .class_ 2), (0, u "java/io/Serializable"), (0, .class_ 4), (0, u "java/lang/Object")] 2

/-- java/io/Serializable -/
def k3 : Class := { plain "java/io/Serializable" (some 0) with
  accessFlags := 1537
  interfaces := #[]
  cf := some (fileOf pool3 1 #[] #[] 1537 3 #[] #[])
  fields := #[]
  methods := #[]
  instanceTypes := #[]
  staticTypes := #[]
  resolved := Array.replicate 7 none
  statics := none }

def pool4 : Array CpInfo := pool [(1, .class_ 2), (0, u "java/lang/Comparable"), (0, .class_ 4), (0, u "java/lang/Object")] 7

/-- java/lang/Comparable -/
def k4 : Class := { plain "java/lang/Comparable" (some 0) with
  accessFlags := 1537
  interfaces := #[]
  cf := some (fileOf pool4 1 #[] #[] 1537 3 #[] #[])
  fields := #[]
  methods := #[]
  instanceTypes := #[]
  staticTypes := #[]
  resolved := Array.replicate 12 none
  statics := none }

def pool5 : Array CpInfo := pool [(2, .class_ 4), (1, u "java/lang/CharSequence"), (42, .class_ 48), (0, u "java/lang/CharSequence$1CodePointIterator"), (10, .class_ 60), (0, u "java/lang/CharSequence$1CharIterator"), (5, .class_ 67), (0, u "java/lang/Object")] 63

/-- java/lang/CharSequence -/
def k5 : Class := { plain "java/lang/CharSequence" (some 0) with
  accessFlags := 1537
  interfaces := #[]
  cf := some (fileOf pool5 2 #[.nestMembers #[47, 59]] #[] 1537 66 #[] #[])
  fields := #[]
  methods := #[]
  instanceTypes := #[]
  staticTypes := #[]
  resolved := Array.replicate 131 none
  statics := none }

def pool6 : Array CpInfo := pool [(1, .class_ 2), (0, u "java/lang/constant/Constable"), (0, .class_ 4), (0, u "java/lang/Object")] 6

/-- java/lang/constant/Constable -/
def k6 : Class := { plain "java/lang/constant/Constable" (some 0) with
  accessFlags := 1537
  interfaces := #[]
  cf := some (fileOf pool6 1 #[] #[] 1537 3 #[] #[])
  fields := #[]
  methods := #[]
  instanceTypes := #[]
  staticTypes := #[]
  resolved := Array.replicate 11 none
  statics := none }

def pool7 : Array CpInfo := pool [(1, .class_ 2), (0, u "java/lang/constant/ConstantDesc"), (0, .class_ 4), (0, u "java/lang/Object")] 32

/-- java/lang/constant/ConstantDesc -/
def k7 : Class := { plain "java/lang/constant/ConstantDesc" (some 0) with
  accessFlags := 1537
  interfaces := #[]
  cf := some (fileOf pool7 1 #[] #[] 1537 3 #[] #[])
  fields := #[]
  methods := #[]
  instanceTypes := #[]
  staticTypes := #[]
  resolved := Array.replicate 37 none
  statics := none }

def pool8 : Array CpInfo := pool [(1, .methodref 2 3), (0, .class_ 4), (0, .nameAndType 5 6), (0, u "java/lang/Object"), (0, u "<init>"), (0, u "()V"), (2, .fieldref 10 11), (0, .class_ 12), (0, .nameAndType 13 14), (0, u "java/lang/String"), (0, u "value"), (0, u "[B"), (0, .fieldref 10 16), (0, .nameAndType 17 18), (0, u "coder"), (0, u "B"), (2, u "hash"), (0, u "I"), (2, u "hashIsZero"), (0, u "Z"), (0, .methodref 10 28), (0, .nameAndType 5 29), (0, u "([CIILjava/lang/Void;)V"), (8, .fieldref 10 39), (0, .nameAndType 40 26), (0, u "COMPACT_STRINGS"), (1, .class_ 44), (1, u "java/lang/StringUTF16"), (0, u "compress"), (1, .methodref 42 48), (0, .nameAndType 49 50), (0, u "coderFromArrayLen"), (0, u "([BI)B"), (56, .class_ 109), (1, u "java/lang/StringLatin1"), (32, u "()Z"), (34, .methodref 42 178), (0, .nameAndType 45 179), (0, u "([CII)[B"), (31, u "([BB)V"), (122, u "()I"), (0, .methodref 10 336), (0, .nameAndType 17 337), (0, u "()B"), (25, u "([BI)C"), (27, u "(II)V"), (35, u "(I)C"), (64, .methodref 10 493), (0, .nameAndType 494 142), (0, u "isLatin1"), (0, .methodref 107 496), (0, .nameAndType 497 363), (0, u "charAt"), (3, u "checkIndex"), (3, .methodref 10 506), (0, .nameAndType 507 334), (0, u "length"), (5, u "checkFromToIndex"), (7, .methodref 10 522), (0, .nameAndType 523 524), (0, u "checkBoundsBeginEnd"), (0, u "(III)V"), (50, .class_ 576), (0, u "java/lang/CharSequence"), (22, u "CASE_INSENSITIVE_ORDER"), (0, u "Ljava/util/Comparator;"), (82, u "substring"), (0, u "(II)Ljava/lang/String;"), (0, .methodref 107 686), (0, .nameAndType 687 688), (0, u "newString"), (0, u "([BII)Ljava/lang/String;"), (321, u "([C)V"), (42, .fieldref 1054 1055), (0, .class_ 1056), (0, .nameAndType 1057 1058), (0, u "jdk/internal/util/Preconditions"), (0, u "SIOOBE_FORMATTER"), (0, u "Ljava/util/function/BiFunction;"), (0, .methodref 1054 1060), (0, .nameAndType 501 1061), (0, u "(IILjava/util/function/BiFunction;)I"), (0, .methodref 1054 1063), (0, .nameAndType 513 1064), (0, u "(IIILjava/util/function/BiFunction;)I"), (36, u "serialPersistentFields"), (0, u "[Ljava/io/ObjectStreamField;"), (0, .class_ 1104), (0, u "java/lang/String$CaseInsensitiveComparator"), (1, .class_ 1107), (0, u "java/io/Serializable"), (0, .class_ 1109), (0, u "java/lang/Comparable"), (0, .class_ 1111), (0, u "java/lang/constant/Constable"), (0, .class_ 1113), (0, u "java/lang/constant/ConstantDesc"), (2, u "serialVersionUID"), (0, u "J"), (3, u "REPL"), (0, u "C"), (2, u "LATIN1"), (1, u "UTF16")] 323

def k8m0 : Method := { name := "<init>", desc := "()V", sig := { parameters := [], returnType := none }, accessFlags := 1, code := none }
def k8c1 : Code := { maxStack := 5, maxLocals := 2, code := jdk_42_method_3_code, exceptionTable := #[], attributes := #[] }
def k8m1 : Method := { name := "<init>", desc := "([C)V", sig := { parameters := [(.array .char)], returnType := none }, accessFlags := 1, code := some k8c1 }
def k8c2 : Code := { maxStack := 2, maxLocals := 1, code := jdk_42_method_54_code, exceptionTable := #[], attributes := #[] }
def k8m2 : Method := { name := "length", desc := "()I", sig := { parameters := [], returnType := some .int }, accessFlags := 1, code := some k8c2 }
def k8c3 : Code := { maxStack := 2, maxLocals := 2, code := jdk_42_method_56_code, exceptionTable := #[], attributes := #[] }
def k8m3 : Method := { name := "charAt", desc := "(I)C", sig := { parameters := [.int], returnType := some .char }, accessFlags := 1, code := some k8c3 }
def k8c4 : Code := { maxStack := 3, maxLocals := 5, code := jdk_42_method_92_code, exceptionTable := #[], attributes := #[] }
def k8m4 : Method := { name := "substring", desc := "(II)Ljava/lang/String;", sig := { parameters := [.int, .int], returnType := some (.object "java/lang/String") }, accessFlags := 1, code := some k8c4 }
def k8c5 : Code := { maxStack := 4, maxLocals := 6, code := jdk_42_method_149_code, exceptionTable := #[], attributes := #[] }
def k8m5 : Method := { name := "<init>", desc := "([CIILjava/lang/Void;)V", sig := { parameters := [(.array .char), .int, .int, (.object "java/lang/Void")], returnType := none }, accessFlags := 2, code := some k8c5 }
def k8c6 : Code := { maxStack := 2, maxLocals := 3, code := jdk_42_method_151_code, exceptionTable := #[], attributes := #[] }
def k8m6 : Method := { name := "<init>", desc := "([BB)V", sig := { parameters := [(.array .byte), .byte], returnType := none }, accessFlags := 0, code := some k8c6 }
def k8c7 : Code := { maxStack := 1, maxLocals := 1, code := jdk_42_method_152_code, exceptionTable := #[], attributes := #[] }
def k8m7 : Method := { name := "coder", desc := "()B", sig := { parameters := [], returnType := some .byte }, accessFlags := 0, code := some k8c7 }
def k8c8 : Code := { maxStack := 1, maxLocals := 1, code := jdk_42_method_154_code, exceptionTable := #[], attributes := #[] }
def k8m8 : Method := { name := "isLatin1", desc := "()Z", sig := { parameters := [], returnType := some .boolean }, accessFlags := 0, code := some k8c8 }
def k8c9 : Code := { maxStack := 3, maxLocals := 2, code := jdk_42_method_155_code, exceptionTable := #[], attributes := #[] }
def k8m9 : Method := { name := "checkIndex", desc := "(II)V", sig := { parameters := [.int, .int], returnType := none }, accessFlags := 8, code := some k8c9 }
def k8c10 : Code := { maxStack := 4, maxLocals := 3, code := jdk_42_method_158_code, exceptionTable := #[], attributes := #[] }
def k8m10 : Method := { name := "checkBoundsBeginEnd", desc := "(III)V", sig := { parameters := [.int, .int, .int], returnType := none }, accessFlags := 8, code := some k8c10 }
/-- java/lang/String -/
def k8 : Class := { plain "java/lang/String" (some 0) with
  accessFlags := 49
  interfaces := #[3, 4, 5, 6, 7]
  cf := some (fileOf pool8 10 #[.nestMembers #[1103]] #[{ accessFlags := 1, nameIndex := 5, descriptorIndex := 6, attributes := #[] }, { accessFlags := 1, nameIndex := 5, descriptorIndex := 1010, attributes := #[] }, { accessFlags := 1, nameIndex := 507, descriptorIndex := 334, attributes := #[] }, { accessFlags := 1, nameIndex := 497, descriptorIndex := 427, attributes := #[] }, { accessFlags := 1, nameIndex := 683, descriptorIndex := 684, attributes := #[] }, { accessFlags := 2, nameIndex := 5, descriptorIndex := 29, attributes := #[] }, { accessFlags := 0, nameIndex := 5, descriptorIndex := 211, attributes := #[] }, { accessFlags := 0, nameIndex := 17, descriptorIndex := 337, attributes := #[] }, { accessFlags := 0, nameIndex := 494, descriptorIndex := 142, attributes := #[] }, { accessFlags := 8, nameIndex := 501, descriptorIndex := 391, attributes := #[] }, { accessFlags := 8, nameIndex := 523, descriptorIndex := 524, attributes := #[] }] 49 2 #[1106, 1108, 575, 1110, 1112] #[{ accessFlags := 18, nameIndex := 13, descriptorIndex := 14, attributes := #[] }, { accessFlags := 18, nameIndex := 17, descriptorIndex := 18, attributes := #[] }, { accessFlags := 2, nameIndex := 21, descriptorIndex := 22, attributes := #[] }, { accessFlags := 2, nameIndex := 25, descriptorIndex := 26, attributes := #[] }, { accessFlags := 26, nameIndex := 1116, descriptorIndex := 1117, attributes := #[] }, { accessFlags := 24, nameIndex := 40, descriptorIndex := 26, attributes := #[] }, { accessFlags := 26, nameIndex := 1101, descriptorIndex := 1102, attributes := #[] }, { accessFlags := 26, nameIndex := 1121, descriptorIndex := 1122, attributes := #[] }, { accessFlags := 25, nameIndex := 599, descriptorIndex := 600, attributes := #[] }, { accessFlags := 24, nameIndex := 1125, descriptorIndex := 18, attributes := #[] }, { accessFlags := 24, nameIndex := 1127, descriptorIndex := 18, attributes := #[] }])
  fields := #[{ name := "value", type := (.array .byte), accessFlags := 18, slot := 0, constantValue := 0 }, { name := "coder", type := .byte, accessFlags := 18, slot := 1, constantValue := 0 }, { name := "hash", type := .int, accessFlags := 2, slot := 2, constantValue := 0 }, { name := "hashIsZero", type := .boolean, accessFlags := 2, slot := 3, constantValue := 0 }, { name := "serialVersionUID", type := .long, accessFlags := 26, slot := 0, constantValue := 0 }, { name := "COMPACT_STRINGS", type := .boolean, accessFlags := 24, slot := 1, constantValue := 0 }, { name := "serialPersistentFields", type := (.array (.object "java/io/ObjectStreamField")), accessFlags := 26, slot := 2, constantValue := 0 }, { name := "REPL", type := .char, accessFlags := 26, slot := 3, constantValue := 0 }, { name := "CASE_INSENSITIVE_ORDER", type := (.object "java/util/Comparator"), accessFlags := 25, slot := 4, constantValue := 0 }, { name := "LATIN1", type := .byte, accessFlags := 24, slot := 5, constantValue := 0 }, { name := "UTF16", type := .byte, accessFlags := 24, slot := 6, constantValue := 0 }]
  methods := #[k8m0, k8m1, k8m2, k8m3, k8m4, k8m5, k8m6, k8m7, k8m8, k8m9, k8m10]
  instanceTypes := #[(.array .byte), .byte, .int, .boolean]
  staticTypes := #[.long, .boolean, (.array (.object "java/io/ObjectStreamField")), .char, (.object "java/util/Comparator"), .byte, .byte]
  resolved := Array.replicate 1451 none
  statics := some 0 }

def pool9 : Array CpInfo := pool [(1, .class_ 2), (0, u "java/lang/String"), (1, .class_ 6), (1, u "java/lang/Object"), (0, u "<init>"), (0, u "()V"), (0, .methodref 1 10), (0, .nameAndType 11 12), (0, u "checkIndex"), (0, u "(II)V"), (1, .class_ 16), (1, u "java/lang/StringLatin1"), (36, u "([BI)C"), (58, .methodref 1 113), (0, .nameAndType 7 114), (0, u "([BB)V"), (6, u "$assertionsDisabled"), (0, u "Z"), (8, .class_ 133), (1, u "java/util/Arrays"), (17, .string 152), (0, u ""), (43, u "newString"), (0, u "([BII)Ljava/lang/String;"), (23, .class_ 223), (1, u "java/lang/StringLatin1$LinesSpliterator"), (8, .methodref 131 233), (0, .nameAndType 234 235), (0, u "copyOfRange"), (0, u "([BII)[B"), (16, u "charAt"), (137, .class_ 391), (0, u "java/lang/StringLatin1$CharsSpliterator")] 3

def k9m0 : Method := { name := "<init>", desc := "()V", sig := { parameters := [], returnType := none }, accessFlags := 0, code := none }
def k9c1 : Code := { maxStack := 2, maxLocals := 2, code := jdk_43_method_2_code, exceptionTable := #[], attributes := #[] }
def k9m1 : Method := { name := "charAt", desc := "([BI)C", sig := { parameters := [(.array .byte), .int], returnType := some .char }, accessFlags := 9, code := some k9c1 }
def k9c2 : Code := { maxStack := 6, maxLocals := 3, code := jdk_43_method_47_code, exceptionTable := #[], attributes := #[] }
def k9m2 : Method := { name := "newString", desc := "([BII)Ljava/lang/String;", sig := { parameters := [(.array .byte), .int, .int], returnType := some (.object "java/lang/String") }, accessFlags := 9, code := some k9c2 }
/-- java/lang/StringLatin1 -/
def k9 : Class := { plain "java/lang/StringLatin1" (some 0) with
  accessFlags := 48
  interfaces := #[]
  cf := some (fileOf pool9 14 #[.nestMembers #[390, 221]] #[{ accessFlags := 0, nameIndex := 7, descriptorIndex := 8, attributes := #[] }, { accessFlags := 9, nameIndex := 252, descriptorIndex := 53, attributes := #[] }, { accessFlags := 9, nameIndex := 196, descriptorIndex := 197, attributes := #[] }] 48 4 #[] #[{ accessFlags := 4120, nameIndex := 121, descriptorIndex := 122, attributes := #[] }])
  fields := #[{ name := "$assertionsDisabled", type := .boolean, accessFlags := 4120, slot := 0, constantValue := 0 }]
  methods := #[k9m0, k9m1, k9m2]
  instanceTypes := #[]
  staticTypes := #[.boolean]
  resolved := Array.replicate 395 none
  statics := none }

def pool10 : Array CpInfo := pool [(2, .class_ 4), (1, u "java/lang/Object"), (0, u "<init>"), (0, u "()V"), (17, .class_ 26), (1, u "jdk/internal/util/Preconditions"), (6, u "checkIndex"), (13, u "checkFromToIndex"), (7, .class_ 56), (0, u "jdk/internal/util/Preconditions$4"), (57, .class_ 115), (0, u "jdk/internal/util/Preconditions$1"), (7, u "SIOOBE_FORMATTER"), (0, u "Ljava/util/function/BiFunction;"), (0, .class_ 126), (0, u "jdk/internal/util/Preconditions$2"), (3, u "AIOOBE_FORMATTER"), (0, .class_ 132), (0, u "jdk/internal/util/Preconditions$3"), (3, u "IOOBE_FORMATTER"), (41, u "(IILjava/util/function/BiFunction;)I"), (4, u "(IIILjava/util/function/BiFunction;)I")] 10

def k10m0 : Method := { name := "<init>", desc := "()V", sig := { parameters := [], returnType := none }, accessFlags := 1, code := none }
def k10c1 : Code := { maxStack := 3, maxLocals := 3, code := jdk_41_method_11_code, exceptionTable := #[], attributes := #[] }
def k10m1 : Method := { name := "checkIndex", desc := "(IILjava/util/function/BiFunction;)I", sig := { parameters := [.int, .int, (.object "java/util/function/BiFunction")], returnType := some .int }, accessFlags := 9, code := some k10c1 }
def k10c2 : Code := { maxStack := 4, maxLocals := 4, code := jdk_41_method_12_code, exceptionTable := #[], attributes := #[] }
def k10m2 : Method := { name := "checkFromToIndex", desc := "(IIILjava/util/function/BiFunction;)I", sig := { parameters := [.int, .int, .int, (.object "java/util/function/BiFunction")], returnType := some .int }, accessFlags := 9, code := some k10c2 }
/-- jdk/internal/util/Preconditions -/
def k10 : Class := { plain "jdk/internal/util/Preconditions" (some 0) with
  accessFlags := 33
  interfaces := #[]
  cf := some (fileOf pool10 24 #[.nestMembers #[55, 131, 125, 114]] #[{ accessFlags := 1, nameIndex := 5, descriptorIndex := 6, attributes := #[] }, { accessFlags := 9, nameIndex := 33, descriptorIndex := 178, attributes := #[] }, { accessFlags := 9, nameIndex := 47, descriptorIndex := 183, attributes := #[] }] 33 2 #[] #[{ accessFlags := 25, nameIndex := 123, descriptorIndex := 124, attributes := #[] }, { accessFlags := 25, nameIndex := 130, descriptorIndex := 124, attributes := #[] }, { accessFlags := 25, nameIndex := 136, descriptorIndex := 124, attributes := #[] }])
  fields := #[{ name := "SIOOBE_FORMATTER", type := (.object "java/util/function/BiFunction"), accessFlags := 25, slot := 0, constantValue := 0 }, { name := "AIOOBE_FORMATTER", type := (.object "java/util/function/BiFunction"), accessFlags := 25, slot := 1, constantValue := 0 }, { name := "IOOBE_FORMATTER", type := (.object "java/util/function/BiFunction"), accessFlags := 25, slot := 2, constantValue := 0 }]
  methods := #[k10m0, k10m1, k10m2]
  instanceTypes := #[]
  staticTypes := #[(.object "java/util/function/BiFunction"), (.object "java/util/function/BiFunction"), (.object "java/util/function/BiFunction")]
  resolved := Array.replicate 194 none
  statics := some 1 }

def pool11 : Array CpInfo := pool [(1, .methodref 2 3), (0, .class_ 4), (0, .nameAndType 5 6), (0, u "java/lang/Object"), (0, u "<init>"), (0, u "()V"), (0, .fieldref 8 9), (0, .class_ 10), (0, .nameAndType 11 12), (0, u "com/example/riden/riden/parse/Components"), (0, u "text"), (0, u "Ljava/lang/String;"), (0, .fieldref 8 14), (0, .nameAndType 15 16), (0, u "schemeEnd"), (0, u "I"), (0, .fieldref 8 18), (0, .nameAndType 19 16), (0, u "hostStart"), (0, .fieldref 8 21), (0, .nameAndType 22 16), (0, u "hostEnd"), (0, .fieldref 8 24), (0, .nameAndType 25 26), (0, u "hostKind"), (0, u "Lcom/example/riden/riden/model/HostKind;"), (0, .fieldref 8 28), (0, .nameAndType 29 16), (0, u "pathStart"), (0, .fieldref 8 31), (0, .nameAndType 32 16), (0, u "pathEnd"), (0, .fieldref 8 34), (0, .nameAndType 35 16), (0, u "queryEnd"), (7, .class_ 45), (1, u "java/lang/String"), (21, u "()Ljava/lang/String;"), (20, .methodref 43 89), (0, .nameAndType 90 91), (0, u "substring"), (0, u "(II)Ljava/lang/String;"), (6, u "NONE"), (2, u "(Ljava/lang/String;IIILcom/example/riden/riden/model/HostKind;III)V"), (13, u "query")] 3

def k11c0 : Code := { maxStack := 2, maxLocals := 9, code := prog_11_method_1_code, exceptionTable := #[], attributes := #[] }
def k11m0 : Method := { name := "<init>", desc := "(Ljava/lang/String;IIILcom/example/riden/riden/model/HostKind;III)V", sig := { parameters := [(.object "java/lang/String"), .int, .int, .int, (.object "com/example/riden/riden/model/HostKind"), .int, .int, .int], returnType := none }, accessFlags := 0, code := some k11c0 }
def k11c1 : Code := { maxStack := 3, maxLocals := 1, code := prog_11_method_12_code, exceptionTable := #[], attributes := #[] }
def k11m1 : Method := { name := "query", desc := "()Ljava/lang/String;", sig := { parameters := [], returnType := some (.object "java/lang/String") }, accessFlags := 1, code := some k11c1 }
/-- com/example/riden/riden/parse/Components -/
def k11 : Class := { plain "com/example/riden/riden/parse/Components" (some 0) with
  accessFlags := 49
  interfaces := #[]
  cf := some (fileOf pool11 8 #[] #[{ accessFlags := 0, nameIndex := 5, descriptorIndex := 101, attributes := #[] }, { accessFlags := 1, nameIndex := 115, descriptorIndex := 67, attributes := #[] }] 49 2 #[] #[{ accessFlags := 24, nameIndex := 98, descriptorIndex := 16, attributes := #[] }, { accessFlags := 18, nameIndex := 11, descriptorIndex := 12, attributes := #[] }, { accessFlags := 18, nameIndex := 15, descriptorIndex := 16, attributes := #[] }, { accessFlags := 18, nameIndex := 19, descriptorIndex := 16, attributes := #[] }, { accessFlags := 18, nameIndex := 22, descriptorIndex := 16, attributes := #[] }, { accessFlags := 18, nameIndex := 25, descriptorIndex := 26, attributes := #[] }, { accessFlags := 18, nameIndex := 29, descriptorIndex := 16, attributes := #[] }, { accessFlags := 18, nameIndex := 32, descriptorIndex := 16, attributes := #[] }, { accessFlags := 18, nameIndex := 35, descriptorIndex := 16, attributes := #[] }])
  fields := #[{ name := "NONE", type := .int, accessFlags := 24, slot := 0, constantValue := 0 }, { name := "text", type := (.object "java/lang/String"), accessFlags := 18, slot := 0, constantValue := 0 }, { name := "schemeEnd", type := .int, accessFlags := 18, slot := 1, constantValue := 0 }, { name := "hostStart", type := .int, accessFlags := 18, slot := 2, constantValue := 0 }, { name := "hostEnd", type := .int, accessFlags := 18, slot := 3, constantValue := 0 }, { name := "hostKind", type := (.object "com/example/riden/riden/model/HostKind"), accessFlags := 18, slot := 4, constantValue := 0 }, { name := "pathStart", type := .int, accessFlags := 18, slot := 5, constantValue := 0 }, { name := "pathEnd", type := .int, accessFlags := 18, slot := 6, constantValue := 0 }, { name := "queryEnd", type := .int, accessFlags := 18, slot := 7, constantValue := 0 }]
  methods := #[k11m0, k11m1]
  instanceTypes := #[(.object "java/lang/String"), .int, .int, .int, (.object "com/example/riden/riden/model/HostKind"), .int, .int, .int]
  staticTypes := #[.int]
  resolved := Array.replicate 119 none
  statics := none }

def pool12 : Array CpInfo := pool [(6, .class_ 8), (1, u "java/lang/Object"), (0, u "<init>"), (0, u "()V"), (1, .class_ 14), (1, u "java/lang/StringUTF16"), (31, u "$assertionsDisabled"), (0, u "Z"), (13, u "HI_BYTE_SHIFT"), (0, u "I"), (2, u "LO_BYTE_SHIFT"), (49, .methodref 12 116), (0, .nameAndType 117 118), (0, u "compress"), (0, u "([CI[BII)I"), (3, u "([CII)[B"), (138, u "coderFromArrayLen"), (0, u "([BI)B"), (106, .class_ 371), (1, u "java/lang/StringUTF16$LinesSpliterator"), (58, u "MAX_LENGTH"), (196, .class_ 628), (0, u "java/lang/StringUTF16$CodePointsSpliterator"), (0, .class_ 630), (0, u "java/lang/StringUTF16$CharsSpliterator")] 4

def k12m0 : Method := { name := "<init>", desc := "()V", sig := { parameters := [], returnType := none }, accessFlags := 0, code := none }
def k12c1 : Code := { maxStack := 2, maxLocals := 2, code := jdk_52_method_15_code, exceptionTable := #[], attributes := #[] }
def k12m1 : Method := { name := "coderFromArrayLen", desc := "([BI)B", sig := { parameters := [(.array .byte), .int], returnType := some .byte }, accessFlags := 8, code := some k12c1 }
def k12c2 : Code := { maxStack := 5, maxLocals := 6, code := jdk_52_method_16_code, exceptionTable := #[], attributes := #[] }
def k12m2 : Method := { name := "compress", desc := "([CII)[B", sig := { parameters := [(.array .char), .int, .int], returnType := some (.array .byte) }, accessFlags := 9, code := some k12c2 }
def k12c3 : Code := { maxStack := 3, maxLocals := 7, code := jdk_52_method_21_code, exceptionTable := #[], attributes := #[] }
def k12m3 : Method := { name := "compress", desc := "([CI[BII)I", sig := { parameters := [(.array .char), .int, (.array .byte), .int, .int], returnType := some .int }, accessFlags := 9, code := some k12c3 }
/-- java/lang/StringUTF16 -/
def k12 : Class := { plain "java/lang/StringUTF16" (some 0) with
  accessFlags := 48
  interfaces := #[]
  cf := some (fileOf pool12 12 #[.nestMembers #[627, 629, 369]] #[{ accessFlags := 0, nameIndex := 9, descriptorIndex := 10, attributes := #[] }, { accessFlags := 8, nameIndex := 261, descriptorIndex := 262, attributes := #[] }, { accessFlags := 9, nameIndex := 117, descriptorIndex := 122, attributes := #[] }, { accessFlags := 9, nameIndex := 117, descriptorIndex := 118, attributes := #[] }] 48 6 #[] #[{ accessFlags := 26, nameIndex := 61, descriptorIndex := 62, attributes := #[] }, { accessFlags := 26, nameIndex := 65, descriptorIndex := 62, attributes := #[] }, { accessFlags := 24, nameIndex := 430, descriptorIndex := 62, attributes := #[] }, { accessFlags := 4120, nameIndex := 46, descriptorIndex := 47, attributes := #[] }])
  fields := #[{ name := "HI_BYTE_SHIFT", type := .int, accessFlags := 26, slot := 0, constantValue := 0 }, { name := "LO_BYTE_SHIFT", type := .int, accessFlags := 26, slot := 1, constantValue := 0 }, { name := "MAX_LENGTH", type := .int, accessFlags := 24, slot := 2, constantValue := 0 }, { name := "$assertionsDisabled", type := .boolean, accessFlags := 4120, slot := 3, constantValue := 0 }]
  methods := #[k12m0, k12m1, k12m2, k12m3]
  instanceTypes := #[]
  staticTypes := #[.int, .int, .int, .boolean]
  resolved := Array.replicate 635 none
  statics := none }

def pool13 : Array CpInfo := pool [(2, .class_ 4), (1, u "java/lang/Object"), (0, u "<init>"), (0, u "()V"), (7, .class_ 16), (1, u "java/util/Arrays"), (57, .class_ 76), (1, u "java/util/Arrays$NaturalOrder"), (36, .class_ 115), (1, u "java/util/Arrays$LegacyMergeSort"), (1, u "Z"), (21, u "copyOfRange"), (10, .methodref 151 152), (0, .class_ 153), (0, .nameAndType 154 155), (0, u "java/lang/System"), (0, u "arraycopy"), (0, u "(Ljava/lang/Object;ILjava/lang/Object;II)V"), (148, .methodref 305 306), (0, .class_ 307), (0, .nameAndType 308 309), (0, u "java/lang/Math"), (0, u "min"), (0, u "(II)I"), (29, .methodref 14 340), (0, .nameAndType 341 342), (0, u "copyOfRangeByte"), (0, u "([BII)[B"), (0, .methodref 14 344), (0, .nameAndType 345 346), (0, u "checkLength"), (0, u "(II)V"), (28, .class_ 376), (0, u "java/util/Arrays$ArrayList"), (68, u "$assertionsDisabled"), (269, u "MIN_ARRAY_SORT_GRAN"), (0, u "I"), (2, u "INSERTIONSORT_THRESHOLD"), (255, .class_ 976), (0, u "java/util/Arrays$ArrayItr")] 52

def k13m0 : Method := { name := "<init>", desc := "()V", sig := { parameters := [], returnType := none }, accessFlags := 2, code := none }
def k13c1 : Code := { maxStack := 4, maxLocals := 2, code := jdk_65_method_131_code, exceptionTable := #[], attributes := #[] }
def k13m1 : Method := { name := "checkLength", desc := "(II)V", sig := { parameters := [.int, .int], returnType := none }, accessFlags := 10, code := some k13c1 }
def k13c2 : Code := { maxStack := 3, maxLocals := 3, code := jdk_65_method_132_code, exceptionTable := #[], attributes := #[] }
def k13m2 : Method := { name := "copyOfRange", desc := "([BII)[B", sig := { parameters := [(.array .byte), .int, .int], returnType := some (.array .byte) }, accessFlags := 9, code := some k13c2 }
def k13c3 : Code := { maxStack := 6, maxLocals := 5, code := jdk_65_method_133_code, exceptionTable := #[], attributes := #[] }
def k13m3 : Method := { name := "copyOfRangeByte", desc := "([BII)[B", sig := { parameters := [(.array .byte), .int, .int], returnType := some (.array .byte) }, accessFlags := 10, code := some k13c3 }
/-- java/util/Arrays -/
def k13 : Class := { plain "java/util/Arrays" (some 0) with
  accessFlags := 49
  interfaces := #[]
  cf := some (fileOf pool13 14 #[.nestMembers #[975, 375, 113, 74]] #[{ accessFlags := 2, nameIndex := 5, descriptorIndex := 6, attributes := #[] }, { accessFlags := 10, nameIndex := 345, descriptorIndex := 346, attributes := #[] }, { accessFlags := 9, nameIndex := 139, descriptorIndex := 342, attributes := #[] }, { accessFlags := 10, nameIndex := 341, descriptorIndex := 342, attributes := #[] }] 49 2 #[] #[{ accessFlags := 26, nameIndex := 715, descriptorIndex := 716, attributes := #[] }, { accessFlags := 26, nameIndex := 719, descriptorIndex := 716, attributes := #[] }, { accessFlags := 4120, nameIndex := 445, descriptorIndex := 117, attributes := #[] }])
  fields := #[{ name := "MIN_ARRAY_SORT_GRAN", type := .int, accessFlags := 26, slot := 0, constantValue := 0 }, { name := "INSERTIONSORT_THRESHOLD", type := .int, accessFlags := 26, slot := 1, constantValue := 0 }, { name := "$assertionsDisabled", type := .boolean, accessFlags := 4120, slot := 2, constantValue := 0 }]
  methods := #[k13m0, k13m1, k13m2, k13m3]
  instanceTypes := #[]
  staticTypes := #[.int, .int, .boolean]
  resolved := Array.replicate 1029 none
  statics := none }

def pool14 : Array CpInfo := pool [(2, .class_ 4), (1, u "java/lang/Object"), (0, u "<init>"), (0, u "()V"), (1, .class_ 10), (1, u "java/lang/System"), (0, u "allowSecurityManager"), (0, u "I"), (16, u "cons"), (0, u "Ljava/io/Console;"), (77, .class_ 110), (1, u "java/lang/System$CallersHolder"), (43, u "initialErrStream"), (0, u "Ljava/io/PrintStream;"), (19, u "security"), (0, u "Ljava/lang/SecurityManager;"), (31, .class_ 209), (0, u "java/lang/System$1"), (7, u "props"), (0, u "Ljava/util/Properties;"), (2, u "lineSeparator"), (0, u "Ljava/lang/String;"), (96, .class_ 321), (1, u "java/lang/System$LoggerFinder"), (5, .class_ 328), (0, u "java/lang/System$Logger"), (67, u "err"), (2, u "out"), (91, u "notSupportedJnuEncoding"), (15, u "in"), (17, u "initialIn"), (0, u "Ljava/io/InputStream;"), (35, u "bootLayer"), (0, u "Ljava/lang/ModuleLayer;"), (99, .class_ 664), (0, u "java/lang/System$2"), (9, u "NEVER"), (2, u "MAYBE"), (49, u "arraycopy"), (0, u "(Ljava/lang/Object;ILjava/lang/Object;II)V"), (72, .class_ 802), (0, u "java/lang/System$Logger$Level")] 31

def k14m0 : Method := { name := "<init>", desc := "()V", sig := { parameters := [], returnType := none }, accessFlags := 2, code := none }
def k14m1 : Method := { name := "arraycopy", desc := "(Ljava/lang/Object;ILjava/lang/Object;II)V", sig := { parameters := [(.object "java/lang/Object"), .int, (.object "java/lang/Object"), .int, .int], returnType := none }, accessFlags := 265, code := none }
/-- java/lang/System -/
def k14 : Class := { plain "java/lang/System" (some 0) with
  accessFlags := 49
  interfaces := #[]
  cf := some (fileOf pool14 8 #[.nestMembers #[319, 327, 801, 108, 663, 208]] #[{ accessFlags := 2, nameIndex := 5, descriptorIndex := 6, attributes := #[] }, { accessFlags := 265, nameIndex := 727, descriptorIndex := 728, attributes := #[] }] 49 2 #[] #[{ accessFlags := 25, nameIndex := 507, descriptorIndex := 526, attributes := #[] }, { accessFlags := 25, nameIndex := 399, descriptorIndex := 155, attributes := #[] }, { accessFlags := 25, nameIndex := 396, descriptorIndex := 155, attributes := #[] }, { accessFlags := 10, nameIndex := 525, descriptorIndex := 526, attributes := #[] }, { accessFlags := 26, nameIndex := 674, descriptorIndex := 12, attributes := #[] }, { accessFlags := 26, nameIndex := 677, descriptorIndex := 12, attributes := #[] }, { accessFlags := 10, nameIndex := 11, descriptorIndex := 12, attributes := #[] }, { accessFlags := 74, nameIndex := 175, descriptorIndex := 176, attributes := #[] }, { accessFlags := 10, nameIndex := 491, descriptorIndex := 222, attributes := #[] }, { accessFlags := 74, nameIndex := 29, descriptorIndex := 30, attributes := #[] }, { accessFlags := 74, nameIndex := 154, descriptorIndex := 155, attributes := #[] }, { accessFlags := 10, nameIndex := 217, descriptorIndex := 218, attributes := #[] }, { accessFlags := 10, nameIndex := 221, descriptorIndex := 222, attributes := #[] }, { accessFlags := 8, nameIndex := 562, descriptorIndex := 563, attributes := #[] }])
  fields := #[{ name := "in", type := (.object "java/io/InputStream"), accessFlags := 25, slot := 0, constantValue := 0 }, { name := "out", type := (.object "java/io/PrintStream"), accessFlags := 25, slot := 1, constantValue := 0 }, { name := "err", type := (.object "java/io/PrintStream"), accessFlags := 25, slot := 2, constantValue := 0 }, { name := "initialIn", type := (.object "java/io/InputStream"), accessFlags := 10, slot := 3, constantValue := 0 }, { name := "NEVER", type := .int, accessFlags := 26, slot := 4, constantValue := 0 }, { name := "MAYBE", type := .int, accessFlags := 26, slot := 5, constantValue := 0 }, { name := "allowSecurityManager", type := .int, accessFlags := 10, slot := 6, constantValue := 0 }, { name := "security", type := (.object "java/lang/SecurityManager"), accessFlags := 74, slot := 7, constantValue := 0 }, { name := "notSupportedJnuEncoding", type := (.object "java/lang/String"), accessFlags := 10, slot := 8, constantValue := 0 }, { name := "cons", type := (.object "java/io/Console"), accessFlags := 74, slot := 9, constantValue := 0 }, { name := "initialErrStream", type := (.object "java/io/PrintStream"), accessFlags := 74, slot := 10, constantValue := 0 }, { name := "props", type := (.object "java/util/Properties"), accessFlags := 10, slot := 11, constantValue := 0 }, { name := "lineSeparator", type := (.object "java/lang/String"), accessFlags := 10, slot := 12, constantValue := 0 }, { name := "bootLayer", type := (.object "java/lang/ModuleLayer"), accessFlags := 8, slot := 13, constantValue := 0 }]
  methods := #[k14m0, k14m1]
  instanceTypes := #[]
  staticTypes := #[(.object "java/io/InputStream"), (.object "java/io/PrintStream"), (.object "java/io/PrintStream"), (.object "java/io/InputStream"), .int, .int, .int, (.object "java/lang/SecurityManager"), (.object "java/lang/String"), (.object "java/io/Console"), (.object "java/io/PrintStream"), (.object "java/util/Properties"), (.object "java/lang/String"), (.object "java/lang/ModuleLayer")]
  resolved := Array.replicate 834 none
  statics := none }

def pool15 : Array CpInfo := pool [(9, u "<init>"), (6, .class_ 18), (1, u "java/lang/Object"), (0, u "()V"), (1, .class_ 23), (1, u "jdk/internal/util/ArraysSupport"), (0, u "LOG2_ARRAY_LONG_INDEX_SCALE"), (0, u "I"), (2, u "U"), (0, u "Ljdk/internal/misc/Unsafe;"), (8, u "BIG_ENDIAN"), (0, u "Z"), (8, u "LOG2_BYTE_BIT_SIZE"), (4, u "LOG2_ARRAY_INT_INDEX_SCALE"), (54, u "JLA"), (0, u "Ljdk/internal/access/JavaLangAccess;"), (11, u "LOG2_ARRAY_BOOLEAN_INDEX_SCALE"), (9, u "LOG2_ARRAY_BYTE_INDEX_SCALE"), (5, u "LOG2_ARRAY_CHAR_INDEX_SCALE"), (5, u "LOG2_ARRAY_SHORT_INDEX_SCALE"), (18, u "LOG2_ARRAY_FLOAT_INDEX_SCALE"), (24, u "LOG2_ARRAY_DOUBLE_INDEX_SCALE"), (89, u "T_BOOLEAN"), (2, u "T_CHAR"), (1, u "T_FLOAT"), (1, u "T_DOUBLE"), (1, u "T_BYTE"), (1, u "T_SHORT"), (1, u "T_INT"), (1, u "T_LONG"), (1, u "SOFT_MAX_ARRAY_LENGTH")] 83

def k15m0 : Method := { name := "<init>", desc := "()V", sig := { parameters := [], returnType := none }, accessFlags := 2, code := none }
/-- jdk/internal/util/ArraysSupport -/
def k15 : Class := { plain "jdk/internal/util/ArraysSupport" (some 0) with
  accessFlags := 33
  interfaces := #[]
  cf := some (fileOf pool15 21 #[] #[{ accessFlags := 2, nameIndex := 9, descriptorIndex := 19, attributes := #[] }] 33 16 #[] #[{ accessFlags := 24, nameIndex := 28, descriptorIndex := 29, attributes := #[] }, { accessFlags := 26, nameIndex := 38, descriptorIndex := 39, attributes := #[] }, { accessFlags := 25, nameIndex := 121, descriptorIndex := 25, attributes := #[] }, { accessFlags := 25, nameIndex := 131, descriptorIndex := 25, attributes := #[] }, { accessFlags := 25, nameIndex := 137, descriptorIndex := 25, attributes := #[] }, { accessFlags := 25, nameIndex := 143, descriptorIndex := 25, attributes := #[] }, { accessFlags := 25, nameIndex := 53, descriptorIndex := 25, attributes := #[] }, { accessFlags := 25, nameIndex := 24, descriptorIndex := 25, attributes := #[] }, { accessFlags := 25, nameIndex := 162, descriptorIndex := 25, attributes := #[] }, { accessFlags := 25, nameIndex := 187, descriptorIndex := 25, attributes := #[] }, { accessFlags := 26, nameIndex := 48, descriptorIndex := 25, attributes := #[] }, { accessFlags := 25, nameIndex := 277, descriptorIndex := 25, attributes := #[] }, { accessFlags := 25, nameIndex := 280, descriptorIndex := 25, attributes := #[] }, { accessFlags := 25, nameIndex := 282, descriptorIndex := 25, attributes := #[] }, { accessFlags := 25, nameIndex := 284, descriptorIndex := 25, attributes := #[] }, { accessFlags := 25, nameIndex := 286, descriptorIndex := 25, attributes := #[] }, { accessFlags := 25, nameIndex := 288, descriptorIndex := 25, attributes := #[] }, { accessFlags := 25, nameIndex := 290, descriptorIndex := 25, attributes := #[] }, { accessFlags := 25, nameIndex := 292, descriptorIndex := 25, attributes := #[] }, { accessFlags := 26, nameIndex := 108, descriptorIndex := 109, attributes := #[] }, { accessFlags := 25, nameIndex := 294, descriptorIndex := 25, attributes := #[] }])
  fields := #[{ name := "U", type := (.object "jdk/internal/misc/Unsafe"), accessFlags := 24, slot := 0, constantValue := 0 }, { name := "BIG_ENDIAN", type := .boolean, accessFlags := 26, slot := 1, constantValue := 0 }, { name := "LOG2_ARRAY_BOOLEAN_INDEX_SCALE", type := .int, accessFlags := 25, slot := 2, constantValue := 0 }, { name := "LOG2_ARRAY_BYTE_INDEX_SCALE", type := .int, accessFlags := 25, slot := 3, constantValue := 0 }, { name := "LOG2_ARRAY_CHAR_INDEX_SCALE", type := .int, accessFlags := 25, slot := 4, constantValue := 0 }, { name := "LOG2_ARRAY_SHORT_INDEX_SCALE", type := .int, accessFlags := 25, slot := 5, constantValue := 0 }, { name := "LOG2_ARRAY_INT_INDEX_SCALE", type := .int, accessFlags := 25, slot := 6, constantValue := 0 }, { name := "LOG2_ARRAY_LONG_INDEX_SCALE", type := .int, accessFlags := 25, slot := 7, constantValue := 0 }, { name := "LOG2_ARRAY_FLOAT_INDEX_SCALE", type := .int, accessFlags := 25, slot := 8, constantValue := 0 }, { name := "LOG2_ARRAY_DOUBLE_INDEX_SCALE", type := .int, accessFlags := 25, slot := 9, constantValue := 0 }, { name := "LOG2_BYTE_BIT_SIZE", type := .int, accessFlags := 26, slot := 10, constantValue := 0 }, { name := "T_BOOLEAN", type := .int, accessFlags := 25, slot := 11, constantValue := 0 }, { name := "T_CHAR", type := .int, accessFlags := 25, slot := 12, constantValue := 0 }, { name := "T_FLOAT", type := .int, accessFlags := 25, slot := 13, constantValue := 0 }, { name := "T_DOUBLE", type := .int, accessFlags := 25, slot := 14, constantValue := 0 }, { name := "T_BYTE", type := .int, accessFlags := 25, slot := 15, constantValue := 0 }, { name := "T_SHORT", type := .int, accessFlags := 25, slot := 16, constantValue := 0 }, { name := "T_INT", type := .int, accessFlags := 25, slot := 17, constantValue := 0 }, { name := "T_LONG", type := .int, accessFlags := 25, slot := 18, constantValue := 0 }, { name := "JLA", type := (.object "jdk/internal/access/JavaLangAccess"), accessFlags := 26, slot := 19, constantValue := 0 }, { name := "SOFT_MAX_ARRAY_LENGTH", type := .int, accessFlags := 25, slot := 20, constantValue := 0 }]
  methods := #[k15m0]
  instanceTypes := #[]
  staticTypes := #[(.object "jdk/internal/misc/Unsafe"), .boolean, .int, .int, .int, .int, .int, .int, .int, .int, .int, .int, .int, .int, .int, .int, .int, .int, .int, (.object "jdk/internal/access/JavaLangAccess"), .int]
  resolved := Array.replicate 378 none
  statics := none }

def pool16 : Array CpInfo := pool [(1, u "java/lang/Cloneable"), (0, .class_ 1), (0, u "java/lang/Object"), (0, .class_ 3)] 3

/-- java/lang/Cloneable -/
def k16 : Class := { plain "java/lang/Cloneable" (some 0) with
  accessFlags := 1537
  interfaces := #[]
  cf := some (fileOf pool16 2 #[] #[] 1537 4 #[] #[])
  fields := #[]
  methods := #[]
  instanceTypes := #[]
  staticTypes := #[]
  resolved := Array.replicate 8 none
  statics := none }

/-- the primitive byte -/
def k17 : Class := { plain "byte" none with kind := .primitive 'B', accessFlags := 0x411 }
/-- [B -/
def k18 : Class := { plain "[B" (some 0) with kind := .array 17 .byte, interfaces := #[16, 3], accessFlags := 1041 }

/-- the primitive char -/
def k19 : Class := { plain "char" none with kind := .primitive 'C', accessFlags := 0x411 }
/-- [C -/
def k20 : Class := { plain "[C" (some 0) with kind := .array 19 .char, interfaces := #[16, 3], accessFlags := 1041 }

/-- the primitive int -/
def k21 : Class := { plain "int" none with kind := .primitive 'I', accessFlags := 0x411 }
/-- [I -/
def k22 : Class := { plain "[I" (some 0) with kind := .array 21 .int, interfaces := #[16, 3], accessFlags := 1041 }

def heap : Heap := #[{ cls := 8, slots := #[.long 0, .int 1, .null, .int 0, .null, .int 0, .int 0], vm := .statics 8 },
  { cls := 10, slots := #[.null, .null, .null], vm := .statics 10 }]
def classes : Array Class := #[k0, k1, k2, k3, k4, k5, k6, k7, k8, k9, k10, k11, k12, k13, k14, k15, k16, k17, k18, k19, k20, k21, k22]
def interned : List (Array UInt16 × Addr) := []
def slotsUsed : Nat := 10
def theMethod : MethodId := ⟨1, 4⟩
def args0 : Array Value := #[.int 1, .int 2, .int 6]
def aboutOver (below : List Frame) : State where
  vm := { classes := classes, interned := interned.toArray }
  heap := heap
  slotsUsed := slotsUsed
  threads := #[{ frames := .invoking theMethod args0 :: below }]
def below0 : List Frame := [.native { method := ⟨0, 0⟩, args := #[] }]
def about1 : State := aboutOver below0
def p0 : Program := .bare "" "" ""
def e0 : Env := launch0.env 0 0 0
theorem w_frames : about1.frames = Frame.invoking theMethod args0 :: below0 := rfl
set_option maxRecDepth 65536 in
theorem w_args : argsFit about1.vm theMethod args0 = true := by decide +kernel
set_option maxRecDepth 65536 in
theorem w_heap : heapFits about1 = true := by decide +kernel
set_option maxRecDepth 65536 in
theorem w_runnable : about1.curStatus? = some .runnable := by decide +kernel
set_option maxRecDepth 65536 in
theorem w_alone : about1.alone = true := by decide +kernel
set_option maxRecDepth 65536 in
theorem w_named : about1.methodNamed? x = some theMethod := by decide +kernel
set_option maxRecDepth 65536 in
theorem w_hears : about1.hears theMethod below0 = true := by decide +kernel
set_option maxRecDepth 65536 in
theorem w_ripe : about1.ripe theMethod args0 below0 = true := by decide +kernel
theorem w_running : about1.status = .running := rfl
set_option maxRecDepth 65536 in
theorem w_room : about1.hasRoom e0.platform room_1 = true :=
  launch0.hasRoom_least _ room_1 (by decide +kernel) (by decide +kernel) (by decide +kernel) (by decide +kernel) (by decide +kernel) (by decide +kernel)
theorem allAtoms_all (ts : List Jvm.Cond) (a : Array Jvm.Value) (st : Jvm.State) : (allAtoms ts).before a st = ts.all (fun c => c.before a st) := by
  induction ts with
  | nil => rfl
  | cons c t ih =>
    show (Jvm.Cond.and c (allAtoms t)).before a st = _
    rw [Jvm.Cond.before_and, ih, List.all_cons]
def words1 : List Jvm.Cond := Jvm.Cond.code x code maxLocals ret :: tables_1
/-- a 'code' word, met by the world's own term for the bytes: nothing is compared byte by byte -/
theorem code_word {y : MethodName} {bytes : ByteArray} {mx : Nat} {rt : Option FieldType} {a : Array Value} {s : State} {m : MethodId} {meth : Method} {c : Code} (h1 : s.methodNamed? y = some m) (h2 : s.vm.method? m = some meth) (h3 : meth.code = some c) (h4 : c.code = bytes)
    (h5 : (c.maxLocals == mx && c.exceptionTable.isEmpty && decide (c.maxStack ≤ mostOperands) && decide (meth.sig.returnType = rt) && !meth.locks && decide (parseMethodDescriptor y.desc = some meth.sig)) = true) : (Jvm.Cond.code y bytes mx rt).before a s = true := by
  simp only [Bool.and_eq_true, beq_iff_eq, Bool.not_eq_true', decide_eq_true_eq] at h5
  obtain ⟨⟨⟨⟨⟨g1, g2⟩, g3⟩, g4⟩, g5⟩, g6⟩ := h5
  simp [Cond.before, Cond.holds, Cond.value, h1, h2, h3, h4, g1, g2, g3, g4, g5, g6]
def isCode : Jvm.Cond → Bool
  | .code _ _ _ _ => true
  | _ => false
theorem all_split {L : List Jvm.Cond} {P : Jvm.Cond → Bool} (h1 : L.all (fun c => isCode c || P c) = true) (h2 : ∀ c ∈ L.filter isCode, P c = true) : L.all P = true := by
  refine List.all_eq_true.mpr fun c hc => ?_
  have h := List.all_eq_true.mp h1 c hc
  rcases Bool.eq_false_or_eq_true (isCode c) with hi | hi
  · exact h2 c (List.mem_filter.mpr ⟨hc, hi⟩)
  · simpa [hi] using h
set_option maxRecDepth 65536 in
theorem w_c0 : (Jvm.Cond.code x code maxLocals ret).before args0 about1 = true := code_word (m := ⟨1, 4⟩) (meth := k1m4) (c := k1c4) (by decide +kernel) rfl rfl rfl (by decide +kernel)
set_option maxRecDepth 65536 in
theorem w_c1 : (Jvm.Cond.code ({ cls := "java/lang/Math", name := "min", desc := "(II)I" } : Jvm.MethodName) jdk_29_method_69_code (2 : Nat) (Option.some Jvm.ClassFile.FieldType.int)).before args0 about1 = true := code_word (m := ⟨2, 1⟩) (meth := k2m1) (c := k2c1) (by decide +kernel) rfl rfl rfl (by decide +kernel)
set_option maxRecDepth 65536 in
theorem w_c2 : (Jvm.Cond.code ({ cls := "com/example/riden/riden/parse/ComponentsQueryPinLaw", name := "raw", desc := "(III)I" } : Jvm.MethodName) method_2_code (4 : Nat) (Option.some Jvm.ClassFile.FieldType.int)).before args0 about1 = true := code_word (m := ⟨1, 1⟩) (meth := k1m1) (c := k1c1) (by decide +kernel) rfl rfl rfl (by decide +kernel)
set_option maxRecDepth 65536 in
theorem w_c3 : (Jvm.Cond.code ({ cls := "com/example/riden/riden/parse/ComponentsQueryPinLaw", name := "cell", desc := "(IIIIZI)C" } : Jvm.MethodName) method_3_code (7 : Nat) (Option.some Jvm.ClassFile.FieldType.char)).before args0 about1 = true := code_word (m := ⟨1, 2⟩) (meth := k1m2) (c := k1c2) (by decide +kernel) rfl rfl rfl (by decide +kernel)
set_option maxRecDepth 65536 in
theorem w_c4 : (Jvm.Cond.code ({ cls := "java/lang/String", name := "length", desc := "()I" } : Jvm.MethodName) jdk_42_method_54_code (1 : Nat) (Option.some Jvm.ClassFile.FieldType.int)).before args0 about1 = true := code_word (m := ⟨8, 2⟩) (meth := k8m2) (c := k8c2) (by decide +kernel) rfl rfl rfl (by decide +kernel)
set_option maxRecDepth 65536 in
theorem w_c5 : (Jvm.Cond.code ({ cls := "java/lang/String", name := "coder", desc := "()B" } : Jvm.MethodName) jdk_42_method_152_code (1 : Nat) (Option.some Jvm.ClassFile.FieldType.byte)).before args0 about1 = true := code_word (m := ⟨8, 7⟩) (meth := k8m7) (c := k8c7) (by decide +kernel) rfl rfl rfl (by decide +kernel)
set_option maxRecDepth 65536 in
theorem w_c6 : (Jvm.Cond.code ({ cls := "java/lang/String", name := "charAt", desc := "(I)C" } : Jvm.MethodName) jdk_42_method_56_code (2 : Nat) (Option.some Jvm.ClassFile.FieldType.char)).before args0 about1 = true := code_word (m := ⟨8, 3⟩) (meth := k8m3) (c := k8c3) (by decide +kernel) rfl rfl rfl (by decide +kernel)
set_option maxRecDepth 65536 in
theorem w_c7 : (Jvm.Cond.code ({ cls := "java/lang/String", name := "isLatin1", desc := "()Z" } : Jvm.MethodName) jdk_42_method_154_code (1 : Nat) (Option.some Jvm.ClassFile.FieldType.boolean)).before args0 about1 = true := code_word (m := ⟨8, 8⟩) (meth := k8m8) (c := k8c8) (by decide +kernel) rfl rfl rfl (by decide +kernel)
set_option maxRecDepth 65536 in
theorem w_c8 : (Jvm.Cond.code ({ cls := "java/lang/StringLatin1", name := "charAt", desc := "([BI)C" } : Jvm.MethodName) jdk_43_method_2_code (2 : Nat) (Option.some Jvm.ClassFile.FieldType.char)).before args0 about1 = true := code_word (m := ⟨9, 1⟩) (meth := k9m1) (c := k9c1) (by decide +kernel) rfl rfl rfl (by decide +kernel)
set_option maxRecDepth 65536 in
theorem w_c9 : (Jvm.Cond.code ({ cls := "java/lang/String", name := "checkIndex", desc := "(II)V" } : Jvm.MethodName) jdk_42_method_155_code (2 : Nat) (Option.none : Option Jvm.ClassFile.FieldType)).before args0 about1 = true := code_word (m := ⟨8, 9⟩) (meth := k8m9) (c := k8c9) (by decide +kernel) rfl rfl rfl (by decide +kernel)
set_option maxRecDepth 65536 in
theorem w_c10 : (Jvm.Cond.code ({ cls := "jdk/internal/util/Preconditions", name := "checkIndex", desc := "(IILjava/util/function/BiFunction;)I" } : Jvm.MethodName) jdk_41_method_11_code (3 : Nat) (Option.some Jvm.ClassFile.FieldType.int)).before args0 about1 = true := code_word (m := ⟨10, 1⟩) (meth := k10m1) (c := k10c1) (by decide +kernel) rfl rfl rfl (by decide +kernel)
set_option maxRecDepth 65536 in
theorem w_c11 : (Jvm.Cond.code ({ cls := "java/lang/String", name := "<init>", desc := "([C)V" } : Jvm.MethodName) jdk_42_method_3_code (2 : Nat) (Option.none : Option Jvm.ClassFile.FieldType)).before args0 about1 = true := code_word (m := ⟨8, 1⟩) (meth := k8m1) (c := k8c1) (by decide +kernel) rfl rfl rfl (by decide +kernel)
set_option maxRecDepth 65536 in
theorem w_c12 : (Jvm.Cond.code ({ cls := "java/lang/String", name := "<init>", desc := "([CIILjava/lang/Void;)V" } : Jvm.MethodName) jdk_42_method_149_code (6 : Nat) (Option.none : Option Jvm.ClassFile.FieldType)).before args0 about1 = true := code_word (m := ⟨8, 5⟩) (meth := k8m5) (c := k8c5) (by decide +kernel) rfl rfl rfl (by decide +kernel)
set_option maxRecDepth 65536 in
theorem w_c13 : (Jvm.Cond.code ({ cls := "java/lang/Object", name := "<init>", desc := "()V" } : Jvm.MethodName) object_method_1_code (1 : Nat) (Option.none : Option Jvm.ClassFile.FieldType)).before args0 about1 = true := code_word (m := ⟨0, 0⟩) (meth := k0m0) (c := k0c0) (by decide +kernel) rfl rfl rfl (by decide +kernel)
set_option maxRecDepth 65536 in
theorem w_c14 : (Jvm.Cond.code ({ cls := "java/lang/StringUTF16", name := "compress", desc := "([CII)[B" } : Jvm.MethodName) jdk_52_method_16_code (6 : Nat) (Option.some (Jvm.ClassFile.FieldType.array Jvm.ClassFile.FieldType.byte))).before args0 about1 = true := code_word (m := ⟨12, 2⟩) (meth := k12m2) (c := k12c2) (by decide +kernel) rfl rfl rfl (by decide +kernel)
set_option maxRecDepth 65536 in
theorem w_c15 : (Jvm.Cond.code ({ cls := "java/lang/StringUTF16", name := "compress", desc := "([CI[BII)I" } : Jvm.MethodName) jdk_52_method_21_code (7 : Nat) (Option.some Jvm.ClassFile.FieldType.int)).before args0 about1 = true := code_word (m := ⟨12, 3⟩) (meth := k12m3) (c := k12c3) (by decide +kernel) rfl rfl rfl (by decide +kernel)
set_option maxRecDepth 65536 in
theorem w_c16 : (Jvm.Cond.code ({ cls := "java/lang/StringUTF16", name := "coderFromArrayLen", desc := "([BI)B" } : Jvm.MethodName) jdk_52_method_15_code (2 : Nat) (Option.some Jvm.ClassFile.FieldType.byte)).before args0 about1 = true := code_word (m := ⟨12, 1⟩) (meth := k12m1) (c := k12c1) (by decide +kernel) rfl rfl rfl (by decide +kernel)
set_option maxRecDepth 65536 in
theorem w_c17 : (Jvm.Cond.code ({ cls := "com/example/riden/riden/parse/Components", name := "<init>", desc := "(Ljava/lang/String;IIILcom/example/riden/riden/model/HostKind;III)V" } : Jvm.MethodName) prog_11_method_1_code (9 : Nat) (Option.none : Option Jvm.ClassFile.FieldType)).before args0 about1 = true := code_word (m := ⟨11, 0⟩) (meth := k11m0) (c := k11c0) (by decide +kernel) rfl rfl rfl (by decide +kernel)
set_option maxRecDepth 65536 in
theorem w_c18 : (Jvm.Cond.code ({ cls := "com/example/riden/riden/parse/Components", name := "query", desc := "()Ljava/lang/String;" } : Jvm.MethodName) prog_11_method_12_code (1 : Nat) (Option.some (Jvm.ClassFile.FieldType.object "java/lang/String"))).before args0 about1 = true := code_word (m := ⟨11, 1⟩) (meth := k11m1) (c := k11c1) (by decide +kernel) rfl rfl rfl (by decide +kernel)
set_option maxRecDepth 65536 in
theorem w_c19 : (Jvm.Cond.code ({ cls := "java/lang/String", name := "substring", desc := "(II)Ljava/lang/String;" } : Jvm.MethodName) jdk_42_method_92_code (5 : Nat) (Option.some (Jvm.ClassFile.FieldType.object "java/lang/String"))).before args0 about1 = true := code_word (m := ⟨8, 4⟩) (meth := k8m4) (c := k8c4) (by decide +kernel) rfl rfl rfl (by decide +kernel)
set_option maxRecDepth 65536 in
theorem w_c20 : (Jvm.Cond.code ({ cls := "java/lang/String", name := "checkBoundsBeginEnd", desc := "(III)V" } : Jvm.MethodName) jdk_42_method_158_code (3 : Nat) (Option.none : Option Jvm.ClassFile.FieldType)).before args0 about1 = true := code_word (m := ⟨8, 10⟩) (meth := k8m10) (c := k8c10) (by decide +kernel) rfl rfl rfl (by decide +kernel)
set_option maxRecDepth 65536 in
theorem w_c21 : (Jvm.Cond.code ({ cls := "jdk/internal/util/Preconditions", name := "checkFromToIndex", desc := "(IIILjava/util/function/BiFunction;)I" } : Jvm.MethodName) jdk_41_method_12_code (4 : Nat) (Option.some Jvm.ClassFile.FieldType.int)).before args0 about1 = true := code_word (m := ⟨10, 2⟩) (meth := k10m2) (c := k10c2) (by decide +kernel) rfl rfl rfl (by decide +kernel)
set_option maxRecDepth 65536 in
theorem w_c22 : (Jvm.Cond.code ({ cls := "java/lang/StringLatin1", name := "newString", desc := "([BII)Ljava/lang/String;" } : Jvm.MethodName) jdk_43_method_47_code (3 : Nat) (Option.some (Jvm.ClassFile.FieldType.object "java/lang/String"))).before args0 about1 = true := code_word (m := ⟨9, 2⟩) (meth := k9m2) (c := k9c2) (by decide +kernel) rfl rfl rfl (by decide +kernel)
set_option maxRecDepth 65536 in
theorem w_c23 : (Jvm.Cond.code ({ cls := "com/example/riden/riden/parse/ComponentsQueryPinLaw", name := "at", desc := "(Ljava/lang/String;[CII)Z" } : Jvm.MethodName) method_4_code (4 : Nat) (Option.some Jvm.ClassFile.FieldType.boolean)).before args0 about1 = true := code_word (m := ⟨1, 3⟩) (meth := k1m3) (c := k1c3) (by decide +kernel) rfl rfl rfl (by decide +kernel)
set_option maxRecDepth 65536 in
theorem w_c24 : (Jvm.Cond.code ({ cls := "java/util/Arrays", name := "copyOfRange", desc := "([BII)[B" } : Jvm.MethodName) jdk_65_method_132_code (3 : Nat) (Option.some (Jvm.ClassFile.FieldType.array Jvm.ClassFile.FieldType.byte))).before args0 about1 = true := code_word (m := ⟨13, 2⟩) (meth := k13m2) (c := k13c2) (by decide +kernel) rfl rfl rfl (by decide +kernel)
set_option maxRecDepth 65536 in
theorem w_c25 : (Jvm.Cond.code ({ cls := "java/util/Arrays", name := "copyOfRangeByte", desc := "([BII)[B" } : Jvm.MethodName) jdk_65_method_133_code (5 : Nat) (Option.some (Jvm.ClassFile.FieldType.array Jvm.ClassFile.FieldType.byte))).before args0 about1 = true := code_word (m := ⟨13, 3⟩) (meth := k13m3) (c := k13c3) (by decide +kernel) rfl rfl rfl (by decide +kernel)
set_option maxRecDepth 65536 in
theorem w_c26 : (Jvm.Cond.code ({ cls := "java/util/Arrays", name := "checkLength", desc := "(II)V" } : Jvm.MethodName) jdk_65_method_131_code (2 : Nat) (Option.none : Option Jvm.ClassFile.FieldType)).before args0 about1 = true := code_word (m := ⟨13, 1⟩) (meth := k13m1) (c := k13c1) (by decide +kernel) rfl rfl rfl (by decide +kernel)
set_option maxRecDepth 65536 in
theorem w_c27 : (Jvm.Cond.code ({ cls := "java/lang/String", name := "<init>", desc := "([BB)V" } : Jvm.MethodName) jdk_42_method_151_code (3 : Nat) (Option.none : Option Jvm.ClassFile.FieldType)).before args0 about1 = true := code_word (m := ⟨8, 6⟩) (meth := k8m6) (c := k8c6) (by decide +kernel) rfl rfl rfl (by decide +kernel)
def codes1 : List Jvm.Cond := [Jvm.Cond.code x code maxLocals ret, Jvm.Cond.code ({ cls := "java/lang/Math", name := "min", desc := "(II)I" } : Jvm.MethodName) jdk_29_method_69_code (2 : Nat) (Option.some Jvm.ClassFile.FieldType.int), Jvm.Cond.code ({ cls := "com/example/riden/riden/parse/ComponentsQueryPinLaw", name := "raw", desc := "(III)I" } : Jvm.MethodName) method_2_code (4 : Nat) (Option.some Jvm.ClassFile.FieldType.int), Jvm.Cond.code ({ cls := "com/example/riden/riden/parse/ComponentsQueryPinLaw", name := "cell", desc := "(IIIIZI)C" } : Jvm.MethodName) method_3_code (7 : Nat) (Option.some Jvm.ClassFile.FieldType.char), Jvm.Cond.code ({ cls := "java/lang/String", name := "length", desc := "()I" } : Jvm.MethodName) jdk_42_method_54_code (1 : Nat) (Option.some Jvm.ClassFile.FieldType.int), Jvm.Cond.code ({ cls := "java/lang/String", name := "coder", desc := "()B" } : Jvm.MethodName) jdk_42_method_152_code (1 : Nat) (Option.some Jvm.ClassFile.FieldType.byte), Jvm.Cond.code ({ cls := "java/lang/String", name := "charAt", desc := "(I)C" } : Jvm.MethodName) jdk_42_method_56_code (2 : Nat) (Option.some Jvm.ClassFile.FieldType.char), Jvm.Cond.code ({ cls := "java/lang/String", name := "isLatin1", desc := "()Z" } : Jvm.MethodName) jdk_42_method_154_code (1 : Nat) (Option.some Jvm.ClassFile.FieldType.boolean), Jvm.Cond.code ({ cls := "java/lang/StringLatin1", name := "charAt", desc := "([BI)C" } : Jvm.MethodName) jdk_43_method_2_code (2 : Nat) (Option.some Jvm.ClassFile.FieldType.char), Jvm.Cond.code ({ cls := "java/lang/String", name := "checkIndex", desc := "(II)V" } : Jvm.MethodName) jdk_42_method_155_code (2 : Nat) (Option.none : Option Jvm.ClassFile.FieldType), Jvm.Cond.code ({ cls := "jdk/internal/util/Preconditions", name := "checkIndex", desc := "(IILjava/util/function/BiFunction;)I" } : Jvm.MethodName) jdk_41_method_11_code (3 : Nat) (Option.some Jvm.ClassFile.FieldType.int), Jvm.Cond.code ({ cls := "java/lang/String", name := "<init>", desc := "([C)V" } : Jvm.MethodName) jdk_42_method_3_code (2 : Nat) (Option.none : Option Jvm.ClassFile.FieldType), Jvm.Cond.code ({ cls := "java/lang/String", name := "<init>", desc := "([CIILjava/lang/Void;)V" } : Jvm.MethodName) jdk_42_method_149_code (6 : Nat) (Option.none : Option Jvm.ClassFile.FieldType), Jvm.Cond.code ({ cls := "java/lang/Object", name := "<init>", desc := "()V" } : Jvm.MethodName) object_method_1_code (1 : Nat) (Option.none : Option Jvm.ClassFile.FieldType), Jvm.Cond.code ({ cls := "java/lang/StringUTF16", name := "compress", desc := "([CII)[B" } : Jvm.MethodName) jdk_52_method_16_code (6 : Nat) (Option.some (Jvm.ClassFile.FieldType.array Jvm.ClassFile.FieldType.byte)), Jvm.Cond.code ({ cls := "java/lang/StringUTF16", name := "compress", desc := "([CI[BII)I" } : Jvm.MethodName) jdk_52_method_21_code (7 : Nat) (Option.some Jvm.ClassFile.FieldType.int), Jvm.Cond.code ({ cls := "java/lang/StringUTF16", name := "coderFromArrayLen", desc := "([BI)B" } : Jvm.MethodName) jdk_52_method_15_code (2 : Nat) (Option.some Jvm.ClassFile.FieldType.byte), Jvm.Cond.code ({ cls := "com/example/riden/riden/parse/Components", name := "<init>", desc := "(Ljava/lang/String;IIILcom/example/riden/riden/model/HostKind;III)V" } : Jvm.MethodName) prog_11_method_1_code (9 : Nat) (Option.none : Option Jvm.ClassFile.FieldType), Jvm.Cond.code ({ cls := "com/example/riden/riden/parse/Components", name := "query", desc := "()Ljava/lang/String;" } : Jvm.MethodName) prog_11_method_12_code (1 : Nat) (Option.some (Jvm.ClassFile.FieldType.object "java/lang/String")), Jvm.Cond.code ({ cls := "java/lang/String", name := "substring", desc := "(II)Ljava/lang/String;" } : Jvm.MethodName) jdk_42_method_92_code (5 : Nat) (Option.some (Jvm.ClassFile.FieldType.object "java/lang/String")), Jvm.Cond.code ({ cls := "java/lang/String", name := "checkBoundsBeginEnd", desc := "(III)V" } : Jvm.MethodName) jdk_42_method_158_code (3 : Nat) (Option.none : Option Jvm.ClassFile.FieldType), Jvm.Cond.code ({ cls := "jdk/internal/util/Preconditions", name := "checkFromToIndex", desc := "(IIILjava/util/function/BiFunction;)I" } : Jvm.MethodName) jdk_41_method_12_code (4 : Nat) (Option.some Jvm.ClassFile.FieldType.int), Jvm.Cond.code ({ cls := "java/lang/StringLatin1", name := "newString", desc := "([BII)Ljava/lang/String;" } : Jvm.MethodName) jdk_43_method_47_code (3 : Nat) (Option.some (Jvm.ClassFile.FieldType.object "java/lang/String")), Jvm.Cond.code ({ cls := "com/example/riden/riden/parse/ComponentsQueryPinLaw", name := "at", desc := "(Ljava/lang/String;[CII)Z" } : Jvm.MethodName) method_4_code (4 : Nat) (Option.some Jvm.ClassFile.FieldType.boolean), Jvm.Cond.code ({ cls := "java/util/Arrays", name := "copyOfRange", desc := "([BII)[B" } : Jvm.MethodName) jdk_65_method_132_code (3 : Nat) (Option.some (Jvm.ClassFile.FieldType.array Jvm.ClassFile.FieldType.byte)), Jvm.Cond.code ({ cls := "java/util/Arrays", name := "copyOfRangeByte", desc := "([BII)[B" } : Jvm.MethodName) jdk_65_method_133_code (5 : Nat) (Option.some (Jvm.ClassFile.FieldType.array Jvm.ClassFile.FieldType.byte)), Jvm.Cond.code ({ cls := "java/util/Arrays", name := "checkLength", desc := "(II)V" } : Jvm.MethodName) jdk_65_method_131_code (2 : Nat) (Option.none : Option Jvm.ClassFile.FieldType), Jvm.Cond.code ({ cls := "java/lang/String", name := "<init>", desc := "([BB)V" } : Jvm.MethodName) jdk_42_method_151_code (3 : Nat) (Option.none : Option Jvm.ClassFile.FieldType)]
set_option maxRecDepth 65536 in
theorem codes_eq : words1.filter isCode = codes1 := rfl
theorem w_codes : ∀ c ∈ words1.filter isCode, c.before args0 about1 = true := by
  rw [codes_eq]
  intro c hc
  simp only [codes1, List.mem_cons, List.not_mem_nil, or_false] at hc
  rcases hc with rfl | rfl | rfl | rfl | rfl | rfl | rfl | rfl | rfl | rfl | rfl | rfl | rfl | rfl | rfl | rfl | rfl | rfl | rfl | rfl | rfl | rfl | rfl | rfl | rfl | rfl | rfl | rfl
  · exact w_c0
  · exact w_c1
  · exact w_c2
  · exact w_c3
  · exact w_c4
  · exact w_c5
  · exact w_c6
  · exact w_c7
  · exact w_c8
  · exact w_c9
  · exact w_c10
  · exact w_c11
  · exact w_c12
  · exact w_c13
  · exact w_c14
  · exact w_c15
  · exact w_c16
  · exact w_c17
  · exact w_c18
  · exact w_c19
  · exact w_c20
  · exact w_c21
  · exact w_c22
  · exact w_c23
  · exact w_c24
  · exact w_c25
  · exact w_c26
  · exact w_c27
set_option maxRecDepth 65536 in
theorem w_t1 : (words1.take 24).all (fun c => isCode c || c.before args0 about1) = true := by decide +kernel
set_option maxRecDepth 65536 in
theorem w_t2 : ((words1.drop 24).take 24).all (fun c => isCode c || c.before args0 about1) = true := by decide +kernel
set_option maxRecDepth 65536 in
theorem w_t3 : (((words1.drop 24).drop 24).take 24).all (fun c => isCode c || c.before args0 about1) = true := by decide +kernel
set_option maxRecDepth 65536 in
theorem w_t4 : ((((words1.drop 24).drop 24).drop 24).take 24).all (fun c => isCode c || c.before args0 about1) = true := by decide +kernel
set_option maxRecDepth 65536 in
theorem w_t5 : (((((words1.drop 24).drop 24).drop 24).drop 24).take 24).all (fun c => isCode c || c.before args0 about1) = true := by decide +kernel
set_option maxRecDepth 65536 in
theorem w_t6 : (((((words1.drop 24).drop 24).drop 24).drop 24).drop 24).all (fun c => isCode c || c.before args0 about1) = true := by decide +kernel
theorem w_tables : (allAtoms (Jvm.Cond.code x code maxLocals ret :: tables_1)).before args0 about1 = true := by
  rw [allAtoms_all]
  show words1.all (fun c => c.before args0 about1) = true
  refine all_split ?_ w_codes
  rw [← List.take_append_drop 24 words1, List.all_append, w_t1, ← List.take_append_drop 24 (words1.drop 24), List.all_append, w_t2, ← List.take_append_drop 24 ((words1.drop 24).drop 24), List.all_append, w_t3, ← List.take_append_drop 24 (((words1.drop 24).drop 24).drop 24), List.all_append, w_t4, ← List.take_append_drop 24 ((((words1.drop 24).drop 24).drop 24).drop 24), List.all_append, w_t5, w_t6]
  rfl
set_option maxRecDepth 65536 in
theorem w_rest : rest_1_c.before args0 about1 = true := by decide +kernel
set_option maxRecDepth 65536 in
theorem w_case : (Jvm.Cond.and given_1 narrow_1).before args0 about1 = true := by decide +kernel
set_option maxRecDepth 65536 in
theorem w_consts : constsHeld consts_1 about1 := Jvm.Lit.constsHeldB_iff.mp (by decide +kernel)
theorem w_applies : (headSpec (Jvm.Cond.code x code maxLocals ret :: tables_1) room_1).applies x e0.platform about1 = true :=
  (Spec.applies_iff w_frames).mpr ⟨w_running, w_runnable, w_alone, w_named, w_hears, w_ripe, w_room, w_tables⟩
theorem atStart : AtStart classFile x code maxLocals ret World_1 tables_1 room_1 Calls_1 rest_1 Pre_1 launch0 p0 e0 about1 theMethod args0 below0 :=
  ⟨lists_1, trivial, launch0.admits_env _ _ _, launch0.least_env, fairChoices_fair.cas, fairChoices_fair.clock, w_frames, w_args, w_heap, w_applies, ⟨w_consts, trivial⟩, w_rest, w_case⟩
end start1
theorem witness_1 : WitnessClaimed_1 := ⟨start1.p0, start1.e0, start1.about1, start1.theMethod, start1.args0, start1.below0, start1.atStart⟩
end Jvm.Pilot.@@N@@
