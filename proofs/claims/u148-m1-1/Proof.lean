import JvmDerived
import JvmDerived.Pilot.@@N@@Statement
import JvmDerived.Pilot.@@N@@Code
set_option linter.unusedVariables false
set_option linter.unusedSimpArgs false
set_option maxRecDepth 65536
set_option maxHeartbeats 40000000
namespace Jvm.Own
open Sem ClassFile Op Lib Bundle Jvm.Stand Jvm.Free Jvm.LawKit Jvm.RoadKit
section Base
variable {p : Program} {l : Launch} {e : Env} {R : Room} {s : State} {m : MethodId} {args : Array Value} {below : List Frame} {meth : Method} {c : Code} {own : String} {Z : State} {a0 : Array Value} {EL : List (String × Nat)} {vm0 vm1 : Vm} {T T' : State} {h h' h1 : Heap} {k n : Nat} {G : Outcome → State → Prop} {pc : Nat} {Ls : Array Slot} {rest : List Value}
/-- the walk comes to an end that G allows -/
def OEnds (p : Program) (e : Env) (below : List Frame) (G : Outcome → State → Prop) (T : State) (g : JFrame) : Prop := ∃ (s₂ : State) (o : Outcome), Steps p.tables e below (T.setTop g) s₂ ∧ s₂.status = .running ∧ Ended s₂ below o ∧ G o s₂
theorem OEnds.go {g g' : JFrame} (st : ∀ t, Steps p.tables e below (T'.setTop g') t → Steps p.tables e below (T.setTop g) t) (q : OEnds p e below G T' g') : OEnds p e below G T g := by
  obtain ⟨s₂, o, h1, r⟩ := q; exact ⟨s₂, o, st _ h1, r⟩
theorem OEnds.tr {g g' : JFrame} (st : Steps p.tables e below (T.setTop g) (T'.setTop g')) (q : OEnds p e below G T' g') : OEnds p e below G T g := by
  obtain ⟨s₂, o, h1, r⟩ := q; exact ⟨s₂, o, st.trans h1, r⟩
theorem OEnds.cast {g g' : JFrame} (q : g = g') (r : OEnds p e below G T g') : OEnds p e below G T g := q ▸ r
theorem ext_refl (h : Heap) : Ext h h := ⟨Nat.le_refl _, fun _ _ q => q⟩
theorem ext_trans (A : Ext h h1) (B : Ext h1 h') : Ext h h' := ⟨Nat.le_trans A.1 B.1, fun a c q => B.2 a c (A.2 a c q)⟩
/-- what was written lies above h: h stands -/
theorem ext_keep {ws : List Addr} (A : Ext h h1) (K : Keep h1 h' ws) (q : ∀ x ∈ ws, h.size ≤ x) : Ext h h' := ⟨Nat.le_trans A.1 K.1, fun a c r => K.2.1 a c (A.2 a c r) fun z => absurd (Array.getElem?_eq_some_iff.mp r).1 (Nat.not_lt.mpr (q a z))⟩
theorem ext_wr {a : Addr} {sl : Nat} {v : Value} (A : Ext h h1) (W : Wr h1 h' a sl v) (q : h.size ≤ a) : Ext h h' := ext_keep A (Keep.of_wr W) (allS q all0)
/-- where the walk stands: the tables vm0, the heap h, at most k cells and n slots made -/
def OSt (p : Program) (l : Launch) (e : Env) (R : Room) (s : State) (m : MethodId) (args : Array Value) (below : List Frame) (meth : Method) (c : Code) (own : String) (Z : State) (EL : List (String × Nat)) (vm0 : Vm) (T : State) (h : Heap) (k n : Nat) : Prop :=
  ∃ locs : List Loc, Stand p l e R (s.setVm vm0) m args below meth c T locs k n ∧ Fr Z.heap.size locs ∧ T.heap = h ∧ (∃ k0, s.Since vm0 k0 ∧ k0 ≤ h.size) ∧ Z.Warmed39 vm0 ∧ vm0.findClass own = some m.cls ∧ CHr Z EL s.vm s.heap vm0 h ∧ Ext Z.heap h ∧ p.tables.exec = Jvm.exec
theorem OSt.here (X : OSt p l e R s m args below meth c own Z EL vm0 T h k n) : At T m c below := by obtain ⟨_, X, _⟩ := X; exact X.here
theorem OSt.hx (X : OSt p l e R s m args below meth c own Z EL vm0 T h k n) : p.tables.exec = Jvm.exec := by obtain ⟨_, _, _, _, _, _, _, _, _, q⟩ := X; exact q
theorem OSt.old (X : OSt p l e R s m args below meth c own Z EL vm0 T h k n) : Ext Z.heap h := by obtain ⟨_, _, _, _, _, _, _, _, q, _⟩ := X; exact q
theorem OSt.hZ (X : OSt p l e R s m args below meth c own Z EL vm0 T h k n) : Z.Warmed39 vm0 := by obtain ⟨_, _, _, _, _, q, _⟩ := X; exact q
theorem OSt.al (X : OSt p l e R s m args below meth c own Z EL vm0 T h k n) : Z.vm.Alike vm0 := X.hZ.alike
theorem OSt.chr (X : OSt p l e R s m args below meth c own Z EL vm0 T h k n) : CHr Z EL s.vm s.heap vm0 h := by obtain ⟨_, _, _, _, _, _, _, q, _⟩ := X; exact q
theorem OSt.chv (X : OSt p l e R s m args below meth c own Z EL vm0 T h k n) : CHv Z EL vm0 h := X.chr.1
theorem OSt.mono (X : OSt p l e R s m args below meth c own Z EL vm0 T h k n) {k' n' : Nat} (hk : k ≤ k') (hn : n ≤ n') : OSt p l e R s m args below meth c own Z EL vm0 T h k' n' := by
  obtain ⟨L, X, r⟩ := X; exact ⟨L, X.mono hk hn, r⟩
theorem OSt.getF (X : OSt p l e R s m args below meth c own Z EL vm0 T h k n) {R0 O nm d : String} {index : Nat} (w : (Cond.fieldLink own index R0 nm d).before a0 Z = true) (via : Via Z R0 O nm d) {a : Addr} {v : Value} (F : Fld Z h a O nm d v) (hd : decode c.code pc = .ok (.getfield index, 3))
    (q : ∀ T', OSt p l e R s m args below meth c own Z EL vm0 T' h k n → OEnds p e below G T' (mkF m (pc + 3) Ls (v :: rest))) : OEnds p e below G T (mkF m pc Ls (.ref a :: rest)) := by
  obtain ⟨L, X, hF, hh, hS, hZ, ho, hC, hO, hx⟩ := X
  obtain ⟨T', X', e', st⟩ := RoadKit.getF (host := "") X hx hZ ho (Or.inl w) via hh F (g := mkF m pc Ls (.ref a :: rest)) rfl rfl hd
  exact (q T' ⟨L, X', hF, e', hS, hZ, ho, hC, hO, hx⟩).go st
theorem OSt.getS (X : OSt p l e R s m args below meth c own Z EL vm0 T h k n) {R0 O nm d : String} {index : Nat} (w : (Cond.fieldLink own index R0 nm d).before a0 Z = true) (via : Via Z R0 O nm d) {v : Value} (F : Sta Z h O nm d v) (hd : decode c.code pc = .ok (.getstatic index, 3))
    (q : ∀ T', OSt p l e R s m args below meth c own Z EL vm0 T' h k n → OEnds p e below G T' (mkF m (pc + 3) Ls (v :: rest))) : OEnds p e below G T (mkF m pc Ls rest) := by
  obtain ⟨L, X, hF, hh, hS, hZ, ho, hC, hO, hx⟩ := X
  obtain ⟨T', X', e', st⟩ := RoadKit.getS (host := "") X hx hZ ho w via hh F (g := mkF m pc Ls rest) rfl hd
  exact (q T' ⟨L, X', hF, e', hS, hZ, ho, hC, hO, hx⟩).go st
theorem Since_le {k0 : Nat} (hk : k0 ≤ h.size) (q : h.size ≤ h'.size) : k0 ≤ h'.size := Nat.le_trans hk q
theorem OSt.putF (X : OSt p l e R s m args below meth c own Z EL vm0 T h k n) {R0 O nm d C : String} {index kk : Nat} {ty : FieldType} (w : (Cond.fieldLink own index R0 nm d).before a0 Z = true) (via : Via Z R0 O nm d) {a : Addr} {v old : Value} (F : Fld Z h a O nm d old) (E : Exa Z h a C)
    (Lw : (Cond.lays C O nm d).before a0 Z = true ∨ ((Cond.laysFinal C O nm d).before a0 Z = true ∧ own = O ∧ meth.name = "<init>")) (wi : (Cond.instantiable C kk).before a0 Z = true) (hty : parseFieldDescriptor d = some ty) (hn : narrow ty v = v) (hf : fits ty v = true)
    (hS : Safe Z EL vm0 h a) (ha : Z.heap.size ≤ a) (hd : decode c.code pc = .ok (.putfield index, 3))
    (q : ∀ T' h', OSt p l e R s m args below meth c own Z EL vm0 T' h' k n → Wr h h' a (Jvm.RoadKit.slotOf Z O nm d) v → OEnds p e below G T' (mkF m (pc + 3) Ls rest)) : OEnds p e below G T (mkF m pc Ls (v :: .ref a :: rest)) := by
  obtain ⟨L, X, hF, hh, ⟨k0, hS0, hk0⟩, hZ, ho, hC, hO, hx⟩ := X
  obtain ⟨T', h', X', e', W, st⟩ := RoadKit.putF (host := "") X hx hZ ho (Or.inl w) via hh F E Lw wi hty hn hf (g := mkF m pc Ls (v :: .ref a :: rest)) rfl rfl hd
  exact (q T' h' ⟨_, X', Fr.snoc X' hF ha, e', ⟨k0, hS0, by rw [W.size]; exact hk0⟩, hZ, ho, hC.trans (CHr.wr W hS hC.1), ext_wr hO W ha, hx⟩ W).go st
theorem OSt.newO (X : OSt p l e R s m args below meth c own Z EL vm0 T h k n) {C : String} {index j : Nat} (w : (Cond.classLink own index C).before a0 Z = true) (wi : (Cond.instantiable C j).before a0 Z = true) (wz : (Cond.initialized C).before a0 Z = true) (hd : decode c.code pc = .ok (.new index, 3)) (hc : k + 1 ≤ R.cells) (hl : n + j ≤ R.slots)
    (q : ∀ T' h' a, h.size = a → OSt p l e R s m args below meth c own Z EL vm0 T' h' (k + 1) (n + j) → Ext h h' → Exa Z h' a C → (∀ {O nm d : String} {ty : FieldType}, Laid Z a0 C O nm d → parseFieldDescriptor d = some ty → Fld Z h' a O nm d (defaultValue ty)) → Unt h' a → OEnds p e below G T' (mkF m (pc + 3) Ls (.ref a :: rest))) : OEnds p e below G T (mkF m pc Ls rest) := by
  obtain ⟨L, X, hF, hh, ⟨k0, hS0, hk0⟩, hZ, ho, hC, hO, hx⟩ := X
  obtain ⟨T', h', X', e', E, A, D, U, st⟩ := RoadKit.newO X hx hZ ho w wi wz hh (g := mkF m pc Ls rest) rfl hd hc hl
  exact (q T' h' _ rfl ⟨_, X', hF, e', ⟨k0, hS0, Nat.le_trans hk0 E.1⟩, hZ, ho, hC.trans (CHr.ext E hC.1), ext_trans hO E, hx⟩ E A D U).go st
theorem OSt.newP (X : OSt p l e R s m args below meth c own Z EL vm0 T h k n) {aty : ArrayType} (w : (Cond.arrayClass (newarray.typeOf aty)).before a0 Z = true) {z : Int32} (hd : decode c.code pc = .ok (.newarray aty, 2)) (hz : ¬ z < 0) {cap : Nat} (hcap : z.toNatClampNeg ≤ cap) (hb : cap * 8 ≤ 536870912) (hc : k + 1 ≤ R.cells) (hl : n + cap ≤ R.slots)
    (q : ∀ T' h' a kc, h.size = a → OSt p l e R s m args below meth c own Z EL vm0 T' h' (k + 1) (n + cap) → Ext h h' → Arv Z h' a kc (newarray.typeOf aty) z [] (defaultValue (newarray.typeOf aty)) → OEnds p e below G T' (mkF m (pc + 2) Ls (.ref a :: rest))) : OEnds p e below G T (mkF m pc Ls (.int z :: rest)) := by
  obtain ⟨L, X, hF, hh, ⟨k0, hS0, hk0⟩, hZ, ho, hC, hO, hx⟩ := X
  obtain ⟨T', h', kc, X', e', E, A, st⟩ := RoadKit.newP X hx hZ w hh (g := mkF m pc Ls (.int z :: rest)) rfl hd rfl hz hcap hb hc hl
  exact (q T' h' _ kc rfl ⟨_, X', hF, e', ⟨k0, hS0, Nat.le_trans hk0 E.1⟩, hZ, ho, hC.trans (CHr.ext E hC.1), ext_trans hO E, hx⟩ E (Arv.new A hz)).go st
theorem OSt.castY (X : OSt p l e R s m args below meth c own Z EL vm0 T h k n) {K : String} {index : Nat} (w : (Cond.classLink own index K).before a0 Z = true) {a : Addr} (F : Ins Z h a K true) (hd : decode c.code pc = .ok (.checkcast index, 3))
    (q : ∀ T', OSt p l e R s m args below meth c own Z EL vm0 T' h k n → OEnds p e below G T' (mkF m (pc + 3) Ls (.ref a :: rest))) : OEnds p e below G T (mkF m pc Ls (.ref a :: rest)) := by
  obtain ⟨L, X, hF, hh, hS, hZ, ho, hC, hO, hx⟩ := X
  obtain ⟨T', X', e', st⟩ := RoadKit.castY X hx hZ ho w hh F (g := mkF m pc Ls (.ref a :: rest)) rfl rfl hd
  exact (q T' ⟨L, X', hF, e', hS, hZ, ho, hC, hO, hx⟩).go st
theorem OSt.instY (X : OSt p l e R s m args below meth c own Z EL vm0 T h k n) {K : String} {index : Nat} (w : (Cond.classLink own index K).before a0 Z = true) {a : Addr} (F : Ins Z h a K true) (hd : decode c.code pc = .ok (.instanceof index, 3))
    (q : ∀ T', OSt p l e R s m args below meth c own Z EL vm0 T' h k n → OEnds p e below G T' (mkF m (pc + 3) Ls (.int 1 :: rest))) : OEnds p e below G T (mkF m pc Ls (.ref a :: rest)) := by
  obtain ⟨L, X, hF, hh, hS, hZ, ho, hC, hO, hx⟩ := X
  obtain ⟨T', X', e', st⟩ := RoadKit.instY X hx hZ ho w hh F (g := mkF m pc Ls (.ref a :: rest)) rfl rfl hd
  exact (q T' ⟨L, X', hF, e', hS, hZ, ho, hC, hO, hx⟩).go st
theorem OSt.instNo (X : OSt p l e R s m args below meth c own Z EL vm0 T h k n) {K C : String} {index : Nat} (w : (Cond.classLink own index K).before a0 Z = true) {a : Addr} (E : Exa Z h a C) (F : ∃ c t, Z.vm.findClass C = some c ∧ Z.vm.findClass K = some t ∧ Z.vm.assignable c t = false) (hd : decode c.code pc = .ok (.instanceof index, 3))
    (q : ∀ T', OSt p l e R s m args below meth c own Z EL vm0 T' h k n → OEnds p e below G T' (mkF m (pc + 3) Ls (.int 0 :: rest))) : OEnds p e below G T (mkF m pc Ls (.ref a :: rest)) := by
  obtain ⟨L, X, hF, hh, hS, hZ, ho, hC, hO, hx⟩ := X
  obtain ⟨T', X', e', st⟩ := RoadKit.instNo X hx hZ ho w hh E F (g := mkF m pc Ls (.ref a :: rest)) rfl rfl hd
  exact (q T' ⟨L, X', hF, e', hS, hZ, ho, hC, hO, hx⟩).go st
theorem OSt.initO (X : OSt p l e R s m args below meth c own Z EL vm0 T h k n) {idx : Nat} (w1 : (Cond.methodLink own idx Lib.objectInit).before a0 Z = true) (w2 : (Cond.instanceMethod Lib.objectInit).before a0 Z = true) (w3 : (Cond.code Lib.objectInit ⟨#[0xb1]⟩ 1 none).before a0 Z = true) {a : Addr} (hsize : Ls.size = c.maxLocals) (hd : decode c.code pc = .ok (.invokespecial idx, 3)) (hf : 1 ≤ R.frames) {W : Nat} (hW : (rest.map fun v => v.category).sum ≤ W) (hl : W + 12 ≤ R.locals)
    (q : ∀ T', OSt p l e R s m args below meth c own Z EL vm0 T' h k n → OEnds p e below G T' (mkF m (pc + 3) Ls rest)) : OEnds p e below G T (mkF m pc Ls (.ref a :: rest)) := by
  obtain ⟨L, X, hF, hh, hS, hZ, ho, hC, hO, hx⟩ := X
  obtain ⟨T', X', e', st⟩ := RoadKit.initO X hx hZ ho w1 w2 w3 hh (g := mkF m pc Ls (.ref a :: rest)) rfl hsize rfl hd hf (W := W) (by show 2 * 0 + _ ≤ _; rw [Nat.mul_zero, Nat.zero_add]; exact hW) hl
  exact (q T' ⟨L, X', hF, e', hS, hZ, ho, hC, hO, hx⟩).go st
end Base
end Jvm.Own
namespace Jvm.Own
open Sem ClassFile Op Lib Bundle Jvm.Stand Jvm.Free Jvm.LawKit Jvm.RoadKit
section Arrays
variable {p : Program} {l : Launch} {e : Env} {R : Room} {s : State} {m : MethodId} {args : Array Value} {below : List Frame} {meth : Method} {c : Code} {own : String} {Z : State} {a0 : Array Value} {EL : List (String × Nat)} {vm0 vm1 : Vm} {T T' : State} {h h' h1 : Heap} {k n : Nat} {G : Outcome → State → Prop} {pc : Nat} {Ls : Array Slot} {rest : List Value}
theorem i2c_id {x : Int32} (h0 : ¬ x < 0) (h1 : ¬ 65535 < x) : x.toUInt32.toUInt16.toUInt32.toInt32 = x := by
  have q := c_i2c x
  have r : (0 : Int32).toInt = 0 := rfl
  have r' : (65535 : Int32).toInt = 65535 := rfl
  simp only [Int32.lt_iff_toInt_lt, r, r'] at h0 h1
  apply Int32.toInt_inj.mp
  omega
theorem OSt.ldcI (X : OSt p l e R s m args below meth c own Z EL vm0 T h k n) {index : Nat} {v : Int32} (w : (Cond.constant own index v).before a0 Z = true) (hd : decode c.code pc = .ok (.ldc index, 2)) (q : OEnds p e below G T (mkF m (pc + 2) Ls (.int v :: rest))) : OEnds p e below G T (mkF m pc Ls rest) := by
  obtain ⟨L, X, hF, hh, hS, hZ, ho, hC, hO, hx⟩ := X
  exact q.go fun t => X.ldcInt hx ho (mvT (s := s.setVm vm0) hZ w) (g := mkF m pc Ls rest) rfl hd t
theorem OSt.ldcJ (X : OSt p l e R s m args below meth c own Z EL vm0 T h k n) {index : Nat} {v : Int64} (w : (Cond.constantLong own index v).before a0 Z = true) (hd : decode c.code pc = .ok (.ldc2_w index, 3)) (q : OEnds p e below G T (mkF m (pc + 3) Ls (.long v :: rest))) : OEnds p e below G T (mkF m pc Ls rest) := by
  obtain ⟨L, X, hF, hh, hS, hZ, ho, hC, hO, hx⟩ := X
  exact q.go fun t => X.ldc2Long hx ho (mvT (s := s.setVm vm0) hZ w) (g := mkF m pc Ls rest) rfl hd t
theorem OSt.alen (X : OSt p l e R s m args below meth c own Z EL vm0 T h k n) {a : Addr} {kc : ClassId} {ty : FieldType} {z : Int32} {vs : List Value} {d : Value} (K : Arv Z h a kc ty z vs d) (hd : decode c.code pc = .ok (.arraylength, 1)) (q : OEnds p e below G T (mkF m (pc + 1) Ls (.int z :: rest))) : OEnds p e below G T (mkF m pc Ls (.ref a :: rest)) := by
  obtain ⟨L, X, hF, hh, hS, hZ, ho, hC, hO, hx⟩ := X
  obtain ⟨cl, A, -, S, hz, -, -⟩ := K
  refine q.go fun t r => X.arraylength hx (by rw [hh]; exact A.1) (State.isArrayOf_alike hZ.alike A.2.1) (g := mkF m pc Ls (.ref a :: rest)) rfl rfl hd t ?_
  rw [len_of S hz]; exact r
theorem OSt.cald (X : OSt p l e R s m args below meth c own Z EL vm0 T h k n) {a : Addr} {kc : ClassId} {z j : Int32} {vs : List Value} {d v : Value} (K : Arv Z h a kc .char z vs d) (hj : ¬ j < 0 ∧ j < z) (u : vs.getD j.toNatClampNeg d = v) (hd : decode c.code pc = .ok (.caload, 1)) (q : OEnds p e below G T (mkF m (pc + 1) Ls (v :: rest))) : OEnds p e below G T (mkF m pc Ls (.int j :: .ref a :: rest)) := by
  obtain ⟨L, X, hF, hh, hS, hZ, ho, hC, hO, hx⟩ := X
  obtain ⟨cl, A, -, S, hz, H, -⟩ := K
  exact q.go fun t => X.caload hx (by rw [hh]; exact A.1) (State.isArrayOf_alike hZ.alike A.2.1) A.2.2 (inb_of S hj) (H.at (inb_of S hj) u) (g := mkF m pc Ls (.int j :: .ref a :: rest)) rfl rfl hd t
theorem OSt.bald (X : OSt p l e R s m args below meth c own Z EL vm0 T h k n) {a : Addr} {kc : ClassId} {z j : Int32} {vs : List Value} {d v : Value} (K : Arv Z h a kc .byte z vs d) (hj : ¬ j < 0 ∧ j < z) (u : vs.getD j.toNatClampNeg d = v) (hd : decode c.code pc = .ok (.baload, 1)) (q : OEnds p e below G T (mkF m (pc + 1) Ls (v :: rest))) : OEnds p e below G T (mkF m pc Ls (.int j :: .ref a :: rest)) := by
  obtain ⟨L, X, hF, hh, hS, hZ, ho, hC, hO, hx⟩ := X
  obtain ⟨cl, A, -, S, hz, H, -⟩ := K
  exact q.go fun t => X.baloadBytes hx (by rw [hh]; exact A.1) (State.isArrayOf_alike hZ.alike A.2.1) A.2.2 (inb_of S hj) (H.at (inb_of S hj) u) (g := mkF m pc Ls (.int j :: .ref a :: rest)) rfl rfl hd t
theorem OSt.stC (X : OSt p l e R s m args below meth c own Z EL vm0 T h k n) {a : Addr} {kc : ClassId} {z j x : Int32} {vs : List Value} {d : Value} (K : Arv Z h a kc .char z vs d) (hj : ¬ j < 0 ∧ j < z) (hx1 : ¬ x < 0 ∧ ¬ 65535 < x) {i : Nat} (hi : j.toNatClampNeg = i) (hl : i < vs.length) (ha : Z.heap.size ≤ a) (hd : decode c.code pc = .ok (.castore, 1))
    (q : ∀ T' h', OSt p l e R s m args below meth c own Z EL vm0 T' h' k n → Wr h h' a i (.int x) → Arv Z h' a kc .char z (vs.set i (.int x)) d → OEnds p e below G T' (mkF m (pc + 1) Ls rest)) : OEnds p e below G T (mkF m pc Ls (.int x :: .int j :: .ref a :: rest)) := by
  have hSf : Safe Z EL vm0 h a := Safe.arv X.al K (by decide)
  obtain ⟨L, X, hF, hh, ⟨k0, hS0, hk0⟩, hZ, ho, hC, hO, hx⟩ := X
  obtain ⟨cl, A, e1, S, hz, H, Gf⟩ := K
  obtain ⟨T', h', X', e', W, st⟩ := RoadKit.stC X hx hZ hh A (inb_of S hj) (x := x) (g := mkF m pc Ls (.int x :: .int j :: .ref a :: rest)) rfl rfl hd
  have hn : nar .char x = x := i2c_id hx1.1 hx1.2
  have hfit : fits .char (.int x) = true := by have := fits_nar_char x; rwa [hn] at this
  rw [hn] at W
  subst hi
  exact (q T' h' ⟨_, X', Fr.snoc X' hF ha, e', ⟨k0, hS0, by rw [W.size]; exact hk0⟩, hZ, ho, hC.trans (CHr.wr W hSf hC.1), ext_wr hO W ha, hx⟩ W (Arv.set A e1 S hz H Gf hfit W _ rfl hl)).go st
theorem OSt.stB (X : OSt p l e R s m args below meth c own Z EL vm0 T h k n) {a : Addr} {kc : ClassId} {z j x : Int32} {vs : List Value} {d : Value} (K : Arv Z h a kc .byte z vs d) (hSf : Safe Z EL vm0 h a) (hj : ¬ j < 0 ∧ j < z) {i : Nat} (hi : j.toNatClampNeg = i) (hl : i < vs.length) (ha : Z.heap.size ≤ a) (hd : decode c.code pc = .ok (.bastore, 1))
    (q : ∀ T' h', OSt p l e R s m args below meth c own Z EL vm0 T' h' k n → Wr h h' a i (.int x.toInt8.toInt32) → Arv Z h' a kc .byte z (vs.set i (.int x.toInt8.toInt32)) d → OEnds p e below G T' (mkF m (pc + 1) Ls rest)) : OEnds p e below G T (mkF m pc Ls (.int x :: .int j :: .ref a :: rest)) := by
  obtain ⟨L, X, hF, hh, ⟨k0, hS0, hk0⟩, hZ, ho, hC, hO, hx⟩ := X
  obtain ⟨cl, A, e1, S, hz, H, Gf⟩ := K
  obtain ⟨T', h', X', e', W, st⟩ := RoadKit.stB X hx hZ hh A (inb_of S hj) (x := x) (g := mkF m pc Ls (.int x :: .int j :: .ref a :: rest)) rfl rfl hd
  subst hi
  exact (q T' h' ⟨_, X', Fr.snoc X' hF ha, e', ⟨k0, hS0, by rw [W.size]; exact hk0⟩, hZ, ho, hC.trans (CHr.wr W hSf hC.1), ext_wr hO W ha, hx⟩ W (Arv.set A e1 S hz H Gf (fits_nar_byte x) W _ rfl hl)).go st
/-- ldc of a String constant whose text is read -/
theorem OSt.ldcR (X : OSt p l e R s m args below meth c own Z EL vm0 T h k n) (hE : EW Z a0 EL) {index : Nat} {text : String} (w : (Cond.stringLink own index text).before a0 Z = true) (wS : ∀ a ∈ Bundle.stringAtoms, a.before a0 Z = true) (hmem : (own, index) ∈ EL)
    {vs : List Value} {z : Int32} (ht : (∀ c ∈ text.toList, c.toNat < 256) ∧ text.toList.map (fun c => Value.int (Jvm.Lit.byteI c.toNat.toUInt16)) = vs) (hz : ¬ z < 0) (hl : z.toNatClampNeg = vs.length) (hd : decode c.code pc = .ok (.ldc index, 2)) {j : Nat} (hj : 4 * text.toList.length ≤ j) (hbig : j ≤ 536870912) (hc : k + 2 ≤ R.cells) (hl' : n + (j + 4) ≤ R.slots)
    (q : ∀ vm1 T' h' a b kb, OSt p l e R s m args below meth c own Z EL vm1 T' h' (k + 2) (n + (j + 4)) → Ext h h' → CHr Z EL vm0 h vm1 h' → Exa Z h' a "java/lang/String" → Fld Z h' a "java/lang/String" "coder" "B" (.int 0) → Fld Z h' a "java/lang/String" "value" "[B" (.ref b) → Arv Z h' b kb .byte z vs (.int 0) → (∀ x, Safe Z EL vm1 h' x → x ≠ a ∧ x ≠ b) → OEnds p e below G T' (mkF m (pc + 2) Ls (.ref a :: rest))) : OEnds p e below G T (mkF m pc Ls rest) := by
  obtain ⟨L, X, hF, hh, ⟨k0, hS0, hk0⟩, hZ, ho, hC, hO, hx⟩ := X
  obtain ⟨a, T', h', k1, b, kb, X', e', E, hS1, hk1, hZ1, ho1, E1, C1, V1, K1, -, -, hC1, -, hne, st⟩ := ldcCH X hx hZ ho w wS hh hS0 hk0 hE hmem hC.1 ht hz hl (g := mkF m pc Ls rest) rfl hd hj hbig hc hl'
  exact (q T'.vm T' h' a b kb ⟨_, X', hF, e', ⟨k1, hS1, hk1⟩, hZ1, ho1, hC.trans hC1, ext_trans hO E, hx⟩ E hC1 E1 C1 V1 K1 hne).go st
/-- ldc of a String constant whose text isn't read -/
theorem OSt.ldcO (X : OSt p l e R s m args below meth c own Z EL vm0 T h k n) (hE : EW Z a0 EL) {index : Nat} {text : String} (w : (Cond.stringLink own index text).before a0 Z = true) (wS : ∀ a ∈ Bundle.stringAtoms, a.before a0 Z = true) (hd : decode c.code pc = .ok (.ldc index, 2)) {j : Nat} (hj : 4 * text.toList.length ≤ j) (hbig : j ≤ 536870912) (hc : k + 2 ≤ R.cells) (hl' : n + (j + 4) ≤ R.slots)
    (q : ∀ vm1 T' h' a, OSt p l e R s m args below meth c own Z EL vm1 T' h' (k + 2) (n + (j + 4)) → Ext h h' → CHr Z EL vm0 h vm1 h' → OEnds p e below G T' (mkF m (pc + 2) Ls (.ref a :: rest))) : OEnds p e below G T (mkF m pc Ls rest) := by
  obtain ⟨L, X, hF, hh, ⟨k0, hS0, hk0⟩, hZ, ho, hC, hO, hx⟩ := X
  obtain ⟨a, T', h', k1, X', e', E, hS1, hk1, hZ1, ho1, hC1, -, st⟩ := ldcOH X hx hZ ho w wS hh hS0 hk0 hE hC.1 (g := mkF m pc Ls rest) rfl hd hj hbig hc hl'
  exact (q T'.vm T' h' a ⟨_, X', hF, e', ⟨k1, hS1, hk1⟩, hZ1, ho1, hC.trans hC1, ext_trans hO E, hx⟩ E hC1).go st
end Arrays
section Ret
variable {p : Program} {l : Launch} {e : Env} {R : Room} {s : State} {m : MethodId} {args : Array Value} {below : List Frame} {meth : Method} {c : Code} {own : String} {Z : State} {a0 : Array Value} {EL : List (String × Nat)} {vm0 vm1 : Vm} {T T' : State} {h h' h1 : Heap} {k n k' n' : Nat} {pc : Nat} {Ls : Array Slot} {rest : List Value} {Q : Option Value → Heap → Prop}
/-- how a walk over s ends: the answer and the heap by Q; the wide frame -/
def GW (Z : State) (EL : List (String × Nat)) (s : State) (Q : Option Value → Heap → Prop) (k n : Nat) (o : Outcome) (u : State) : Prop :=
  ∃ v L, o = .returned v ∧ (Q v u.heap ∧ Fr Z.heap.size L ∧ Ext Z.heap u.heap) ∧ CHr Z EL s.vm s.heap u.vm u.heap ∧ ReturnedEndW s o u L k n
theorem rew_mono {u : State} {o : Outcome} {L : List Loc} (q : ReturnedEndW s o u L k n) (hk : k ≤ k') (hn : n ≤ n') : ReturnedEndW s o u L k' n' := ⟨q.1, q.2.1, q.2.2.1, q.2.2.2.mono hk hn⟩
theorem OSt.retV (X : OSt p l e R s m args below meth c own Z EL vm0 T h k n) (hE : EW Z a0 EL) (hlk : meth.locks = false) {w : Value} {t : FieldType} {i : Instr} (hret : meth.sig.returnType = some t) (hn : narrow t w = w)
    (hi : (i = .ireturn ∧ (t = .int ∨ t = .boolean ∨ t = .byte ∨ t = .char ∨ t = .short) ∧ ∃ z, w = .int z) ∨ (i = .lreturn ∧ t = .long ∧ ∃ z, w = .long z) ∨ (i = .dreturn ∧ t = .double ∧ ∃ z, w = .double z) ∨ (i = .freturn ∧ t = .float ∧ ∃ z, w = .float z) ∨ (i = .areturn ∧ t.isReference = true ∧ w.isRef = true))
    (hd : decode c.code pc = .ok (i, 1)) (hk : k ≤ k') (hn' : n ≤ n') (hQ : Q (some w) h) : OEnds p e below (GW Z EL s Q k' n') T (mkF m pc Ls (w :: rest)) := by
  obtain ⟨L, X, hF, hh, ⟨k0, hS0, hk0⟩, hZ, ho, hC, hO, hx⟩ := X
  have hA := CHv.at X hZ hE hC.1
  obtain ⟨fs, hr, hrun, hended, hend⟩ := X.leaveW hS0 (by rw [hh]; exact hk0) (v := some w) (fun q => by rw [hret] at q; cases q) hlk
  refine ⟨_, _, retOut X hx hret hn hi hd hr, hrun, hended, _, L, rfl, ⟨?_, hF, ?_⟩, ?_, rew_mono hend hk hn'⟩
  · show Q _ T.heap; rw [hh]; exact hQ
  · show Ext _ T.heap; rw [hh]; exact hO
  · show CHr Z EL s.vm s.heap T.vm T.heap; rw [hh]; exact hC.trans hA
theorem OSt.retInt (X : OSt p l e R s m args below meth c own Z EL vm0 T h k n) (hE : EW Z a0 EL) (hlk : meth.locks = false) {z : Int32} (hret : meth.sig.returnType = some .int) (hd : decode c.code pc = .ok (.ireturn, 1)) (hk : k ≤ k') (hn' : n ≤ n') (hQ : Q (some (.int z)) h) : OEnds p e below (GW Z EL s Q k' n') T (mkF m pc Ls (.int z :: rest)) :=
  X.retV hE hlk hret rfl (Or.inl ⟨rfl, Or.inl rfl, z, rfl⟩) hd hk hn' hQ
theorem OSt.retBool (X : OSt p l e R s m args below meth c own Z EL vm0 T h k n) (hE : EW Z a0 EL) (hlk : meth.locks = false) {z : Int32} (hz : z = 0 ∨ z = 1) (hret : meth.sig.returnType = some .boolean) (hd : decode c.code pc = .ok (.ireturn, 1)) (hk : k ≤ k') (hn' : n ≤ n') (hQ : Q (some (.int z)) h) : OEnds p e below (GW Z EL s Q k' n') T (mkF m pc Ls (.int z :: rest)) :=
  X.retV hE hlk hret (by rcases hz with rfl | rfl <;> rfl) (Or.inl ⟨rfl, Or.inr (Or.inl rfl), z, rfl⟩) hd hk hn' hQ
theorem OSt.retByte (X : OSt p l e R s m args below meth c own Z EL vm0 T h k n) (hE : EW Z a0 EL) (hlk : meth.locks = false) {z : Int32} (hz : z.toInt8.toInt32 = z) (hret : meth.sig.returnType = some .byte) (hd : decode c.code pc = .ok (.ireturn, 1)) (hk : k ≤ k') (hn' : n ≤ n') (hQ : Q (some (.int z)) h) : OEnds p e below (GW Z EL s Q k' n') T (mkF m pc Ls (.int z :: rest)) :=
  X.retV hE hlk hret (by show Value.int z.toInt8.toInt32 = _; rw [hz]) (Or.inl ⟨rfl, Or.inr (Or.inr (Or.inl rfl)), z, rfl⟩) hd hk hn' hQ
theorem OSt.retChar (X : OSt p l e R s m args below meth c own Z EL vm0 T h k n) (hE : EW Z a0 EL) (hlk : meth.locks = false) {z : Int32} (hz : ¬ z < 0 ∧ ¬ 65535 < z) (hret : meth.sig.returnType = some .char) (hd : decode c.code pc = .ok (.ireturn, 1)) (hk : k ≤ k') (hn' : n ≤ n') (hQ : Q (some (.int z)) h) : OEnds p e below (GW Z EL s Q k' n') T (mkF m pc Ls (.int z :: rest)) :=
  X.retV hE hlk hret (by show Value.int z.toUInt32.toUInt16.toUInt32.toInt32 = _; rw [i2c_id hz.1 hz.2]) (Or.inl ⟨rfl, Or.inr (Or.inr (Or.inr (Or.inl rfl))), z, rfl⟩) hd hk hn' hQ
theorem narrow_obj {t : FieldType} {w : Value} (h1 : t.isReference = true) : narrow t w = w := by cases t <;> first | rfl | cases h1
theorem OSt.retRef (X : OSt p l e R s m args below meth c own Z EL vm0 T h k n) (hE : EW Z a0 EL) (hlk : meth.locks = false) {w : Value} (hw : w.isRef = true) {t : FieldType} (ht : t.isReference = true) (hret : meth.sig.returnType = some t) (hd : decode c.code pc = .ok (.areturn, 1)) (hk : k ≤ k') (hn' : n ≤ n') (hQ : Q (some w) h) : OEnds p e below (GW Z EL s Q k' n') T (mkF m pc Ls (w :: rest)) :=
  X.retV hE hlk hret (narrow_obj ht) (Or.inr (Or.inr (Or.inr (Or.inr ⟨rfl, ht, hw⟩)))) hd hk hn' hQ
theorem OSt.ret0 (X : OSt p l e R s m args below meth c own Z EL vm0 T h k n) (hE : EW Z a0 EL) (hlk : meth.locks = false) (hret : meth.sig.returnType = none) (hd : decode c.code pc = .ok (.return_, 1)) (hk : k ≤ k') (hn' : n ≤ n') (hQ : Q none h) : OEnds p e below (GW Z EL s Q k' n') T (mkF m pc Ls []) := by
  obtain ⟨L, X, hF, hh, ⟨k0, hS0, hk0⟩, hZ, ho, hC, hO, hx⟩ := X
  have hA := CHv.at X hZ hE hC.1
  obtain ⟨fs, hr, hrun, hended, hend⟩ := X.leaveW hS0 (by rw [hh]; exact hk0) (v := none) (fun _ => rfl) hlk
  refine ⟨_, _, X.returnOut hx hret hd hr, hrun, hended, _, L, rfl, ⟨?_, hF, ?_⟩, ?_, rew_mono hend hk hn'⟩
  · show Q _ T.heap; rw [hh]; exact hQ
  · show Ext _ T.heap; rw [hh]; exact hO
  · show CHr Z EL s.vm s.heap T.vm T.heap; rw [hh]; exact hC.trans hA
end Ret
section Cons
variable {p : Program} {l : Launch} {e : Env} {R : Room} {s : State} {m : MethodId} {args : Array Value} {below : List Frame} {meth : Method} {c : Code} {own : String} {Z : State} {a0 : Array Value} {EL : List (String × Nat)} {vm0 vm1 : Vm} {T T' : State} {h h' h1 : Heap} {k n k' n' : Nat} {G : Outcome → State → Prop} {pc : Nat} {Ls : Array Slot} {rest : List Value} {Q : Option Value → Heap → Prop}
  {y : MethodName} {bytes : ByteArray} {maxL : Nat} {ret : Option FieldType} {rm : Room} {as' : Array Value} {ws : List Cond}
/-- a method's contract, of one call: the arguments as', the heap h at the call -/
def ConX (l : Launch) (Z : State) (EL : List (String × Nat)) (y : MethodName) (bytes : ByteArray) (maxL : Nat) (ret : Option FieldType) (ws : List Cond) (rm : Room) (as' : Array Value) (h : Heap) (Q : Option Value → Heap → Prop) : Prop := Ext Z.heap h →
  MetFree l y (head1 (Cond.code y bytes maxL ret :: ws) rm) (fun a U => a = as' ∧ Z.Warmed39 U.vm ∧ U.heap = h ∧ CHv Z EL U.vm h) (fun _ _ _ _ _ => True) (fun _ U o U' => ∃ v L, o = .returned v ∧ (Q v U'.heap ∧ Fr Z.heap.size L ∧ Ext Z.heap U'.heap) ∧ CHr Z EL U.vm U.heap U'.vm U'.heap ∧ ReturnedEndW U o U' L rm.cells rm.slots)
abbrev Con (l : Launch) (Z : State) (EL : List (String × Nat)) (y : MethodName) (bytes : ByteArray) (maxL : Nat) (ret : Option FieldType) (rm : Room) (as' : Array Value) (h : Heap) (Q : Option Value → Heap → Prop) : Prop := ConX l Z EL y bytes maxL ret [] rm as' h Q
theorem ConX.of (hy : plainFor y = true) (body : ∀ (p : Program) (e : Env) (s : State) (m : MethodId) (below : List Frame) (meth : Method) (c : Code) (T : State), c.code = bytes → c.maxLocals = maxL → meth.sig.returnType = ret → meth.locks = false → meth.name = y.name → OSt p l e rm s m as' below meth c y.cls Z EL s.vm T h 0 0 → OEnds p e below (GW Z EL s Q rm.cells rm.slots) T (entryFrame m as' maxL)) :
    ConX l Z EL y bytes maxL ret ws rm as' h Q := by
  intro hO
  refine MetFree.of_bodySF hy hisR ?_
  intro p e s m args below meth c s₁ Bd hml hP _
  obtain ⟨rfl, hZ, hh, hC⟩ := hP
  have e0 : s₁.heap = h := by rw [← hh, Bd.state]; rfl
  have X0 : Stand p l e rm s m args below meth c s₁ [] 0 0 := Stand.of_body Bd
  have hown : s.vm.findClass y.cls = some m.cls := findClass_of_methodNamed Bd.named
  obtain ⟨s₂, o, h1, h2, h3, v, L, rfl, h4, h5, h6⟩ := body p e s m below meth c s₁ Bd.bytes hml Bd.returns Bd.notSynchronized (name_of_methodNamed Bd.named Bd.method).1
    ⟨[], X0, Fr.nil _, e0, ⟨_, (State.WarmedH.refl s).since 0, Nat.zero_le _⟩, hZ, hown, by rw [hh]; exact CHr.refl hC, hO, Bd.exec⟩
  exact ⟨s₂, _, h1, h2, h3, v, L, rfl, h4, h5, h6⟩
/-- the shape of a payer's premise and answer -/
abbrev PreB (R : Room) (as' : Array Value) (h : Heap) (kc ns : Nat) (A : Pt) (a : Array Value) : Prop := a = as' ∧ A.U.heap = h ∧ A.cells + kc ≤ R.cells ∧ A.slots + ns ≤ R.slots
abbrev PostB (Q : Option Value → Heap → List Loc → Prop) (kc ns : Nat) (A : Pt) (_ : Array Value) (v : Option Value) (B : Pt) : Prop := ∃ L, Q v B.U.heap L ∧ B.locs = A.locs ++ L ∧ B.cells = A.cells + kc ∧ B.slots = A.slots + ns
abbrev PostS (Q : Option Value → Heap → Prop) (Z : State) (EL : List (String × Nat)) (vm0 : Vm) (h : Heap) (kc ns : Nat) (A : Pt) (_ : Array Value) (v : Option Value) (B : Pt) : Prop :=
  ∃ L, (Q v B.U.heap ∧ Fr Z.heap.size L ∧ Ext Z.heap B.U.heap) ∧ B.locs = A.locs ++ L ∧ B.cells = A.cells + kc ∧ B.slots = A.slots + ns ∧ CHr Z EL vm0 h B.U.vm B.U.heap
/-- what a call by contract asks of the caller -/
theorem Con.back {W len : Nat} (K : Con l Z EL y bytes maxL ret rm as' h Q) (hO : Ext Z.heap h) (hZ : Z.Warmed39 vm0) (hE : EW Z a0 EL) (hC : CHv Z EL vm0 h) (wc : (Cond.code y bytes maxL ret).before a0 Z = true) (wz : (Cond.initialized y.cls).before a0 Z = true) (hf : rm.frames + 1 ≤ R.frames) (hl : W + (maxL + 11) + rm.locals ≤ R.locals) :
    BackS l R p e below (s.setVm vm0) args y len W (PreB R as' h rm.cells rm.slots) (PostS Q Z EL vm0 h rm.cells rm.slots) :=
  backOfSH (Q := fun v h' L => Q v h' ∧ Fr Z.heap.size L ∧ Ext Z.heap h') (K hO) hZ wc wz hf hl hE hC
/-- OSt behind a payer that may have interned -/
theorem OSt.behindS (X : OSt p l e R s m args below meth c own Z EL vm0 T h k n) {B : Pt} {v : Option Value} {L0 L : List Loc} (hF0 : Fr Z.heap.size L0) (X' : Stand p l e R (s.setVm B.U.vm) m args below meth c B.U B.locs B.cells B.slots) (hS : (s.setVm vm0).Since B.U.vm B.U.heap.size) (hg : T.heap.size ≤ B.U.heap.size)
    (hF : Fr Z.heap.size L) (hO : Ext Z.heap B.U.heap) (e1 : B.locs = L0 ++ L) (e2 : B.cells = k') (e3 : B.slots = n') (hC' : CHr Z EL vm0 h B.U.vm B.U.heap) : OSt p l e R s m args below meth c own Z EL B.U.vm B.U B.U.heap k' n' := by
  obtain ⟨_, X, -, hh, ⟨k0, hS0, hk0⟩, hZ, ho, hC, -, hx⟩ := X
  obtain ⟨r1, r2, r3, r4⟩ := rebS (own := own) hS0 hk0 X' hS (by rw [← hh]; exact hg) hZ ho
  subst e2 e3
  rw [e1] at r1
  exact ⟨_, r1, hF0.app hF, rfl, ⟨_, r2, Nat.le_refl _⟩, r3, r4, hC.trans hC', hO, hx⟩
theorem OSt.callS (X : OSt p l e R s m args below meth c own Z EL vm0 T h k n) (hE : EW Z a0 EL) (K : Con l Z EL y bytes maxL ret rm as' h Q) {index : Nat} (w1 : (Cond.methodLink own index y).before a0 Z = true) (w2 : (Cond.static y).before a0 Z = true) (wz : (Cond.initialized y.cls).before a0 Z = true) (wc : (Cond.code y bytes maxL ret).before a0 Z = true)
    (hy : y.cls ≠ "java/lang/invoke/MethodHandle" ∧ y.cls ≠ "java/lang/invoke/VarHandle") {W : Nat} (hf : rm.frames + 1 ≤ R.frames) (hl : W + (maxL + 11) + rm.locals ≤ R.locals) {argsL stack : List Value} (ha : argsL.toArray = as') (hlen : ∀ sig, parseMethodDescriptor y.desc = some sig → argsL.length = sig.parameters.length) (hst : stack = argsL.reverse ++ rest) (hsize : Ls.size = c.maxLocals) (hW : (rest.map fun v => v.category).sum ≤ W)
    (hd : decode c.code pc = .ok (.invokestatic index, 3)) (hk : k + rm.cells ≤ R.cells) (hn : n + rm.slots ≤ R.slots)
    (q : ∀ v vm1 T' h', OSt p l e R s m args below meth c own Z EL vm1 T' h' (k + rm.cells) (n + rm.slots) → CHr Z EL vm0 h vm1 h' → Q v h' → OEnds p e below G T' (mkF m (pc + 3) Ls (v.toList ++ rest))) : OEnds p e below G T (mkF m pc Ls stack) := by
  have X1 := X
  obtain ⟨L, X, hF, hh, ⟨k0, hS0, hk0⟩, hZ, ho, hC, hO, hx⟩ := X
  obtain ⟨v, vmx, B, -, X', hS, hgr, ⟨L', ⟨hq, hF', hO'⟩, e1, e2, e3, hC'⟩, st⟩ := callSS X hx ho (mvT (s := s.setVm vm0) hZ w1) (mvT (s := s.setVm vm0) hZ w2) (mvT (s := s.setVm vm0) hZ wz) (mvT (s := s.setVm vm0) hZ wc) hy (K.back hO hZ hE hC.1 wc wz hf hl) (g := mkF m pc Ls stack) rfl hsize (argsL := argsL) (rest := rest) hlen hst (by show 2 * 0 + _ ≤ _; rw [Nat.mul_zero, Nat.zero_add]; exact hW) hd (fun _ _ => ⟨ha, hh, hk, hn⟩)
  exact (q v _ _ _ (X1.behindS (v := v) hF X' hS hgr hF' hO' e1 e2 e3 hC') hC' hq).tr st
theorem OSt.callI (X : OSt p l e R s m args below meth c own Z EL vm0 T h k n) (hE : EW Z a0 EL) (K : Con l Z EL y bytes maxL none rm as' h Q) {index : Nat} (w1 : (Cond.methodLink own index y).before a0 Z = true) (w2 : (Cond.instanceMethod y).before a0 Z = true) (wz : (Cond.initialized y.cls).before a0 Z = true) (wc : (Cond.code y bytes maxL none).before a0 Z = true)
    (hi : y.name = "<init>") (hy : y.cls ≠ "java/lang/invoke/MethodHandle" ∧ y.cls ≠ "java/lang/invoke/VarHandle") {W : Nat} (hf : rm.frames + 1 ≤ R.frames) (hl : W + (maxL + 11) + rm.locals ≤ R.locals) {a : Addr} {argsL stack : List Value} (ha : (.ref a :: argsL).toArray = as') (hlen : ∀ sig, parseMethodDescriptor y.desc = some sig → argsL.length = sig.parameters.length) (hst : stack = argsL.reverse ++ .ref a :: rest) (hsize : Ls.size = c.maxLocals) (hW : (rest.map fun v => v.category).sum ≤ W)
    (hd : decode c.code pc = .ok (.invokespecial index, 3)) (hk : k + rm.cells ≤ R.cells) (hn : n + rm.slots ≤ R.slots)
    (q : ∀ v vm1 T' h', OSt p l e R s m args below meth c own Z EL vm1 T' h' (k + rm.cells) (n + rm.slots) → CHr Z EL vm0 h vm1 h' → Q v h' → OEnds p e below G T' (mkF m (pc + 3) Ls (v.toList ++ rest))) : OEnds p e below G T (mkF m pc Ls stack) := by
  have X1 := X
  obtain ⟨L, X, hF, hh, ⟨k0, hS0, hk0⟩, hZ, ho, hC, hO, hx⟩ := X
  obtain ⟨v, vmx, B, -, X', hS, hgr, ⟨L', ⟨hq, hF', hO'⟩, e1, e2, e3, hC'⟩, st⟩ := X.specialBackS hx hi ho (mvT (s := s.setVm vm0) hZ w1) (mvT (s := s.setVm vm0) hZ w2) (mvT (s := s.setVm vm0) hZ wc) hy (K.back hO hZ hE hC.1 wc wz hf hl) (g := mkF m pc Ls stack) rfl hsize (Steps.refl _) (a := a) (argsL := argsL) (rest := rest) hlen hst (by show 2 * 0 + _ ≤ _; rw [Nat.mul_zero, Nat.zero_add]; exact hW) hd (fun _ _ => ⟨ha, hh, hk, hn⟩)
  exact (q v _ _ _ (X1.behindS (v := v) hF X' hS hgr hF' hO' e1 e2 e3 hC') hC' hq).tr st
theorem OSt.callV (X : OSt p l e R s m args below meth c own Z EL vm0 T h k n) (hE : EW Z a0 EL) {z : MethodName} (K : Con l Z EL z bytes maxL ret rm as' h Q) {C : String} {index : Nat} (w1 : (Cond.methodLink own index y).before a0 Z = true) (w2 : (Cond.declares y).before a0 Z = true) (w3 : (Cond.selects C y z).before a0 Z = true) (w4 : (Cond.instanceMethod z).before a0 Z = true) (wz : (Cond.initialized z.cls).before a0 Z = true) (wc : (Cond.code z bytes maxL ret).before a0 Z = true) (nf : NotFace (s.setVm vm0) y)
    (hy : y.cls ≠ "java/lang/invoke/MethodHandle" ∧ y.cls ≠ "java/lang/invoke/VarHandle") {W : Nat} (hf : rm.frames + 1 ≤ R.frames) (hl : W + (maxL + 11) + rm.locals ≤ R.locals) {a : Addr} (E : Exa Z h a C) {argsL stack : List Value} (ha : (.ref a :: argsL).toArray = as') (hlen : ∀ sig, parseMethodDescriptor y.desc = some sig → argsL.length = sig.parameters.length) (hst : stack = argsL.reverse ++ .ref a :: rest) (hsize : Ls.size = c.maxLocals) (hW : (rest.map fun v => v.category).sum ≤ W)
    (hd : decode c.code pc = .ok (.invokevirtual index, 3)) (hk : k + rm.cells ≤ R.cells) (hn : n + rm.slots ≤ R.slots)
    (q : ∀ v vm1 T' h', OSt p l e R s m args below meth c own Z EL vm1 T' h' (k + rm.cells) (n + rm.slots) → CHr Z EL vm0 h vm1 h' → Q v h' → OEnds p e below G T' (mkF m (pc + 3) Ls (v.toList ++ rest))) : OEnds p e below G T (mkF m pc Ls stack) := by
  have X1 := X
  obtain ⟨L, X, hF, hh, ⟨k0, hS0, hk0⟩, hZ, ho, hC, hO, hx⟩ := X
  obtain ⟨cB, kB, q1, -, q3⟩ := isOf (s := s.setVm vm0) hZ hh E
  obtain ⟨v, vmx, B, -, X', hS, hgr, ⟨L', ⟨hq, hF', hO'⟩, e1, e2, e3, hC'⟩, st⟩ := X.virtualBackS hx ho (mvT (s := s.setVm vm0) hZ w1) (mvT (s := s.setVm vm0) hZ w2) nf (mvT (s := s.setVm vm0) hZ w3) (mvT (s := s.setVm vm0) hZ w4) hy (K.back hO hZ hE hC.1 wc wz hf hl) q1 q3 (g := mkF m pc Ls stack) rfl hsize (Steps.refl _) (argsL := argsL) (rest := rest) hlen hst (by show 2 * 0 + _ ≤ _; rw [Nat.mul_zero, Nat.zero_add]; exact hW) hd (fun _ _ => ⟨ha, hh, hk, hn⟩)
  exact (q v _ _ _ (X1.behindS (v := v) hF X' hS hgr hF' hO' e1 e2 e3 hC') hC' hq).tr st
end Cons
end Jvm.Own
namespace Jvm.Own
open Sem ClassFile Op Lib Bundle Jvm.Stand Jvm.Free Jvm.LawKit Jvm.RoadKit
section Pay
variable {p : Program} {l : Launch} {e : Env} {R : Room} {s : State} {m : MethodId} {args : Array Value} {below : List Frame} {meth : Method} {c : Code} {own : String} {Z : State} {a0 : Array Value} {EL : List (String × Nat)} {vm0 vm1 : Vm} {T T' : State} {h h' h1 : Heap} {k n k' n' : Nat} {G : Outcome → State → Prop} {pc : Nat} {Ls : Array Slot} {rest : List Value} {Q : Option Value → Heap → Prop} {Q3 : Option Value → Heap → List Loc → Prop} {kc ns : Nat}
  {y : MethodName} {bytes : ByteArray} {maxL : Nat} {ret : Option FieldType} {rm : Room} {as' : Array Value} {ws : List Cond}
/-- what the walk must know of a payer's answer -/
abbrev OkB (Z : State) (EL : List (String × Nat)) (vm0 : Vm) (h : Heap) (Q3 : Option Value → Heap → List Loc → Prop) : Prop := ∀ v h' L, Q3 v h' L → Fr Z.heap.size L ∧ Ext Z.heap h' ∧ CHr Z EL vm0 h vm0 h'
theorem OSt.behind (X : OSt p l e R s m args below meth c own Z EL vm0 T h k n) {B : Pt} {L0 L : List Loc} (hF0 : Fr Z.heap.size L0) (X' : Stand p l e R (s.setVm vm0) m args below meth c B.U B.locs B.cells B.slots)
    (hF : Fr Z.heap.size L) (hO : Ext Z.heap B.U.heap) (e1 : B.locs = L0 ++ L) (e2 : B.cells = k') (e3 : B.slots = n') (hC' : CHr Z EL vm0 h vm0 B.U.heap) : OSt p l e R s m args below meth c own Z EL vm0 B.U B.U.heap k' n' := by
  obtain ⟨_, X, -, hh, ⟨k0, hS0, hk0⟩, hZ, ho, hC, -, hx⟩ := X
  subst e2 e3
  rw [e1] at X'
  exact ⟨_, X', hF0.app hF, rfl, ⟨_, hS0, Nat.le_trans hk0 hC'.2.1⟩, hZ, ho, hC.trans hC', hO, hx⟩
theorem OSt.payS (X : OSt p l e R s m args below meth c own Z EL vm0 T h k n) {W : Nat} (K : Back l R p e below (s.setVm vm0) args y 3 W (PreB R as' h kc ns) (PostB Q3 kc ns)) (hK : OkB Z EL vm0 h Q3) {index : Nat} (w1 : (Cond.methodLink own index y).before a0 Z = true) (w2 : (Cond.static y).before a0 Z = true) (wz : (Cond.initialized y.cls).before a0 Z = true) (wc : (Cond.code y bytes maxL ret).before a0 Z = true)
    (hy : y.cls ≠ "java/lang/invoke/MethodHandle" ∧ y.cls ≠ "java/lang/invoke/VarHandle") {argsL stack : List Value} (ha : argsL.toArray = as') (hlen : ∀ sig, parseMethodDescriptor y.desc = some sig → argsL.length = sig.parameters.length) (hst : stack = argsL.reverse ++ rest) (hsize : Ls.size = c.maxLocals) (hW : (rest.map fun v => v.category).sum ≤ W)
    (hd : decode c.code pc = .ok (.invokestatic index, 3)) (hk : k + kc ≤ R.cells) (hn : n + ns ≤ R.slots)
    (q : ∀ v T' h' L, OSt p l e R s m args below meth c own Z EL vm0 T' h' (k + kc) (n + ns) → Q3 v h' L → OEnds p e below G T' (mkF m (pc + 3) Ls (v.toList ++ rest))) : OEnds p e below G T (mkF m pc Ls stack) := by
  have X1 := X
  obtain ⟨L, X, hF, hh, ⟨k0, hS0, hk0⟩, hZ, ho, hC, hO, hx⟩ := X
  obtain ⟨v, vmx, B, -, X', ⟨L', hq, e1, e2, e3⟩, st⟩ := Jvm.LawKit.callS X hx ho (mvT (s := s.setVm vm0) hZ w1) (mvT (s := s.setVm vm0) hZ w2) (mvT (s := s.setVm vm0) hZ wz) (mvT (s := s.setVm vm0) hZ wc) hy K (g := mkF m pc Ls stack) rfl hsize (argsL := argsL) (rest := rest) hlen hst (by show 2 * 0 + _ ≤ _; rw [Nat.mul_zero, Nat.zero_add]; exact hW) hd (fun _ _ => ⟨ha, hh, hk, hn⟩)
  obtain ⟨r1, r2, r3⟩ := hK _ _ _ hq
  exact (q v _ _ _ (X1.behind hF X' r1 r2 e1 e2 e3 r3) hq).go st
theorem OSt.payI (X : OSt p l e R s m args below meth c own Z EL vm0 T h k n) {W : Nat} (K : Back l R p e below (s.setVm vm0) args y 3 W (PreB R as' h kc ns) (PostB Q3 kc ns)) (hK : OkB Z EL vm0 h Q3) {index : Nat} (w1 : (Cond.methodLink own index y).before a0 Z = true) (w2 : (Cond.instanceMethod y).before a0 Z = true) (wc : (Cond.code y bytes maxL none).before a0 Z = true)
    (hi : y.name = "<init>") (hy : y.cls ≠ "java/lang/invoke/MethodHandle" ∧ y.cls ≠ "java/lang/invoke/VarHandle") {a : Addr} {argsL stack : List Value} (ha : (.ref a :: argsL).toArray = as') (hlen : ∀ sig, parseMethodDescriptor y.desc = some sig → argsL.length = sig.parameters.length) (hst : stack = argsL.reverse ++ .ref a :: rest) (hsize : Ls.size = c.maxLocals) (hW : (rest.map fun v => v.category).sum ≤ W)
    (hd : decode c.code pc = .ok (.invokespecial index, 3)) (hk : k + kc ≤ R.cells) (hn : n + ns ≤ R.slots)
    (q : ∀ v T' h' L, OSt p l e R s m args below meth c own Z EL vm0 T' h' (k + kc) (n + ns) → Q3 v h' L → OEnds p e below G T' (mkF m (pc + 3) Ls (v.toList ++ rest))) : OEnds p e below G T (mkF m pc Ls stack) := by
  have X1 := X
  obtain ⟨L, X, hF, hh, ⟨k0, hS0, hk0⟩, hZ, ho, hC, hO, hx⟩ := X
  obtain ⟨v, vmx, B, -, X', ⟨L', hq, e1, e2, e3⟩, st⟩ := X.specialBack hx hi ho (mvT (s := s.setVm vm0) hZ w1) (mvT (s := s.setVm vm0) hZ w2) (mvT (s := s.setVm vm0) hZ wc) hy K (g := mkF m pc Ls stack) rfl hsize (Steps.refl _) (a := a) (argsL := argsL) (rest := rest) hlen hst (by show 2 * 0 + _ ≤ _; rw [Nat.mul_zero, Nat.zero_add]; exact hW) hd (fun _ _ => ⟨ha, hh, hk, hn⟩)
  obtain ⟨r1, r2, r3⟩ := hK _ _ _ hq
  exact (q v _ _ _ (X1.behind hF X' r1 r2 e1 e2 e3 r3) hq).tr st
theorem OSt.payV (X : OSt p l e R s m args below meth c own Z EL vm0 T h k n) {z : MethodName} {W : Nat} (K : Back l R p e below (s.setVm vm0) args z 3 W (PreB R as' h kc ns) (PostB Q3 kc ns)) (hK : OkB Z EL vm0 h Q3) {C : String} {index : Nat} (w1 : (Cond.methodLink own index y).before a0 Z = true) (w2 : (Cond.declares y).before a0 Z = true) (w3 : (Cond.selects C y z).before a0 Z = true) (w4 : (Cond.instanceMethod z).before a0 Z = true) (nf : NotFace (s.setVm vm0) y)
    (hy : y.cls ≠ "java/lang/invoke/MethodHandle" ∧ y.cls ≠ "java/lang/invoke/VarHandle") {a : Addr} (E : Exa Z h a C) {argsL stack : List Value} (ha : (.ref a :: argsL).toArray = as') (hlen : ∀ sig, parseMethodDescriptor y.desc = some sig → argsL.length = sig.parameters.length) (hst : stack = argsL.reverse ++ .ref a :: rest) (hsize : Ls.size = c.maxLocals) (hW : (rest.map fun v => v.category).sum ≤ W)
    (hd : decode c.code pc = .ok (.invokevirtual index, 3)) (hk : k + kc ≤ R.cells) (hn : n + ns ≤ R.slots)
    (q : ∀ v T' h' L, OSt p l e R s m args below meth c own Z EL vm0 T' h' (k + kc) (n + ns) → Q3 v h' L → OEnds p e below G T' (mkF m (pc + 3) Ls (v.toList ++ rest))) : OEnds p e below G T (mkF m pc Ls stack) := by
  have X1 := X
  obtain ⟨L, X, hF, hh, ⟨k0, hS0, hk0⟩, hZ, ho, hC, hO, hx⟩ := X
  obtain ⟨cB, kB, q1, -, q3⟩ := isOf (s := s.setVm vm0) hZ hh E
  obtain ⟨v, vmx, B, -, X', ⟨L', hq, e1, e2, e3⟩, st⟩ := X.virtualBack hx ho (mvT (s := s.setVm vm0) hZ w1) (mvT (s := s.setVm vm0) hZ w2) nf (mvT (s := s.setVm vm0) hZ w3) (mvT (s := s.setVm vm0) hZ w4) hy K q1 q3 (g := mkF m pc Ls stack) rfl hsize (Steps.refl _) (argsL := argsL) (rest := rest) hlen hst (by show 2 * 0 + _ ≤ _; rw [Nat.mul_zero, Nat.zero_add]; exact hW) hd (fun _ _ => ⟨ha, hh, hk, hn⟩)
  obtain ⟨r1, r2, r3⟩ := hK _ _ _ hq
  exact (q v _ _ _ (X1.behind hF X' r1 r2 e1 e2 e3 r3) hq).tr st
theorem OSt.nf (X : OSt p l e R s m args below meth c own Z EL vm0 T h k n) {C : String} (w : (Cond.selects C y y).before a0 Z = true) : NotFace (s.setVm vm0) y := notFace_of_selects (args := #[]) (mvT (s := s.setVm vm0) X.hZ w)
/-- a payer that leaves the heap as it was -/
theorem okPure {Q2 : Option Value → Prop} (X : OSt p l e R s m args below meth c own Z EL vm0 T h k n) : OkB Z EL vm0 h (fun v h' L => Q2 v ∧ L = [] ∧ h' = h) := fun v h' L ⟨_, e1, e2⟩ => by
  subst e1 e2; exact ⟨Fr.nil _, X.old, CHr.refl X.chv⟩
theorem chr_nil {vm : Vm} (q : h.size ≤ h'.size) : CHr Z [] vm h vm h' := ⟨(fun _ hp => (nomatch hp)), q, fun _ B => (by obtain ⟨_, hp, _⟩ := B; cases hp)⟩
theorem safe_nil {vm : Vm} {x : Addr} : Safe Z [] vm h x := fun B => by obtain ⟨_, hp, _⟩ := B; cases hp
end Pay
section Narrow
variable {p : Program} {l : Launch} {e : Env} {R : Room} {s : State} {m : MethodId} {args : Array Value} {below : List Frame} {meth : Method} {c : Code} {own : String} {Z : State} {a0 : Array Value} {vm0 vm1 : Vm} {T T' : State} {h h' h1 : Heap} {k n k' n' : Nat} {G : Outcome → State → Prop} {pc : Nat} {Ls : Array Slot} {rest : List Value} {Q : Option Value → Heap → Prop}
  {y : MethodName} {bytes : ByteArray} {maxL : Nat} {ret : Option FieldType} {rm : Room} {as' : Array Value} {ws : List Cond}
/-- how a walk over s ends, under the narrow frame -/
def GN (Z : State) (s : State) (Q : Option Value → Heap → Prop) (k n : Nat) (o : Outcome) (u : State) : Prop :=
  ∃ v L, o = .returned v ∧ (Q v u.heap ∧ Fr Z.heap.size L ∧ Ext Z.heap u.heap) ∧ FrameEnd s o u L k n
theorem OSt.retVN (X : OSt p l e R s m args below meth c own Z [] s.vm T h k n) (hlk : meth.locks = false) {w : Value} {t : FieldType} {i : Instr} (hret : meth.sig.returnType = some t) (hn : narrow t w = w)
    (hi : (i = .ireturn ∧ (t = .int ∨ t = .boolean ∨ t = .byte ∨ t = .char ∨ t = .short) ∧ ∃ z, w = .int z) ∨ (i = .lreturn ∧ t = .long ∧ ∃ z, w = .long z) ∨ (i = .dreturn ∧ t = .double ∧ ∃ z, w = .double z) ∨ (i = .freturn ∧ t = .float ∧ ∃ z, w = .float z) ∨ (i = .areturn ∧ t.isReference = true ∧ w.isRef = true))
    (hd : decode c.code pc = .ok (i, 1)) (hk : k ≤ k') (hn' : n ≤ n') (hQ : Q (some w) h) : OEnds p e below (GN Z s Q k' n') T (mkF m pc Ls (w :: rest)) := by
  obtain ⟨L, X, hF, hh, ⟨k0, hS0, hk0⟩, hZ, ho, hC, hO, hx⟩ := X
  obtain ⟨fs, hr, hrun, hended, hW, hsame⟩ := Stand.leave (s := s) X (v := some w) (fun q => by rw [hret] at q; cases q) hlk
  refine ⟨_, _, retOut X hx hret hn hi hd hr, hrun, hended, _, L, rfl, ⟨?_, hF, ?_⟩, ⟨_, rfl⟩, hW, hsame.mono hk hn'⟩
  · show Q _ T.heap; rw [hh]; exact hQ
  · show Ext _ T.heap; rw [hh]; exact hO
theorem OSt.retIntN (X : OSt p l e R s m args below meth c own Z [] s.vm T h k n) (hlk : meth.locks = false) {z : Int32} (hret : meth.sig.returnType = some .int) (hd : decode c.code pc = .ok (.ireturn, 1)) (hk : k ≤ k') (hn' : n ≤ n') (hQ : Q (some (.int z)) h) : OEnds p e below (GN Z s Q k' n') T (mkF m pc Ls (.int z :: rest)) :=
  X.retVN hlk hret rfl (Or.inl ⟨rfl, Or.inl rfl, z, rfl⟩) hd hk hn' hQ
theorem OSt.retBoolN (X : OSt p l e R s m args below meth c own Z [] s.vm T h k n) (hlk : meth.locks = false) {z : Int32} (hz : z = 0 ∨ z = 1) (hret : meth.sig.returnType = some .boolean) (hd : decode c.code pc = .ok (.ireturn, 1)) (hk : k ≤ k') (hn' : n ≤ n') (hQ : Q (some (.int z)) h) : OEnds p e below (GN Z s Q k' n') T (mkF m pc Ls (.int z :: rest)) :=
  X.retVN hlk hret (by rcases hz with rfl | rfl <;> rfl) (Or.inl ⟨rfl, Or.inr (Or.inl rfl), z, rfl⟩) hd hk hn' hQ
theorem OSt.retRefN (X : OSt p l e R s m args below meth c own Z [] s.vm T h k n) (hlk : meth.locks = false) {w : Value} (hw : w.isRef = true) {t : FieldType} (ht : t.isReference = true) (hret : meth.sig.returnType = some t) (hd : decode c.code pc = .ok (.areturn, 1)) (hk : k ≤ k') (hn' : n ≤ n') (hQ : Q (some w) h) : OEnds p e below (GN Z s Q k' n') T (mkF m pc Ls (w :: rest)) :=
  X.retVN hlk hret (narrow_obj ht) (Or.inr (Or.inr (Or.inr (Or.inr ⟨rfl, ht, hw⟩)))) hd hk hn' hQ
theorem OSt.ret0N (X : OSt p l e R s m args below meth c own Z [] s.vm T h k n) (hlk : meth.locks = false) (hret : meth.sig.returnType = none) (hd : decode c.code pc = .ok (.return_, 1)) (hk : k ≤ k') (hn' : n ≤ n') (hQ : Q none h) : OEnds p e below (GN Z s Q k' n') T (mkF m pc Ls []) := by
  obtain ⟨L, X, hF, hh, ⟨k0, hS0, hk0⟩, hZ, ho, hC, hO, hx⟩ := X
  obtain ⟨fs, hr, hrun, hended, hW, hsame⟩ := Stand.leave (s := s) X (v := none) (fun _ => rfl) hlk
  refine ⟨_, _, X.returnOut hx hret hd hr, hrun, hended, _, L, rfl, ⟨?_, hF, ?_⟩, ⟨_, rfl⟩, hW, hsame.mono hk hn'⟩
  · show Q _ T.heap; rw [hh]; exact hQ
  · show Ext _ T.heap; rw [hh]; exact hO
def ConN (l : Launch) (Z : State) (y : MethodName) (bytes : ByteArray) (maxL : Nat) (ret : Option FieldType) (ws : List Cond) (rm : Room) (as' : Array Value) (h : Heap) (Q : Option Value → Heap → Prop) : Prop := Ext Z.heap h →
  MetFree l y (head1 (Cond.code y bytes maxL ret :: ws) rm) (fun a U => a = as' ∧ Z.Warmed39 U.vm ∧ U.heap = h) (fun _ _ _ _ _ => True) (fun _ U o U' => ∃ v L, o = .returned v ∧ (Q v U'.heap ∧ Fr Z.heap.size L ∧ Ext Z.heap U'.heap) ∧ FrameEnd U o U' L rm.cells rm.slots)
theorem ConN.of (hy : plainFor y = true) (body : ∀ (p : Program) (e : Env) (s : State) (m : MethodId) (below : List Frame) (meth : Method) (c : Code) (T : State), c.code = bytes → c.maxLocals = maxL → meth.sig.returnType = ret → meth.locks = false → meth.name = y.name → OSt p l e rm s m as' below meth c y.cls Z [] s.vm T h 0 0 → OEnds p e below (GN Z s Q rm.cells rm.slots) T (entryFrame m as' maxL)) :
    ConN l Z y bytes maxL ret ws rm as' h Q := by
  intro hO
  refine MetFree.of_bodySF hy hisR ?_
  intro p e s m args below meth c s₁ Bd hml hP _
  obtain ⟨rfl, hZ, hh⟩ := hP
  have e0 : s₁.heap = h := by rw [← hh, Bd.state]; rfl
  have X0 : Stand p l e rm s m args below meth c s₁ [] 0 0 := Stand.of_body Bd
  have hown : s.vm.findClass y.cls = some m.cls := findClass_of_methodNamed Bd.named
  obtain ⟨s₂, o, h1, h2, h3, v, L, rfl, h4, h5⟩ := body p e s m below meth c s₁ Bd.bytes hml Bd.returns Bd.notSynchronized (name_of_methodNamed Bd.named Bd.method).1
    ⟨[], X0, Fr.nil _, e0, ⟨_, (State.WarmedH.refl s).since 0, Nat.zero_le _⟩, hZ, hown, by rw [hh]; exact chr_nil (Nat.le_refl _), hO, Bd.exec⟩
  exact ⟨s₂, _, h1, h2, h3, v, L, rfl, h4, h5⟩
theorem ConN.back {W len : Nat} (K : ConN l Z y bytes maxL ret [] rm as' h Q) (hO : Ext Z.heap h) (hZ : Z.Warmed39 vm0) (wc : (Cond.code y bytes maxL ret).before a0 Z = true) (wz : (Cond.initialized y.cls).before a0 Z = true) (hf : rm.frames + 1 ≤ R.frames) (hl : W + (maxL + 11) + rm.locals ≤ R.locals) :
    Back l R p e below (s.setVm vm0) args y len W (PreB R as' h rm.cells rm.slots) (PostB (fun v h' L => Q v h' ∧ Fr Z.heap.size L ∧ Ext Z.heap h') rm.cells rm.slots) :=
  backOf (Q := fun v h' L => Q v h' ∧ Fr Z.heap.size L ∧ Ext Z.heap h') (K hO) hZ wc wz hf hl
theorem okN (hq : ∀ v h', Q v h' → h.size ≤ h'.size) : OkB Z [] vm0 h (fun v h' L => Q v h' ∧ Fr Z.heap.size L ∧ Ext Z.heap h') := fun v h' L r => ⟨r.2.1, r.2.2, chr_nil (hq v h' r.1)⟩
end Narrow
end Jvm.Own
namespace Jvm.Own
open Sem ClassFile Op Lib Bundle Jvm.Stand Jvm.Free Jvm.LawKit Jvm.RoadKit
section More
variable {p : Program} {l : Launch} {e : Env} {R : Room} {s : State} {m : MethodId} {args : Array Value} {below : List Frame} {meth : Method} {c : Code} {own : String} {Z : State} {a0 : Array Value} {EL : List (String × Nat)} {vm0 : Vm} {T : State} {h : Heap} {k n : Nat} {G : Outcome → State → Prop} {pc : Nat} {Ls : Array Slot} {rest : List Value}
theorem OSt.instNull (X : OSt p l e R s m args below meth c own Z EL vm0 T h k n) {index : Nat} (hd : decode c.code pc = .ok (.instanceof index, 3)) (q : OEnds p e below G T (mkF m (pc + 3) Ls (.int 0 :: rest))) : OEnds p e below G T (mkF m pc Ls (.null :: rest)) := by
  obtain ⟨L, X, hF, hh, hS, hZ, ho, hC, hO, hx⟩ := X
  exact q.go fun t => X.instanceofNull hx (g := mkF m pc Ls (.null :: rest)) rfl rfl hd t
theorem nsRoot {O K : String} {j : Nat} (wr : (Cond.noSuperclass O).before a0 Z = true) (wi : (Cond.instantiable K j).before a0 Z = true) (hn : O ≠ K) : NS Z O K := by
  obtain ⟨t, k', g0, -⟩ := Cond.instantiable_spec wi
  obtain ⟨cO, kO, o1, o2, o3, -, -⟩ := Cond.noSuperclass_spec wr
  have ne := ids_ne o1 g0 hn
  refine ⟨cO, t, o1, g0, fun fuel => ?_⟩
  cases fuel with
  | zero => rfl
  | succ f => simp [Vm.isSubclassAux, ne, o2, o3]
/-- an object of the class C isn't one of the class K, which can be made -/
theorem nsNo {C S K : String} {j : Nat} (w : (Cond.superclass C S).before a0 Z = true) (wi : (Cond.instantiable K j).before a0 Z = true) (n : NS Z C K) (hn : C ≠ K) : ∃ c t, Z.vm.findClass C = some c ∧ Z.vm.findClass K = some t ∧ Z.vm.assignable c t = false := by
  obtain ⟨c, t, h0, g0, n3⟩ := n
  obtain ⟨t', k', g0', g2, g5, g7, -, -⟩ := Cond.instantiable_spec wi
  cases g0.symm.trans g0'
  obtain ⟨p, k, kp, h1, h2, h3, h4, h5, -, h7⟩ := Cond.superclass_spec h0 w
  have ne := ids_ne h0 g0 hn
  have g8 : k'.isInterface = false := (Bool.or_eq_false_iff.mp g7).1
  refine ⟨c, t, h0, g0, ?_⟩
  show Z.vm.assignableAux (255 + 1) c t = false
  simp [Vm.assignableAux, ne, h2, g2, h5, g5, g8, Vm.isSubclass, n3]
end More
end Jvm.Own
namespace Jvm.Own
open Sem ClassFile Op Lib Bundle Jvm.Stand Jvm.Free Jvm.LawKit Jvm.RoadKit
section Small
variable {Z : State} {h h' : Heap} {EL : List (String × Nat)} {vm : Vm}
theorem own_irem {tb : Tables} [Ours tb] {e : Env} {below : List Frame} {T target : State} {m : MethodId} {c : Code} {g : JFrame} (h : At T m c below) (hx : tb.exec = Jvm.exec) (hg : g.method = m) {x y : Int32} {rest : List Value} (hd : decode c.code g.pc = .ok (.irem, 1)) (hs : g.stack = .int y :: .int x :: rest) (hy : y ≠ 0)
    (hr : Steps tb e below (T.setTop { g with pc := g.pc + 1, stack := .int (x % y) :: rest }) target) : Steps tb e below (T.setTop g) target := by
  have q : x - x / y * y = x % y := irem_eq_mod x y
  exact XS.irem h hx hg hd hs hy (by rw [q]; exact hr)
theorem own_lrem {tb : Tables} [Ours tb] {e : Env} {below : List Frame} {T target : State} {m : MethodId} {c : Code} {g : JFrame} (h : At T m c below) (hx : tb.exec = Jvm.exec) (hg : g.method = m) {x y : Int64} {rest : List Value} (hd : decode c.code g.pc = .ok (.lrem, 1)) (hs : g.stack = .long y :: .long x :: rest) (hy : y ≠ 0)
    (hr : Steps tb e below (T.setTop { g with pc := g.pc + 1, stack := .long (x % y) :: rest }) target) : Steps tb e below (T.setTop g) target := by
  have q : x - (x / y) * y = x % y := lrem_mod x y
  exact XS.lrem h hx hg hd hs hy (by rw [q]; exact hr)
theorem own_acneY {x y : Value} (h1 : x.isRef = true) (h2 : y.isRef = true) (q : decide (x = y) = false) : XT.acmp .ne x y = true := by simpa [XT.acmp] using q
theorem own_acneN {x y : Value} (h1 : x.isRef = true) (h2 : y.isRef = true) (q : decide (x = y) = true) : XT.acmp .ne x y = false := by simpa [XT.acmp] using q
theorem own_aceqY {x y : Value} (h1 : x.isRef = true) (h2 : y.isRef = true) (q : decide (x = y) = true) : XT.acmp .eq x y = true := by simpa [XT.acmp] using q
theorem own_aceqN {x y : Value} (h1 : x.isRef = true) (h2 : y.isRef = true) (q : decide (x = y) = false) : XT.acmp .eq x y = false := by simpa [XT.acmp] using q
theorem own_cat {v : Value} (h : v.isRef = true) : v.category = 1 := by rcases ref_cases h with rfl | ⟨_, rfl⟩ <;> rfl
theorem own_fits {t : FieldType} {v : Value} (h1 : t.isReference = true) (h2 : v.isRef = true) : fits t v = true := by
  rcases ref_cases h2 with rfl | ⟨a, rfl⟩ <;> cases t <;> first | rfl | cases h1
abbrev lo8 (c : Int32) : Int32 := c.toInt8.toInt32
/-- the object x is a String that spells cs, each from 0 to 255 -/
def OStr (Z : State) (h : Heap) (x : Addr) (cs : List Int32) : Prop := Exa Z h x "java/lang/String" ∧ Fld Z h x "java/lang/String" "coder" "B" (.int 0) ∧ (∃ (t : Addr) (kb : ClassId), Fld Z h x "java/lang/String" "value" "[B" (.ref t) ∧ Arv Z h t kb .byte (Int32.ofNat cs.length) ((cs.map lo8).map Value.int) (.int 0)) ∧ (∀ c ∈ cs, ¬ c < 0 ∧ ¬ (255 : Int32) < c) ∧ cs.length ≤ 4000
theorem OStr.ext {x : Addr} {cs : List Int32} (F : OStr Z h x cs) (E : Ext h h') : OStr Z h' x cs := by
  obtain ⟨h1, h2, ⟨t, kb, h3, h4⟩, r⟩ := F; exact ⟨h1.ext E, h2.ext E, ⟨t, kb, h3.ext E, h4.ext E⟩, r⟩
theorem OStr.keepX {x a : Addr} {cs : List Int32} {C : String} {j : Nat} {a0 : Array Value} (F : OStr Z h x cs) (K : Keep h h' [a]) (E : Exa Z h a C) (wi : (Cond.instantiable C j).before a0 Z = true) (hc : "java/lang/String" ≠ C) : OStr Z h' x cs := by
  obtain ⟨h1, h2, ⟨t, kb, h3, h4⟩, r⟩ := F
  have n1 : x ≠ a := Exa.ne h1 E hc
  have n2 : t ≠ a := fun q => Exa.neArv E h4 wi q.symm
  exact ⟨h1.keep K, h2.keep K (ninS n1 nin0), ⟨t, kb, h3.keep K (ninS n1 nin0), h4.keep K (ninS n2 nin0)⟩, r⟩
theorem OStr.exa {x : Addr} {cs : List Int32} (F : OStr Z h x cs) : Exa Z h x "java/lang/String" := F.1
theorem OStr.lt {x : Addr} {cs : List Int32} (F : OStr Z h x cs) : x < h.size := F.1.lt
theorem all_nil {P : Int32 → Prop} : ∀ c ∈ ([] : List Int32), P c := fun _ q => nomatch q
theorem all_cons {P : Int32 → Prop} {c : Int32} {cs : List Int32} (h1 : P c) (h2 : ∀ c ∈ cs, P c) : ∀ x ∈ c :: cs, P x := fun x q => (List.mem_cons.mp q).elim (fun u => u ▸ h1) (h2 x)
theorem up255 {c : Int32} (h : ¬ c < 0 ∧ ¬ (255 : Int32) < c) : ¬ c < 0 ∧ ¬ (65535 : Int32) < c := by
  have r : (0 : Int32).toInt = 0 := rfl
  have r1 : (255 : Int32).toInt = 255 := rfl
  have r2 : (65535 : Int32).toInt = 65535 := rfl
  simp only [Int32.lt_iff_toInt_lt, r, r1, r2] at h ⊢; omega
theorem and255 (x : Int32) : ¬ (x &&& 255) < 0 ∧ ¬ (255 : Int32) < (x &&& 255) := by
  have q := c_and x 255 (by decide)
  have r : (0 : Int32).toInt = 0 := rfl
  have r1 : (255 : Int32).toInt = 255 := rfl
  simp only [Int32.lt_iff_toInt_lt, r, r1] at q ⊢; omega
theorem ch255 (x : Int32) : ¬ ((x &&& 255).toUInt32.toUInt16.toUInt32.toInt32) < 0 ∧ ¬ (255 : Int32) < ((x &&& 255).toUInt32.toUInt16.toUInt32.toInt32) := by
  rw [i2c_mask]; exact and255 x
/-- a String that has only been made holds no array: no constant is booked at it -/
theorem safe_blank {x : Addr} (hal : Z.vm.Alike vm) (E : Exa Z h x "java/lang/String") (V : Fld Z h x "java/lang/String" "value" "[B" .null) : Safe Z EL vm h x := fun B => by
  obtain ⟨cell, kk, e1, e2, e3, -, -⟩ := E
  obtain ⟨cell', cf, kx, i, f, v1, v2, -, -, -, -, v7⟩ := V
  cases e1.symm.trans v1
  obtain ⟨p, -, u, a, -, q, -, F, hy⟩ := B
  rcases hy with rfl | rfl
  · cases (show h[q.sa]? = some q.sC from F.ha).symm.trans e1
    obtain ⟨cS, ⟨⟨-, -, -, ⟨c1, k1, i1, f1, -⟩, -, -, -, w1, -⟩, -⟩, -⟩ := F
    obtain ⟨k3, e4⟩ := ff_back (U := Wst Z vm h) hal f1
    cases e4.symm.trans v2
    have := w1.symm.trans v7
    cases this
  · cases (show h[q.sd]? = some q.SA from F.hd).symm.trans e1
    obtain ⟨cS, -, -, f4, -⟩ := F
    have f5 : vm.findClass "[B" = some q.SA.cls := f4
    rw [hal.findClass] at f5
    obtain ⟨k5, q5, q6⟩ := Vm.findClass_spec f5
    obtain ⟨k6, q7, q8⟩ := Vm.findClass_spec e2
    cases q5.symm.trans q7
    exact absurd (q6.symm.trans q8) (by decide)
end Small
end Jvm.Own
namespace Jvm.Own
open Sem ClassFile Op Lib Bundle Jvm.Stand Jvm.Free Jvm.LawKit Jvm.RoadKit
section Copy
variable {p : Program} {l : Launch} {e : Env} {R : Room} {s : State} {m : MethodId} {args : Array Value} {below : List Frame} {meth : Method} {c : Code} {own : String} {Z : State} {a0 : Array Value} {EL : List (String × Nat)} {vm0 : Vm} {T : State} {h : Heap} {k n : Nat} {G : Outcome → State → Prop} {pc : Nat} {Ls : Array Slot} {rest : List Value}
/-- System.arraycopy between two byte arrays -/
theorem OSt.cpB (X : OSt p l e R s m args below meth c own Z EL vm0 T h k n) {index : Nat} (w1 : (Cond.methodLink own index Jvm.Stand.acN).before a0 Z = true) (w2 : (Cond.native Jvm.Stand.acN).before a0 Z = true) (w3 : (Cond.static Jvm.Stand.acN).before a0 Z = true) (w4 : (Cond.initialized "java/lang/System").before a0 Z = true)
    {a b : Addr} {ka kb : ClassId} {z z' sp dp nn : Int32} {vs vd us : List Value} {dv dd : Value} (A : Arv Z h a ka .byte z vs dv) (B : Arv Z h b kb .byte z' vd dd) (h1 : ¬ sp < 0) (h2 : ¬ dp < 0) (h3 : ¬ nn < 0) (h4 : sp.toNatClampNeg + nn.toNatClampNeg ≤ z.toNatClampNeg) (h5 : dp.toNatClampNeg + nn.toNatClampNeg ≤ z'.toNatClampNeg)
    (hus : us = (List.range nn.toNatClampNeg).map fun i => vs.getD (sp.toNatClampNeg + i) dv) (hl : dp.toNatClampNeg + nn.toNatClampNeg ≤ vd.length) (hSf : Safe Z EL vm0 h b) (ge : Z.heap.size ≤ b) (hsize : Ls.size = c.maxLocals) (hd : decode c.code pc = .ok (.invokestatic index, 3))
    (hf : 1 ≤ R.frames) {W : Nat} (hW : (rest.map fun v => v.category).sum ≤ W) (hlo : W + (nativeFrameWords "java/lang/System" "arraycopy" 5 + 11) ≤ R.locals)
    (q : ∀ T' h', OSt p l e R s m args below meth c own Z EL vm0 T' h' k n → Keep h h' [b] → Arv Z h' b kb .byte z' (vd.take dp.toNatClampNeg ++ us ++ vd.drop (dp.toNatClampNeg + nn.toNatClampNeg)) dd → OEnds p e below G T' (mkF m (pc + 3) Ls rest)) : OEnds p e below G T (mkF m pc Ls (.int nn :: .int dp :: .ref b :: .int sp :: .ref a :: rest)) := by
  obtain ⟨L, X, hF, hh, ⟨k0, hS0, hk0⟩, hZ, ho, hC, hO, hx⟩ := X
  obtain ⟨T', h', L', X', e', F', K, B', st⟩ := RoadKit.cpA X hx hZ ho w1 w2 w3 w4 hh A B (Or.inl ⟨rfl, rfl⟩) h1 h2 h3 h4 h5 hus hl hF ge (g := mkF m pc Ls (.int nn :: .int dp :: .ref b :: .int sp :: .ref a :: rest)) rfl hsize rfl hd hf (W := W) (by show 2 * 0 + _ ≤ _; rw [Nat.mul_zero, Nat.zero_add]; exact hW) hlo
  exact (q T' h' ⟨L', X', F', e', ⟨k0, hS0, Nat.le_trans hk0 K.1⟩, hZ, ho, hC.trans (CHr.keep K (fun x hx => by cases List.mem_singleton.mp hx; exact hSf) hC.1), ext_keep hO K (allS ge all0), hx⟩ K B').go st
end Copy
end Jvm.Own
namespace Jvm.Own
open Sem ClassFile Op Lib Bundle Jvm.Stand Jvm.Free Jvm.LawKit Jvm.RoadKit
theorem ofN {n : Nat} (h : n < 2147483648) : (Int32.ofNat n).toInt = n := Int32.toInt_ofNat_small h
theorem ofN_lt {a b : Nat} (ha : a < 2147483648) (hb : b < 2147483648) : Int32.ofNat a < Int32.ofNat b ↔ a < b := by
  rw [Int32.lt_iff_toInt_lt, ofN ha, ofN hb]; omega
theorem ofN_eq {a b : Nat} (ha : a < 2147483648) (hb : b < 2147483648) : Int32.ofNat a = Int32.ofNat b ↔ a = b := by
  rw [← Int32.toInt_inj, ofN ha, ofN hb]; omega
theorem ofN_neg {a : Nat} (ha : a < 2147483648) : ¬ Int32.ofNat a < 0 := by
  rw [Int32.lt_iff_toInt_lt, ofN ha]; have : (0 : Int32).toInt = 0 := rfl
  omega
theorem ofN_nat {a : Nat} (ha : a < 2147483648) : (Int32.ofNat a).toNatClampNeg = a := by
  rw [Int32.toNatClampNeg, ofN ha]; omega
theorem ofN_sub {a b : Nat} (ha : a < 2147483648) (h : b ≤ a) : Int32.ofNat a - Int32.ofNat b = Int32.ofNat (a - b) := by
  apply Int32.toInt_inj.mp
  have q := c_isub (Int32.ofNat a) (Int32.ofNat b)
  have r := rng32 (Int32.ofNat a - Int32.ofNat b)
  rw [ofN ha, ofN (by omega)] at q
  rw [ofN (by omega)]; omega
theorem ofN_add {a b : Nat} (h : a + b < 2147483648) : Int32.ofNat a + Int32.ofNat b = Int32.ofNat (a + b) := by
  apply Int32.toInt_inj.mp
  have q := c_iadd (Int32.ofNat a) (Int32.ofNat b)
  have r := rng32 (Int32.ofNat a + Int32.ofNat b)
  rw [ofN (by omega), ofN (by omega)] at q
  rw [ofN h]; omega
theorem ofN_of {x : Int32} (h : ¬ x < 0) : x = Int32.ofNat x.toNatClampNeg ∧ x.toNatClampNeg < 2147483648 := by
  have r := rng32 x
  have z : (0 : Int32).toInt = 0 := rfl
  rw [Int32.lt_iff_toInt_lt, z] at h
  have e : x.toNatClampNeg < 2147483648 := by rw [Int32.toNatClampNeg]; omega
  refine ⟨Int32.toInt_inj.mp ?_, e⟩
  rw [ofN e, Int32.toNatClampNeg]; omega
end Jvm.Own
namespace Jvm.Own
open Sem ClassFile Op Lib Bundle Jvm.Stand Jvm.Free Jvm.LawKit Jvm.RoadKit
section Again
variable {p : Program} {l : Launch} {e : Env} {R : Room} {s : State} {m : MethodId} {args : Array Value} {below : List Frame} {meth : Method} {c : Code} {own : String} {Z : State} {a0 : Array Value} {EL : List (String × Nat)} {vm0 vm1 : Vm} {T T' : State} {h h' : Heap} {k n : Nat} {G : Outcome → State → Prop} {pc : Nat} {Ls : Array Slot} {rest : List Value} {Q : Option Value → Heap → Prop}
  {y : MethodName} {bytes : ByteArray} {maxL : Nat} {ret : Option FieldType} {rm : Room} {as' : Array Value}
/-- the tables vm book the String a for the entry index of the class own -/
def LitV (Z : State) (own : String) (index : Nat) (a : Addr) (vm : Vm) : Prop := Lit (Z.setVm vm) own index a
theorem LitV.stays {index : Nat} {a : Addr} (L : LitV Z own index a vm0) (hW : (s.setVm vm0).Warmed39 vm1) : LitV Z own index a vm1 := Lit.stays (s := s) L hW
/-- ldc of a String constant whose text is read; and what the tables book -/
theorem OSt.ldcRL (X : OSt p l e R s m args below meth c own Z EL vm0 T h k n) (hE : EW Z a0 EL) {index : Nat} {text : String} (w : (Cond.stringLink own index text).before a0 Z = true) (wS : ∀ a ∈ Bundle.stringAtoms, a.before a0 Z = true) (hmem : (own, index) ∈ EL)
    {vs : List Value} {z : Int32} (ht : (∀ c ∈ text.toList, c.toNat < 256) ∧ text.toList.map (fun c => Value.int (Jvm.Lit.byteI c.toNat.toUInt16)) = vs) (hz : ¬ z < 0) (hl : z.toNatClampNeg = vs.length) (hd : decode c.code pc = .ok (.ldc index, 2)) {j : Nat} (hj : 4 * text.toList.length ≤ j) (hbig : j ≤ 536870912) (hc : k + 2 ≤ R.cells) (hl' : n + (j + 4) ≤ R.slots)
    (q : ∀ vm1 T' h' a b kb, OSt p l e R s m args below meth c own Z EL vm1 T' h' (k + 2) (n + (j + 4)) → Ext h h' → CHr Z EL vm0 h vm1 h' → Exa Z h' a "java/lang/String" → Fld Z h' a "java/lang/String" "coder" "B" (.int 0) → Fld Z h' a "java/lang/String" "value" "[B" (.ref b) → Arv Z h' b kb .byte z vs (.int 0) → LitV Z own index a vm1 → OEnds p e below G T' (mkF m (pc + 2) Ls (.ref a :: rest))) : OEnds p e below G T (mkF m pc Ls rest) := by
  obtain ⟨L, X, hF, hh, ⟨k0, hS0, hk0⟩, hZ, ho, hC, hO, hx⟩ := X
  obtain ⟨a, T', h', k1, b, kb, X', e', E, hS1, hk1, hZ1, ho1, E1, C1, V1, K1, -, -, hC1, hL, -, st⟩ := ldcCH X hx hZ ho w wS hh hS0 hk0 hE hmem hC.1 ht hz hl (g := mkF m pc Ls rest) rfl hd hj hbig hc hl'
  exact (q T'.vm T' h' a b kb ⟨_, X', hF, e', ⟨k1, hS1, hk1⟩, hZ1, ho1, hC.trans hC1, ext_trans hO E, hx⟩ E hC1 E1 C1 V1 K1 hL).go st
/-- ldc of a constant that the tables book -/
theorem OSt.ldcA (X : OSt p l e R s m args below meth c own Z EL vm0 T h k n) {index : Nat} {text : String} (w : (Cond.stringLink own index text).before a0 Z = true) {a : Addr} (L : LitV Z own index a vm0) (hd : decode c.code pc = .ok (.ldc index, 2)) (q : OEnds p e below G T (mkF m (pc + 2) Ls (.ref a :: rest))) : OEnds p e below G T (mkF m pc Ls rest) := by
  obtain ⟨_, X, hF, hh, hS, hZ, ho, hC, hO, hx⟩ := X
  exact q.go (ldcAgain (s := s) X hx hZ ho w (a := a) L (g := mkF m pc Ls rest) rfl hd)
/-- a contract under the narrow frame that asks the tables something -/
def ConNV (l : Launch) (Z : State) (y : MethodName) (bytes : ByteArray) (maxL : Nat) (ret : Option FieldType) (rm : Room) (as' : Array Value) (h : Heap) (V : Vm → Prop) (Q : Option Value → Heap → Prop) : Prop := Ext Z.heap h →
  MetFree l y (head1 [Cond.code y bytes maxL ret] rm) (fun a U => a = as' ∧ Z.Warmed39 U.vm ∧ U.heap = h ∧ V U.vm) (fun _ _ _ _ _ => True) (fun _ U o U' => ∃ v L, o = .returned v ∧ (Q v U'.heap ∧ Fr Z.heap.size L ∧ Ext Z.heap U'.heap) ∧ FrameEnd U o U' L rm.cells rm.slots)
theorem ConNV.of {V : Vm → Prop} (hy : plainFor y = true) (body : ∀ (p : Program) (e : Env) (s : State) (m : MethodId) (below : List Frame) (meth : Method) (c : Code) (T : State), c.code = bytes → c.maxLocals = maxL → meth.sig.returnType = ret → meth.locks = false → meth.name = y.name → OSt p l e rm s m as' below meth c y.cls Z [] s.vm T h 0 0 → V s.vm → OEnds p e below (GN Z s Q rm.cells rm.slots) T (entryFrame m as' maxL)) :
    ConNV l Z y bytes maxL ret rm as' h V Q := by
  intro hO
  refine MetFree.of_bodySF hy hisR ?_
  intro p e s m args below meth c s₁ Bd hml hP _
  obtain ⟨rfl, hZ, hh, hV⟩ := hP
  have e0 : s₁.heap = h := by rw [← hh, Bd.state]; rfl
  have X0 : Stand p l e rm s m args below meth c s₁ [] 0 0 := Stand.of_body Bd
  have hown : s.vm.findClass y.cls = some m.cls := findClass_of_methodNamed Bd.named
  obtain ⟨s₂, o, h1, h2, h3, v, L, rfl, h4, h5⟩ := body p e s m below meth c s₁ Bd.bytes hml Bd.returns Bd.notSynchronized (name_of_methodNamed Bd.named Bd.method).1
    ⟨[], X0, Fr.nil _, e0, ⟨_, (State.WarmedH.refl s).since 0, Nat.zero_le _⟩, hZ, hown, by rw [hh]; exact chr_nil (Nat.le_refl _), hO, Bd.exec⟩ hV
  exact ⟨s₂, _, h1, h2, h3, v, L, rfl, h4, h5⟩
theorem ConNV.back {V : Vm → Prop} {W len : Nat} (K : ConNV l Z y bytes maxL ret rm as' h V Q) (hO : Ext Z.heap h) (hZ : Z.Warmed39 vm0) (hV : ∀ vm', (s.setVm vm0).WarmedH vm' → V vm') (wc : (Cond.code y bytes maxL ret).before a0 Z = true) (wz : (Cond.initialized y.cls).before a0 Z = true) (hf : rm.frames + 1 ≤ R.frames) (hl : W + (maxL + 11) + rm.locals ≤ R.locals) :
    Back l R p e below (s.setVm vm0) args y len W (PreB R as' h rm.cells rm.slots) (PostB (fun v h' L => Q v h' ∧ Fr Z.heap.size L ∧ Ext Z.heap h') rm.cells rm.slots) :=
  Back.of_free (bytes := bytes) (maxL := maxL) (ret := ret) (E := fun _ _ o t L k n => k = rm.cells ∧ n = rm.slots ∧ ∃ v, o = .returned v ∧ (Q v t.heap ∧ Fr Z.heap.size L ∧ Ext Z.heap t.heap)) (K hO) hf hl
    (fun m meth c A a Y hp => have hU : Z.Warmed39 A.U.vm := wtrans (s := s.setVm vm0) hZ Y.warmed
      ⟨by show (Cond.and _ .tt).before a A.U = true; rw [Cond.before_and, mv hU wc]; rfl, mv hU wc, mv hU wz, hp.2.2.1, hp.2.2.2⟩)
    (fun m meth c A a g mk Y hp => ⟨hp.1, wtrans (s := s.setVm vm0) hZ Y.warmed, hp.2.1, hV _ Y.warmed⟩) (fun _ _ _ _ _ _ _ _ _ => trivial)
    (fun _ _ _ _ ⟨v, L, h1, h2, h3⟩ => ⟨L, _, _, h3, rfl, rfl, v, h1, h2⟩)
    (fun m meth c A a g mk v t L k n Y hp _ _ ⟨e1, e2, v', e3, e4⟩ => by cases e3; subst e1 e2; exact ⟨L, e4, rfl, rfl, rfl⟩)
/-- an answer that leaves the heap as it was -/
theorem okV {Q2 : Option Value → Prop} (X : OSt p l e R s m args below meth c own Z EL vm0 T h k n) : OkB Z EL vm0 h (fun v h' L => (Q2 v ∧ h = h') ∧ Fr Z.heap.size L ∧ Ext Z.heap h') := fun v h' L ⟨⟨_, e1⟩, r1, r2⟩ => by
  subst e1; exact ⟨r1, r2, CHr.refl X.chv⟩
/-- how a walk ends whose answer also speaks of the tables -/
def GWV (Z : State) (EL : List (String × Nat)) (s : State) (Q : Option Value → Heap → Vm → Prop) (k n : Nat) (o : Outcome) (u : State) : Prop :=
  ∃ v L, o = .returned v ∧ (Q v u.heap u.vm ∧ Fr Z.heap.size L ∧ Ext Z.heap u.heap) ∧ CHr Z EL s.vm s.heap u.vm u.heap ∧ ReturnedEndW s o u L k n
theorem OSt.retCharV {QV : Option Value → Heap → Vm → Prop} {k' n' : Nat} (X : OSt p l e R s m args below meth c own Z EL vm0 T h k n) (hE : EW Z a0 EL) (hlk : meth.locks = false) {z : Int32} (hz : ¬ z < 0 ∧ ¬ 65535 < z) (hret : meth.sig.returnType = some .char) (hd : decode c.code pc = .ok (.ireturn, 1)) (hk : k ≤ k') (hn' : n ≤ n') (hQ : ∀ vm', (s.setVm vm0).Warmed39 vm' → QV (some (.int z)) h vm') : OEnds p e below (GWV Z EL s QV k' n') T (mkF m pc Ls (.int z :: rest)) := by
  obtain ⟨L, X, hF, hh, ⟨k0, hS0, hk0⟩, hZ, ho, hC, hO, hx⟩ := X
  have hA := CHv.at X hZ hE hC.1
  obtain ⟨fs, hr, hrun, hended, hend⟩ := X.leaveW hS0 (by rw [hh]; exact hk0) (v := some (.int z)) (fun q => by rw [hret] at q; cases q) hlk
  refine ⟨_, _, retOut X hx hret (by show Value.int z.toUInt32.toUInt16.toUInt32.toInt32 = _; rw [i2c_id hz.1 hz.2]) (Or.inl ⟨rfl, Or.inr (Or.inr (Or.inr (Or.inl rfl))), z, rfl⟩) hd hr, hrun, hended, _, L, rfl, ⟨?_, hF, ?_⟩, ?_, rew_mono hend hk hn'⟩
  · show QV _ T.heap T.vm; rw [hh]; exact hQ _ X.warmed.wide
  · show Ext _ T.heap; rw [hh]; exact hO
  · show CHr Z EL s.vm s.heap T.vm T.heap; rw [hh]; exact hC.trans hA
def ConW (l : Launch) (Z : State) (EL : List (String × Nat)) (y : MethodName) (bytes : ByteArray) (maxL : Nat) (ret : Option FieldType) (rm : Room) (as' : Array Value) (h : Heap) (Q : Option Value → Heap → Vm → Prop) : Prop := Ext Z.heap h →
  MetFree l y (head1 [Cond.code y bytes maxL ret] rm) (fun a U => a = as' ∧ Z.Warmed39 U.vm ∧ U.heap = h ∧ CHv Z EL U.vm h) (fun _ _ _ _ _ => True) (fun _ U o U' => ∃ v L, o = .returned v ∧ (Q v U'.heap U'.vm ∧ Fr Z.heap.size L ∧ Ext Z.heap U'.heap) ∧ CHr Z EL U.vm U.heap U'.vm U'.heap ∧ ReturnedEndW U o U' L rm.cells rm.slots)
theorem ConW.of {QV : Option Value → Heap → Vm → Prop} (hy : plainFor y = true) (body : ∀ (p : Program) (e : Env) (s : State) (m : MethodId) (below : List Frame) (meth : Method) (c : Code) (T : State), c.code = bytes → c.maxLocals = maxL → meth.sig.returnType = ret → meth.locks = false → meth.name = y.name → OSt p l e rm s m as' below meth c y.cls Z EL s.vm T h 0 0 → OEnds p e below (GWV Z EL s QV rm.cells rm.slots) T (entryFrame m as' maxL)) :
    ConW l Z EL y bytes maxL ret rm as' h QV := by
  intro hO
  refine MetFree.of_bodySF hy hisR ?_
  intro p e s m args below meth c s₁ Bd hml hP _
  obtain ⟨rfl, hZ, hh, hC⟩ := hP
  have e0 : s₁.heap = h := by rw [← hh, Bd.state]; rfl
  have X0 : Stand p l e rm s m args below meth c s₁ [] 0 0 := Stand.of_body Bd
  have hown : s.vm.findClass y.cls = some m.cls := findClass_of_methodNamed Bd.named
  obtain ⟨s₂, o, h1, h2, h3, v, L, rfl, h4, h5, h6⟩ := body p e s m below meth c s₁ Bd.bytes hml Bd.returns Bd.notSynchronized (name_of_methodNamed Bd.named Bd.method).1
    ⟨[], X0, Fr.nil _, e0, ⟨_, (State.WarmedH.refl s).since 0, Nat.zero_le _⟩, hZ, hown, by rw [hh]; exact CHr.refl hC, hO, Bd.exec⟩
  exact ⟨s₂, _, h1, h2, h3, v, L, rfl, h4, h5, h6⟩
theorem OSt.callSW {QV : Option Value → Heap → Vm → Prop} (X : OSt p l e R s m args below meth c own Z EL vm0 T h k n) (hE : EW Z a0 EL) (K : ConW l Z EL y bytes maxL ret rm as' h QV) {index : Nat} (w1 : (Cond.methodLink own index y).before a0 Z = true) (w2 : (Cond.static y).before a0 Z = true) (wz : (Cond.initialized y.cls).before a0 Z = true) (wc : (Cond.code y bytes maxL ret).before a0 Z = true)
    (hy : y.cls ≠ "java/lang/invoke/MethodHandle" ∧ y.cls ≠ "java/lang/invoke/VarHandle") {W : Nat} (hf : rm.frames + 1 ≤ R.frames) (hl : W + (maxL + 11) + rm.locals ≤ R.locals) {argsL stack : List Value} (ha : argsL.toArray = as') (hlen : ∀ sig, parseMethodDescriptor y.desc = some sig → argsL.length = sig.parameters.length) (hst : stack = argsL.reverse ++ rest) (hsize : Ls.size = c.maxLocals) (hW : (rest.map fun v => v.category).sum ≤ W)
    (hd : decode c.code pc = .ok (.invokestatic index, 3)) (hk : k + rm.cells ≤ R.cells) (hn : n + rm.slots ≤ R.slots)
    (q : ∀ v vm1 T' h', OSt p l e R s m args below meth c own Z EL vm1 T' h' (k + rm.cells) (n + rm.slots) → CHr Z EL vm0 h vm1 h' → QV v h' vm1 → OEnds p e below G T' (mkF m (pc + 3) Ls (v.toList ++ rest))) : OEnds p e below G T (mkF m pc Ls stack) := by
  have X1 := X
  obtain ⟨L, X, hF, hh, ⟨k0, hS0, hk0⟩, hZ, ho, hC, hO, hx⟩ := X
  have B : BackS l R p e below (s.setVm vm0) args y 3 W (PreB R as' h rm.cells rm.slots) (fun A _ v B => ∃ L, (QV v B.U.heap B.U.vm ∧ Fr Z.heap.size L ∧ Ext Z.heap B.U.heap) ∧ B.locs = A.locs ++ L ∧ B.cells = A.cells + rm.cells ∧ B.slots = A.slots + rm.slots ∧ CHr Z EL vm0 h B.U.vm B.U.heap) :=
    BackS.of_freeW (bytes := bytes) (maxL := maxL) (ret := ret) (E := fun _ first o t L k n => k = rm.cells ∧ n = rm.slots ∧ (∃ v, o = .returned v ∧ (QV v t.heap t.vm ∧ Fr Z.heap.size L ∧ Ext Z.heap t.heap)) ∧ CHr Z EL first.vm first.heap t.vm t.heap) (K hO) hf hl
      (fun m meth c A a Y hp => have hU : Z.Warmed39 A.U.vm := wtrans (s := s.setVm vm0) hZ Y.warmed
        ⟨by show (Cond.and _ .tt).before a A.U = true; rw [Cond.before_and, mv hU wc]; rfl, mv hU wc, mv hU wz, hp.2.2.1, hp.2.2.2⟩)
      (fun m meth c A a g mk Y hp => ⟨hp.1, wtrans (s := s.setVm vm0) hZ Y.warmed, hp.2.1, (CHv.at Y hZ hE hC.1).1⟩) (fun _ _ _ _ _ _ _ _ _ => trivial)
      (fun _ _ _ _ ⟨v, L, h1, h2, h3, h4⟩ => ⟨L, _, _, h4, rfl, rfl, ⟨v, h1, h2⟩, h3⟩)
      (fun m meth c A a g mk v t L k n Y hp _ _ ⟨e1, e2, ⟨v', e3, e4⟩, e5⟩ => by
        cases e3; subst e1 e2
        refine ⟨L, e4, rfl, rfl, rfl, (CHv.at Y hZ hE hC.1).trans ?_⟩
        rw [← hp.2.1]; exact e5)
  obtain ⟨v, vmx, B, -, X', hS, hgr, ⟨L', ⟨hq, hF', hO'⟩, e1, e2, e3, hC'⟩, st⟩ := callSS X hx ho (mvT (s := s.setVm vm0) hZ w1) (mvT (s := s.setVm vm0) hZ w2) (mvT (s := s.setVm vm0) hZ wz) (mvT (s := s.setVm vm0) hZ wc) hy B (g := mkF m pc Ls stack) rfl hsize (argsL := argsL) (rest := rest) hlen hst (by show 2 * 0 + _ ≤ _; rw [Nat.mul_zero, Nat.zero_add]; exact hW) hd (fun _ _ => ⟨ha, hh, hk, hn⟩)
  exact (q v _ _ _ (X1.behindS (v := v) hF X' hS hgr hF' hO' e1 e2 e3 hC') hC' hq).tr st
theorem OSt.retCharN {k' n' : Nat} (X : OSt p l e R s m args below meth c own Z [] s.vm T h k n) (hlk : meth.locks = false) {z : Int32} (hz : ¬ z < 0 ∧ ¬ 65535 < z) (hret : meth.sig.returnType = some .char) (hd : decode c.code pc = .ok (.ireturn, 1)) (hk : k ≤ k') (hn' : n ≤ n') (hQ : Q (some (.int z)) h) : OEnds p e below (GN Z s Q k' n') T (mkF m pc Ls (.int z :: rest)) :=
  X.retVN hlk hret (by show Value.int z.toUInt32.toUInt16.toUInt32.toInt32 = _; rw [i2c_id hz.1 hz.2]) (Or.inl ⟨rfl, Or.inr (Or.inr (Or.inr (Or.inl rfl))), z, rfl⟩) hd hk hn' hQ
theorem OSt.retByteN {k' n' : Nat} (X : OSt p l e R s m args below meth c own Z [] s.vm T h k n) (hlk : meth.locks = false) {z : Int32} (hz : z.toInt8.toInt32 = z) (hret : meth.sig.returnType = some .byte) (hd : decode c.code pc = .ok (.ireturn, 1)) (hk : k ≤ k') (hn' : n ≤ n') (hQ : Q (some (.int z)) h) : OEnds p e below (GN Z s Q k' n') T (mkF m pc Ls (.int z :: rest)) :=
  X.retVN hlk hret (by show Value.int z.toInt8.toInt32 = _; rw [hz]) (Or.inl ⟨rfl, Or.inr (Or.inr (Or.inl rfl)), z, rfl⟩) hd hk hn' hQ
end Again
end Jvm.Own
/- laws to paste: Road.backV, Road.lenW, Road.chN, Road.codOf (cut by pick.py; bodies as the Statement names them) -/
namespace Jvm.Pilot.@@N@@
namespace StrChars
open Jvm Sem ClassFile Op Lib Jvm.Stand Jvm.Free.XT Jvm.Free.ALB Jvm.Free.JM Jvm.Free
open Jvm.Lib.Cold (StaticIs)
/-- a char array whose places are chars -/
def Ch (a : Addr) (A : Cell) (U : State) : Prop := Arr .char a A U ∧ Typed .char A
theorem Ch.mv {a : Addr} {A : Cell} {U U' : State} (h : Ch a A U) (hal : U.vm.Alike U'.vm) (hh : U'.heap = U.heap) : Ch a A U' := ⟨h.1.mv hal hh, h.2⟩
theorem Ch.keep {a : Addr} {A : Cell} {U U' : State} (h : Ch a A U) (hal : U.vm.Alike U'.vm) (hk : U'.heap[a]? = some A) : Ch a A U' := ⟨h.1.keep hal hk, h.2⟩
/-- what place i of a char[]'s cell holds -/
def cv (A : Cell) (i : Nat) : Int32 := match A.slots[i]? with | some (.int x) => x | _ => 0
theorem Ch.get {a : Addr} {A : Cell} {U : State} (h : Ch a A U) {i : Nat} (hi : i < A.slots.size) : A.slots[i]? = some (.int (cv A i)) := by
  have e := Array.getElem?_eq_getElem hi
  have f := h.2 i _ e
  unfold cv; rw [e]
  generalize A.slots[i] = v at f
  cases v <;> simp [fits] at f ⊢
/-- the byte that i2b leaves of a char -/
def lo8 (x : Int32) : Int32 := x.toInt8.toInt32
theorem fits_lo8 (y : Int32) : fits .byte (.int (lo8 y)) = true := by
  have h1 := y.toInt8.le_toInt
  have h2 := y.toInt8.toInt_lt
  simp only [lo8, fits, Bool.and_eq_true, decide_eq_true_eq, Int32.le_iff_toInt_le, Int8.toInt_toInt32, show (-128 : Int32).toInt = -128 from by decide, show (127 : Int32).toInt = 127 from by decide]
  omega
/-- A' is A but that each place j of lo .. hi - 1 holds f j -/
def Laid (A A' : Cell) (lo hi : Nat) (f : Nat → Value) : Prop := A'.cls = A.cls ∧ A'.vm = A.vm ∧ A'.slots.size = A.slots.size ∧ ∀ i, A'.slots[i]? = if lo ≤ i ∧ i < hi then some (f i) else A.slots[i]?
theorem Laid.zero (A : Cell) (lo : Nat) (f : Nat → Value) : Laid A A lo (lo + 0) f := ⟨rfl, rfl, rfl, fun i => by rw [if_neg (by omega)]⟩
theorem Laid.step {A Ak : Cell} {lo k : Nat} {f : Nat → Value} {v : Value} (h : Laid A Ak lo k f) (hlo : lo ≤ k) (hk : k < Ak.slots.size) (hv : v = f k) : Laid A (Ak.setSlot k v) lo (k + 1) f := by
  refine ⟨h.1, h.2.1, by simpa [Cell.setSlot] using h.2.2.1, fun i => ?_⟩
  by_cases e : k = i
  · subst e; rw [Cell.slots_setSlot_self v hk, if_pos (by omega), hv]
  · rw [Cell.slots_setSlot_ne v e, h.2.2.2 i]
    by_cases q : lo ≤ i ∧ i < k
    · rw [if_pos q, if_pos (by omega)]
    · rw [if_neg q, if_neg (by omega)]
def U16 : String := "java/lang/StringUTF16"
namespace Cmp5
def yN : MethodName := ⟨"java/lang/StringUTF16", "compress", "([CI[BII)I"⟩
abbrev yB : ByteArray := jdk_52_method_21_code
theorem d0 : decode yB 0 = .ok (.iconst 0, 1) := by decide +kernel
theorem d1 : decode yB 1 = .ok (.istore 5, 2) := by decide +kernel
theorem d3 : decode yB 3 = .ok (.iload 5, 2) := by decide +kernel
theorem d5 : decode yB 5 = .ok (.iload 4, 2) := by decide +kernel
theorem d7 : decode yB 7 = .ok (.if_icmp (.ge) 37, 3) := by decide +kernel
theorem d10 : decode yB 10 = .ok (.aload_n 0, 1) := by decide +kernel
theorem d11 : decode yB 11 = .ok (.iload_n 1, 1) := by decide +kernel
theorem d12 : decode yB 12 = .ok (.caload, 1) := by decide +kernel
theorem d13 : decode yB 13 = .ok (.istore 6, 2) := by decide +kernel
theorem d15 : decode yB 15 = .ok (.iload 6, 2) := by decide +kernel
theorem d17 : decode yB 17 = .ok (.sipush 255, 3) := by decide +kernel
theorem d20 : decode yB 20 = .ok (.if_icmp (.le) 6, 3) := by decide +kernel
theorem d26 : decode yB 26 = .ok (.aload_n 2, 1) := by decide +kernel
theorem d27 : decode yB 27 = .ok (.iload_n 3, 1) := by decide +kernel
theorem d28 : decode yB 28 = .ok (.iload 6, 2) := by decide +kernel
theorem d30 : decode yB 30 = .ok (.i2b, 1) := by decide +kernel
theorem d31 : decode yB 31 = .ok (.bastore, 1) := by decide +kernel
theorem d32 : decode yB 32 = .ok (.iinc 1 1, 3) := by decide +kernel
theorem d35 : decode yB 35 = .ok (.iinc 3 1, 3) := by decide +kernel
theorem d38 : decode yB 38 = .ok (.iinc 5 1, 3) := by decide +kernel
theorem d41 : decode yB 41 = .ok (.goto (-38), 3) := by decide +kernel
theorem d44 : decode yB 44 = .ok (.iload 4, 2) := by decide +kernel
theorem d46 : decode yB 46 = .ok (.ireturn, 1) := by decide +kernel
def site : List Cond := []
def tab : Cond := tabOf yN yB 7 (some .int) site
def P (b : Addr) (A : Cell) (d : Addr) (B : Cell) (o q len : Nat) (args : Array Value) (s : State) : Prop := args = #[.ref b, .int (Int32.ofNat o), .ref d, .int (Int32.ofNat q), .int (Int32.ofNat len)] ∧ Ch b A s ∧ Arr .byte d B s ∧ b ≠ d ∧ o + len ≤ A.slots.size ∧ q + len ≤ B.slots.size ∧ ∀ i, i < len → ¬ 255 < cv A (o + i)
def E (b : Addr) (A : Cell) (d : Addr) (B : Cell) (o q len : Nat) (r : Option Value) (s u : State) : Prop := r = some (.int (Int32.ofNat len)) ∧ ∃ B', Put d B' s u ∧ Laid B B' q (q + len) (fun j => Value.int (lo8 (cv A (o + (j - q)))))
/-- no char of the range above 255: len; the places written hold each char's low byte -/
theorem law (l : Launch) (b : Addr) (A : Cell) (d : Addr) (B : Cell) (o q len : Nat) : Law l yN 5 5 0 0 yB 7 (some .int) site (P b A d B o q len) (E b A d B o q len) (copyLocs d q len) 0 0 := by
  refine Law.of_walk (plainFor_of_name (by decide +kernel)) (by decide +kernel) (by decide +kernel) (by decide) (fun _ _ h => by rw [h.1]; rfl) (fun _ U U' hal hh h => ⟨h.1, h.2.1.mv hal hh, h.2.2.1.mv hal hh, h.2.2.2⟩) (fun r U U' V V' h1 hal h2 h => ⟨h.1, h.2.elim fun B' q => ⟨B', q.1.mv h1 h2, q.2⟩⟩) ?_
  intro p e s m args below meth c s₁ X0 hexec hbytes hml hret hlk hnm hown hh0 W hP
  obtain ⟨rfl, hA, hB, hne, l1, l2, hp⟩ := hP
  have c1 : Steps p.tables e below (s₁.setTop (entryFrame m #[.ref b, .int (Int32.ofNat o), .ref d, .int (Int32.ofNat q), .int (Int32.ofNat len)] 7)) (s₁.setTop (mkF m 0 #[.val (.ref b), .val (.int (Int32.ofNat o)), .val (.ref d), .val (.int (Int32.ofNat q)), .val (.int (Int32.ofNat len)), .unset, .unset] [])) := entry rfl
  have hA0 := hA.1.mv X0.warmed.alike hh0
  have hB0 := hB.mv X0.warmed.alike hh0
  have a31 := hA.1.2.2.2
  have c2 : Steps p.tables e below (s₁.setTop (entryFrame m #[.ref b, .int (Int32.ofNat o), .ref d, .int (Int32.ofNat q), .int (Int32.ofNat len)] 7)) (s₁.setTop (mkF m 3 #[.val (.ref b), .val (.int (Int32.ofNat o)), .val (.ref d), .val (.int (Int32.ofNat q)), .val (.int (Int32.ofNat len)), .val (.int 0), .unset] [])) := c1.trans (by
    refine iconstV X0.here hexec rfl 0 (hb hbytes d0) (by decide) ?_
    refine XS.istore X0.here hexec rfl (hb hbytes d1) rfl rfl ?_
    exact Steps.refl _)
  have loop : ∀ (r i : Nat), i + r = len → ∀ (z : Slot), (z = .unset ∨ ∃ w, z = .val w ∧ w.category = 1) → ∀ (Tl : State) (Bk : Cell), Stand p l e { frames := 0, locals := 0, cells := 0, slots := 0 } s m #[.ref b, .int (Int32.ofNat o), .ref d, .int (Int32.ofNat q), .int (Int32.ofNat len)] below meth c Tl ([] ++ copyLocs d q i) 0 0 → Put d Bk s₁ Tl → Laid B Bk q (q + i) (fun j => Value.int (lo8 (cv A (o + (j - q))))) →
      Steps p.tables e below (s₁.setTop (entryFrame m #[.ref b, .int (Int32.ofNat o), .ref d, .int (Int32.ofNat q), .int (Int32.ofNat len)] 7)) (Tl.setTop (mkF m 3 #[.val (.ref b), .val (.int (Int32.ofNat (o + i))), .val (.ref d), .val (.int (Int32.ofNat (q + i))), .val (.int (Int32.ofNat len)), .val (.int (Int32.ofNat i)), z] [])) → ∃ (T' : State) (B' : Cell) (z' : Slot), Stand p l e { frames := 0, locals := 0, cells := 0, slots := 0 } s m #[.ref b, .int (Int32.ofNat o), .ref d, .int (Int32.ofNat q), .int (Int32.ofNat len)] below meth c T' ([] ++ copyLocs d q len) 0 0 ∧ Put d B' s₁ T' ∧ Laid B B' q (q + len) (fun j => Value.int (lo8 (cv A (o + (j - q))))) ∧
      Steps p.tables e below (s₁.setTop (entryFrame m #[.ref b, .int (Int32.ofNat o), .ref d, .int (Int32.ofNat q), .int (Int32.ofNat len)] 7)) (T'.setTop (mkF m 3 #[.val (.ref b), .val (.int (Int32.ofNat (o + len))), .val (.ref d), .val (.int (Int32.ofNat (q + len))), .val (.int (Int32.ofNat len)), .val (.int (Int32.ofNat len)), z'] [])) := by
    intro r
    induction r with
    | zero =>
      intro i hi z hz Tl Bk Xl pl fl cl
      have hil : i = len := by omega
      rw [hil] at Xl fl cl
      exact ⟨Tl, Bk, z, Xl, pl, fl, cl⟩
    | succ r ih =>
      intro i hi z hz Tl Bk Xl pl fl cl
      have all := X0.warmed.alike.symm.trans Xl.warmed.alike
      have hAl := hA0.keep all (pl.other hne hA0.1)
      have hBk := hB0.like all pl.1 fl.1 fl.2.1 fl.2.2.1
      have hlt : q + i < Bk.slots.size := by rw [fl.2.2.1]; omega
      have c3 : Steps p.tables e below (s₁.setTop (entryFrame m #[.ref b, .int (Int32.ofNat o), .ref d, .int (Int32.ofNat q), .int (Int32.ofNat len)] 7)) (Tl.setTop (mkF m 12 #[.val (.ref b), .val (.int (Int32.ofNat (o + i))), .val (.ref d), .val (.int (Int32.ofNat (q + i))), .val (.int (Int32.ofNat len)), .val (.int (Int32.ofNat i)), z] [.int (Int32.ofNat (o + i)), .ref b])) := cl.trans (by
        refine XS.iload Xl.here hexec rfl (hb hbytes d3) rfl ?_
        refine XS.iload Xl.here hexec rfl (hb hbytes d5) rfl ?_
        refine XS.icmpNo Xl.here hexec rfl (hb hbytes d7) rfl (ii_ge_f (lt32 (by omega) (by omega))) ?_
        refine XS.aloadN Xl.here hexec rfl (hb hbytes d10) rfl rfl ?_
        refine XS.iloadN Xl.here hexec rfl (hb hbytes d11) rfl ?_
        exact Steps.refl _)
      have c4 : Steps p.tables e below (s₁.setTop (entryFrame m #[.ref b, .int (Int32.ofNat o), .ref d, .int (Int32.ofNat q), .int (Int32.ofNat len)] 7)) (Tl.setTop (mkF m 13 #[.val (.ref b), .val (.int (Int32.ofNat (o + i))), .val (.ref d), .val (.int (Int32.ofNat (q + i))), .val (.int (Int32.ofNat len)), .val (.int (Int32.ofNat i)), z] [.int (cv A (o + i))])) := c3.trans (by
        refine Xl.aget hexec hAl rfl (hA.get (i := o + i) (by omega)) rfl rfl (hb hbytes d12) ?_
        exact Steps.refl _)
      have c5 : Steps p.tables e below (s₁.setTop (entryFrame m #[.ref b, .int (Int32.ofNat o), .ref d, .int (Int32.ofNat q), .int (Int32.ofNat len)] 7)) (Tl.setTop (mkF m 15 #[.val (.ref b), .val (.int (Int32.ofNat (o + i))), .val (.ref d), .val (.int (Int32.ofNat (q + i))), .val (.int (Int32.ofNat len)), .val (.int (Int32.ofNat i)), .val (.int (cv A (o + i)))] [])) := c4.trans (by
        refine XS.istoreS Xl.here hexec rfl (hb hbytes d13) rfl rfl hz ?_
        exact Steps.refl _)
      have c6 : Steps p.tables e below (s₁.setTop (entryFrame m #[.ref b, .int (Int32.ofNat o), .ref d, .int (Int32.ofNat q), .int (Int32.ofNat len)] 7)) (Tl.setTop (mkF m 31 #[.val (.ref b), .val (.int (Int32.ofNat (o + i))), .val (.ref d), .val (.int (Int32.ofNat (q + i))), .val (.int (Int32.ofNat len)), .val (.int (Int32.ofNat i)), .val (.int (cv A (o + i)))] [.int (lo8 (cv A (o + i))), .int (Int32.ofNat (q + i)), .ref d])) := c5.trans (by
        refine XS.iload Xl.here hexec rfl (hb hbytes d15) rfl ?_
        refine sipushV Xl.here hexec rfl 255 (hb hbytes d17) (by decide) ?_
        refine XS.icmpYes Xl.here hexec rfl (pc0 := 20) rfl (hb hbytes d20) rfl (ii_le_t (hp i (by omega))) (by decide) rfl ?_
        refine XS.aloadN Xl.here hexec rfl (hb hbytes d26) rfl rfl ?_
        refine XS.iloadN Xl.here hexec rfl (hb hbytes d27) rfl ?_
        refine XS.iload Xl.here hexec rfl (hb hbytes d28) rfl ?_
        refine i2b Xl.here hexec rfl (hb hbytes d30) rfl ?_
        exact Steps.refl _)
      obtain ⟨T7, X7, p7, st7⟩ := Xl.aput hexec hBk rfl hlt rfl (fits_lo8 (cv A (o + i))) (g := (mkF m 31 #[.val (.ref b), .val (.int (Int32.ofNat (o + i))), .val (.ref d), .val (.int (Int32.ofNat (q + i))), .val (.int (Int32.ofNat len)), .val (.int (Int32.ofNat i)), .val (.int (cv A (o + i)))] [.int (lo8 (cv A (o + i))), .int (Int32.ofNat (q + i)), .ref d])) rfl (rest := []) rfl (hb hbytes d31)
      have c8 : Steps p.tables e below (s₁.setTop (entryFrame m #[.ref b, .int (Int32.ofNat o), .ref d, .int (Int32.ofNat q), .int (Int32.ofNat len)] 7)) (T7.setTop (mkF m 32 #[.val (.ref b), .val (.int (Int32.ofNat (o + i))), .val (.ref d), .val (.int (Int32.ofNat (q + i))), .val (.int (Int32.ofNat len)), .val (.int (Int32.ofNat i)), .val (.int (cv A (o + i)))] [])) := c6.trans (st7 _ (Steps.refl _))
      have c9 : Steps p.tables e below (s₁.setTop (entryFrame m #[.ref b, .int (Int32.ofNat o), .ref d, .int (Int32.ofNat q), .int (Int32.ofNat len)] 7)) (T7.setTop (mkF m 3 #[.val (.ref b), .val (.int (Int32.ofNat (o + i) + 1)), .val (.ref d), .val (.int (Int32.ofNat (q + i) + 1)), .val (.int (Int32.ofNat len)), .val (.int (Int32.ofNat i + 1)), .val (.int (cv A (o + i)))] [])) := c8.trans (by
        refine iincV X7.here hexec rfl 1 (hb hbytes d32) (by decide) rfl rfl ?_
        refine iincV X7.here hexec rfl 1 (hb hbytes d35) (by decide) rfl rfl ?_
        refine iincV X7.here hexec rfl 1 (hb hbytes d38) (by decide) rfl rfl ?_
        refine XS.goto X7.here hexec rfl (pc0 := 41) rfl (hb hbytes d41) (by decide) rfl ?_
        exact Steps.refl _)
      have c10 : Steps p.tables e below (s₁.setTop (entryFrame m #[.ref b, .int (Int32.ofNat o), .ref d, .int (Int32.ofNat q), .int (Int32.ofNat len)] 7)) (T7.setTop (mkF m 3 #[.val (.ref b), .val (.int (Int32.ofNat (o + (i + 1)))), .val (.ref d), .val (.int (Int32.ofNat (q + (i + 1)))), .val (.int (Int32.ofNat len)), .val (.int (Int32.ofNat (i + 1))), .val (.int (cv A (o + i)))] [])) := by
        have := c9
        rw [succ32, succ32, succ32] at this
        exact this
      exact ih (i + 1) (by omega) _ (Or.inr ⟨_, rfl, rfl⟩) T7 _ (by rw [copyLocs_step, ← List.append_assoc]; exact X7) (pl.trans p7) (fl.step (by omega) hlt (by simp)) c10
  obtain ⟨T9, B9, z9, X9, p9, f9, g9⟩ := loop len 0 (by omega) .unset (Or.inl rfl) s₁ B (by simpa [copyLocs] using X0) ⟨hB0.1, fun _ _ => rfl, rfl⟩ (Laid.zero _ _ _) c2
  have c11 : Steps p.tables e below (s₁.setTop (entryFrame m #[.ref b, .int (Int32.ofNat o), .ref d, .int (Int32.ofNat q), .int (Int32.ofNat len)] 7)) (T9.setTop (mkF m 46 #[.val (.ref b), .val (.int (Int32.ofNat (o + len))), .val (.ref d), .val (.int (Int32.ofNat (q + len))), .val (.int (Int32.ofNat len)), .val (.int (Int32.ofNat len)), z9] [.int (Int32.ofNat len)])) := g9.trans (by
    refine XS.iload X9.here hexec rfl (hb hbytes d3) rfl ?_
    refine XS.iload X9.here hexec rfl (hb hbytes d5) rfl ?_
    refine XS.icmpYes X9.here hexec rfl (pc0 := 7) rfl (hb hbytes d7) rfl (ii_ge_t (nlt32 (by omega) (Nat.le_refl _))) (by decide) rfl ?_
    refine XS.iload X9.here hexec rfl (hb hbytes d44) rfl ?_
    exact Steps.refl _)
  exact ⟨T9, some (.int (Int32.ofNat len)), _, _, _, X9, by simp, rfl, rfl, (fun h => by cases h), ⟨rfl, B9, p9.from hh0, f9⟩, fun fs hl => c11.trans (X9.ireturnOut hexec hret rfl (Or.inl rfl) (hb hbytes d46) hl)⟩
end Cmp5
namespace Cmp3
def yN : MethodName := ⟨"java/lang/StringUTF16", "compress", "([CII)[B"⟩
abbrev yB : ByteArray := jdk_52_method_16_code
theorem d0 : decode yB 0 = .ok (.iload_n 2, 1) := by decide +kernel
theorem d1 : decode yB 1 = .ok (.newarray .byte, 2) := by decide +kernel
theorem d3 : decode yB 3 = .ok (.astore_n 3, 1) := by decide +kernel
theorem d4 : decode yB 4 = .ok (.aload_n 0, 1) := by decide +kernel
theorem d5 : decode yB 5 = .ok (.iload_n 1, 1) := by decide +kernel
theorem d6 : decode yB 6 = .ok (.aload_n 3, 1) := by decide +kernel
theorem d7 : decode yB 7 = .ok (.iconst 0, 1) := by decide +kernel
theorem d8 : decode yB 8 = .ok (.iload_n 2, 1) := by decide +kernel
theorem d9 : decode yB 9 = .ok (.invokestatic 115, 3) := by decide +kernel
theorem d12 : decode yB 12 = .ok (.istore 4, 2) := by decide +kernel
theorem d14 : decode yB 14 = .ok (.iload 4, 2) := by decide +kernel
theorem d16 : decode yB 16 = .ok (.iload_n 2, 1) := by decide +kernel
theorem d17 : decode yB 17 = .ok (.if_icmp (.eq) 40, 3) := by decide +kernel
theorem d57 : decode yB 57 = .ok (.aload_n 3, 1) := by decide +kernel
theorem d58 : decode yB 58 = .ok (.areturn, 1) := by decide +kernel
def site : List Cond := [.arrayClass .byte, Cmp5.tab] ++ staticW U16 115 Cmp5.yN
def tab : Cond := tabOf yN yB 6 (some (.array .byte)) site
def P (b : Addr) (A : Cell) (o len : Nat) (args : Array Value) (s : State) : Prop := args = #[.ref b, .int (Int32.ofNat o), .int (Int32.ofNat len)] ∧ Ch b A s ∧ o + len ≤ A.slots.size ∧ len ≤ 536870912 ∧ ∀ i, i < len → ¬ 255 < cv A (o + i)
def E (b : Addr) (A : Cell) (o len : Nat) (r : Option Value) (s u : State) : Prop := NewArr .byte "[B" len (fun j => .int (lo8 (cv A (o + j)))) r s u ∧ u.heap.size = s.heap.size + 1
/-- no char of the range above 255: a new byte[] of their low bytes -/
theorem law (l : Launch) (b : Addr) (A : Cell) (o len : Nat) : Law l yN 3 3 1 18 yB 6 (some (.array .byte)) site (P b A o len) (E b A o len) [] 1 len := by
  refine Law.of_walk (plainFor_of_name (by decide +kernel)) (by decide +kernel) (by decide +kernel) (by decide) (fun _ _ h => by rw [h.1]; rfl) (fun _ U U' hal hh h => ⟨h.1, h.2.1.mv hal hh, h.2.2⟩) (fun r U U' V V' h1 hal h2 h => ⟨NewArr.mv r U U' V V' h1 hal h2 h.1, by rw [h1, h2]; exact h.2⟩) ?_
  intro p e s m args below meth c s₁ X0 hexec hbytes hml hret hlk hnm hown hh0 W hP
  obtain ⟨rfl, hA, l1, l2, hp⟩ := hP
  have a31 := hA.1.2.2.2
  have c1 : Steps p.tables e below (s₁.setTop (entryFrame m #[.ref b, .int (Int32.ofNat o), .int (Int32.ofNat len)] 6)) (s₁.setTop (mkF m 0 #[.val (.ref b), .val (.int (Int32.ofNat o)), .val (.int (Int32.ofNat len)), .unset, .unset, .unset] [])) := entry rfl
  have c2 : Steps p.tables e below (s₁.setTop (entryFrame m #[.ref b, .int (Int32.ofNat o), .int (Int32.ofNat len)] 6)) (s₁.setTop (mkF m 1 #[.val (.ref b), .val (.int (Int32.ofNat o)), .val (.int (Int32.ofNat len)), .unset, .unset, .unset] [.int (Int32.ofNat len)])) := c1.trans (by
    refine XS.iloadN X0.here hexec rfl (hb hbytes d0) rfl ?_
    exact Steps.refl _)
  obtain ⟨T3, B3, X3, ba3, bs3, bv3, bh3, bf3, st3⟩ := X0.anew hexec (atype := .byte) (wk W (.arrayClass .byte)) rfl (by show len * 1 ≤ _; omega) (by omega) (g := (mkF m 1 #[.val (.ref b), .val (.int (Int32.ofNat o)), .val (.int (Int32.ofNat len)), .unset, .unset, .unset] [.int (Int32.ofNat len)])) rfl (hb hbytes d1) (rest := []) rfl (Nat.le_refl _) (by show 0 + len ≤ len; omega)
  rw [hh0] at ba3 st3
  have kp3 : XT.Kept s T3 := (XT.Kept.of_eq hh0).push bh3
  have hA3 := hA.keep X3.warmed.alike (kp3 _ _ hA.1.1)
  have hne : b ≠ s.heap.size := hA.1.ne
  have c4 : Steps p.tables e below (s₁.setTop (entryFrame m #[.ref b, .int (Int32.ofNat o), .int (Int32.ofNat len)] 6)) (T3.setTop (mkF m 3 #[.val (.ref b), .val (.int (Int32.ofNat o)), .val (.int (Int32.ofNat len)), .unset, .unset, .unset] [.ref s.heap.size])) := c2.trans (st3 _ (Steps.refl _))
  have c5 : Steps p.tables e below (s₁.setTop (entryFrame m #[.ref b, .int (Int32.ofNat o), .int (Int32.ofNat len)] 6)) (T3.setTop (mkF m 9 #[.val (.ref b), .val (.int (Int32.ofNat o)), .val (.int (Int32.ofNat len)), .val (.ref s.heap.size), .unset, .unset] [.int (Int32.ofNat len), .int 0, .ref s.heap.size, .int (Int32.ofNat o), .ref b])) := c4.trans (by
    refine XS.astoreN X3.here hexec rfl (hb hbytes d3) rfl rfl rfl ?_
    refine XS.aloadN X3.here hexec rfl (hb hbytes d4) rfl rfl ?_
    refine XS.iloadN X3.here hexec rfl (hb hbytes d5) rfl ?_
    refine XS.aloadN X3.here hexec rfl (hb hbytes d6) rfl rfl ?_
    refine iconstV X3.here hexec rfl 0 (hb hbytes d7) (by decide) ?_
    refine XS.iloadN X3.here hexec rfl (hb hbytes d8) rfl ?_
    exact Steps.refl _)
  obtain ⟨v6, T6, X6, E6, g6⟩ := X3.callS hexec (Cmp5.law l b A s.heap.size B3 o 0 len) hown (wks W (staticW U16 115 Cmp5.yN)) (wk W Cmp5.tab) (W := 0) (Nat.le_of_ble_eq_true rfl) (Nat.le_of_ble_eq_true rfl) (Nat.le_refl _) (by show 0 + len + 0 ≤ len; omega) (g := (mkF m 9 #[.val (.ref b), .val (.int (Int32.ofNat o)), .val (.int (Int32.ofNat len)), .val (.ref s.heap.size), .unset, .unset] [.int (Int32.ofNat len), .int (Int32.ofNat 0), .ref s.heap.size, .int (Int32.ofNat o), .ref b])) rfl (by rw [hml]; rfl) c5 (argsL := [.ref b, .int (Int32.ofNat o), .ref s.heap.size, .int (Int32.ofNat 0), .int (Int32.ofNat len)]) (rest := []) rfl rfl (by show 2 * 0 + 0 ≤ _; decide) (hb hbytes d9) (⟨rfl, hA3, ba3, hne, l1, by rw [bs3]; simp, hp⟩)
  obtain ⟨rfl, B6, p6, f6⟩ := E6
  have c7 : Steps p.tables e below (s₁.setTop (entryFrame m #[.ref b, .int (Int32.ofNat o), .int (Int32.ofNat len)] 6)) (T6.setTop (mkF m 12 #[.val (.ref b), .val (.int (Int32.ofNat o)), .val (.int (Int32.ofNat len)), .val (.ref s.heap.size), .unset, .unset] [.int (Int32.ofNat len)])) := g6
  have c8 : Steps p.tables e below (s₁.setTop (entryFrame m #[.ref b, .int (Int32.ofNat o), .int (Int32.ofNat len)] 6)) (T6.setTop (mkF m 58 #[.val (.ref b), .val (.int (Int32.ofNat o)), .val (.int (Int32.ofNat len)), .val (.ref s.heap.size), .val (.int (Int32.ofNat len)), .unset] [.ref s.heap.size])) := c7.trans (by
    refine XS.istore X6.here hexec rfl (hb hbytes d12) rfl rfl ?_
    refine XS.iload X6.here hexec rfl (hb hbytes d14) rfl ?_
    refine XS.iloadN X6.here hexec rfl (hb hbytes d16) rfl ?_
    refine XS.icmpYes X6.here hexec rfl (pc0 := 17) rfl (hb hbytes d17) rfl (ii_eq_t rfl) (by decide) rfl ?_
    refine XS.aloadN X6.here hexec rfl (hb hbytes d57) rfl rfl ?_
    exact Steps.refl _)
  have X8 := X6.wide (L' := []) (cells' := 1) (slots' := len) (fun x hx hlt => by
    simp only [List.nil_append, copyLocs, List.mem_map, List.mem_range] at hx
    obtain ⟨i, -, rfl⟩ := hx
    exact absurd hlt (Nat.lt_irrefl _)) (Nat.le_refl _) (by omega)
  exact ⟨T6, some (.ref s.heap.size), _, _, _, X8, rfl, rfl, rfl, (fun h => by cases h), ⟨⟨rfl, B6, ba3.like (X3.warmed.alike.symm.trans X6.warmed.alike) p6.1 f6.1 f6.2.1 f6.2.2.1, f6.2.1.trans bv3, by rw [X6.warmed.alike.findClass, f6.1]; exact bf3, by rw [f6.2.2.1, bs3]; simp, fun j hj => by rw [f6.2.2.2 j, if_pos (by omega)]; rfl, kp3.put p6 (Nat.le_refl _)⟩, by rw [p6.2.2, bh3, hh0]; simp⟩, fun fs hl => c8.trans (X8.areturnOut hexec rfl hret rfl (hb hbytes d58) hl)⟩
end Cmp3
namespace CodL
def yN : MethodName := ⟨"java/lang/StringUTF16", "coderFromArrayLen", "([BI)B"⟩
abbrev yB : ByteArray := jdk_52_method_15_code
theorem d0 : decode yB 0 = .ok (.iload_n 1, 1) := by decide +kernel
theorem d1 : decode yB 1 = .ok (.aload_n 0, 1) := by decide +kernel
theorem d2 : decode yB 2 = .ok (.arraylength, 1) := by decide +kernel
theorem d3 : decode yB 3 = .ok (.isub, 1) := by decide +kernel
theorem d4 : decode yB 4 = .ok (.bipush 31, 2) := by decide +kernel
theorem d6 : decode yB 6 = .ok (.iushr, 1) := by decide +kernel
theorem d7 : decode yB 7 = .ok (.i2b, 1) := by decide +kernel
theorem d8 : decode yB 8 = .ok (.ireturn, 1) := by decide +kernel
def site : List Cond := []
def tab : Cond := tabOf yN yB 2 (some .byte) site
def P (d : Addr) (B : Cell) (args : Array Value) (s : State) : Prop := args = #[.ref d, .int (Int32.ofNat B.slots.size)] ∧ Arr .byte d B s
def E (r : Option Value) (s u : State) : Prop := XT.PureE (some (.int 0)) r s u
/-- an array as long as the number of chars: LATIN1 -/
theorem law (l : Launch) (d : Addr) (B : Cell) : Law l yN 2 2 0 0 yB 2 (some .byte) site (P d B) E [] 0 0 := by
  refine Law.of_walk (plainFor_of_name (by decide +kernel)) (by decide +kernel) (by decide +kernel) (by decide) (fun _ _ h => by rw [h.1]; rfl) (fun _ U U' hal hh h => ⟨h.1, h.2.mv hal hh⟩) (fun r U U' V V' h1 hal h2 h => XT.PureE.mv r U U' V V' h1 hal h2 h) ?_
  intro p e s m args below meth c s₁ X0 hexec hbytes hml hret hlk hnm hown hh0 W hP
  obtain ⟨rfl, hB⟩ := hP
  have hB0 := hB.mv X0.warmed.alike hh0
  have c1 : Steps p.tables e below (s₁.setTop (entryFrame m #[.ref d, .int (Int32.ofNat B.slots.size)] 2)) (s₁.setTop (mkF m 0 #[.val (.ref d), .val (.int (Int32.ofNat B.slots.size))] [])) := entry rfl
  have c2 : Steps p.tables e below (s₁.setTop (entryFrame m #[.ref d, .int (Int32.ofNat B.slots.size)] 2)) (s₁.setTop (mkF m 2 #[.val (.ref d), .val (.int (Int32.ofNat B.slots.size))] [.ref d, .int (Int32.ofNat B.slots.size)])) := c1.trans (by
    refine XS.iloadN X0.here hexec rfl (hb hbytes d0) rfl ?_
    refine XS.aloadN X0.here hexec rfl (hb hbytes d1) rfl rfl ?_
    exact Steps.refl _)
  have c3 : Steps p.tables e below (s₁.setTop (entryFrame m #[.ref d, .int (Int32.ofNat B.slots.size)] 2)) (s₁.setTop (mkF m 8 #[.val (.ref d), .val (.int (Int32.ofNat B.slots.size))] [.int (lo8 (ushr (Int32.ofNat B.slots.size - Int32.ofNat B.slots.size) 31))])) := c2.trans (by
    refine X0.alen hexec hB0 rfl rfl (hb hbytes d2) ?_
    refine XS.isub X0.here hexec rfl (hb hbytes d3) rfl ?_
    refine bipushV X0.here hexec rfl 31 (hb hbytes d4) (by decide) ?_
    refine iushr X0.here hexec rfl (hb hbytes d6) rfl ?_
    refine i2b X0.here hexec rfl (hb hbytes d7) rfl ?_
    exact Steps.refl _)
  have e0 : lo8 (ushr (Int32.ofNat B.slots.size - Int32.ofNat B.slots.size) 31) = 0 := by rw [Int32.sub_self]; decide
  rw [e0] at c3
  exact ⟨s₁, some (.int 0), _, _, _, X0, rfl, rfl, rfl, (fun h => by cases h), ⟨rfl, hh0⟩, fun fs hl => c3.trans (X0.ireturnOut hexec hret rfl (Or.inr (Or.inr (Or.inl rfl))) (hb hbytes d8) hl)⟩
end CodL
/-- the String at a is Latin-1 over a new byte[] (the heap's one new cell): the low bytes of the len chars of A from o on; every cell but a is kept -/
def Got (a : Addr) (D : Cell) (fV fC : Field) (A : Cell) (o len : Nat) (r : Option Value) (s u : State) : Prop := r = none ∧ ∃ D' V : Cell, Blank "java/lang/String" a D' u ∧ Same D D' [fV.slot, fC.slot] ∧ D'.slots[fV.slot]? = some (.ref s.heap.size) ∧ D'.slots[fC.slot]? = some (.int 0) ∧ Arr .byte s.heap.size V u ∧ V.vm = .none ∧ u.vm.findClass "[B" = some V.cls ∧ V.slots.size = len ∧ (∀ j, j < len → V.slots[j]? = some (.int (lo8 (cv A (o + j))))) ∧ (∀ (y : Addr) (c : Cell), y ≠ a → s.heap[y]? = some c → u.heap[y]? = some c) ∧ u.heap.size = s.heap.size + 1
theorem Got.mv {a : Addr} {D A : Cell} {fV fC : Field} {o len : Nat} : ∀ r (U U' V V' : State), U'.heap = U.heap → V.vm.Alike V'.vm → V'.heap = V.heap → Got a D fV fC A o len r U V → Got a D fV fC A o len r U' V' :=
  fun r U U' V V' h1 hal h2 ⟨e0, D', X, a1, a2, a3, a4, a5, a6, a7, a8, a9, a10, a11⟩ => ⟨e0, D', X, a1.mv hal h2, a2, by rw [h1]; exact a3, a4, by rw [h1]; exact a5.mv hal h2, a6, by rw [hal.findClass]; exact a7, a8, a9, by rw [h1, h2]; exact a10, by rw [h1, h2]; exact a11⟩
namespace New4
def yN : MethodName := ⟨"java/lang/String", "<init>", "([CIILjava/lang/Void;)V"⟩
abbrev yB : ByteArray := jdk_42_method_149_code
theorem d0 : decode yB 0 = .ok (.aload_n 0, 1) := by decide +kernel
theorem d1 : decode yB 1 = .ok (.invokespecial 1, 3) := by decide +kernel
theorem d4 : decode yB 4 = .ok (.iload_n 3, 1) := by decide +kernel
theorem d5 : decode yB 5 = .ok (.ifCond (.ne) 22, 3) := by decide +kernel
theorem d27 : decode yB 27 = .ok (.getstatic 38, 3) := by decide +kernel
theorem d30 : decode yB 30 = .ok (.ifCond (.eq) 28, 3) := by decide +kernel
theorem d33 : decode yB 33 = .ok (.aload_n 1, 1) := by decide +kernel
theorem d34 : decode yB 34 = .ok (.iload_n 2, 1) := by decide +kernel
theorem d35 : decode yB 35 = .ok (.iload_n 3, 1) := by decide +kernel
theorem d36 : decode yB 36 = .ok (.invokestatic 177, 3) := by decide +kernel
theorem d39 : decode yB 39 = .ok (.astore 5, 2) := by decide +kernel
theorem d41 : decode yB 41 = .ok (.aload_n 0, 1) := by decide +kernel
theorem d42 : decode yB 42 = .ok (.aload 5, 2) := by decide +kernel
theorem d44 : decode yB 44 = .ok (.iload_n 3, 1) := by decide +kernel
theorem d45 : decode yB 45 = .ok (.invokestatic 47, 3) := by decide +kernel
theorem d48 : decode yB 48 = .ok (.putfield 15, 3) := by decide +kernel
theorem d51 : decode yB 51 = .ok (.aload_n 0, 1) := by decide +kernel
theorem d52 : decode yB 52 = .ok (.aload 5, 2) := by decide +kernel
theorem d54 : decode yB 54 = .ok (.putfield 9, 3) := by decide +kernel
theorem d57 : decode yB 57 = .ok (.return_, 1) := by decide +kernel
def site : List Cond := [.fieldLink "java/lang/String" 38 "java/lang/String" "COMPACT_STRINGS" "Z", Cmp3.tab, CodL.tab, .laysFinal "java/lang/String" "java/lang/String" "value" "[B", .fieldLink "java/lang/String" 9 "java/lang/String" "value" "[B", .laysFinal "java/lang/String" "java/lang/String" "coder" "B", .fieldLink "java/lang/String" 15 "java/lang/String" "coder" "B"] ++ objW "java/lang/String" 1 ++ staticW "java/lang/String" 177 Cmp3.yN ++ staticW "java/lang/String" 47 CodL.yN
def tab : Cond := tabOf yN yB 6 none site
def P (a : Addr) (D : Cell) (fV fC : Field) (b : Addr) (A : Cell) (z : Int32) (o len : Nat) (args : Array Value) (s : State) : Prop := args = #[.ref a, .ref b, .int (Int32.ofNat o), .int (Int32.ofNat len), .null] ∧ Blank "java/lang/String" a D s ∧ Found "java/lang/String" "value" "[B" fV s ∧ Found "java/lang/String" "coder" "B" fC s ∧ Ch b A s ∧ StaticIs s "java/lang/String" "COMPACT_STRINGS" "Z" (.int z) ∧ ¬ z = 0 ∧ 0 < len ∧ o + len ≤ A.slots.size ∧ len ≤ 536870912 ∧ ∀ i, i < len → ¬ 255 < cv A (o + i)
def E (a : Addr) (D : Cell) (fV fC : Field) (A : Cell) (o len : Nat) (r : Option Value) (s u : State) : Prop := Got a D fV fC A o len r s u
/-- len > 0, no char of the range above 255: a Latin-1 String of their low bytes -/
theorem law (l : Launch) (a : Addr) (D : Cell) (fV fC : Field) (b : Addr) (A : Cell) (z : Int32) (o len : Nat) : Law l yN 5 4 2 35 yB 6 none site (P a D fV fC b A z o len) (E a D fV fC A o len) [⟨a, fC.slot⟩, ⟨a, fV.slot⟩] 1 len := by
  refine Law.of_walk (plainFor_of_name (by decide +kernel)) (by decide +kernel) (by decide +kernel) (by decide) (fun _ _ h => by rw [h.1]; rfl) (fun _ U U' hal hh h => ⟨h.1, h.2.1.mv hal hh, h.2.2.1.al hal, h.2.2.2.1.al hal, h.2.2.2.2.1.mv hal hh, h.2.2.2.2.2.1.there hal hh, h.2.2.2.2.2.2⟩) (fun r U U' V V' h1 hal h2 h => Got.mv r U U' V V' h1 hal h2 h) ?_
  intro p e s m args below meth c s₁ X0 hexec hbytes hml hret hlk hnm hown hh0 W hP
  obtain ⟨rfl, hB, f1, f2, hA, s1, hz, l0, l1, l2, hp⟩ := hP
  have a31 := hA.1.2.2.2
  have c1 : Steps p.tables e below (s₁.setTop (entryFrame m #[.ref a, .ref b, .int (Int32.ofNat o), .int (Int32.ofNat len), .null] 6)) (s₁.setTop (mkF m 0 #[.val (.ref a), .val (.ref b), .val (.int (Int32.ofNat o)), .val (.int (Int32.ofNat len)), .val .null, .unset] [])) := entry rfl
  have c2 : Steps p.tables e below (s₁.setTop (entryFrame m #[.ref a, .ref b, .int (Int32.ofNat o), .int (Int32.ofNat len), .null] 6)) (s₁.setTop (mkF m 1 #[.val (.ref a), .val (.ref b), .val (.int (Int32.ofNat o)), .val (.int (Int32.ofNat len)), .val .null, .unset] [.ref a])) := c1.trans (by
    refine XS.aloadN X0.here hexec rfl (hb hbytes d0) rfl rfl ?_
    exact Steps.refl _)
  obtain ⟨T3, X3, q3, st3⟩ := X0.oinit hexec hown (wks W (objW "java/lang/String" 1)) (g := (mkF m 1 #[.val (.ref a), .val (.ref b), .val (.int (Int32.ofNat o)), .val (.int (Int32.ofNat len)), .val .null, .unset] [.ref a])) rfl (by rw [hml]; rfl) (rest := []) rfl (hb hbytes d1) (W := 0) (by show 2 * 0 + 0 ≤ _; decide) (Nat.le_of_ble_eq_true rfl) (Nat.le_of_ble_eq_true rfl)
  have hh3 := q3.trans hh0
  have c4 : Steps p.tables e below (s₁.setTop (entryFrame m #[.ref a, .ref b, .int (Int32.ofNat o), .int (Int32.ofNat len), .null] 6)) (T3.setTop (mkF m 27 #[.val (.ref a), .val (.ref b), .val (.int (Int32.ofNat o)), .val (.int (Int32.ofNat len)), .val .null, .unset] [])) := (c2.trans (st3 _ (Steps.refl _))).trans (by
    refine XS.iloadN X3.here hexec rfl (hb hbytes d4) rfl ?_
    refine XS.ifYes X3.here hexec rfl (pc0 := 5) rfl (hb hbytes d5) rfl (i0_ne_t (nz32 (by omega) l0)) (by decide) rfl ?_
    exact Steps.refl _)
  obtain ⟨T5, X5, q5, st5⟩ := X3.sget hexec hown (wk W (.fieldLink "java/lang/String" 38 "java/lang/String" "COMPACT_STRINGS" "Z")) s1 (fun _ _ h => by rw [hh3]; exact h) (g := (mkF m 27 #[.val (.ref a), .val (.ref b), .val (.int (Int32.ofNat o)), .val (.int (Int32.ofNat len)), .val .null, .unset] [])) rfl (hb hbytes d27)
  have hh5 := q5.trans hh3
  have c6 : Steps p.tables e below (s₁.setTop (entryFrame m #[.ref a, .ref b, .int (Int32.ofNat o), .int (Int32.ofNat len), .null] 6)) (T5.setTop (mkF m 30 #[.val (.ref a), .val (.ref b), .val (.int (Int32.ofNat o)), .val (.int (Int32.ofNat len)), .val .null, .unset] [.int z])) := c4.trans (st5 _ (Steps.refl _))
  have c7 : Steps p.tables e below (s₁.setTop (entryFrame m #[.ref a, .ref b, .int (Int32.ofNat o), .int (Int32.ofNat len), .null] 6)) (T5.setTop (mkF m 36 #[.val (.ref a), .val (.ref b), .val (.int (Int32.ofNat o)), .val (.int (Int32.ofNat len)), .val .null, .unset] [.int (Int32.ofNat len), .int (Int32.ofNat o), .ref b])) := c6.trans (by
    refine XS.ifNo X5.here hexec rfl (hb hbytes d30) rfl (i0_eq_f hz) ?_
    refine XS.aloadN X5.here hexec rfl (hb hbytes d33) rfl rfl ?_
    refine XS.iloadN X5.here hexec rfl (hb hbytes d34) rfl ?_
    refine XS.iloadN X5.here hexec rfl (hb hbytes d35) rfl ?_
    exact Steps.refl _)
  obtain ⟨v8, T8, X8, E8, g8⟩ := X5.callS hexec (Cmp3.law l b A o len) hown (wks W (staticW "java/lang/String" 177 Cmp3.yN)) (wk W Cmp3.tab) (W := 0) (Nat.le_of_ble_eq_true rfl) (Nat.le_of_ble_eq_true rfl) (Nat.le_refl _) (by show 0 + len ≤ len; omega) (g := (mkF m 36 #[.val (.ref a), .val (.ref b), .val (.int (Int32.ofNat o)), .val (.int (Int32.ofNat len)), .val .null, .unset] [.int (Int32.ofNat len), .int (Int32.ofNat o), .ref b])) rfl (by rw [hml]; rfl) c7 (argsL := [.ref b, .int (Int32.ofNat o), .int (Int32.ofNat len)]) (rest := []) rfl rfl (by show 2 * 0 + 0 ≤ _; decide) (hb hbytes d36) (⟨rfl, hA.mv X5.warmed.alike hh5, l1, l2, hp⟩)
  obtain ⟨e8, z8⟩ := E8
  obtain ⟨rfl, N, n1, n2, n3, n4, n5, n6⟩ := NewArr.mv _ T5 s _ _ hh5.symm (Vm.Alike.refl _) rfl e8
  rw [hh5] at z8
  have hB1 := hB.keep X8.warmed.alike (n6 _ _ hB.1)
  have hne : s.heap.size ≠ a := (Nat.ne_of_lt (Array.getElem?_eq_some_iff.mp hB.1).1).symm
  have c9 : Steps p.tables e below (s₁.setTop (entryFrame m #[.ref a, .ref b, .int (Int32.ofNat o), .int (Int32.ofNat len), .null] 6)) (T8.setTop (mkF m 39 #[.val (.ref a), .val (.ref b), .val (.int (Int32.ofNat o)), .val (.int (Int32.ofNat len)), .val .null, .unset] [.ref s.heap.size])) := g8
  have c10 : Steps p.tables e below (s₁.setTop (entryFrame m #[.ref a, .ref b, .int (Int32.ofNat o), .int (Int32.ofNat len), .null] 6)) (T8.setTop (mkF m 45 #[.val (.ref a), .val (.ref b), .val (.int (Int32.ofNat o)), .val (.int (Int32.ofNat len)), .val .null, .val (.ref s.heap.size)] [.int (Int32.ofNat N.slots.size), .ref s.heap.size, .ref a])) := by
    have hc : Steps p.tables e below (s₁.setTop (entryFrame m #[.ref a, .ref b, .int (Int32.ofNat o), .int (Int32.ofNat len), .null] 6)) (T8.setTop (mkF m 45 #[.val (.ref a), .val (.ref b), .val (.int (Int32.ofNat o)), .val (.int (Int32.ofNat len)), .val .null, .val (.ref s.heap.size)] [.int (Int32.ofNat len), .ref s.heap.size, .ref a])) := c9.trans (by
      refine XS.astore X8.here hexec rfl (hb hbytes d39) rfl rfl rfl ?_
      refine XS.aloadN X8.here hexec rfl (hb hbytes d41) rfl rfl ?_
      refine XS.aload X8.here hexec rfl (hb hbytes d42) rfl rfl ?_
      refine XS.iloadN X8.here hexec rfl (hb hbytes d44) rfl ?_
      exact Steps.refl _)
    rw [n4]; exact hc
  obtain ⟨v11, T11, X11, E11, g11⟩ := X8.callS hexec (CodL.law l s.heap.size N) hown (wks W (staticW "java/lang/String" 47 CodL.yN)) (wk W CodL.tab) (W := 1) (Nat.le_of_ble_eq_true rfl) (Nat.le_of_ble_eq_true rfl) (Nat.le_refl _) (by show 0 + len + 0 ≤ len; omega) (g := (mkF m 45 #[.val (.ref a), .val (.ref b), .val (.int (Int32.ofNat o)), .val (.int (Int32.ofNat len)), .val .null, .val (.ref s.heap.size)] [.int (Int32.ofNat N.slots.size), .ref s.heap.size, .ref a])) rfl (by rw [hml]; rfl) c10 (argsL := [.ref s.heap.size, .int (Int32.ofNat N.slots.size)]) (rest := [.ref a]) rfl rfl (by show 2 * 0 + (1 + 0) ≤ _; decide) (hb hbytes d45) (⟨rfl, n1⟩)
  obtain ⟨rfl, q11⟩ := E11
  have hB11 := hB1.mv (X8.warmed.alike.symm.trans X11.warmed.alike) q11
  have c12 : Steps p.tables e below (s₁.setTop (entryFrame m #[.ref a, .ref b, .int (Int32.ofNat o), .int (Int32.ofNat len), .null] 6)) (T11.setTop (mkF m 48 #[.val (.ref a), .val (.ref b), .val (.int (Int32.ofNat o)), .val (.int (Int32.ofNat len)), .val .null, .val (.ref s.heap.size)] [.int 0, .ref a])) := g11
  obtain ⟨T13, X13, p13, bl13, sl13, st13⟩ := X11.finit hexec hown (wk W (.fieldLink "java/lang/String" 15 "java/lang/String" "coder" "B")) (Or.inr ⟨_, (wk W (.laysFinal "java/lang/String" "java/lang/String" "coder" "B"))⟩) (Or.inl ⟨rfl, hnm⟩) f2 (Or.inl rfl) hB11 (t := .byte) (by decide +kernel) rfl (g := (mkF m 48 #[.val (.ref a), .val (.ref b), .val (.int (Int32.ofNat o)), .val (.int (Int32.ofNat len)), .val .null, .val (.ref s.heap.size)] [.int 0, .ref a])) rfl (rest := []) rfl (hb hbytes d48)
  have c14 : Steps p.tables e below (s₁.setTop (entryFrame m #[.ref a, .ref b, .int (Int32.ofNat o), .int (Int32.ofNat len), .null] 6)) (T13.setTop (mkF m 54 #[.val (.ref a), .val (.ref b), .val (.int (Int32.ofNat o)), .val (.int (Int32.ofNat len)), .val .null, .val (.ref s.heap.size)] [.ref s.heap.size, .ref a])) := (c12.trans (st13 _ (Steps.refl _))).trans (by
    refine XS.aloadN X13.here hexec rfl (hb hbytes d51) rfl rfl ?_
    refine XS.aload X13.here hexec rfl (hb hbytes d52) rfl rfl ?_
    exact Steps.refl _)
  obtain ⟨T15, X15, p15, bl15, sl15, st15⟩ := X13.finit hexec hown (wk W (.fieldLink "java/lang/String" 9 "java/lang/String" "value" "[B")) (Or.inr ⟨_, (wk W (.laysFinal "java/lang/String" "java/lang/String" "value" "[B"))⟩) (Or.inl ⟨rfl, hnm⟩) f1 (Or.inl rfl) bl13 (t := (.array .byte)) (by decide +kernel) rfl (g := (mkF m 54 #[.val (.ref a), .val (.ref b), .val (.int (Int32.ofNat o)), .val (.int (Int32.ofNat len)), .val .null, .val (.ref s.heap.size)] [.ref s.heap.size, .ref a])) rfl (rest := []) rfl (hb hbytes d54)
  have c16 : Steps p.tables e below (s₁.setTop (entryFrame m #[.ref a, .ref b, .int (Int32.ofNat o), .int (Int32.ofNat len), .null] 6)) (T15.setTop (mkF m 57 #[.val (.ref a), .val (.ref b), .val (.int (Int32.ofNat o)), .val (.int (Int32.ofNat len)), .val .null, .val (.ref s.heap.size)] [])) := c14.trans (st15 _ (Steps.refl _))
  have ap := apart (Or.inr ⟨_, (wk W (.laysFinal "java/lang/String" "java/lang/String" "value" "[B"))⟩) (Or.inr ⟨_, (wk W (.laysFinal "java/lang/String" "java/lang/String" "coder" "B"))⟩) f1 f2 (t₁ := .array .byte) (t₂ := .byte) (by decide +kernel) (by decide +kernel) (by decide)
  have al := X8.warmed.alike.symm.trans X15.warmed.alike
  have n7 : T11.heap[s.heap.size]? = some N := by rw [q11]; exact n1.1
  exact ⟨T15, none, _, _, _, X15, by simp, rfl, by omega, (fun _ => rfl), ⟨rfl, _, N, bl15, ((Same.refl D _).set _ (by simp)).set _ (by simp), sl15, (Cell.slots_setSlot_ne _ ap).trans sl13, n1.keep al (p15.other hne (p13.other hne n7)), n2, by rw [al.findClass]; exact n3, n4, n5, fun y c h1 h2 => p15.other h1 (p13.other h1 (by rw [q11]; exact n6 y c h2)), by rw [p15.2.2, p13.2.2, q11]; exact z8⟩, fun fs hl => c16.trans (X15.returnOut hexec hret (hb hbytes d57) hl)⟩
end New4
namespace New1
def yN : MethodName := ⟨"java/lang/String", "<init>", "([C)V"⟩
abbrev yB : ByteArray := jdk_42_method_3_code
theorem d0 : decode yB 0 = .ok (.aload_n 0, 1) := by decide +kernel
theorem d1 : decode yB 1 = .ok (.aload_n 1, 1) := by decide +kernel
theorem d2 : decode yB 2 = .ok (.iconst 0, 1) := by decide +kernel
theorem d3 : decode yB 3 = .ok (.aload_n 1, 1) := by decide +kernel
theorem d4 : decode yB 4 = .ok (.arraylength, 1) := by decide +kernel
theorem d5 : decode yB 5 = .ok (.aconst_null, 1) := by decide +kernel
theorem d6 : decode yB 6 = .ok (.invokespecial 27, 3) := by decide +kernel
theorem d9 : decode yB 9 = .ok (.return_, 1) := by decide +kernel
def site : List Cond := [New4.tab] ++ initW "java/lang/String" 27 New4.yN
def tab : Cond := tabOf yN yB 2 none site
def P (a : Addr) (D : Cell) (fV fC : Field) (b : Addr) (A : Cell) (z : Int32) (args : Array Value) (s : State) : Prop := args = #[.ref a, .ref b] ∧ Blank "java/lang/String" a D s ∧ Found "java/lang/String" "value" "[B" fV s ∧ Found "java/lang/String" "coder" "B" fC s ∧ Ch b A s ∧ StaticIs s "java/lang/String" "COMPACT_STRINGS" "Z" (.int z) ∧ ¬ z = 0 ∧ 0 < A.slots.size ∧ A.slots.size ≤ 536870912 ∧ ∀ i, i < A.slots.size → ¬ 255 < cv A i
def E (a : Addr) (D : Cell) (fV fC : Field) (A : Cell) (r : Option Value) (s u : State) : Prop := Got a D fV fC A 0 A.slots.size r s u
/-- new String(chars), not empty, no char above 255: a Latin-1 String of their low bytes -/
theorem law (l : Launch) (a : Addr) (D : Cell) (fV fC : Field) (b : Addr) (A : Cell) (z : Int32) : Law l yN 2 1 3 52 yB 2 none site (P a D fV fC b A z) (E a D fV fC A) [⟨a, fC.slot⟩, ⟨a, fV.slot⟩] 1 A.slots.size := by
  refine Law.of_walk (plainFor_of_name (by decide +kernel)) (by decide +kernel) (by decide +kernel) (by decide) (fun _ _ h => by rw [h.1]; rfl) (fun _ U U' hal hh h => ⟨h.1, h.2.1.mv hal hh, h.2.2.1.al hal, h.2.2.2.1.al hal, h.2.2.2.2.1.mv hal hh, h.2.2.2.2.2.1.there hal hh, h.2.2.2.2.2.2⟩) (fun r U U' V V' h1 hal h2 h => Got.mv r U U' V V' h1 hal h2 h) ?_
  intro p e s m args below meth c s₁ X0 hexec hbytes hml hret hlk hnm hown hh0 W hP
  obtain ⟨rfl, hB, f1, f2, hA, s1, hz, l0, l2, hp⟩ := hP
  have c1 : Steps p.tables e below (s₁.setTop (entryFrame m #[.ref a, .ref b] 2)) (s₁.setTop (mkF m 0 #[.val (.ref a), .val (.ref b)] [])) := entry rfl
  have c2 : Steps p.tables e below (s₁.setTop (entryFrame m #[.ref a, .ref b] 2)) (s₁.setTop (mkF m 6 #[.val (.ref a), .val (.ref b)] [.null, .int (Int32.ofNat A.slots.size), .int 0, .ref b, .ref a])) := c1.trans (by
    refine XS.aloadN X0.here hexec rfl (hb hbytes d0) rfl rfl ?_
    refine XS.aloadN X0.here hexec rfl (hb hbytes d1) rfl rfl ?_
    refine iconstV X0.here hexec rfl 0 (hb hbytes d2) (by decide) ?_
    refine XS.aloadN X0.here hexec rfl (hb hbytes d3) rfl rfl ?_
    refine X0.alen hexec (hA.1.mv X0.warmed.alike hh0) rfl rfl (hb hbytes d4) ?_
    refine XS.aconstNull X0.here hexec rfl (hb hbytes d5) ?_
    exact Steps.refl _)
  obtain ⟨v3, T3, X3, E3, g3⟩ := X0.callN hexec (New4.law l a D fV fC b A z 0 A.slots.size) rfl hown (wks W (initW "java/lang/String" 27 New4.yN)) (W New4.tab (by simp only [site, List.mem_cons, List.mem_append, true_or, or_true])) (W := 0) (Nat.le_of_ble_eq_true rfl) (Nat.le_of_ble_eq_true rfl) (Nat.le_refl _) (by show 0 + A.slots.size ≤ A.slots.size; omega) (g := (mkF m 6 #[.val (.ref a), .val (.ref b)] [.null, .int (Int32.ofNat A.slots.size), .int (Int32.ofNat 0), .ref b, .ref a])) rfl (by rw [hml]; rfl) c2 (argsL := [.ref b, .int (Int32.ofNat 0), .int (Int32.ofNat A.slots.size), .null]) (rest := []) rfl rfl (by show 2 * 0 + 0 ≤ _; decide) (hb hbytes d6) (⟨rfl, hB.mv X0.warmed.alike hh0, f1.al X0.warmed.alike, f2.al X0.warmed.alike, hA.mv X0.warmed.alike hh0, s1.there X0.warmed.alike hh0, hz, l0, by omega, l2, fun i hi => by rw [Nat.zero_add]; exact hp i hi⟩)
  have e0 := Got.mv _ s₁ s _ _ hh0.symm (Vm.Alike.refl _) rfl E3
  obtain rfl := e0.1
  have c4 : Steps p.tables e below (s₁.setTop (entryFrame m #[.ref a, .ref b] 2)) (T3.setTop (mkF m 9 #[.val (.ref a), .val (.ref b)] [])) := g3
  exact ⟨T3, none, _, _, _, X3, by simp, rfl, by omega, (fun _ => rfl), e0, fun fs hl => c4.trans (X3.returnOut hexec hret (hb hbytes d9) hl)⟩
theorem pays {l : Launch} {R : Room} {p : Program} {e : Env} {below : List Frame} {s : State} {sargs : Array Value} {len W : Nat} (a : Addr) (D : Cell) (fV fC : Field) (b : Addr) (A : Cell) (z : Int32) (htab : tab.before sargs s = true) (hfr : 4 ≤ R.frames) (hlo : W + 65 ≤ R.locals) :
    Back l R p e below s sargs yN len W (fun A₁ a₁ => A₁.cells + 1 ≤ R.cells ∧ A₁.slots + A.slots.size ≤ R.slots ∧ P a D fV fC b A z a₁ A₁.U) (fun A₁ _ v₁ B₁ => E a D fV fC A v₁ A₁.U B₁.U ∧ B₁.locs = A₁.locs ++ [⟨a, fC.slot⟩, ⟨a, fV.slot⟩] ∧ B₁.cells = A₁.cells + 1 ∧ B₁.slots = A₁.slots + A.slots.size) :=
  (law l a D fV fC b A z).pays htab hfr (by omega)
end New1
/-- the byte, read back as charAt reads it, is the char -/
theorem lo8_mask {x : Int32} (h0 : ¬ x < 0) (h1 : ¬ 255 < x) : lo8 x &&& 255 = x := by
  have t : ∀ k : Fin 256, lo8 (Int32.ofNat k.val) &&& 255 = Int32.ofNat k.val := by decide +kernel
  rw [Int32.lt_iff_toInt_lt] at h0 h1
  have e0 : (0 : Int32).toInt = 0 := rfl
  have e1 : (255 : Int32).toInt = 255 := rfl
  obtain ⟨k, hk⟩ : ∃ k : Nat, x.toInt = k := ⟨x.toInt.toNat, by omega⟩
  have hx : x = Int32.ofNat k := Int32.toInt_inj.mp (by rw [hk, Int32.toInt_ofNat_small (by omega)])
  rw [hx]
  exact t ⟨k, by omega⟩
end StrChars
namespace StrChars.Road
open Jvm Sem ClassFile Op Lib Jvm.Stand Jvm.Free Jvm.Free.XT
open Jvm.Lib.Cold (StaticIs)
abbrev ST : String := "java/lang/String"
/-- every table word that New1's law asks, flat -/
abbrev words : List Jvm.Cond := [.code New1.yN New1.yB 2 none, .initialized ST, .methodLink ST 27 New4.yN, .instanceMethod New4.yN,
  .code New4.yN New4.yB 6 none, .fieldLink ST 38 ST "COMPACT_STRINGS" "Z", .laysFinal ST ST "value" "[B", .fieldLink ST 9 ST "value" "[B", .laysFinal ST ST "coder" "B", .fieldLink ST 15 ST "coder" "B",
  .methodLink ST 1 Lib.objectInit, .instanceMethod Lib.objectInit, .code Lib.objectInit ⟨#[0xb1]⟩ 1 none, .methodLink ST 177 Cmp3.yN, .static Cmp3.yN, .methodLink ST 47 CodL.yN, .static CodL.yN,
  .code Cmp3.yN Cmp3.yB 6 (some (.array .byte)), .initialized U16, .arrayClass .byte, .methodLink U16 115 Cmp5.yN, .static Cmp5.yN, .code Cmp5.yN Cmp5.yB 7 (some .int), .code CodL.yN CodL.yB 2 (some .byte)]
theorem tab_of {a : Array Value} {s : State} (h : ∀ w ∈ words, w.before a s = true) : New1.tab.before a s = true := by
  have h5 : Cmp5.tab.before a s = true := unparts (wk h (.code Cmp5.yN Cmp5.yB 7 (some .int))) (wks h (.initialized Cmp5.yN.cls :: Cmp5.site))
  have hc : CodL.tab.before a s = true := unparts (wk h (.code CodL.yN CodL.yB 2 (some .byte))) (wks h (.initialized CodL.yN.cls :: CodL.site))
  have q5 : ∀ w ∈ Cmp5.tab :: words, w.before a s = true := fun w hw => (List.mem_cons.mp hw).elim (fun e => e ▸ h5) (h w)
  have h3 : Cmp3.tab.before a s = true := unparts (wk q5 (.code Cmp3.yN Cmp3.yB 6 (some (.array .byte)))) (wks q5 (.initialized Cmp3.yN.cls :: Cmp3.site))
  have q3 : ∀ w ∈ Cmp3.tab :: CodL.tab :: words, w.before a s = true := fun w hw => (List.mem_cons.mp hw).elim (fun e => e ▸ h3) fun hw => (List.mem_cons.mp hw).elim (fun e => e ▸ hc) (h w)
  have h4 : New4.tab.before a s = true := unparts (wk q3 (.code New4.yN New4.yB 6 none)) (wks q3 (.initialized New4.yN.cls :: New4.site))
  have q4 : ∀ w ∈ New4.tab :: words, w.before a s = true := fun w hw => (List.mem_cons.mp hw).elim (fun e => e ▸ h4) (h w)
  exact unparts (wk q4 (.code New1.yN New1.yB 2 none)) (wks q4 (.initialized New1.yN.cls :: New1.site))
/-- the words ride from the start Z to the walk's own state -/
theorem moved {Z s : State} {a0 args : Array Value} (hZ : Z.Warmed39 s.vm) (hw : ∀ d ∈ words, d.before a0 Z = true) : ∀ d ∈ words, d.before args s = true := fun d hd => by
  have q := hw d hd
  have t : ∀ d ∈ words, d = .arrayClass .byte ∨ (d.onTables && d.keepsFace) = true := by decide +kernel
  rcases t d hd with rfl | t
  · exact RoadKit.mvA hZ q
  · exact RoadKit.mv hZ q t
/-- WHAT COMES BACK, over the tables of the start Z: h the heap at the call, h' behind it -/
def Q (Z : State) (x : Addr) (A : Cell) (h : Heap) (v : Option Value) (h' : Heap) (L : List Loc) : Prop := v = none ∧ (∀ y ∈ L, y.base = x) ∧ RoadKit.Keep h h' [x] ∧ h'.size = h.size + 1 ∧ RoadKit.Exa Z h' x ST ∧ RoadKit.Fld Z h' x ST "value" "[B" (.ref h.size) ∧ RoadKit.Fld Z h' x ST "coder" "B" (.int 0) ∧
  (∃ V : Cell, RoadKit.Arr Z h' h.size V .byte ∧ V.vm = .none ∧ Z.vm.findClass "[B" = some V.cls ∧ V.slots.size = A.slots.size ∧ ∀ j, j < A.slots.size → V.slots[j]? = some (.int (lo8 (cv A j)))) ∧
  ∀ (O n d : String) (w : Value), RoadKit.Fld Z h x O n d w → RoadKit.slotOf Z O n d ≠ RoadKit.slotOf Z ST "value" "[B" → RoadKit.slotOf Z O n d ≠ RoadKit.slotOf Z ST "coder" "B" → RoadKit.Fld Z h' x O n d w
/-- **new String(chars) AT A CALL, IN THE ROAD'S FORM**: for specialBack behind newO: x the fresh String, b the char[] with the cell A -/
theorem back {p : Program} {l : Launch} {e : Env} {R : Room} {s : State} {args : Array Value} {below : List Frame} {len W : Nat} {Z : State} {a0 : Array Value} {h : Heap} (hZ : Z.Warmed39 s.vm) (hw : ∀ d ∈ words, d.before a0 Z = true) {kI : Nat} (wi : (Jvm.Cond.instantiable ST kI).before a0 Z = true)
    {x b : Addr} {A : Cell} {z : Int32} {v0 c0 : Value} (E : RoadKit.Exa Z h x ST) (V : RoadKit.Fld Z h x ST "value" "[B" v0) (C : RoadKit.Fld Z h x ST "coder" "B" c0) (K : RoadKit.Arr Z h b A .char) (hty : Typed .char A) (S : RoadKit.Sta Z h ST "COMPACT_STRINGS" "Z" (.int z)) (hz : ¬ z = 0)
    (l0 : 0 < A.slots.size) (l2 : A.slots.size ≤ 536870912) (hp : ∀ i, i < A.slots.size → ¬ 255 < cv A i) (hfr : 4 ≤ R.frames) (hlo : W + 65 ≤ R.locals) :
    Back l R p e below s args New1.yN len W (fun P a => a = #[.ref x, .ref b] ∧ P.U.heap = h ∧ P.cells + 1 ≤ R.cells ∧ P.slots + A.slots.size ≤ R.slots)
      (fun P _ v B => ∃ L, Q Z x A h v B.U.heap L ∧ B.locs = P.locs ++ L ∧ B.cells = P.cells + 1 ∧ B.slots = P.slots + A.slots.size) := by
  intro m meth c P g ig mk a X hg hsize hdg hW hn hp'
  obtain ⟨rfl, rfl, r1, r2⟩ := hp'
  have al : Z.vm.Alike P.U.vm := hZ.alike.trans X.warmed.alike
  obtain ⟨D, cfV, kV, iV, fV, hD, gV, stV, knV, obV, asV, slV⟩ := id V
  obtain ⟨D', cfC, kC, iC, fC, hD', gC, stC, -, -, asC, slC⟩ := id C
  cases hD.symm.trans hD'
  obtain ⟨D2, kD, e1, e2, e3, e4, e5⟩ := id E
  cases hD.symm.trans e1
  obtain ⟨c2, k2, i1, i2, i3, -⟩ := Cond.instantiable_spec wi
  cases e2.symm.trans i1
  cases e3.symm.trans i2
  obtain ⟨kU, u1, u2⟩ := al.2.2 _ _ e3
  have hB : Blank ST x D P.U := ⟨hD, ⟨knV, fun q hq => by rw [hq] at obV; cases obV⟩, by rw [al.findClass]; exact e2, kU, u1, by rw [u2]; exact i3, by rw [u2]; exact e5 i3⟩
  have F1 : Found ST "value" "[B" fV P.U := ⟨SBG.found_only al ⟨cfV, kV, iV, gV⟩, stV⟩
  have F2 : Found ST "coder" "B" fC P.U := ⟨SBG.found_only al ⟨cfC, kC, iC, gC⟩, stC⟩
  have hA : Ch b A P.U := ⟨⟨K.1, State.isArrayOf_alike al K.2.1, K.2.2, by omega⟩, hty⟩
  have hS : StaticIs P.U ST "COMPACT_STRINGS" "Z" (.int z) := by
    obtain ⟨cfS, iS, kS, fS, st, cS, t1, t2, t3, t4, t5, t6, t7⟩ := S
    exact StaticIs.there (s := { Z with heap := P.U.heap }) ⟨cfS, iS, kS, fS, st, cS, t1, t2, t3, t4, t5, (fun q => by rw [q] at t6; cases t6), t7⟩ al rfl
  obtain ⟨v, B, X', ⟨⟨hv, E', V', q1, q2, q3, q4, q5, q6, q7, q8, q9, q10, q11⟩, hl, hc, hs⟩, st⟩ := New1.pays x D fV fC b A z (tab_of (moved hZ hw)) hfr hlo m meth c P g ig mk _ X hg hsize hdg hW hn ⟨r1, r2, rfl, hB, F1, F2, hA, hS, hz, l0, l2, hp⟩
  have al' : Z.vm.Alike B.U.vm := hZ.alike.trans X'.warmed.alike
  have hsz : E'.slots.size = D.slots.size := by
    obtain ⟨-, -, -, kB, w1, w2, w3⟩ := q1
    obtain ⟨kB', y1, y2⟩ := al'.2.2 _ _ e3
    rw [q2.2.1] at w1
    cases w1.symm.trans y1
    rw [w3, e5 i3, y2]
  refine ⟨v, B, X', ⟨_, ⟨hv, ?_, ⟨by omega, fun y cy hy hn' => q10 y cy (by simpa using hn') hy, fun y cy hy => ?_⟩, q11, ⟨E', _, q1.1, by rw [q2.2.1]; exact e2, by rw [q2.2.1]; exact e3, by rw [q2.1]; exact obV, fun _ => by rw [hsz]; exact e5 i3⟩,
    ⟨E', cfV, kV, iV, fV, q1.1, gV, stV, by rw [q2.1]; exact knV, by rw [q2.1]; exact obV, by rw [q2.2.1]; exact asV, q3⟩, ⟨E', cfC, kC, iC, fC, q1.1, gC, stC, by rw [q2.1]; exact knV, by rw [q2.1]; exact obV, by rw [q2.2.1]; exact asC, q4⟩,
    ⟨V', ⟨q5.1, State.isArrayOf_alike al'.symm q5.2.1, q5.2.2.1⟩, q6, by rw [← al'.findClass]; exact q7, q8, fun j hj => by have := q9 j hj; rwa [Nat.zero_add] at this⟩, fun O n d w F n1 n2 => ?_⟩, hl, hc, hs⟩, st⟩
  · intro y hy
    simp only [List.mem_cons, List.not_mem_nil, or_false] at hy
    rcases hy with rfl | rfl <;> rfl
  · by_cases q : y = x
    · subst q
      cases hD.symm.trans hy
      exact ⟨E', q1.1, q2.2.1, q2.1, hsz⟩
    · exact ⟨cy, q10 y cy q hy, rfl, rfl, rfl⟩
  · obtain ⟨D3, cf, k, i, f, g1, g2, g3, g4, g5, g6, g7⟩ := F
    cases hD.symm.trans g1
    simp only [RoadKit.slotOf, g2, gV, gC, Option.map_some, Option.getD_some] at n1 n2
    exact ⟨E', cf, k, i, f, q1.1, g2, g3, by rw [q2.1]; exact g4, by rw [q2.1]; exact g5, by rw [q2.2.1]; exact g6, by rw [q2.2.2 f.slot (by simp [n1, n2])]; exact g7⟩
end StrChars.Road
namespace StrChars.Road
open Jvm Sem ClassFile Op Lib Jvm.Stand Jvm.Free Jvm.Free.XT
/-- WHAT COMES BACK, the byte[] as a list of values -/
def QA (Z : State) (x : Addr) (zn : Int32) (cs : List Int32) (h : Heap) (v : Option Value) (h' : Heap) (L : List Loc) : Prop := v = none ∧ (∀ y ∈ L, y.base = x) ∧ RoadKit.Keep h h' [x] ∧ h'.size = h.size + 1 ∧ RoadKit.Exa Z h' x ST ∧ RoadKit.Fld Z h' x ST "value" "[B" (.ref h.size) ∧ RoadKit.Fld Z h' x ST "coder" "B" (.int 0) ∧
  (∃ kb, Z.vm.findClass "[B" = some kb ∧ RoadKit.Arv Z h' h.size kb .byte zn (cs.map fun c => .int (lo8 c)) (.int 0)) ∧
  ∀ (O n d : String) (w : Value), RoadKit.Fld Z h x O n d w → RoadKit.slotOf Z O n d ≠ RoadKit.slotOf Z ST "value" "[B" → RoadKit.slotOf Z O n d ≠ RoadKit.slotOf Z ST "coder" "B" → RoadKit.Fld Z h' x O n d w
/-- **new String(chars) AT A CALL, THE ARRAYS AS LISTS**: the char[] at b holds cs, not empty, no char above 255 -/
theorem backArv {p : Program} {l : Launch} {e : Env} {R : Room} {s : State} {args : Array Value} {below : List Frame} {len W : Nat} {Z : State} {a0 : Array Value} {h : Heap} (hZ : Z.Warmed39 s.vm) (hw : ∀ d ∈ words, d.before a0 Z = true) {kI : Nat} (wi : (Jvm.Cond.instantiable ST kI).before a0 Z = true)
    {x b : Addr} {k : ClassId} {zn z : Int32} {cs : List Int32} {dv v0 c0 : Value} (E : RoadKit.Exa Z h x ST) (V : RoadKit.Fld Z h x ST "value" "[B" v0) (C : RoadKit.Fld Z h x ST "coder" "B" c0) (K : RoadKit.Arv Z h b k .char zn (cs.map Value.int) dv) (S : RoadKit.Sta Z h ST "COMPACT_STRINGS" "Z" (.int z)) (hz : ¬ z = 0)
    (hlen : zn.toNatClampNeg = cs.length) (h0 : 0 < cs.length) (hbig : cs.length ≤ 536870912) (hall : ∀ c ∈ cs, ¬ 255 < c) (hfr : 4 ≤ R.frames) (hlo : W + 65 ≤ R.locals) :
    Back l R p e below s args New1.yN len W (fun P a => a = #[.ref x, .ref b] ∧ P.U.heap = h ∧ P.cells + 1 ≤ R.cells ∧ P.slots + cs.length ≤ R.slots)
      (fun P _ v B => ∃ L, QA Z x zn cs h v B.U.heap L ∧ B.locs = P.locs ++ L ∧ B.cells = P.cells + 1 ∧ B.slots = P.slots + cs.length) := by
  obtain ⟨A, K1, K2, K3, K4, K5, K6⟩ := K
  have e : A.slots.size = cs.length := K3.trans hlen
  have hat : ∀ (i : Nat) (hi : i < cs.length), A.slots[i]? = some (.int cs[i]) := fun i hi => by rw [K5 i (by omega)]; simp [List.getD_eq_getElem?_getD, hi]
  have hcv : ∀ (i : Nat) (hi : i < cs.length), cv A i = cs[i] := fun i hi => by unfold cv; rw [hat i hi]
  have hty : Typed .char A := fun i v hv => by
    have hi : i < A.slots.size := (Array.getElem?_eq_some_iff.mp hv).1
    have q := K5 i hi
    rw [hv] at q
    rw [Option.some.inj q]
    exact K6 i hi
  refine Back.mono (back hZ hw wi E V C K1 hty S hz (by omega) (by omega) (fun i hi => by rw [hcv i (by omega)]; exact hall _ (List.getElem_mem _)) hfr hlo) (fun P a hp => ⟨hp.1, hp.2.1, hp.2.2.1, by rw [e]; exact hp.2.2.2⟩) (fun P a v B hp hq => ?_)
  obtain ⟨L, ⟨q1, q2, q3, q4, q5, q6, q7, ⟨V', v1, v2, v3, v4, v5⟩, q9⟩, hl, hc, hs⟩ := hq
  refine ⟨L, ⟨q1, q2, q3, q4, q5, q6, q7, ⟨V'.cls, v3, V', v1, rfl, by rw [v4, e, hlen], K4, fun i hi => ?_, fun i hi => ?_⟩, q9⟩, hl, hc, by rw [hs, e]⟩
  · have hi' : i < cs.length := by omega
    rw [v5 i (by omega), hcv i hi']; simp [List.getD_eq_getElem?_getD, hi']
  · have hi' : i < cs.length := by omega
    simp only [List.getD_eq_getElem?_getD, List.getElem?_map, List.getElem?_eq_getElem hi', Option.map_some, Option.getD_some]
    exact fits_lo8 _
end StrChars.Road
namespace StrChars.Road
open Jvm Sem ClassFile Op Lib Jvm.Stand Jvm.Free Jvm.Free.XT
/-- WHAT COMES BACK, in the writer's own shape -/
def QV (Z : State) (x : Addr) (N : Int32) (bs : List Int32) (h : Heap) (n0 : Nat) (v : Option Value) (h' : Heap) (L : List Loc) : Prop := v = none ∧ RoadKit.Fr n0 L ∧ RoadKit.Keep h h' [x] ∧ RoadKit.Exa Z h' x ST ∧ RoadKit.Fld Z h' x ST "coder" "B" (.int 0) ∧
  ∃ (t : Addr) (kb : ClassId), n0 ≤ t ∧ h.size ≤ t ∧ ¬ t = x ∧ RoadKit.Fld Z h' x ST "value" "[B" (.ref t) ∧ RoadKit.Arv Z h' t kb .byte N (bs.map Value.int) (.int 0)
/-- **new String(chars) AT A CALL, FOR THE WRITER**: a char[] of n known ints, each 0 to 255 -/
theorem backV {p : Program} {l : Launch} {e : Env} {R : Room} {s : State} {args : Array Value} {below : List Frame} {len W : Nat} {Z : State} {a0 : Array Value} {h : Heap} (hZ : Z.Warmed39 s.vm) (hw : ∀ d ∈ words, d.before a0 Z = true) {kI : Nat} (wi : (Jvm.Cond.instantiable ST kI).before a0 Z = true)
    {x b : Addr} {kC : ClassId} {cs bs : List Int32} {d v0 c0 : Value} {z N : Int32} {n n0 : Nat} (hx0 : n0 ≤ x) (hh0 : n0 ≤ h.size) (E : RoadKit.Exa Z h x ST) (V : RoadKit.Fld Z h x ST "value" "[B" v0) (C : RoadKit.Fld Z h x ST "coder" "B" c0) (K : RoadKit.Arv Z h b kC .char N (cs.map Value.int) d) (S : RoadKit.Sta Z h ST "COMPACT_STRINGS" "Z" (.int z)) (hz : ¬ z = 0)
    (hn : cs.length = n) (hN : N = Int32.ofNat n) (l0 : 0 < n) (l2 : n ≤ 4000) (hp : ∀ c ∈ cs, ¬ c < 0 ∧ ¬ (255 : Int32) < c) (hb : bs = cs.map (fun c => c.toInt8.toInt32)) (hfr : 4 ≤ R.frames) (hlo : W + 65 ≤ R.locals) :
    Back l R p e below s args (⟨"java/lang/String", "<init>", "([C)V"⟩ : MethodName) len W (fun P a => a = #[.ref x, .ref b] ∧ P.U.heap = h ∧ P.cells + 1 ≤ R.cells ∧ P.slots + n ≤ R.slots)
      (fun P _ v B => ∃ L, QV Z x N bs h n0 v B.U.heap L ∧ B.locs = P.locs ++ L ∧ B.cells = P.cells + 1 ∧ B.slots = P.slots + n) := by
  subst hn hN hb
  refine Back.mono (backArv hZ hw wi E V C K S hz (n32 (by omega)) l0 (by omega) (fun c hc => (hp c hc).2) hfr hlo) (fun P a hp => hp) (fun P a v B hp hq => ?_)
  obtain ⟨L, ⟨q1, q2, q3, q4, q5, q6, q7, ⟨kb, v1, v2⟩, q9⟩, hl, hc, hs⟩ := hq
  exact ⟨L, ⟨q1, fun y hy => by rw [q2 y hy]; exact hx0, q3, q5, q7, h.size, kb, hh0, Nat.le_refl _, Nat.ne_of_gt E.lt, q6, by rw [List.map_map]; exact v2⟩, hl, hc, hs⟩
end StrChars.Road
namespace StrChars
open Jvm Sem ClassFile Op Lib Jvm.Stand Jvm.Free.XT Jvm.Free.ALB Jvm.Free.JM Jvm.Free
open Jvm.Lib.Cold (StaticIs)
def hi8 (x : Int32) : Int32 := lo8 (x >>> ((8 : Int32) &&& 31))
/-- what StringUTF16.getChar makes of two bytes -/
def pairCh (u v : Int32) : Int32 := (((u &&& 255) <<< ((0 : Int32) &&& 31)) ||| ((v &&& 255) <<< ((8 : Int32) &&& 31))).toUInt32.toUInt16.toUInt32.toInt32
theorem shr0 (c : Int32) : c >>> ((0 : Int32) &&& 31) = c := by
  have e : ((0 : Int32) &&& 31) = 0 := by decide
  rw [e]
  apply Int32.toBitVec_inj.mp
  rw [Int32.toBitVec_shiftRight]
  have e1 : ((0 : Int32).toBitVec.smod 32) = 0#32 := by decide
  rw [e1, BitVec.sshiftRight_eq']
  exact BitVec.sshiftRight_zero
theorem lo8_and (x : Int32) : (lo8 x &&& 255).toBitVec.toNat = x.toBitVec.toNat % 256 := by
  have h : (lo8 x).toBitVec = (x.toBitVec.signExtend 8).signExtend 32 := by rw [lo8, Int8.toBitVec_toInt32, Int32.toBitVec_toInt8]
  rw [Int32.toBitVec_and, BitVec.toNat_and, h]
  have e : ((x.toBitVec.signExtend 8).signExtend 32).toNat % 256 = x.toBitVec.toNat % 256 := by
    rw [BitVec.toNat_signExtend]
    have hlt := x.toBitVec.isLt
    simp only [BitVec.toNat_setWidth, BitVec.toNat_signExtend]
    split <;> split <;> omega
  rw [← e]
  exact Nat.and_two_pow_sub_one_eq_mod _ 8
theorem pair_says {c : Int32} (h0 : ¬ c < 0) (h1 : ¬ 65535 < c) : pairCh (lo8 c) (hi8 c) = c := by
  rw [Int32.lt_iff_toInt_lt] at h0 h1
  have e0 : (0 : Int32).toInt = 0 := rfl
  have e1 : (65535 : Int32).toInt = 65535 := rfl
  have hc : c.toInt = c.toBitVec.toNat := by
    have := c.toBitVec.isLt
    have e : c.toInt = c.toBitVec.toInt := rfl
    rw [e] at h0 h1
    rw [e]
    rw [BitVec.toInt_eq_toNat_cond] at h0 h1 ⊢
    split at h0 <;> split <;> omega
  have hn : c.toBitVec.toNat < 65536 := by omega
  have a1 := lo8_and c
  have a2 : (hi8 c &&& 255).toBitVec.toNat = c.toBitVec.toNat / 256 := by
    rw [hi8, lo8_and]
    have e : ((8 : Int32) &&& 31) = 8 := by decide
    rw [e, Int32.toBitVec_shiftRight]
    have e2 : ((8 : Int32).toBitVec.smod 32) = 8#32 := by decide
    rw [e2, BitVec.sshiftRight_eq', BitVec.toNat_sshiftRight_of_msb_false (by rw [BitVec.msb_eq_false_iff_two_mul_lt]; omega)]
    show c.toBitVec.toNat >>> 8 % 256 = _
    rw [Nat.shiftRight_eq_div_pow]
    omega
  unfold pairCh
  apply Int32.toBitVec_inj.mp
  apply BitVec.eq_of_toNat_eq
  have f0 : ((0 : Int32) &&& 31) = 0 := by decide
  have f8 : ((8 : Int32) &&& 31) = 8 := by decide
  rw [f0, f8]
  have g : (((lo8 c &&& 255) <<< (0 : Int32)) ||| ((hi8 c &&& 255) <<< (8 : Int32))).toBitVec.toNat = c.toBitVec.toNat := by
    rw [Int32.toBitVec_or, Int32.toBitVec_shiftLeft, Int32.toBitVec_shiftLeft]
    have s0 : ((0 : Int32).toBitVec.smod 32) = 0#32 := by decide
    have s8 : ((8 : Int32).toBitVec.smod 32) = 8#32 := by decide
    rw [s0, s8, BitVec.toNat_or]
    simp only [BitVec.shiftLeft_eq', BitVec.toNat_shiftLeft, a1, a2]
    show (c.toBitVec.toNat % 256) <<< 0 % 2 ^ 32 ||| (c.toBitVec.toNat / 256) <<< 8 % 2 ^ 32 = _
    rw [Nat.shiftLeft_zero, Nat.mod_eq_of_lt (show c.toBitVec.toNat % 256 < 2 ^ 32 by omega), Nat.mod_eq_of_lt (show (c.toBitVec.toNat / 256) <<< 8 < 2 ^ 32 by rw [Nat.shiftLeft_eq]; omega), Nat.or_comm, ← Nat.shiftLeft_add_eq_or_of_lt (by omega), Nat.shiftLeft_eq]
    omega
  show BitVec.toNat (((((lo8 c &&& 255) <<< (0 : Int32)) ||| ((hi8 c &&& 255) <<< (8 : Int32))).toBitVec.setWidth 16).setWidth 32) = _
  rw [BitVec.toNat_setWidth, BitVec.toNat_setWidth, g]
  omega
end StrChars
namespace StrChars
open Jvm Sem ClassFile Op Lib Jvm.Stand Jvm.Free.XT Jvm.Free.ALB Jvm.Free.JM Jvm.Free
open Jvm.Lib.Cold (StaticIs)
theorem shr1 {n : Nat} (h : 2 * n < 2 ^ 31) : Int32.ofNat (2 * n) >>> ((1 : Int32) &&& 31) = Int32.ofNat n := by
  have e : ((1 : Int32) &&& 31) = 1 := by decide
  rw [e]
  apply Int32.toBitVec_inj.mp
  rw [Int32.toBitVec_shiftRight]
  have e1 : ((1 : Int32).toBitVec.smod 32) = 1#32 := by decide
  have hm : (BitVec.ofNat 32 (2 * n)).toNat = 2 * n := by rw [BitVec.toNat_ofNat, Nat.mod_eq_of_lt (by omega)]
  rw [e1, BitVec.sshiftRight_eq']
  apply BitVec.eq_of_toNat_eq
  show ((BitVec.ofNat 32 (2 * n)).sshiftRight 1).toNat = (BitVec.ofNat 32 n).toNat
  rw [BitVec.toNat_sshiftRight_of_msb_false (by rw [BitVec.msb_eq_false_iff_two_mul_lt, hm]; omega), hm, BitVec.toNat_ofNat, Nat.shiftRight_eq_div_pow]
  omega
/-- charAt's cast of a byte read back -/
def chr8 (u : Int32) : Int32 := (u &&& 255).toUInt32.toUInt16.toUInt32.toInt32
theorem chr8_lo8 {c : Int32} (h0 : ¬ c < 0) (h1 : ¬ 255 < c) : chr8 (lo8 c) = c := by
  have t : ∀ k : Fin 256, (Int32.ofNat k.val).toUInt32.toUInt16.toUInt32.toInt32 = Int32.ofNat k.val := by decide +kernel
  unfold chr8
  rw [lo8_mask h0 h1]
  rw [Int32.lt_iff_toInt_lt] at h0 h1
  have e0 : (0 : Int32).toInt = 0 := rfl
  have e1 : (255 : Int32).toInt = 255 := rfl
  obtain ⟨k, hk⟩ : ∃ k : Nat, c.toInt = k := ⟨c.toInt.toNat, by omega⟩
  have hx : c = Int32.ofNat k := Int32.toInt_inj.mp (by rw [hk, Int32.toInt_ofNat_small (by omega)])
  rw [hx]
  exact t ⟨k, by omega⟩
theorem narrow_ch {c : Int32} (h0 : ¬ c < 0) (h1 : ¬ 65535 < c) : narrow .char (.int c) = .int c := by
  have q : narrow .char (.int (pairCh (lo8 c) (hi8 c))) = .int (pairCh (lo8 c) (hi8 c)) := narrow_c _
  rwa [pair_says h0 h1] at q
/-- the array's cell V codes the n chars f 0 .. f (n - 1) by the coder cd, as the JDK does: coder 1 just where some char is above 255 -/
def Cod (cd : Int32) (n : Nat) (f : Nat → Int32) (V : Cell) : Prop := (cd = 0 ∧ V.slots.size = n ∧ ∀ j, j < n → V.slots[j]? = some (.int (lo8 (f j))) ∧ ¬ 255 < f j) ∨ (cd = 1 ∧ V.slots.size = 2 * n ∧ (∀ j, j < n → V.slots[2 * j]? = some (.int (lo8 (f j))) ∧ V.slots[2 * j + 1]? = some (.int (hi8 (f j)))) ∧ ∃ j, j < n ∧ 255 < f j)
theorem Cod.cd {cd : Int32} {n : Nat} {f : Nat → Int32} {V : Cell} (h : Cod cd n f V) : cd = 0 ∨ cd = 1 := h.imp (fun q => q.1) fun q => q.1
theorem Cod.len {cd : Int32} {n : Nat} {f : Nat → Int32} {V : Cell} (h : Cod cd n f V) (hs : V.slots.size < 2 ^ 31) : Int32.ofNat V.slots.size >>> (cd &&& 31) = Int32.ofNat n := by
  rcases h with ⟨rfl, h, -⟩ | ⟨rfl, h, -⟩
  · rw [shr0, h]
  · rw [h, shr1 (by omega)]
/-- **x is a String of the n chars f 0 .. f (n - 1)**, Latin-1 or UTF-16; its array at t has the cell V -/
def Txt (x t : Addr) (V : Cell) (cd : Int32) (n : Nat) (f : Nat → Int32) (U : State) : Prop := Exact "java/lang/String" x U ∧ Has x "java/lang/String" "value" "[B" (.ref t) U ∧ Has x "java/lang/String" "coder" "B" (.int cd) U ∧ XT.Arr .byte t V U ∧ Cod cd n f V ∧ ∀ j, j < n → ¬ f j < 0 ∧ ¬ 65535 < f j
theorem Txt.mv {x t : Addr} {V : Cell} {cd : Int32} {n : Nat} {f : Nat → Int32} {U U' : State} (h : Txt x t V cd n f U) (hal : U.vm.Alike U'.vm) (hh : U'.heap = U.heap) : Txt x t V cd n f U' := ⟨h.1.mv hal hh, h.2.1.mv hal hh, h.2.2.1.mv hal hh, h.2.2.2.1.mv hal hh, h.2.2.2.2⟩
namespace Cdr
def yN : MethodName := ⟨"java/lang/String", "coder", "()B"⟩
abbrev yB : ByteArray := jdk_42_method_152_code
theorem d0 : decode yB 0 = .ok (.getstatic 38, 3) := by decide +kernel
theorem d3 : decode yB 3 = .ok (.ifCond (.eq) 10, 3) := by decide +kernel
theorem d6 : decode yB 6 = .ok (.aload_n 0, 1) := by decide +kernel
theorem d7 : decode yB 7 = .ok (.getfield 15, 3) := by decide +kernel
theorem d10 : decode yB 10 = .ok (.goto 4, 3) := by decide +kernel
theorem d14 : decode yB 14 = .ok (.ireturn, 1) := by decide +kernel
def site : List Cond := [.fieldLink "java/lang/String" 38 "java/lang/String" "COMPACT_STRINGS" "Z", .fieldLink "java/lang/String" 15 "java/lang/String" "coder" "B"]
def tab : Cond := tabOf yN yB 1 (some .byte) site
def P (x : Addr) (cd z : Int32) (args : Array Value) (s : State) : Prop := args = #[.ref x] ∧ Has x "java/lang/String" "coder" "B" (.int cd) s ∧ (cd = 0 ∨ cd = 1) ∧ StaticIs s "java/lang/String" "COMPACT_STRINGS" "Z" (.int z) ∧ ¬ z = 0
def E (cd : Int32) (r : Option Value) (s u : State) : Prop := XT.PureE (some (.int cd)) r s u
theorem law (l : Launch) (x : Addr) (cd z : Int32) : Law l yN 1 0 0 0 yB 1 (some .byte) site (P x cd z) (E cd) [] 0 0 := by
  refine Law.of_walk (plainFor_of_name (by decide +kernel)) (by decide +kernel) (by decide +kernel) (by decide) (fun _ _ h => by rw [h.1]; rfl) (fun _ U U' hal hh h => ⟨h.1, h.2.1.mv hal hh, h.2.2.1, h.2.2.2.1.there hal hh, h.2.2.2.2⟩) (fun r U U' V V' h1 hal h2 h => XT.PureE.mv r U U' V V' h1 hal h2 h) ?_
  intro p e s m args below meth c s₁ X0 hexec hbytes hml hret hlk hnm hown hh0 W hP
  obtain ⟨rfl, hx, hc, s1, hz⟩ := hP
  have c1 : Steps p.tables e below (s₁.setTop (entryFrame m #[.ref x] 1)) (s₁.setTop (mkF m 0 #[.val (.ref x)] [])) := entry rfl
  obtain ⟨T2, X2, q2, st2⟩ := X0.sget hexec hown (wk W (.fieldLink "java/lang/String" 38 "java/lang/String" "COMPACT_STRINGS" "Z")) s1 (fun _ _ h => by rw [hh0]; exact h) (g := (mkF m 0 #[.val (.ref x)] [])) rfl (hb hbytes d0)
  have hh2 := q2.trans hh0
  have c3 : Steps p.tables e below (s₁.setTop (entryFrame m #[.ref x] 1)) (T2.setTop (mkF m 7 #[.val (.ref x)] [.ref x])) := (c1.trans (st2 _ (Steps.refl _))).trans (by
    refine XS.ifNo X2.here hexec rfl (hb hbytes d3) rfl (i0_eq_f hz) ?_
    refine XS.aloadN X2.here hexec rfl (hb hbytes d6) rfl rfl ?_
    exact Steps.refl _)
  obtain ⟨T4, X4, q4, st4⟩ := X2.hget hexec hown (wk W (.fieldLink "java/lang/String" 15 "java/lang/String" "coder" "B")) (hx.mv X2.warmed.alike hh2) (g := (mkF m 7 #[.val (.ref x)] [.ref x])) rfl (rest := []) rfl (hb hbytes d7)
  have c5 : Steps p.tables e below (s₁.setTop (entryFrame m #[.ref x] 1)) (T4.setTop (mkF m 14 #[.val (.ref x)] [.int cd])) := (c3.trans (st4 _ (Steps.refl _))).trans (by
    refine XS.goto X4.here hexec rfl (pc0 := 10) rfl (hb hbytes d10) (by decide) rfl ?_
    exact Steps.refl _)
  exact ⟨T4, some (.int cd), _, _, _, X4, rfl, rfl, rfl, (fun h => by cases h), ⟨rfl, q4.trans hh2⟩, fun fs hl => c5.trans (X4.ireturnOut hexec hret (by rcases hc with rfl | rfl <;> rfl) (Or.inr (Or.inr (Or.inl rfl))) (hb hbytes d14) hl)⟩
end Cdr
namespace Len
def yN : MethodName := ⟨"java/lang/String", "length", "()I"⟩
abbrev yB : ByteArray := jdk_42_method_54_code
theorem d0 : decode yB 0 = .ok (.aload_n 0, 1) := by decide +kernel
theorem d1 : decode yB 1 = .ok (.getfield 9, 3) := by decide +kernel
theorem d4 : decode yB 4 = .ok (.arraylength, 1) := by decide +kernel
theorem d5 : decode yB 5 = .ok (.aload_n 0, 1) := by decide +kernel
theorem d6 : decode yB 6 = .ok (.invokevirtual 335, 3) := by decide +kernel
theorem d9 : decode yB 9 = .ok (.ishr, 1) := by decide +kernel
theorem d10 : decode yB 10 = .ok (.ireturn, 1) := by decide +kernel
def site : List Cond := [.fieldLink "java/lang/String" 9 "java/lang/String" "value" "[B", Cdr.tab] ++ virtW "java/lang/String" 335 "java/lang/String" Cdr.yN Cdr.yN
def tab : Cond := tabOf yN yB 1 (some .int) site
def P (x t : Addr) (V : Cell) (cd : Int32) (n : Nat) (f : Nat → Int32) (z : Int32) (args : Array Value) (s : State) : Prop := args = #[.ref x] ∧ Txt x t V cd n f s ∧ StaticIs s "java/lang/String" "COMPACT_STRINGS" "Z" (.int z) ∧ ¬ z = 0
def E (n : Nat) (r : Option Value) (s u : State) : Prop := XT.PureE (some (.int (Int32.ofNat n))) r s u
/-- length() of a String of n chars, in either coding -/
theorem law (l : Launch) (x t : Addr) (V : Cell) (cd : Int32) (n : Nat) (f : Nat → Int32) (z : Int32) : Law l yN 1 0 1 13 yB 1 (some .int) site (P x t V cd n f z) (E n) [] 0 0 := by
  refine Law.of_walk (plainFor_of_name (by decide +kernel)) (by decide +kernel) (by decide +kernel) (by decide) (fun _ _ h => by rw [h.1]; rfl) (fun _ U U' hal hh h => ⟨h.1, h.2.1.mv hal hh, h.2.2.1.there hal hh, h.2.2.2⟩) (fun r U U' V V' h1 hal h2 h => XT.PureE.mv r U U' V V' h1 hal h2 h) ?_
  intro p e s m args below meth c s₁ X0 hexec hbytes hml hret hlk hnm hown hh0 W hP
  obtain ⟨rfl, hx, s1, hz⟩ := hP
  have v31 := hx.2.2.2.1.2.2.2
  have c1 : Steps p.tables e below (s₁.setTop (entryFrame m #[.ref x] 1)) (s₁.setTop (mkF m 1 #[.val (.ref x)] [.ref x])) := Steps.trans (entry rfl) (by
    show Steps p.tables e below (s₁.setTop (mkF m 0 #[.val (.ref x)] [])) _
    refine XS.aloadN X0.here hexec rfl (hb hbytes d0) rfl rfl ?_
    exact Steps.refl _)
  obtain ⟨T2, X2, q2, st2⟩ := X0.hget hexec hown (wk W (.fieldLink "java/lang/String" 9 "java/lang/String" "value" "[B")) (hx.mv X0.warmed.alike hh0).2.1 (g := (mkF m 1 #[.val (.ref x)] [.ref x])) rfl (rest := []) rfl (hb hbytes d1)
  have hh2 := q2.trans hh0
  have hx2 := hx.mv X2.warmed.alike hh2
  have c3 : Steps p.tables e below (s₁.setTop (entryFrame m #[.ref x] 1)) (T2.setTop (mkF m 6 #[.val (.ref x)] [.ref x, .int (Int32.ofNat V.slots.size)])) := (c1.trans (st2 _ (Steps.refl _))).trans (by
    refine X2.alen hexec hx2.2.2.2.1 rfl rfl (hb hbytes d4) ?_
    refine XS.aloadN X2.here hexec rfl (hb hbytes d5) rfl rfl ?_
    exact Steps.refl _)
  obtain ⟨v4, T4, X4, E4, g4⟩ := X2.callV hexec (Cdr.law l x cd z) hown (wks W (virtW "java/lang/String" 335 "java/lang/String" Cdr.yN Cdr.yN)) rfl (by decide) (wk W Cdr.tab) (W := 1) (Nat.le_of_ble_eq_true rfl) (Nat.le_of_ble_eq_true rfl) (Nat.le_refl _) (Nat.le_refl _) (hx2.1.fc X2.warmed.alike) hx2.1.is (g := (mkF m 6 #[.val (.ref x)] [.ref x, .int (Int32.ofNat V.slots.size)])) rfl (by rw [hml]; rfl) c3 (argsL := []) (rest := [.int (Int32.ofNat V.slots.size)]) rfl rfl (by show 2 * 0 + (1 + 0) ≤ _; decide) (hb hbytes d6) (⟨rfl, hx2.2.2.1, hx.2.2.2.2.1.cd, s1.there X2.warmed.alike hh2, hz⟩)
  obtain ⟨rfl, q4⟩ := E4
  have c5 : Steps p.tables e below (s₁.setTop (entryFrame m #[.ref x] 1)) (T4.setTop (mkF m 10 #[.val (.ref x)] [.int (Int32.ofNat V.slots.size >>> (cd &&& 31))])) := Steps.trans g4 (by
    refine ishr X4.here hexec rfl (hb hbytes d9) rfl ?_
    exact Steps.refl _)
  rw [hx.2.2.2.2.1.len v31] at c5
  exact ⟨T4, some (.int (Int32.ofNat n)), _, _, _, X4, rfl, rfl, rfl, (fun h => by cases h), ⟨rfl, q4.trans hh2⟩, fun fs hl => c5.trans (X4.ireturnOut hexec hret rfl (Or.inl rfl) (hb hbytes d10) hl)⟩
theorem pays {l : Launch} {R : Room} {p : Program} {e : Env} {below : List Frame} {s : State} {sargs : Array Value} {len W : Nat} (x t : Addr) (V : Cell) (cd : Int32) (n : Nat) (f : Nat → Int32) (z : Int32) (htab : tab.before sargs s = true) (hfr : 2 ≤ R.frames) (hlo : W + 25 ≤ R.locals) :
    Back l R p e below s sargs yN len W (fun A₁ a₁ => A₁.cells + 0 ≤ R.cells ∧ A₁.slots + 0 ≤ R.slots ∧ P x t V cd n f z a₁ A₁.U) (fun A₁ _ v₁ B₁ => E n v₁ A₁.U B₁.U ∧ B₁.locs = A₁.locs ++ [] ∧ B₁.cells = A₁.cells + 0 ∧ B₁.slots = A₁.slots + 0) :=
  (law l x t V cd n f z).pays htab hfr (by omega)
end Len
namespace IsL
def yN : MethodName := ⟨"java/lang/String", "isLatin1", "()Z"⟩
abbrev yB : ByteArray := jdk_42_method_154_code
theorem d0 : decode yB 0 = .ok (.getstatic 38, 3) := by decide +kernel
theorem d3 : decode yB 3 = .ok (.ifCond (.eq) 14, 3) := by decide +kernel
theorem d6 : decode yB 6 = .ok (.aload_n 0, 1) := by decide +kernel
theorem d7 : decode yB 7 = .ok (.getfield 15, 3) := by decide +kernel
theorem d10 : decode yB 10 = .ok (.ifCond (.ne) 7, 3) := by decide +kernel
theorem d13 : decode yB 13 = .ok (.iconst 1, 1) := by decide +kernel
theorem d14 : decode yB 14 = .ok (.goto 4, 3) := by decide +kernel
theorem d17 : decode yB 17 = .ok (.iconst 0, 1) := by decide +kernel
theorem d18 : decode yB 18 = .ok (.ireturn, 1) := by decide +kernel
def site : List Cond := [.fieldLink "java/lang/String" 38 "java/lang/String" "COMPACT_STRINGS" "Z", .fieldLink "java/lang/String" 15 "java/lang/String" "coder" "B"]
def tab : Cond := tabOf yN yB 1 (some .boolean) site
def P (x : Addr) (cd z : Int32) (args : Array Value) (s : State) : Prop := args = #[.ref x] ∧ Has x "java/lang/String" "coder" "B" (.int cd) s ∧ (cd = 0 ∨ cd = 1) ∧ StaticIs s "java/lang/String" "COMPACT_STRINGS" "Z" (.int z) ∧ ¬ z = 0
def E (cd : Int32) (r : Option Value) (s u : State) : Prop := XT.PureE (some (.int (1 - cd))) r s u
theorem law (l : Launch) (x : Addr) (cd z : Int32) : Law l yN 1 0 0 0 yB 1 (some .boolean) site (P x cd z) (E cd) [] 0 0 := by
  refine Law.of_walk (plainFor_of_name (by decide +kernel)) (by decide +kernel) (by decide +kernel) (by decide) (fun _ _ h => by rw [h.1]; rfl) (fun _ U U' hal hh h => ⟨h.1, h.2.1.mv hal hh, h.2.2.1, h.2.2.2.1.there hal hh, h.2.2.2.2⟩) (fun r U U' V V' h1 hal h2 h => XT.PureE.mv r U U' V V' h1 hal h2 h) ?_
  intro p e s m args below meth c s₁ X0 hexec hbytes hml hret hlk hnm hown hh0 W hP
  obtain ⟨rfl, hx, hc, s1, hz⟩ := hP
  have c1 : Steps p.tables e below (s₁.setTop (entryFrame m #[.ref x] 1)) (s₁.setTop (mkF m 0 #[.val (.ref x)] [])) := entry rfl
  obtain ⟨T2, X2, q2, st2⟩ := X0.sget hexec hown (wk W (.fieldLink "java/lang/String" 38 "java/lang/String" "COMPACT_STRINGS" "Z")) s1 (fun _ _ h => by rw [hh0]; exact h) (g := (mkF m 0 #[.val (.ref x)] [])) rfl (hb hbytes d0)
  have hh2 := q2.trans hh0
  have c3 : Steps p.tables e below (s₁.setTop (entryFrame m #[.ref x] 1)) (T2.setTop (mkF m 7 #[.val (.ref x)] [.ref x])) := (c1.trans (st2 _ (Steps.refl _))).trans (by
    refine XS.ifNo X2.here hexec rfl (hb hbytes d3) rfl (i0_eq_f hz) ?_
    refine XS.aloadN X2.here hexec rfl (hb hbytes d6) rfl rfl ?_
    exact Steps.refl _)
  obtain ⟨T4, X4, q4, st4⟩ := X2.hget hexec hown (wk W (.fieldLink "java/lang/String" 15 "java/lang/String" "coder" "B")) (hx.mv X2.warmed.alike hh2) (g := (mkF m 7 #[.val (.ref x)] [.ref x])) rfl (rest := []) rfl (hb hbytes d7)
  have c5 : Steps p.tables e below (s₁.setTop (entryFrame m #[.ref x] 1)) (T4.setTop (mkF m 10 #[.val (.ref x)] [.int cd])) := c3.trans (st4 _ (Steps.refl _))
  have c6 : Steps p.tables e below (s₁.setTop (entryFrame m #[.ref x] 1)) (T4.setTop (mkF m 18 #[.val (.ref x)] [.int (1 - cd)])) := by
    rcases hc with rfl | rfl
    · exact c5.trans (by
        refine XS.ifNo X4.here hexec rfl (hb hbytes d10) rfl (i0_ne_f rfl) ?_
        refine iconstV X4.here hexec rfl 1 (hb hbytes d13) (by decide) ?_
        refine XS.goto X4.here hexec rfl (pc0 := 14) rfl (hb hbytes d14) (by decide) rfl ?_
        exact Steps.refl _)
    · exact c5.trans (by
        refine XS.ifYes X4.here hexec rfl (pc0 := 10) rfl (hb hbytes d10) rfl (i0_ne_t (by decide)) (by decide) rfl ?_
        refine iconstV X4.here hexec rfl 0 (hb hbytes d17) (by decide) ?_
        exact Steps.refl _)
  exact ⟨T4, some (.int (1 - cd)), _, _, _, X4, rfl, rfl, rfl, (fun h => by cases h), ⟨rfl, q4.trans hh2⟩, fun fs hl => c6.trans (X4.ireturnOut hexec hret (by rcases hc with rfl | rfl <;> rfl) (Or.inr (Or.inl rfl)) (hb hbytes d18) hl)⟩
end IsL
namespace LChA
def yN : MethodName := ⟨"java/lang/StringLatin1", "charAt", "([BI)C"⟩
abbrev yB : ByteArray := jdk_43_method_2_code
theorem d0 : decode yB 0 = .ok (.iload_n 1, 1) := by decide +kernel
theorem d1 : decode yB 1 = .ok (.aload_n 0, 1) := by decide +kernel
theorem d2 : decode yB 2 = .ok (.arraylength, 1) := by decide +kernel
theorem d3 : decode yB 3 = .ok (.invokestatic 9, 3) := by decide +kernel
theorem d6 : decode yB 6 = .ok (.aload_n 0, 1) := by decide +kernel
theorem d7 : decode yB 7 = .ok (.iload_n 1, 1) := by decide +kernel
theorem d8 : decode yB 8 = .ok (.baload, 1) := by decide +kernel
theorem d9 : decode yB 9 = .ok (.sipush 255, 3) := by decide +kernel
theorem d12 : decode yB 12 = .ok (.iand, 1) := by decide +kernel
theorem d13 : decode yB 13 = .ok (.i2c, 1) := by decide +kernel
theorem d14 : decode yB 14 = .ok (.ireturn, 1) := by decide +kernel
def site : List Cond := [JO.Str_checkIndex.tab] ++ staticW "java/lang/StringLatin1" 9 JO.Str_checkIndex.yN
def tab : Cond := tabOf yN yB 2 (some .char) site
def P (t : Addr) (V : Cell) (i : Nat) (u : Int32) (fm : Value) (args : Array Value) (s : State) : Prop := args = #[.ref t, .int (Int32.ofNat i)] ∧ XT.Arr .byte t V s ∧ V.slots[i]? = some (.int u) ∧ (StaticIs s "jdk/internal/util/Preconditions" "SIOOBE_FORMATTER" "Ljava/util/function/BiFunction;" fm ∧ fm.isRef = true)
def E (u : Int32) (r : Option Value) (s w : State) : Prop := XT.PureE (some (.int (chr8 u))) r s w
theorem law (l : Launch) (t : Addr) (V : Cell) (i : Nat) (u : Int32) (fm : Value) : Law l yN 2 2 2 27 yB 2 (some .char) site (P t V i u fm) (E u) [] 0 0 := by
  refine Law.of_walk (plainFor_of_name (by decide +kernel)) (by decide +kernel) (by decide +kernel) (by decide) (fun _ _ h => by rw [h.1]; rfl) (fun _ U U' hal hh h => ⟨h.1, h.2.1.mv hal hh, h.2.2.1, h.2.2.2.1.there hal hh, h.2.2.2.2⟩) (fun r U U' V V' h1 hal h2 h => XT.PureE.mv r U U' V V' h1 hal h2 h) ?_
  intro p e s m args below meth c s₁ X0 hexec hbytes hml hret hlk hnm hown hh0 W hP
  obtain ⟨rfl, hV, hu, s1, rf⟩ := hP
  have v31 := hV.2.2.2
  have hi : i < V.slots.size := (Array.getElem?_eq_some_iff.mp hu).1
  have c1 : Steps p.tables e below (s₁.setTop (entryFrame m #[.ref t, .int (Int32.ofNat i)] 2)) (s₁.setTop (mkF m 0 #[.val (.ref t), .val (.int (Int32.ofNat i))] [])) := entry rfl
  have c2 : Steps p.tables e below (s₁.setTop (entryFrame m #[.ref t, .int (Int32.ofNat i)] 2)) (s₁.setTop (mkF m 3 #[.val (.ref t), .val (.int (Int32.ofNat i))] [.int (Int32.ofNat V.slots.size), .int (Int32.ofNat i)])) := c1.trans (by
    refine XS.iloadN X0.here hexec rfl (hb hbytes d0) rfl ?_
    refine XS.aloadN X0.here hexec rfl (hb hbytes d1) rfl rfl ?_
    refine X0.alen hexec (hV.mv X0.warmed.alike hh0) rfl rfl (hb hbytes d2) ?_
    exact Steps.refl _)
  obtain ⟨v3, T3, X3, E3, g3⟩ := X0.callS hexec (JO.Str_checkIndex.law l (Int32.ofNat i) (Int32.ofNat V.slots.size) fm) hown (wks W (staticW "java/lang/StringLatin1" 9 JO.Str_checkIndex.yN)) (wk W JO.Str_checkIndex.tab) (W := 0) (Nat.le_of_ble_eq_true rfl) (Nat.le_of_ble_eq_true rfl) (Nat.le_refl _) (Nat.le_refl _) (g := (mkF m 3 #[.val (.ref t), .val (.int (Int32.ofNat i))] [.int (Int32.ofNat V.slots.size), .int (Int32.ofNat i)])) rfl (by rw [hml]; rfl) c2 (argsL := [.int (Int32.ofNat i), .int (Int32.ofNat V.slots.size)]) (rest := []) rfl rfl (by show 2 * 0 + 0 ≤ _; decide) (hb hbytes d3) (⟨rfl, rf, s1.there X0.warmed.alike hh0, Int32.ofNat_not_neg (by omega), lt32 v31 hi⟩)
  obtain ⟨rfl, q3⟩ := E3
  have hh3 := q3.trans hh0
  have c4 : Steps p.tables e below (s₁.setTop (entryFrame m #[.ref t, .int (Int32.ofNat i)] 2)) (T3.setTop (mkF m 14 #[.val (.ref t), .val (.int (Int32.ofNat i))] [.int (chr8 u)])) := Steps.trans g3 (by
    refine XS.aloadN X3.here hexec rfl (hb hbytes d6) rfl rfl ?_
    refine XS.iloadN X3.here hexec rfl (hb hbytes d7) rfl ?_
    refine X3.aget hexec (hV.mv X3.warmed.alike hh3) rfl hu rfl rfl (hb hbytes d8) ?_
    refine sipushV X3.here hexec rfl 255 (hb hbytes d9) (by decide) ?_
    refine XS.iand X3.here hexec rfl (hb hbytes d12) rfl ?_
    refine i2c X3.here hexec rfl (hb hbytes d13) rfl ?_
    exact Steps.refl _)
  exact ⟨T3, some (.int (chr8 u)), _, _, _, X3, rfl, rfl, rfl, (fun h => by cases h), ⟨rfl, hh3⟩, fun fs hl => c4.trans (X3.ireturnOut hexec hret (narrow_c _) (Or.inr (Or.inr (Or.inr (Or.inl rfl)))) (hb hbytes d14) hl)⟩
end LChA
end StrChars
namespace StrChars.Road
open Jvm Sem ClassFile Op Lib Jvm.Stand Jvm.Free Jvm.Free.XT
open Jvm.Lib.Cold (StaticIs)
theorem consq {a : Array Value} {s : State} {c : Jvm.Cond} {L : List Jvm.Cond} (h0 : c.before a s = true) (h : ∀ w ∈ L, w.before a s = true) : ∀ w ∈ c :: L, w.before a s = true := fun w hw => (List.mem_cons.mp hw).elim (fun e => e ▸ h0) (h w)
/-- the words of String.length(), either coding -/
abbrev wordsLen : List Jvm.Cond := [.code Len.yN Len.yB 1 (some .int), .initialized ST, .fieldLink ST 9 ST "value" "[B", .fieldLink ST 38 ST "COMPACT_STRINGS" "Z", .fieldLink ST 15 ST "coder" "B", .code Cdr.yN Cdr.yB 1 (some .byte), .methodLink ST 335 Cdr.yN, .declares Cdr.yN, .selects ST Cdr.yN Cdr.yN, .instanceMethod Cdr.yN]
theorem tabLen_of {a : Array Value} {s : State} (h : ∀ w ∈ wordsLen, w.before a s = true) : Len.tab.before a s = true := by
  have hc : Cdr.tab.before a s = true := unparts (wk h (.code Cdr.yN Cdr.yB 1 (some .byte))) (wks h (.initialized Cdr.yN.cls :: Cdr.site))
  have q := consq hc h
  exact unparts (wk q (.code Len.yN Len.yB 1 (some .int))) (wks q (.initialized Len.yN.cls :: Len.site))
theorem movedLen {Z s : State} {a0 args : Array Value} (hZ : Z.Warmed39 s.vm) (hw : ∀ d ∈ wordsLen, d.before a0 Z = true) : ∀ d ∈ wordsLen, d.before args s = true := fun d hd => by
  have q := hw d hd
  have t : ∀ d ∈ wordsLen, d = .arrayClass .byte ∨ (d.onTables && d.keepsFace) = true := by decide +kernel
  rcases t d hd with rfl | t
  · exact RoadKit.mvA hZ q
  · exact RoadKit.mv hZ q t
/-- the bytes of the chars cs, low before high -/
def wideBytes : List Int32 → List Value
  | [] => []
  | c :: cs => .int (lo8 c) :: .int (hi8 c) :: wideBytes cs
theorem wide_lo (d : Value) : ∀ (cs : List Int32) (j : Nat), j < cs.length → (wideBytes cs).getD (2 * j) d = .int (lo8 (cs.getD j 0))
  | [], j, h => absurd h (Nat.not_lt_zero j)
  | c :: cs, 0, _ => rfl
  | c :: cs, j + 1, h => by
    have q := wide_lo d cs j (by simpa using h)
    rw [show 2 * (j + 1) = 2 * j + 1 + 1 from by omega]
    simpa [wideBytes] using q
theorem wide_hi (d : Value) : ∀ (cs : List Int32) (j : Nat), j < cs.length → (wideBytes cs).getD (2 * j + 1) d = .int (hi8 (cs.getD j 0))
  | [], j, h => absurd h (Nat.not_lt_zero j)
  | c :: cs, 0, _ => rfl
  | c :: cs, j + 1, h => by
    have q := wide_hi d cs j (by simpa using h)
    rw [show 2 * (j + 1) + 1 = 2 * j + 1 + 1 + 1 from by omega]
    simpa [wideBytes] using q
theorem low_at (d : Value) (cs : List Int32) (j : Nat) (h : j < cs.length) : (cs.map fun c => Value.int (lo8 c)).getD j d = .int (lo8 (cs.getD j 0)) := by
  simp [List.getD_eq_getElem?_getD, h]
/-- an array of N2 bytes vs codes the chars cs by the coder cd -/
def CodA (cs : List Int32) (cd N2 : Int32) (vs : List Value) : Prop := (cd = 0 ∧ N2 = Int32.ofNat cs.length ∧ vs = (cs.map fun c => Value.int (lo8 c)) ∧ ∀ c ∈ cs, ¬ 255 < c) ∨ (cd = 1 ∧ N2 = Int32.ofNat (2 * cs.length) ∧ vs = wideBytes cs ∧ ∃ c ∈ cs, 255 < c)
theorem CodA.cod {cs : List Int32} {cd N2 : Int32} {vs : List Value} {V : Cell} (h : CodA cs cd N2 vs) (hn : 2 * cs.length < 2 ^ 31) (hs : V.slots.size = N2.toNatClampNeg) (hv : RoadKit.Has V vs (.int 0)) : Cod cd cs.length (fun j => cs.getD j 0) V := by
  rcases h with ⟨rfl, rfl, rfl, h⟩ | ⟨rfl, rfl, rfl, c, hc, hw⟩
  · rw [n32 (by omega)] at hs
    exact Or.inl ⟨rfl, hs, fun j hj => ⟨by rw [hv j (by omega), low_at _ _ _ hj], by
      have e : cs.getD j 0 = cs[j] := by simp [List.getD_eq_getElem?_getD, hj]
      show ¬ 255 < cs.getD j 0
      rw [e]; exact h _ (List.getElem_mem _)⟩⟩
  · rw [n32 (by omega)] at hs
    obtain ⟨j, hj, rfl⟩ := List.getElem_of_mem hc
    exact Or.inr ⟨rfl, hs, fun j hj => ⟨by rw [hv _ (by omega), wide_lo _ _ _ hj], by rw [hv _ (by omega), wide_hi _ _ _ hj]⟩, j, hj, by
      have e : cs.getD j 0 = cs[j] := by simp [List.getD_eq_getElem?_getD, hj]
      show 255 < cs.getD j 0
      rw [e]; exact hw⟩
/-- an object of exactly java/lang/String, its two fields found: as the laws ask it -/
theorem strObj {Z U : State} {a0 : Array Value} {kI : Nat} (wi : (Jvm.Cond.instantiable ST kI).before a0 Z = true) (al : Z.vm.Alike U.vm) {x : Addr} {v0 c0 : Value} (E : RoadKit.Exa Z U.heap x ST) (V : RoadKit.Fld Z U.heap x ST "value" "[B" v0) (C : RoadKit.Fld Z U.heap x ST "coder" "B" c0) :
    ∃ (D : Cell) (fV fC : Field), Blank ST x D U ∧ Found ST "value" "[B" fV U ∧ Found ST "coder" "B" fC U ∧ D.slots[fV.slot]? = some v0 ∧ D.slots[fC.slot]? = some c0 ∧ RoadKit.slotOf Z ST "value" "[B" = fV.slot ∧ RoadKit.slotOf Z ST "coder" "B" = fC.slot := by
  obtain ⟨D, cfV, kV, iV, fV, hD, gV, stV, knV, obV, asV, slV⟩ := V
  obtain ⟨D', cfC, kC, iC, fC, hD', gC, stC, -, -, asC, slC⟩ := C
  cases hD.symm.trans hD'
  obtain ⟨D2, kD, e1, e2, e3, e4, e5⟩ := E
  cases hD.symm.trans e1
  obtain ⟨c2, k2, i1, i2, i3, -⟩ := Cond.instantiable_spec wi
  cases e2.symm.trans i1
  cases e3.symm.trans i2
  obtain ⟨kU, u1, u2⟩ := al.2.2 _ _ e3
  exact ⟨D, fV, fC, ⟨hD, ⟨knV, fun q hq => by rw [hq] at obV; cases obV⟩, by rw [al.findClass]; exact e2, kU, u1, by rw [u2]; exact i3, by rw [u2]; exact e5 i3⟩, ⟨SBG.found_only al ⟨cfV, kV, iV, gV⟩, stV⟩, ⟨SBG.found_only al ⟨cfC, kC, iC, gC⟩, stC⟩, slV, slC, by simp [RoadKit.slotOf, gV], by simp [RoadKit.slotOf, gC]⟩
theorem sta_is {Z U : State} (al : Z.vm.Alike U.vm) {C n d : String} {v : Value} (S : RoadKit.Sta Z U.heap C n d v) : StaticIs U C n d v := by
  obtain ⟨cfS, iS, kS, fS, st, cS, t1, t2, t3, t4, t5, t6, t7⟩ := S
  exact StaticIs.there (s := { Z with heap := U.heap }) ⟨cfS, iS, kS, fS, st, cS, t1, t2, t3, t4, t5, (fun q => by rw [q] at t6; cases t6), t7⟩ al rfl
/-- **length() OF SUCH A STRING** -/
theorem lenW {p : Program} {l : Launch} {e : Env} {R : Room} {s : State} {args : Array Value} {below : List Frame} {len W : Nat} {Z : State} {a0 : Array Value} {h : Heap} (hZ : Z.Warmed39 s.vm) (hw : ∀ d ∈ wordsLen, d.before a0 Z = true) {kI : Nat} (wi : (Jvm.Cond.instantiable ST kI).before a0 Z = true)
    {x t : Addr} {kb : ClassId} {cs : List Int32} {cd N2 z : Int32} {vs : List Value} (E : RoadKit.Exa Z h x ST) (V : RoadKit.Fld Z h x ST "value" "[B" (.ref t)) (C : RoadKit.Fld Z h x ST "coder" "B" (.int cd)) (K : RoadKit.Arv Z h t kb .byte N2 vs (.int 0)) (hc : CodA cs cd N2 vs) (hb : ∀ c ∈ cs, ¬ c < 0 ∧ ¬ (65535 : Int32) < c)
    (S : RoadKit.Sta Z h ST "COMPACT_STRINGS" "Z" (.int z)) (hz : ¬ z = 0) (l2 : cs.length ≤ 4000) (hfr : 2 ≤ R.frames) (hlo : W + 25 ≤ R.locals) :
    Back l R p e below s args (⟨"java/lang/String", "length", "()I"⟩ : MethodName) len W (fun P a => a = #[.ref x] ∧ P.U.heap = h ∧ P.cells + 0 ≤ R.cells ∧ P.slots + 0 ≤ R.slots)
      (fun P _ v B => ∃ L, (v = some (.int (Int32.ofNat cs.length)) ∧ L = [] ∧ B.U.heap = h) ∧ B.locs = P.locs ++ L ∧ B.cells = P.cells + 0 ∧ B.slots = P.slots + 0) := by
  obtain ⟨A, K1, K2, K3, K4, K5, K6⟩ := K
  have hcod := hc.cod (by omega) K3 K5
  intro m meth c P g ig mk a X hg hsize hdg hW hn hp'
  obtain ⟨rfl, rfl, r1, r2⟩ := hp'
  have al : Z.vm.Alike P.U.vm := hZ.alike.trans X.warmed.alike
  obtain ⟨D, fV, fC, hB, F1, F2, g1, g2, -, -⟩ := strObj wi al E V C
  have hx : Txt x t A cd cs.length (fun j => cs.getD j 0) P.U := ⟨⟨_, hB.2.2.1, D, hB.1, rfl, by cases q : D.vm <;> first | rfl | exact absurd q (hB.2.1.2 _)⟩, Has.of hB F1 g1, Has.of hB F2 g2, ⟨K1.1, State.isArrayOf_alike al K1.2.1, K1.2.2, by rcases hcod with ⟨-, q, -⟩ | ⟨-, q, -⟩ <;> omega⟩, hcod, fun j hj => by
    have e : cs.getD j 0 = cs[j] := by simp [List.getD_eq_getElem?_getD, hj]
    show ¬ cs.getD j 0 < 0 ∧ ¬ 65535 < cs.getD j 0
    rw [e]; exact hb _ (List.getElem_mem _)⟩
  obtain ⟨v, B, X', ⟨⟨hv, hh⟩, hl, hk, hs⟩, st⟩ := Len.pays x t A cd cs.length (fun j => cs.getD j 0) z (tabLen_of (movedLen hZ hw)) hfr hlo m meth c P g ig mk _ X hg hsize hdg hW hn ⟨r1, r2, rfl, hx, sta_is al S, hz⟩
  exact ⟨v, B, X', ⟨[], ⟨hv, rfl, hh⟩, hl, hk, hs⟩, st⟩
end StrChars.Road
namespace StrChars.Road
open Jvm Sem ClassFile Op Lib Jvm.Stand Jvm.Free Jvm.Free.XT
open Jvm.Lib.Cold (StaticIs)
/-- the road's facts of a String, as the laws ask it -/
theorem txt_of {Z U : State} {a0 : Array Value} {kI : Nat} (wi : (Jvm.Cond.instantiable ST kI).before a0 Z = true) (al : Z.vm.Alike U.vm) {x t : Addr} {kb : ClassId} {cs : List Int32} {cd N2 : Int32} {vs : List Value} (E : RoadKit.Exa Z U.heap x ST) (V : RoadKit.Fld Z U.heap x ST "value" "[B" (.ref t)) (C : RoadKit.Fld Z U.heap x ST "coder" "B" (.int cd)) (K : RoadKit.Arv Z U.heap t kb .byte N2 vs (.int 0)) (hc : CodA cs cd N2 vs) (hb : ∀ c ∈ cs, ¬ c < 0 ∧ ¬ (65535 : Int32) < c) (l2 : cs.length ≤ 4000) :
    ∃ A, Txt x t A cd cs.length (fun j => cs.getD j 0) U := by
  obtain ⟨A, K1, K2, K3, K4, K5, K6⟩ := K
  have hcod := hc.cod (by omega) K3 K5
  obtain ⟨D, fV, fC, hB, F1, F2, g1, g2, -, -⟩ := strObj wi al E V C
  exact ⟨A, ⟨_, hB.2.2.1, D, hB.1, rfl, by cases q : D.vm <;> first | rfl | exact absurd q (hB.2.1.2 _)⟩, Has.of hB F1 g1, Has.of hB F2 g2, ⟨K1.1, State.isArrayOf_alike al K1.2.1, K1.2.2, by rcases hcod with ⟨-, q, -⟩ | ⟨-, q, -⟩ <;> omega⟩, hcod, fun j hj => by
    have e : cs.getD j 0 = cs[j] := by simp [List.getD_eq_getElem?_getD, hj]
    show ¬ cs.getD j 0 < 0 ∧ ¬ 65535 < cs.getD j 0
    rw [e]; exact hb _ (List.getElem_mem _)⟩
end StrChars.Road
namespace StrChars
open Jvm Sem ClassFile Op Lib Jvm.Stand Jvm.Free.XT Jvm.Free.ALB Jvm.Free.JM Jvm.Free
open Jvm.Lib.Cold (StaticIs)
namespace ChN
def yN : MethodName := ⟨"java/lang/String", "charAt", "(I)C"⟩
abbrev yB : ByteArray := jdk_42_method_56_code
theorem d0 : decode yB 0 = .ok (.aload_n 0, 1) := by decide +kernel
theorem d1 : decode yB 1 = .ok (.invokevirtual 492, 3) := by decide +kernel
theorem d4 : decode yB 4 = .ok (.ifCond (.eq) 12, 3) := by decide +kernel
theorem d7 : decode yB 7 = .ok (.aload_n 0, 1) := by decide +kernel
theorem d8 : decode yB 8 = .ok (.getfield 9, 3) := by decide +kernel
theorem d11 : decode yB 11 = .ok (.iload_n 1, 1) := by decide +kernel
theorem d12 : decode yB 12 = .ok (.invokestatic 495, 3) := by decide +kernel
theorem d15 : decode yB 15 = .ok (.ireturn, 1) := by decide +kernel
def site : List Cond := [.fieldLink "java/lang/String" 9 "java/lang/String" "value" "[B", IsL.tab, LChA.tab] ++ virtW "java/lang/String" 492 "java/lang/String" IsL.yN IsL.yN ++ staticW "java/lang/String" 495 LChA.yN
def tab : Cond := tabOf yN yB 2 (some .char) site
def P (x t : Addr) (V : Cell) (n : Nat) (f : Nat → Int32) (z : Int32) (fm : Value) (i : Nat) (args : Array Value) (s : State) : Prop := args = #[.ref x, .int (Int32.ofNat i)] ∧ Txt x t V 0 n f s ∧ i < n ∧ StaticIs s "java/lang/String" "COMPACT_STRINGS" "Z" (.int z) ∧ ¬ z = 0 ∧ StaticIs s "jdk/internal/util/Preconditions" "SIOOBE_FORMATTER" "Ljava/util/function/BiFunction;" fm ∧ fm.isRef = true
def E (f : Nat → Int32) (i : Nat) (r : Option Value) (s u : State) : Prop := XT.PureE (some (.int (f i))) r s u
/-- charAt(i) of a Latin-1 String of n chars, i < n: f i -/
theorem law (l : Launch) (x t : Addr) (V : Cell) (n : Nat) (f : Nat → Int32) (z : Int32) (fm : Value) (i : Nat) : Law l yN 2 1 3 40 yB 2 (some .char) site (P x t V n f z fm i) (E f i) [] 0 0 := by
  refine Law.of_walk (plainFor_of_name (by decide +kernel)) (by decide +kernel) (by decide +kernel) (by decide) (fun _ _ h => by rw [h.1]; rfl) (fun _ U U' hal hh h => ⟨h.1, h.2.1.mv hal hh, h.2.2.1, h.2.2.2.1.there hal hh, h.2.2.2.2.1, h.2.2.2.2.2.1.there hal hh, h.2.2.2.2.2.2⟩) (fun r U U' V V' h1 hal h2 h => XT.PureE.mv r U U' V V' h1 hal h2 h) ?_
  intro p e s m args below meth c s₁ X0 hexec hbytes hml hret hlk hnm hown hh0 W hP
  obtain ⟨rfl, hx, hi, s1, hz, s3, rf⟩ := hP
  have v31 := hx.2.2.2.1.2.2.2
  have hr := hx.2.2.2.2.2 i hi
  have hx0 := hx.mv X0.warmed.alike hh0
  have c1 : Steps p.tables e below (s₁.setTop (entryFrame m #[.ref x, .int (Int32.ofNat i)] 2)) (s₁.setTop (mkF m 1 #[.val (.ref x), .val (.int (Int32.ofNat i))] [.ref x])) := Steps.trans (entry rfl) (by
    show Steps p.tables e below (s₁.setTop (mkF m 0 #[.val (.ref x), .val (.int (Int32.ofNat i))] [])) _
    refine XS.aloadN X0.here hexec rfl (hb hbytes d0) rfl rfl ?_
    exact Steps.refl _)
  obtain ⟨v2, T2, X2, E2, g2⟩ := X0.callV hexec (IsL.law l x 0 z) hown (wks W (virtW "java/lang/String" 492 "java/lang/String" IsL.yN IsL.yN)) rfl (by decide) (wk W IsL.tab) (W := 0) (Nat.le_of_ble_eq_true rfl) (Nat.le_of_ble_eq_true rfl) (Nat.le_refl _) (Nat.le_refl _) (hx0.1.fc X0.warmed.alike) hx0.1.is (g := (mkF m 1 #[.val (.ref x), .val (.int (Int32.ofNat i))] [.ref x])) rfl (by rw [hml]; rfl) c1 (argsL := []) (rest := []) rfl rfl (by show 2 * 0 + 0 ≤ _; decide) (hb hbytes d1) (⟨rfl, hx0.2.2.1, hx.2.2.2.2.1.cd, s1.there X0.warmed.alike hh0, hz⟩)
  obtain ⟨rfl, q2⟩ := E2
  have hh2 := q2.trans hh0
  have hx2 := hx.mv X2.warmed.alike hh2
  obtain ⟨-, k1, k2⟩ | ⟨k0, -⟩ := hx.2.2.2.2.1
  · have c3 : Steps p.tables e below (s₁.setTop (entryFrame m #[.ref x, .int (Int32.ofNat i)] 2)) (T2.setTop (mkF m 8 #[.val (.ref x), .val (.int (Int32.ofNat i))] [.ref x])) := Steps.trans g2 (by
      refine XS.ifNo X2.here hexec rfl (hb hbytes d4) rfl (i0_eq_f (by decide)) ?_
      refine XS.aloadN X2.here hexec rfl (hb hbytes d7) rfl rfl ?_
      exact Steps.refl _)
    obtain ⟨T4, X4, q4, st4⟩ := X2.hget hexec hown (wk W (.fieldLink "java/lang/String" 9 "java/lang/String" "value" "[B")) hx2.2.1 (g := (mkF m 8 #[.val (.ref x), .val (.int (Int32.ofNat i))] [.ref x])) rfl (rest := []) rfl (hb hbytes d8)
    have hh4 := q4.trans hh2
    have c5 : Steps p.tables e below (s₁.setTop (entryFrame m #[.ref x, .int (Int32.ofNat i)] 2)) (T4.setTop (mkF m 12 #[.val (.ref x), .val (.int (Int32.ofNat i))] [.int (Int32.ofNat i), .ref t])) := (c3.trans (st4 _ (Steps.refl _))).trans (by
      refine XS.iloadN X4.here hexec rfl (hb hbytes d11) rfl ?_
      exact Steps.refl _)
    obtain ⟨v6, T6, X6, E6, g6⟩ := X4.callS hexec (LChA.law l t V i (lo8 (f i)) fm) hown (wks W (staticW "java/lang/String" 495 LChA.yN)) (wk W LChA.tab) (W := 0) (Nat.le_of_ble_eq_true rfl) (Nat.le_of_ble_eq_true rfl) (Nat.le_refl _) (Nat.le_refl _) (g := (mkF m 12 #[.val (.ref x), .val (.int (Int32.ofNat i))] [.int (Int32.ofNat i), .ref t])) rfl (by rw [hml]; rfl) c5 (argsL := [.ref t, .int (Int32.ofNat i)]) (rest := []) rfl rfl (by show 2 * 0 + 0 ≤ _; decide) (hb hbytes d12) (⟨rfl, hx.2.2.2.1.mv X4.warmed.alike hh4, (k2 i hi).1, s3.there X4.warmed.alike hh4, rf⟩)
    obtain ⟨rfl, q6⟩ := E6
    rw [chr8_lo8 hr.1 (k2 i hi).2] at g6
    exact ⟨T6, some (.int (f i)), _, _, _, X6, rfl, rfl, rfl, (fun h => by cases h), ⟨rfl, q6.trans hh4⟩, fun fs hl => Steps.trans g6 (X6.ireturnOut hexec hret (narrow_ch hr.1 hr.2) (Or.inr (Or.inr (Or.inr (Or.inl rfl)))) (hb hbytes d15) hl)⟩
  · exact absurd k0 (by decide)
theorem pays {l : Launch} {R : Room} {p : Program} {e : Env} {below : List Frame} {s : State} {sargs : Array Value} {len W : Nat} (x t : Addr) (V : Cell) (n : Nat) (f : Nat → Int32) (z : Int32) (fm : Value) (i : Nat) (htab : tab.before sargs s = true) (hfr : 4 ≤ R.frames) (hlo : W + 53 ≤ R.locals) :
    Back l R p e below s sargs yN len W (fun A₁ a₁ => A₁.cells + 0 ≤ R.cells ∧ A₁.slots + 0 ≤ R.slots ∧ P x t V n f z fm i a₁ A₁.U) (fun A₁ _ v₁ B₁ => E f i v₁ A₁.U B₁.U ∧ B₁.locs = A₁.locs ++ [] ∧ B₁.cells = A₁.cells + 0 ∧ B₁.slots = A₁.slots + 0) :=
  (law l x t V n f z fm i).pays htab hfr (by omega)
end ChN
end StrChars
namespace StrChars.Road
open Jvm Sem ClassFile Op Lib Jvm.Stand Jvm.Free Jvm.Free.XT
open Jvm.Lib.Cold (StaticIs)
/-- the words of String.charAt(int), the Latin-1 road alone -/
abbrev wordsChN : List Jvm.Cond := [.code ChN.yN ChN.yB 2 (some .char), .initialized ST, .fieldLink ST 9 ST "value" "[B", .fieldLink ST 38 ST "COMPACT_STRINGS" "Z", .fieldLink ST 15 ST "coder" "B", .code IsL.yN IsL.yB 1 (some .boolean), .methodLink ST 492 IsL.yN, .declares IsL.yN, .selects ST IsL.yN IsL.yN, .instanceMethod IsL.yN,
  .methodLink ST 495 LChA.yN, .static LChA.yN, .code LChA.yN LChA.yB 2 (some .char), .initialized "java/lang/StringLatin1", .methodLink "java/lang/StringLatin1" 9 JO.Str_checkIndex.yN, .static JO.Str_checkIndex.yN, .code JO.Str_checkIndex.yN JO.Str_checkIndex.yB 2 none,
  .fieldLink ST 1053 "jdk/internal/util/Preconditions" "SIOOBE_FORMATTER" "Ljava/util/function/BiFunction;", .methodLink ST 1059 JC.PreCheck.yN, .static JC.PreCheck.yN, .code JC.PreCheck.yN JC.PreCheck.yB 3 (some .int), .initialized "jdk/internal/util/Preconditions"]
theorem tabChN_of {a : Array Value} {s : State} (h : ∀ w ∈ wordsChN, w.before a s = true) : ChN.tab.before a s = true := by
  have hp : JC.PreCheck.tab.before a s = true := unparts (wk h (.code JC.PreCheck.yN JC.PreCheck.yB 3 (some .int))) (wks h (.initialized JC.PreCheck.yN.cls :: JC.PreCheck.site))
  have qk := consq hp h
  have hk : JO.Str_checkIndex.tab.before a s = true := unparts (wk qk (.code JO.Str_checkIndex.yN JO.Str_checkIndex.yB 2 none)) (wks qk (.initialized JO.Str_checkIndex.yN.cls :: JO.Str_checkIndex.site))
  have ql := consq hk h
  have hl : LChA.tab.before a s = true := unparts (wk ql (.code LChA.yN LChA.yB 2 (some .char))) (wks ql (.initialized LChA.yN.cls :: LChA.site))
  have hi : IsL.tab.before a s = true := unparts (wk h (.code IsL.yN IsL.yB 1 (some .boolean))) (wks h (.initialized IsL.yN.cls :: IsL.site))
  have q := consq hi (consq hl h)
  exact unparts (wk q (.code ChN.yN ChN.yB 2 (some .char))) (wks q (.initialized ChN.yN.cls :: ChN.site))
theorem movedChN {Z s : State} {a0 args : Array Value} (hZ : Z.Warmed39 s.vm) (hw : ∀ d ∈ wordsChN, d.before a0 Z = true) : ∀ d ∈ wordsChN, d.before args s = true := fun d hd => by
  have t : ∀ d ∈ wordsChN, (d.onTables && d.keepsFace) = true := by decide +kernel
  exact RoadKit.mv hZ (hw d hd) (t d hd)
/-- **charAt(i) OF A LATIN-1 STRING**, i < n: the char -/
theorem chN {p : Program} {l : Launch} {e : Env} {R : Room} {s : State} {args : Array Value} {below : List Frame} {len W : Nat} {Z : State} {a0 : Array Value} {h : Heap} (hZ : Z.Warmed39 s.vm) (hw : ∀ d ∈ wordsChN, d.before a0 Z = true) {kI : Nat} (wi : (Jvm.Cond.instantiable ST kI).before a0 Z = true)
    {x t : Addr} {kb : ClassId} {cs : List Int32} {N2 z : Int32} {vs : List Value} {fm : Value} {i : Nat} {j : Int32} (E : RoadKit.Exa Z h x ST) (V : RoadKit.Fld Z h x ST "value" "[B" (.ref t)) (C : RoadKit.Fld Z h x ST "coder" "B" (.int 0)) (K : RoadKit.Arv Z h t kb .byte N2 vs (.int 0)) (hc : CodA cs 0 N2 vs) (hb : ∀ c ∈ cs, ¬ c < 0 ∧ ¬ (65535 : Int32) < c)
    (S : RoadKit.Sta Z h ST "COMPACT_STRINGS" "Z" (.int z)) (hz : ¬ z = 0) (F : RoadKit.Sta Z h "jdk/internal/util/Preconditions" "SIOOBE_FORMATTER" "Ljava/util/function/BiFunction;" fm) (rf : fm.isRef = true) (l2 : cs.length ≤ 4000) (hi : i < cs.length) (hj : j = Int32.ofNat i) (hfr : 4 ≤ R.frames) (hlo : W + 53 ≤ R.locals) :
    Back l R p e below s args (⟨"java/lang/String", "charAt", "(I)C"⟩ : MethodName) len W (fun P a => a = #[.ref x, .int j] ∧ P.U.heap = h ∧ P.cells + 0 ≤ R.cells ∧ P.slots + 0 ≤ R.slots)
      (fun P _ v B => ∃ L, (v = some (.int (cs.getD i 0)) ∧ L = [] ∧ B.U.heap = h) ∧ B.locs = P.locs ++ L ∧ B.cells = P.cells + 0 ∧ B.slots = P.slots + 0) := by
  subst hj
  intro m meth c P g ig mk a X hg hsize hdg hW hn hp'
  obtain ⟨rfl, rfl, r1, r2⟩ := hp'
  have al : Z.vm.Alike P.U.vm := hZ.alike.trans X.warmed.alike
  obtain ⟨A, hx⟩ := txt_of wi al E V C K hc hb l2
  obtain ⟨v, B, X', ⟨⟨hv, hh⟩, hl, hk, hs⟩, st⟩ := ChN.pays x t A cs.length (fun j => cs.getD j 0) z fm i (tabChN_of (movedChN hZ hw)) hfr hlo m meth c P g ig mk _ X hg hsize hdg hW hn ⟨r1, r2, rfl, hx, hi, sta_is al S, hz, sta_is al F, rf⟩
  exact ⟨v, B, X', ⟨[], ⟨hv, rfl, hh⟩, hl, hk, hs⟩, st⟩
/-- what backV says of its String, as the contracts of this text ask it: cs's low bytes, coder 0 -/
theorem codOf {cs : List Int32} {n : Nat} (hn : cs.length = n) (hb : ∀ c ∈ cs, ¬ 255 < c) : CodA cs 0 (Int32.ofNat n) ((cs.map lo8).map Value.int) := Or.inl ⟨rfl, by rw [hn], by simp [List.map_map, Function.comp_def], hb⟩
end StrChars.Road
end Jvm.Pilot.@@N@@
namespace Jvm.Pilot.@@N@@
open Jvm Jvm.ClassFile Sem Op Lib Jvm.Free Jvm.Stand Jvm.LawKit Jvm.RoadKit Jvm.Own Bundle Jvm.Pilot.@@N@@.Jvm.D
theorem own_k {Z : State} {a0 : Array Value} (hw : ∀ d ∈ tables_1, d.before a0 Z = true) (k : Nat) {d : Cond} (h : tables_1[k]? = some d) : d.before a0 Z = true := hw d (List.mem_of_getElem? h)
def Ctx (Z : State) (a0 : Array Value) (cz : Int32) (fm : Value) : Prop := (∀ d ∈ tables_1, d.before a0 Z = true) ∧ EW Z a0 consts_1 ∧ Sta Z Z.heap "java/lang/String" "COMPACT_STRINGS" "Z" (.int cz) ∧ ¬ cz = 0 ∧ Sta Z Z.heap "jdk/internal/util/Preconditions" "SIOOBE_FORMATTER" "Ljava/util/function/BiFunction;" fm ∧ fm.isRef = true ∧ Sta Z Z.heap "java/lang/StringUTF16" "$assertionsDisabled" "Z" (.int (1 : Int32)) ∧ Sta Z Z.heap "java/lang/StringUTF16" "HI_BYTE_SHIFT" "I" (.int (0 : Int32)) ∧ Sta Z Z.heap "java/lang/StringUTF16" "LO_BYTE_SHIFT" "I" (.int (8 : Int32))
theorem own_pdC : parseMethodDescriptor "([C)V" = some ⟨[.array .char], none⟩ := by decide +kernel
theorem own_lo8 (v : Int32) : (v.toInt8.toInt32).toInt8.toInt32 = v.toInt8.toInt32 := by simp
def own_lo (v : Int32) : Int32 := ((v >>> ((0 : Int32) &&& 31)).toInt8.toInt32).toInt8.toInt32
def own_hi (v : Int32) : Int32 := ((v >>> ((8 : Int32) &&& 31)).toInt8.toInt32).toInt8.toInt32
def own_rd (x y : Int32) : Int32 := ((((x &&& (255 : Int32)) <<< ((0 : Int32) &&& 31)) ||| ((y &&& (255 : Int32)) <<< ((8 : Int32) &&& 31)))).toUInt32.toUInt16.toUInt32.toInt32
theorem own_round {v : Int32} (h : ¬ v < 0 ∧ ¬ (65535 : Int32) < v) : own_rd (own_lo v) (own_hi v) = v := by
  have r0 : (0 : Int32).toInt = 0 := rfl
  have r1 : (65535 : Int32).toInt = 65535 := rfl
  rw [Int32.lt_iff_toInt_lt, Int32.lt_iff_toInt_lt, r0, r1] at h
  apply Int32.toInt_inj.mp
  unfold own_rd
  have a1 : (own_lo v).toInt % 256 = v.toInt % 256 := by
    unfold own_lo
    have q1 := c_ishr v 0 0 rfl
    have q2 := c_i2b (v >>> ((0 : Int32) &&& 31))
    have q3 := c_i2b (v >>> ((0 : Int32) &&& 31)).toInt8.toInt32
    omega
  have a2 : (own_hi v).toInt % 256 = (v.toInt / 256) % 256 := by
    unfold own_hi
    have q1 := c_ishr v 8 8 rfl
    have q2 := c_i2b (v >>> ((8 : Int32) &&& 31))
    have q3 := c_i2b (v >>> ((8 : Int32) &&& 31)).toInt8.toInt32
    omega
  have m1 := c_mask (own_lo v) 255 8 (by decide) (by decide)
  have m2 := c_mask (own_hi v) 255 8 (by decide) (by decide)
  have s1 := c_ishl (own_lo v &&& 255) 0 0 rfl
  have s2 := c_ishl (own_hi v &&& 255) 8 8 rfl
  have g1 := rng32 ((own_lo v &&& 255) <<< ((0 : Int32) &&& 31))
  have g2 := rng32 ((own_hi v &&& 255) <<< ((8 : Int32) &&& 31))
  have o := c_or' ((own_lo v &&& 255) <<< ((0 : Int32) &&& 31)) ((own_hi v &&& 255) <<< ((8 : Int32) &&& 31)) 8 (by omega) 256 rfl (by omega) (by omega) (by omega)
  have i := c_i2c (((own_lo v &&& 255) <<< ((0 : Int32) &&& 31)) ||| ((own_hi v &&& 255) <<< ((8 : Int32) &&& 31)))
  have g3 := rng32 (((own_lo v &&& 255) <<< ((0 : Int32) &&& 31)) ||| ((own_hi v &&& 255) <<< ((8 : Int32) &&& 31)))
  omega
def OUtf1 (Z : State) (h : Heap) (x : Addr) (c0 : Int32) : Prop := Exa Z h x "java/lang/String" ∧ Fld Z h x "java/lang/String" "coder" "B" (.int (1 : Int32)) ∧ ∃ (t : Addr) (kb : ClassId), Fld Z h x "java/lang/String" "value" "[B" (.ref t) ∧ Arv Z h t kb .byte (2 : Int32) [.int (own_lo c0), .int (own_hi c0)] (.int (0 : Int32))
def OUtf2 (Z : State) (h : Heap) (x : Addr) (c0 c1 : Int32) : Prop := Exa Z h x "java/lang/String" ∧ Fld Z h x "java/lang/String" "coder" "B" (.int (1 : Int32)) ∧ ∃ (t : Addr) (kb : ClassId), Fld Z h x "java/lang/String" "value" "[B" (.ref t) ∧ Arv Z h t kb .byte (4 : Int32) [.int (own_lo c0), .int (own_hi c0), .int (own_lo c1), .int (own_hi c1)] (.int (0 : Int32))
def OUtf3 (Z : State) (h : Heap) (x : Addr) (c0 c1 c2 : Int32) : Prop := Exa Z h x "java/lang/String" ∧ Fld Z h x "java/lang/String" "coder" "B" (.int (1 : Int32)) ∧ ∃ (t : Addr) (kb : ClassId), Fld Z h x "java/lang/String" "value" "[B" (.ref t) ∧ Arv Z h t kb .byte (6 : Int32) [.int (own_lo c0), .int (own_hi c0), .int (own_lo c1), .int (own_hi c1), .int (own_lo c2), .int (own_hi c2)] (.int (0 : Int32))
abbrev own_ok (c : Int32) : Prop := c = 9 ∨ (¬ c < 32 ∧ ¬ c = 127 ∧ ¬ (255 : Int32) < c)
def own_v : List Int32 → Int32 | [] => 1 | c :: cs => if own_ok c then own_v cs else 0
theorem arv_ne {Z : State} {h : Heap} {a b : Addr} {k k' : ClassId} {z z' : Int32} {vs vs' : List Value} {dv dv' : Value} (K : Arv Z h a k .char z vs dv) (L : Arv Z h b k' .byte z' vs' dv') : a ≠ b := by
  intro q
  subst q
  obtain ⟨c1, ⟨e1, ⟨_, k1, q1, _, w1⟩, _⟩, _⟩ := L
  obtain ⟨c2, ⟨e2, ⟨_, k2, q2, _, w2⟩, _⟩, _⟩ := K
  rw [e1] at e2; cases e2; rw [q1] at q2; cases q2; rw [w1] at w2; cases w2
theorem own_i2c {x v : Int32} (h : v = x.toUInt32.toUInt16.toUInt32.toInt32) : ¬ v < 0 ∧ ¬ (65535 : Int32) < v := by
  have q := c_i2c x
  have r0 : (0 : Int32).toInt = 0 := rfl
  have r1 : (65535 : Int32).toInt = 65535 := rfl
  rw [h, Int32.lt_iff_toInt_lt, Int32.lt_iff_toInt_lt, r0, r1]; omega
theorem own_no {v : Int32} (h : (if own_ok v then 1 else 0 : Int32) = 0) : ¬ own_ok v := fun z => absurd h (by rw [if_pos z]; decide)
theorem own_yes {v : Int32} (h : ¬ (if own_ok v then 1 else 0 : Int32) = 0) : own_ok v := Classical.byContradiction fun z => h (by rw [if_neg z])
theorem own_eqI {t : Term} {k : Int32} {args : Array Value} {s : State} (h : (Cond.eq t (Term.int k)).before args s = true) : t.eval args s none [] s = some (.int k) := by
  have h2 := Cond.before_iff.mp h
  cases ht : t.eval args s none [] s with
  | none => simp [Cond.value, ht] at h2
  | some x =>
    cases x
    case int v => rw [gotT (Cond.eq_ints ht (Term.int_eval k)) h2]
    all_goals simp [Cond.value, ht, Term.int_eval] at h2
theorem own_wS {Z : State} {a0 : Array Value} (hw : ∀ d ∈ tables_1, d.before a0 Z = true) : ∀ d ∈ Bundle.stringAtoms, d.before a0 Z = true := fun d hd => hw d ((by decide +kernel : ∀ d ∈ Bundle.stringAtoms, d ∈ tables_1) d hd)
theorem own_words {Z : State} {a0 : Array Value} (hw : ∀ d ∈ tables_1, d.before a0 Z = true) : ∀ d ∈ StrChars.Road.words, d.before a0 Z = true := fun d hd => hw d ((by decide +kernel : ∀ d ∈ StrChars.Road.words, d ∈ tables_1) d hd)
theorem own_newStr {l : Launch} {Z : State} {a0 : Array Value} {cz : Int32} {fm : Value} (H : Ctx Z a0 cz fm) {p : Program} {e : Env} {R : Room} {s : State} {m : MethodId} {args : Array Value} {below : List Frame} {meth : Method} {c : Code} {own : String} {vm0 : Vm} {T : State} {h : Heap} {k n : Nat} {G : Outcome → State → Prop} {pc : Nat} {Ls : Array Slot} {rest : List Value}
    (X : OSt p l e R s m args below meth c own Z consts_1 vm0 T h k n) {x b : Addr} {kC : ClassId} {cs : List Int32} {d : Value} {N : Int32} {j : Nat} (hx0 : Z.heap.size ≤ x) (E : Exa Z h x "java/lang/String") (V : Fld Z h x "java/lang/String" "value" "[B" .null) (C : Fld Z h x "java/lang/String" "coder" "B" (.int (0 : Int32))) (K : Arv Z h b kC .char N (cs.map Value.int) d)
    (hN : N = Int32.ofNat cs.length) (hj : cs.length = j) (l0 : 0 < j) (l2 : j ≤ 4000) (hp : ∀ c ∈ cs, ¬ c < 0 ∧ ¬ (255 : Int32) < c) {index : Nat} (w1 : (Jvm.Cond.methodLink own index ⟨"java/lang/String", "<init>", "([C)V"⟩).before a0 Z = true) {W : Nat} (hfr : 4 ≤ R.frames) (hlo : W + 65 ≤ R.locals) (hsize : Ls.size = c.maxLocals) (hW : (rest.map fun v => v.category).sum ≤ W) (hd : decode c.code pc = .ok (.invokespecial index, 3)) (hk : k + 1 ≤ R.cells) (hn : n + j ≤ R.slots)
    (q : ∀ T' h', OSt p l e R s m args below meth c own Z consts_1 vm0 T' h' (k + 1) (n + j) → Keep h h' [x] → OStr Z h' x cs → OEnds p e below G T' (mkF m (pc + 3) Ls rest)) : OEnds p e below G T (mkF m pc Ls (.ref b :: .ref x :: rest)) := by
  obtain ⟨hw, hE, S0, hcz, -⟩ := id H
  refine X.payI (StrChars.Road.backV (W := W) (n0 := Z.heap.size) (s := s.setVm vm0) X.hZ (own_words hw) (kI := 4) (own_k hw 5 rfl) (cs := cs) (bs := cs.map (fun c => c.toInt8.toInt32)) (n := j) hx0 X.old.1 E V C K (S0.ext X.old) hcz hj (by rw [hN, hj]) l0 l2 hp rfl hfr hlo) ?_ w1 (own_k hw 9 rfl) (own_k hw 10 rfl) rfl (by decide) (a := x) (argsL := [.ref b]) (rest := rest) rfl (lenOf own_pdC rfl) rfl hsize hW hd hk hn ?_
  · rintro v h' L ⟨q1, q2, q3, -⟩
    exact ⟨q2, ext_keep X.old q3 (allS hx0 all0), CHr.keep q3 (sfS (safe_blank X.al E V) sf0) X.chv⟩
  · rintro v T' h' L X' ⟨rfl, q2, q3, q4, q5, t, kb, -, -, -, q9, q10⟩
    subst hj
    exact q T' h' X' q3 ⟨q4, q5, ⟨t, kb, q9, by rw [hN] at q10; exact q10⟩, hp, l2⟩
theorem own_wLen {Z : State} {a0 : Array Value} (hw : ∀ d ∈ tables_1, d.before a0 Z = true) : ∀ d ∈ StrChars.Road.wordsLen, d.before a0 Z = true := fun d hd => hw d ((by decide +kernel : ∀ d ∈ StrChars.Road.wordsLen, d ∈ tables_1) d hd)
theorem own_len {l : Launch} {Z : State} {a0 : Array Value} {cz : Int32} {fm : Value} (H : Ctx Z a0 cz fm) {p : Program} {e : Env} {R : Room} {s : State} {args : Array Value} {below : List Frame} {vm0 : Vm} {h : Heap} (hZ : Z.Warmed39 vm0) (hO : Ext Z.heap h) {x : Addr} {cs : List Int32} {W : Nat} (F : OStr Z h x cs) (hfr : 2 ≤ R.frames) (hlo : W + 25 ≤ R.locals) : Back l R p e below (s.setVm vm0) args ⟨"java/lang/String", "length", "()I"⟩ 3 W (PreB R #[.ref x] h 0 0) (PostB (fun v h' L => v = some (.int (Int32.ofNat cs.length)) ∧ L = [] ∧ h' = h) 0 0) := by
  obtain ⟨hw, hE, S0, hcz, S1, rf, hp0, hp1, hp2⟩ := id H
  obtain ⟨F1, F2, ⟨t, kb, F3, F4⟩, F5, F6⟩ := F
  exact StrChars.Road.lenW (W := W) (s := s.setVm vm0) hZ (own_wLen hw) (kI := 4) (own_k hw 5 rfl) F1 F3 F2 F4 (StrChars.Road.codOf rfl (fun c hc => (F5 c hc).2)) (fun c hc => up255 (F5 c hc)) (S0.ext hO) hcz F6 hfr hlo
theorem own_wCh {Z : State} {a0 : Array Value} (hw : ∀ d ∈ tables_1, d.before a0 Z = true) : ∀ d ∈ StrChars.Road.wordsChN, d.before a0 Z = true := fun d hd => hw d ((by decide +kernel : ∀ d ∈ StrChars.Road.wordsChN, d ∈ tables_1) d hd)
theorem own_chr {l : Launch} {Z : State} {a0 : Array Value} {cz : Int32} {fm : Value} (H : Ctx Z a0 cz fm) {p : Program} {e : Env} {R : Room} {s : State} {args : Array Value} {below : List Frame} {vm0 : Vm} {h : Heap} (hZ : Z.Warmed39 vm0) (hO : Ext Z.heap h) {x : Addr} {cs : List Int32} {W i : Nat} {j : Int32} (F : OStr Z h x cs) (hi : i < cs.length) (hj : j = Int32.ofNat i) (hfr : 4 ≤ R.frames) (hlo : W + 53 ≤ R.locals) : Back l R p e below (s.setVm vm0) args ⟨"java/lang/String", "charAt", "(I)C"⟩ 3 W (PreB R #[.ref x, .int j] h 0 0) (PostB (fun v h' L => v = some (.int (cs.getD i 0)) ∧ L = [] ∧ h' = h) 0 0) := by
  obtain ⟨hw, hE, S0, hcz, S1, rf, hp0, hp1, hp2⟩ := id H
  obtain ⟨F1, F2, ⟨t, kb, F3, F4⟩, F5, F6⟩ := F
  exact StrChars.Road.chN (W := W) (s := s.setVm vm0) hZ (own_wCh hw) (kI := 4) (own_k hw 5 rfl) F1 F3 F2 F4 (StrChars.Road.codOf rfl (fun c hc => (F5 c hc).2)) (fun c hc => up255 (F5 c hc)) (S0.ext hO) hcz (S1.ext hO) rf F6 hi hj hfr hlo
theorem own_pf0 : plainFor (⟨"java/lang/String", "<init>", "([CIILjava/lang/Void;)V"⟩ : MethodName) = true := by first | exact plainFor_of_name (by first | (simp [plainName, overriddenIn]; done) | decide +kernel) | decide +kernel
theorem own_ef0 (m : MethodId) (x0 : Addr) (x1 : Addr) (x2 : Int32) (x3 : Int32)  : entryFrame m #[(.ref x0), (.ref x1), (.int x2), (.int x3), (.null)] 6 = mkF m 0 #[.val (.ref x0), .val (.ref x1), .val (.int x2), .val (.int x3), .val (.null), .unset] [] := by first | (simp [entryFrame, mkF, argsToLocals, Value.category]; done) | rfl
theorem d_jdk_42_method_149_0 : decode jdk_42_method_149_code 0 = .ok (.aload_n 0, 1) := by decide +kernel
theorem d_jdk_42_method_149_1 : decode jdk_42_method_149_code 1 = .ok (.invokespecial 1, 3) := by decide +kernel
theorem d_jdk_42_method_149_4 : decode jdk_42_method_149_code 4 = .ok (.iload_n 3, 1) := by decide +kernel
theorem d_jdk_42_method_149_5 : decode jdk_42_method_149_code 5 = .ok (.ifCond .ne 22, 3) := by decide +kernel
theorem d_jdk_42_method_149_8 : decode jdk_42_method_149_code 8 = .ok (.aload_n 0, 1) := by decide +kernel
theorem d_jdk_42_method_149_9 : decode jdk_42_method_149_code 9 = .ok (.ldc 7, 2) := by decide +kernel
theorem d_jdk_42_method_149_11 : decode jdk_42_method_149_code 11 = .ok (.getfield 9, 3) := by decide +kernel
theorem d_jdk_42_method_149_14 : decode jdk_42_method_149_code 14 = .ok (.putfield 9, 3) := by decide +kernel
theorem d_jdk_42_method_149_17 : decode jdk_42_method_149_code 17 = .ok (.aload_n 0, 1) := by decide +kernel
theorem d_jdk_42_method_149_18 : decode jdk_42_method_149_code 18 = .ok (.ldc 7, 2) := by decide +kernel
theorem d_jdk_42_method_149_20 : decode jdk_42_method_149_code 20 = .ok (.getfield 15, 3) := by decide +kernel
theorem d_jdk_42_method_149_23 : decode jdk_42_method_149_code 23 = .ok (.putfield 15, 3) := by decide +kernel
theorem d_jdk_42_method_149_26 : decode jdk_42_method_149_code 26 = .ok (.return_, 1) := by decide +kernel
theorem own_pf1 : plainFor (⟨"java/lang/String", "<init>", "([C)V"⟩ : MethodName) = true := by first | exact plainFor_of_name (by first | (simp [plainName, overriddenIn]; done) | decide +kernel) | decide +kernel
theorem own_ef1 (m : MethodId) (x0 : Addr) (x1 : Addr)  : entryFrame m #[(.ref x0), (.ref x1)] 2 = mkF m 0 #[.val (.ref x0), .val (.ref x1)] [] := by first | (simp [entryFrame, mkF, argsToLocals, Value.category]; done) | rfl
theorem d_jdk_42_method_3_0 : decode jdk_42_method_3_code 0 = .ok (.aload_n 0, 1) := by decide +kernel
theorem d_jdk_42_method_3_1 : decode jdk_42_method_3_code 1 = .ok (.aload_n 1, 1) := by decide +kernel
theorem d_jdk_42_method_3_2 : decode jdk_42_method_3_code 2 = .ok (.iconst 0, 1) := by decide +kernel
theorem d_jdk_42_method_3_3 : decode jdk_42_method_3_code 3 = .ok (.aload_n 1, 1) := by decide +kernel
theorem d_jdk_42_method_3_4 : decode jdk_42_method_3_code 4 = .ok (.arraylength, 1) := by decide +kernel
theorem d_jdk_42_method_3_5 : decode jdk_42_method_3_code 5 = .ok (.aconst_null, 1) := by decide +kernel
theorem own_pd0 : parseMethodDescriptor "([CIILjava/lang/Void;)V" = some ⟨[(FieldType.array FieldType.char), FieldType.int, FieldType.int, (FieldType.object "java/lang/Void")], none⟩ := by decide +kernel
theorem d_jdk_42_method_3_6 : decode jdk_42_method_3_code 6 = .ok (.invokespecial 27, 3) := by decide +kernel
theorem d_jdk_42_method_3_9 : decode jdk_42_method_3_code 9 = .ok (.return_, 1) := by decide +kernel
theorem own_pf2 : plainFor (⟨"java/lang/StringUTF16", "newBytesLength", "(I)I"⟩ : MethodName) = true := by first | exact plainFor_of_name (by first | (simp [plainName, overriddenIn]; done) | decide +kernel) | decide +kernel
theorem own_ef2 (m : MethodId) (x0 : Int32)  : entryFrame m #[(.int x0)] 1 = mkF m 0 #[.val (.int x0)] [] := by first | (simp [entryFrame, mkF, argsToLocals, Value.category]; done) | rfl
theorem d_jdk_52_method_3_0 : decode jdk_52_method_3_code 0 = .ok (.iload_n 0, 1) := by decide +kernel
theorem d_jdk_52_method_3_1 : decode jdk_52_method_3_code 1 = .ok (.ifCond .ge 11, 3) := by decide +kernel
theorem d_jdk_52_method_3_12 : decode jdk_52_method_3_code 12 = .ok (.iload_n 0, 1) := by decide +kernel
theorem d_jdk_52_method_3_13 : decode jdk_52_method_3_code 13 = .ok (.ldc 20, 2) := by decide +kernel
theorem d_jdk_52_method_3_15 : decode jdk_52_method_3_code 15 = .ok (.if_icmp .lt 40, 3) := by decide +kernel
theorem d_jdk_52_method_3_55 : decode jdk_52_method_3_code 55 = .ok (.iload_n 0, 1) := by decide +kernel
theorem d_jdk_52_method_3_56 : decode jdk_52_method_3_code 56 = .ok (.iconst 1, 1) := by decide +kernel
theorem d_jdk_52_method_3_57 : decode jdk_52_method_3_code 57 = .ok (.ishl, 1) := by decide +kernel
theorem d_jdk_52_method_3_58 : decode jdk_52_method_3_code 58 = .ok (.ireturn, 1) := by decide +kernel
theorem own_pf3 : plainFor (⟨"java/lang/StringUTF16", "newBytesFor", "(I)[B"⟩ : MethodName) = true := by first | exact plainFor_of_name (by first | (simp [plainName, overriddenIn]; done) | decide +kernel) | decide +kernel
theorem d_jdk_52_method_2_0 : decode jdk_52_method_2_code 0 = .ok (.iload_n 0, 1) := by decide +kernel
theorem own_pd1 : parseMethodDescriptor "(I)I" = some ⟨[FieldType.int], some FieldType.int⟩ := by decide +kernel
theorem d_jdk_52_method_2_1 : decode jdk_52_method_2_code 1 = .ok (.invokestatic 11, 3) := by decide +kernel
theorem d_jdk_52_method_2_4 : decode jdk_52_method_2_code 4 = .ok (.newarray .byte, 2) := by decide +kernel
theorem d_jdk_52_method_2_6 : decode jdk_52_method_2_code 6 = .ok (.areturn, 1) := by decide +kernel
theorem own_pf4 : plainFor (⟨"java/lang/StringUTF16", "putChar", "([BII)V"⟩ : MethodName) = true := by first | exact plainFor_of_name (by first | (simp [plainName, overriddenIn]; done) | decide +kernel) | decide +kernel
theorem own_ef3 (m : MethodId) (x0 : Addr) (x1 : Int32) (x2 : Int32)  : entryFrame m #[(.ref x0), (.int x1), (.int x2)] 3 = mkF m 0 #[.val (.ref x0), .val (.int x1), .val (.int x2)] [] := by first | (simp [entryFrame, mkF, argsToLocals, Value.category]; done) | rfl
theorem d_jdk_52_method_4_0 : decode jdk_52_method_4_code 0 = .ok (.getstatic 44, 3) := by decide +kernel
theorem d_jdk_52_method_4_3 : decode jdk_52_method_4_code 3 = .ok (.ifCond .ne 25, 3) := by decide +kernel
theorem d_jdk_52_method_4_28 : decode jdk_52_method_4_code 28 = .ok (.iload_n 1, 1) := by decide +kernel
theorem d_jdk_52_method_4_29 : decode jdk_52_method_4_code 29 = .ok (.iconst 1, 1) := by decide +kernel
theorem d_jdk_52_method_4_30 : decode jdk_52_method_4_code 30 = .ok (.ishl, 1) := by decide +kernel
theorem d_jdk_52_method_4_31 : decode jdk_52_method_4_code 31 = .ok (.istore_n 1, 1) := by decide +kernel
theorem d_jdk_52_method_4_32 : decode jdk_52_method_4_code 32 = .ok (.aload_n 0, 1) := by decide +kernel
theorem d_jdk_52_method_4_33 : decode jdk_52_method_4_code 33 = .ok (.iload_n 1, 1) := by decide +kernel
theorem d_jdk_52_method_4_34 : decode jdk_52_method_4_code 34 = .ok (.iinc 1 1, 3) := by decide +kernel
theorem d_jdk_52_method_4_37 : decode jdk_52_method_4_code 37 = .ok (.iload_n 2, 1) := by decide +kernel
theorem d_jdk_52_method_4_38 : decode jdk_52_method_4_code 38 = .ok (.getstatic 59, 3) := by decide +kernel
theorem d_jdk_52_method_4_41 : decode jdk_52_method_4_code 41 = .ok (.ishr, 1) := by decide +kernel
theorem d_jdk_52_method_4_42 : decode jdk_52_method_4_code 42 = .ok (.i2b, 1) := by decide +kernel
theorem d_jdk_52_method_4_43 : decode jdk_52_method_4_code 43 = .ok (.bastore, 1) := by decide +kernel
theorem d_jdk_52_method_4_44 : decode jdk_52_method_4_code 44 = .ok (.aload_n 0, 1) := by decide +kernel
theorem d_jdk_52_method_4_45 : decode jdk_52_method_4_code 45 = .ok (.iload_n 1, 1) := by decide +kernel
theorem d_jdk_52_method_4_46 : decode jdk_52_method_4_code 46 = .ok (.iload_n 2, 1) := by decide +kernel
theorem d_jdk_52_method_4_47 : decode jdk_52_method_4_code 47 = .ok (.getstatic 63, 3) := by decide +kernel
theorem d_jdk_52_method_4_50 : decode jdk_52_method_4_code 50 = .ok (.ishr, 1) := by decide +kernel
theorem d_jdk_52_method_4_51 : decode jdk_52_method_4_code 51 = .ok (.i2b, 1) := by decide +kernel
theorem d_jdk_52_method_4_52 : decode jdk_52_method_4_code 52 = .ok (.bastore, 1) := by decide +kernel
theorem d_jdk_52_method_4_53 : decode jdk_52_method_4_code 53 = .ok (.return_, 1) := by decide +kernel
theorem own_pf5 : plainFor (⟨"java/lang/StringUTF16", "toBytes", "([CII)[B"⟩ : MethodName) = true := by first | exact plainFor_of_name (by first | (simp [plainName, overriddenIn]; done) | decide +kernel) | decide +kernel
theorem own_ef4 (m : MethodId) (x0 : Addr) (x1 : Int32) (x2 : Int32)  : entryFrame m #[(.ref x0), (.int x1), (.int x2)] 5 = mkF m 0 #[.val (.ref x0), .val (.int x1), .val (.int x2), .unset, .unset] [] := by first | (simp [entryFrame, mkF, argsToLocals, Value.category]; done) | rfl
theorem d_jdk_52_method_14_0 : decode jdk_52_method_14_code 0 = .ok (.iload_n 2, 1) := by decide +kernel
theorem own_pd2 : parseMethodDescriptor "(I)[B" = some ⟨[FieldType.int], some (FieldType.array FieldType.byte)⟩ := by decide +kernel
theorem d_jdk_52_method_14_1 : decode jdk_52_method_14_code 1 = .ok (.invokestatic 107, 3) := by decide +kernel
theorem d_jdk_52_method_14_4 : decode jdk_52_method_14_code 4 = .ok (.astore_n 3, 1) := by decide +kernel
theorem d_jdk_52_method_14_5 : decode jdk_52_method_14_code 5 = .ok (.iconst 0, 1) := by decide +kernel
theorem d_jdk_52_method_14_6 : decode jdk_52_method_14_code 6 = .ok (.istore 4, 2) := by decide +kernel
theorem d_jdk_52_method_14_8 : decode jdk_52_method_14_code 8 = .ok (.iload 4, 2) := by decide +kernel
theorem d_jdk_52_method_14_10 : decode jdk_52_method_14_code 10 = .ok (.iload_n 2, 1) := by decide +kernel
theorem d_jdk_52_method_14_11 : decode jdk_52_method_14_code 11 = .ok (.if_icmp .ge 21, 3) := by decide +kernel
theorem d_jdk_52_method_14_14 : decode jdk_52_method_14_code 14 = .ok (.aload_n 3, 1) := by decide +kernel
theorem d_jdk_52_method_14_15 : decode jdk_52_method_14_code 15 = .ok (.iload 4, 2) := by decide +kernel
theorem d_jdk_52_method_14_17 : decode jdk_52_method_14_code 17 = .ok (.aload_n 0, 1) := by decide +kernel
theorem d_jdk_52_method_14_18 : decode jdk_52_method_14_code 18 = .ok (.iload_n 1, 1) := by decide +kernel
theorem d_jdk_52_method_14_19 : decode jdk_52_method_14_code 19 = .ok (.caload, 1) := by decide +kernel
theorem own_pd3 : parseMethodDescriptor "([BII)V" = some ⟨[(FieldType.array FieldType.byte), FieldType.int, FieldType.int], none⟩ := by decide +kernel
theorem d_jdk_52_method_14_20 : decode jdk_52_method_14_code 20 = .ok (.invokestatic 111, 3) := by decide +kernel
theorem d_jdk_52_method_14_23 : decode jdk_52_method_14_code 23 = .ok (.iinc 1 1, 3) := by decide +kernel
theorem d_jdk_52_method_14_26 : decode jdk_52_method_14_code 26 = .ok (.iinc 4 1, 3) := by decide +kernel
theorem d_jdk_52_method_14_29 : decode jdk_52_method_14_code 29 = .ok (.goto (-21), 3) := by decide +kernel
theorem d_jdk_52_method_14_32 : decode jdk_52_method_14_code 32 = .ok (.aload_n 3, 1) := by decide +kernel
theorem d_jdk_52_method_14_33 : decode jdk_52_method_14_code 33 = .ok (.areturn, 1) := by decide +kernel
theorem own_pf6 : plainFor (⟨"java/lang/StringUTF16", "getChar", "([BI)C"⟩ : MethodName) = true := by first | exact plainFor_of_name (by first | (simp [plainName, overriddenIn]; done) | decide +kernel) | decide +kernel
theorem own_ef5 (m : MethodId) (x0 : Addr) (x1 : Int32)  : entryFrame m #[(.ref x0), (.int x1)] 2 = mkF m 0 #[.val (.ref x0), .val (.int x1)] [] := by first | (simp [entryFrame, mkF, argsToLocals, Value.category]; done) | rfl
theorem d_jdk_52_method_5_0 : decode jdk_52_method_5_code 0 = .ok (.getstatic 44, 3) := by decide +kernel
theorem d_jdk_52_method_5_3 : decode jdk_52_method_5_code 3 = .ok (.ifCond .ne 25, 3) := by decide +kernel
theorem d_jdk_52_method_5_28 : decode jdk_52_method_5_code 28 = .ok (.iload_n 1, 1) := by decide +kernel
theorem d_jdk_52_method_5_29 : decode jdk_52_method_5_code 29 = .ok (.iconst 1, 1) := by decide +kernel
theorem d_jdk_52_method_5_30 : decode jdk_52_method_5_code 30 = .ok (.ishl, 1) := by decide +kernel
theorem d_jdk_52_method_5_31 : decode jdk_52_method_5_code 31 = .ok (.istore_n 1, 1) := by decide +kernel
theorem d_jdk_52_method_5_32 : decode jdk_52_method_5_code 32 = .ok (.aload_n 0, 1) := by decide +kernel
theorem d_jdk_52_method_5_33 : decode jdk_52_method_5_code 33 = .ok (.iload_n 1, 1) := by decide +kernel
theorem d_jdk_52_method_5_34 : decode jdk_52_method_5_code 34 = .ok (.iinc 1 1, 3) := by decide +kernel
theorem d_jdk_52_method_5_37 : decode jdk_52_method_5_code 37 = .ok (.baload, 1) := by decide +kernel
theorem d_jdk_52_method_5_38 : decode jdk_52_method_5_code 38 = .ok (.sipush 255, 3) := by decide +kernel
theorem d_jdk_52_method_5_41 : decode jdk_52_method_5_code 41 = .ok (.iand, 1) := by decide +kernel
theorem d_jdk_52_method_5_42 : decode jdk_52_method_5_code 42 = .ok (.getstatic 59, 3) := by decide +kernel
theorem d_jdk_52_method_5_45 : decode jdk_52_method_5_code 45 = .ok (.ishl, 1) := by decide +kernel
theorem d_jdk_52_method_5_46 : decode jdk_52_method_5_code 46 = .ok (.aload_n 0, 1) := by decide +kernel
theorem d_jdk_52_method_5_47 : decode jdk_52_method_5_code 47 = .ok (.iload_n 1, 1) := by decide +kernel
theorem d_jdk_52_method_5_48 : decode jdk_52_method_5_code 48 = .ok (.baload, 1) := by decide +kernel
theorem d_jdk_52_method_5_49 : decode jdk_52_method_5_code 49 = .ok (.sipush 255, 3) := by decide +kernel
theorem d_jdk_52_method_5_52 : decode jdk_52_method_5_code 52 = .ok (.iand, 1) := by decide +kernel
theorem d_jdk_52_method_5_53 : decode jdk_52_method_5_code 53 = .ok (.getstatic 63, 3) := by decide +kernel
theorem d_jdk_52_method_5_56 : decode jdk_52_method_5_code 56 = .ok (.ishl, 1) := by decide +kernel
theorem d_jdk_52_method_5_57 : decode jdk_52_method_5_code 57 = .ok (.ior, 1) := by decide +kernel
theorem d_jdk_52_method_5_58 : decode jdk_52_method_5_code 58 = .ok (.i2c, 1) := by decide +kernel
theorem d_jdk_52_method_5_59 : decode jdk_52_method_5_code 59 = .ok (.ireturn, 1) := by decide +kernel
theorem own_pf7 : plainFor (⟨"java/lang/StringUTF16", "coderFromArrayLen", "([BI)B"⟩ : MethodName) = true := by first | exact plainFor_of_name (by first | (simp [plainName, overriddenIn]; done) | decide +kernel) | decide +kernel
theorem d_jdk_52_method_15_0 : decode jdk_52_method_15_code 0 = .ok (.iload_n 1, 1) := by decide +kernel
theorem d_jdk_52_method_15_1 : decode jdk_52_method_15_code 1 = .ok (.aload_n 0, 1) := by decide +kernel
theorem d_jdk_52_method_15_2 : decode jdk_52_method_15_code 2 = .ok (.arraylength, 1) := by decide +kernel
theorem d_jdk_52_method_15_3 : decode jdk_52_method_15_code 3 = .ok (.isub, 1) := by decide +kernel
theorem d_jdk_52_method_15_4 : decode jdk_52_method_15_code 4 = .ok (.bipush 31, 2) := by decide +kernel
theorem d_jdk_52_method_15_6 : decode jdk_52_method_15_code 6 = .ok (.iushr, 1) := by decide +kernel
theorem d_jdk_52_method_15_7 : decode jdk_52_method_15_code 7 = .ok (.i2b, 1) := by decide +kernel
theorem d_jdk_52_method_15_8 : decode jdk_52_method_15_code 8 = .ok (.ireturn, 1) := by decide +kernel
theorem own_pf8 : plainFor (⟨"java/lang/StringUTF16", "length", "([B)I"⟩ : MethodName) = true := by first | exact plainFor_of_name (by first | (simp [plainName, overriddenIn]; done) | decide +kernel) | decide +kernel
theorem own_ef6 (m : MethodId) (x0 : Addr)  : entryFrame m #[(.ref x0)] 1 = mkF m 0 #[.val (.ref x0)] [] := by first | (simp [entryFrame, mkF, argsToLocals, Value.category]; done) | rfl
theorem d_jdk_52_method_6_0 : decode jdk_52_method_6_code 0 = .ok (.aload_n 0, 1) := by decide +kernel
theorem d_jdk_52_method_6_1 : decode jdk_52_method_6_code 1 = .ok (.arraylength, 1) := by decide +kernel
theorem d_jdk_52_method_6_2 : decode jdk_52_method_6_code 2 = .ok (.iconst 1, 1) := by decide +kernel
theorem d_jdk_52_method_6_3 : decode jdk_52_method_6_code 3 = .ok (.ishr, 1) := by decide +kernel
theorem d_jdk_52_method_6_4 : decode jdk_52_method_6_code 4 = .ok (.ireturn, 1) := by decide +kernel
theorem own_pf9 : plainFor (⟨"java/lang/StringUTF16", "compress", "([CI[BII)I"⟩ : MethodName) = true := by first | exact plainFor_of_name (by first | (simp [plainName, overriddenIn]; done) | decide +kernel) | decide +kernel
theorem own_ef7 (m : MethodId) (x0 : Addr) (x1 : Int32) (x2 : Addr) (x3 : Int32) (x4 : Int32)  : entryFrame m #[(.ref x0), (.int x1), (.ref x2), (.int x3), (.int x4)] 7 = mkF m 0 #[.val (.ref x0), .val (.int x1), .val (.ref x2), .val (.int x3), .val (.int x4), .unset, .unset] [] := by first | (simp [entryFrame, mkF, argsToLocals, Value.category]; done) | rfl
theorem d_jdk_52_method_21_0 : decode jdk_52_method_21_code 0 = .ok (.iconst 0, 1) := by decide +kernel
theorem d_jdk_52_method_21_1 : decode jdk_52_method_21_code 1 = .ok (.istore 5, 2) := by decide +kernel
theorem d_jdk_52_method_21_3 : decode jdk_52_method_21_code 3 = .ok (.iload 5, 2) := by decide +kernel
theorem d_jdk_52_method_21_5 : decode jdk_52_method_21_code 5 = .ok (.iload 4, 2) := by decide +kernel
theorem d_jdk_52_method_21_7 : decode jdk_52_method_21_code 7 = .ok (.if_icmp .ge 37, 3) := by decide +kernel
theorem d_jdk_52_method_21_10 : decode jdk_52_method_21_code 10 = .ok (.aload_n 0, 1) := by decide +kernel
theorem d_jdk_52_method_21_11 : decode jdk_52_method_21_code 11 = .ok (.iload_n 1, 1) := by decide +kernel
theorem d_jdk_52_method_21_12 : decode jdk_52_method_21_code 12 = .ok (.caload, 1) := by decide +kernel
theorem d_jdk_52_method_21_13 : decode jdk_52_method_21_code 13 = .ok (.istore 6, 2) := by decide +kernel
theorem d_jdk_52_method_21_15 : decode jdk_52_method_21_code 15 = .ok (.iload 6, 2) := by decide +kernel
theorem d_jdk_52_method_21_17 : decode jdk_52_method_21_code 17 = .ok (.sipush 255, 3) := by decide +kernel
theorem d_jdk_52_method_21_20 : decode jdk_52_method_21_code 20 = .ok (.if_icmp .le 6, 3) := by decide +kernel
theorem d_jdk_52_method_21_23 : decode jdk_52_method_21_code 23 = .ok (.iload 5, 2) := by decide +kernel
theorem d_jdk_52_method_21_25 : decode jdk_52_method_21_code 25 = .ok (.ireturn, 1) := by decide +kernel
theorem own_pf10 : plainFor (⟨"java/lang/StringUTF16", "compress", "([CII)[B"⟩ : MethodName) = true := by first | exact plainFor_of_name (by first | (simp [plainName, overriddenIn]; done) | decide +kernel) | decide +kernel
theorem own_ef8 (m : MethodId) (x0 : Addr) (x1 : Int32) (x2 : Int32)  : entryFrame m #[(.ref x0), (.int x1), (.int x2)] 6 = mkF m 0 #[.val (.ref x0), .val (.int x1), .val (.int x2), .unset, .unset, .unset] [] := by first | (simp [entryFrame, mkF, argsToLocals, Value.category]; done) | rfl
theorem d_jdk_52_method_16_0 : decode jdk_52_method_16_code 0 = .ok (.iload_n 2, 1) := by decide +kernel
theorem d_jdk_52_method_16_1 : decode jdk_52_method_16_code 1 = .ok (.newarray .byte, 2) := by decide +kernel
theorem d_jdk_52_method_16_3 : decode jdk_52_method_16_code 3 = .ok (.astore_n 3, 1) := by decide +kernel
theorem d_jdk_52_method_16_4 : decode jdk_52_method_16_code 4 = .ok (.aload_n 0, 1) := by decide +kernel
theorem d_jdk_52_method_16_5 : decode jdk_52_method_16_code 5 = .ok (.iload_n 1, 1) := by decide +kernel
theorem d_jdk_52_method_16_6 : decode jdk_52_method_16_code 6 = .ok (.aload_n 3, 1) := by decide +kernel
theorem d_jdk_52_method_16_7 : decode jdk_52_method_16_code 7 = .ok (.iconst 0, 1) := by decide +kernel
theorem d_jdk_52_method_16_8 : decode jdk_52_method_16_code 8 = .ok (.iload_n 2, 1) := by decide +kernel
theorem own_pd4 : parseMethodDescriptor "([CI[BII)I" = some ⟨[(FieldType.array FieldType.char), FieldType.int, (FieldType.array FieldType.byte), FieldType.int, FieldType.int], some FieldType.int⟩ := by decide +kernel
theorem d_jdk_52_method_16_9 : decode jdk_52_method_16_code 9 = .ok (.invokestatic 115, 3) := by decide +kernel
theorem d_jdk_52_method_16_12 : decode jdk_52_method_16_code 12 = .ok (.istore 4, 2) := by decide +kernel
theorem d_jdk_52_method_16_14 : decode jdk_52_method_16_code 14 = .ok (.iload 4, 2) := by decide +kernel
theorem d_jdk_52_method_16_16 : decode jdk_52_method_16_code 16 = .ok (.iload_n 2, 1) := by decide +kernel
theorem d_jdk_52_method_16_17 : decode jdk_52_method_16_code 17 = .ok (.if_icmp .eq 40, 3) := by decide +kernel
theorem d_jdk_52_method_16_20 : decode jdk_52_method_16_code 20 = .ok (.aload_n 0, 1) := by decide +kernel
theorem d_jdk_52_method_16_21 : decode jdk_52_method_16_code 21 = .ok (.iload_n 1, 1) := by decide +kernel
theorem d_jdk_52_method_16_22 : decode jdk_52_method_16_code 22 = .ok (.iload_n 2, 1) := by decide +kernel
theorem own_pd5 : parseMethodDescriptor "([CII)[B" = some ⟨[(FieldType.array FieldType.char), FieldType.int, FieldType.int], some (FieldType.array FieldType.byte)⟩ := by decide +kernel
theorem d_jdk_52_method_16_23 : decode jdk_52_method_16_code 23 = .ok (.invokestatic 119, 3) := by decide +kernel
theorem d_jdk_52_method_16_26 : decode jdk_52_method_16_code 26 = .ok (.astore 5, 2) := by decide +kernel
theorem d_jdk_52_method_16_28 : decode jdk_52_method_16_code 28 = .ok (.aload 5, 2) := by decide +kernel
theorem d_jdk_52_method_16_30 : decode jdk_52_method_16_code 30 = .ok (.iload 4, 2) := by decide +kernel
theorem own_pd6 : parseMethodDescriptor "([BI)C" = some ⟨[(FieldType.array FieldType.byte), FieldType.int], some FieldType.char⟩ := by decide +kernel
theorem d_jdk_52_method_16_32 : decode jdk_52_method_16_code 32 = .ok (.invokestatic 71, 3) := by decide +kernel
theorem d_jdk_52_method_16_35 : decode jdk_52_method_16_code 35 = .ok (.sipush 255, 3) := by decide +kernel
theorem d_jdk_52_method_16_38 : decode jdk_52_method_16_code 38 = .ok (.if_icmp .gt 16, 3) := by decide +kernel
theorem d_jdk_52_method_16_54 : decode jdk_52_method_16_code 54 = .ok (.aload 5, 2) := by decide +kernel
theorem d_jdk_52_method_16_56 : decode jdk_52_method_16_code 56 = .ok (.areturn, 1) := by decide +kernel
theorem d_jdk_42_method_149_27 : decode jdk_42_method_149_code 27 = .ok (.getstatic 38, 3) := by decide +kernel
theorem d_jdk_42_method_149_30 : decode jdk_42_method_149_code 30 = .ok (.ifCond .eq 28, 3) := by decide +kernel
theorem d_jdk_42_method_149_33 : decode jdk_42_method_149_code 33 = .ok (.aload_n 1, 1) := by decide +kernel
theorem d_jdk_42_method_149_34 : decode jdk_42_method_149_code 34 = .ok (.iload_n 2, 1) := by decide +kernel
theorem d_jdk_42_method_149_35 : decode jdk_42_method_149_code 35 = .ok (.iload_n 3, 1) := by decide +kernel
theorem d_jdk_42_method_149_36 : decode jdk_42_method_149_code 36 = .ok (.invokestatic 177, 3) := by decide +kernel
theorem d_jdk_42_method_149_39 : decode jdk_42_method_149_code 39 = .ok (.astore 5, 2) := by decide +kernel
theorem d_jdk_42_method_149_41 : decode jdk_42_method_149_code 41 = .ok (.aload_n 0, 1) := by decide +kernel
theorem d_jdk_42_method_149_42 : decode jdk_42_method_149_code 42 = .ok (.aload 5, 2) := by decide +kernel
theorem d_jdk_42_method_149_44 : decode jdk_42_method_149_code 44 = .ok (.iload_n 3, 1) := by decide +kernel
theorem own_pd7 : parseMethodDescriptor "([BI)B" = some ⟨[(FieldType.array FieldType.byte), FieldType.int], some FieldType.byte⟩ := by decide +kernel
theorem d_jdk_42_method_149_45 : decode jdk_42_method_149_code 45 = .ok (.invokestatic 47, 3) := by decide +kernel
theorem d_jdk_42_method_149_48 : decode jdk_42_method_149_code 48 = .ok (.putfield 15, 3) := by decide +kernel
theorem d_jdk_42_method_149_51 : decode jdk_42_method_149_code 51 = .ok (.aload_n 0, 1) := by decide +kernel
theorem d_jdk_42_method_149_52 : decode jdk_42_method_149_code 52 = .ok (.aload 5, 2) := by decide +kernel
theorem d_jdk_42_method_149_54 : decode jdk_42_method_149_code 54 = .ok (.putfield 9, 3) := by decide +kernel
theorem d_jdk_42_method_149_57 : decode jdk_42_method_149_code 57 = .ok (.return_, 1) := by decide +kernel
theorem d_jdk_52_method_21_26 : decode jdk_52_method_21_code 26 = .ok (.aload_n 2, 1) := by decide +kernel
theorem d_jdk_52_method_21_27 : decode jdk_52_method_21_code 27 = .ok (.iload_n 3, 1) := by decide +kernel
theorem d_jdk_52_method_21_28 : decode jdk_52_method_21_code 28 = .ok (.iload 6, 2) := by decide +kernel
theorem d_jdk_52_method_21_30 : decode jdk_52_method_21_code 30 = .ok (.i2b, 1) := by decide +kernel
theorem d_jdk_52_method_21_31 : decode jdk_52_method_21_code 31 = .ok (.bastore, 1) := by decide +kernel
theorem d_jdk_52_method_21_32 : decode jdk_52_method_21_code 32 = .ok (.iinc 1 1, 3) := by decide +kernel
theorem d_jdk_52_method_21_35 : decode jdk_52_method_21_code 35 = .ok (.iinc 3 1, 3) := by decide +kernel
theorem d_jdk_52_method_21_38 : decode jdk_52_method_21_code 38 = .ok (.iinc 5 1, 3) := by decide +kernel
theorem d_jdk_52_method_21_41 : decode jdk_52_method_21_code 41 = .ok (.goto (-38), 3) := by decide +kernel
theorem own_pf11 : plainFor (⟨"java/lang/String", "coder", "()B"⟩ : MethodName) = true := by first | exact plainFor_of_name (by first | (simp [plainName, overriddenIn]; done) | decide +kernel) | decide +kernel
theorem d_jdk_42_method_152_0 : decode jdk_42_method_152_code 0 = .ok (.getstatic 38, 3) := by decide +kernel
theorem d_jdk_42_method_152_3 : decode jdk_42_method_152_code 3 = .ok (.ifCond .eq 10, 3) := by decide +kernel
theorem d_jdk_42_method_152_6 : decode jdk_42_method_152_code 6 = .ok (.aload_n 0, 1) := by decide +kernel
theorem d_jdk_42_method_152_7 : decode jdk_42_method_152_code 7 = .ok (.getfield 15, 3) := by decide +kernel
theorem d_jdk_42_method_152_10 : decode jdk_42_method_152_code 10 = .ok (.goto 4, 3) := by decide +kernel
theorem d_jdk_42_method_152_14 : decode jdk_42_method_152_code 14 = .ok (.ireturn, 1) := by decide +kernel
theorem own_pf12 : plainFor (⟨"java/lang/String", "isLatin1", "()Z"⟩ : MethodName) = true := by first | exact plainFor_of_name (by first | (simp [plainName, overriddenIn]; done) | decide +kernel) | decide +kernel
theorem d_jdk_42_method_154_0 : decode jdk_42_method_154_code 0 = .ok (.getstatic 38, 3) := by decide +kernel
theorem d_jdk_42_method_154_3 : decode jdk_42_method_154_code 3 = .ok (.ifCond .eq 14, 3) := by decide +kernel
theorem d_jdk_42_method_154_6 : decode jdk_42_method_154_code 6 = .ok (.aload_n 0, 1) := by decide +kernel
theorem d_jdk_42_method_154_7 : decode jdk_42_method_154_code 7 = .ok (.getfield 15, 3) := by decide +kernel
theorem d_jdk_42_method_154_10 : decode jdk_42_method_154_code 10 = .ok (.ifCond .ne 7, 3) := by decide +kernel
theorem d_jdk_42_method_154_17 : decode jdk_42_method_154_code 17 = .ok (.iconst 0, 1) := by decide +kernel
theorem d_jdk_42_method_154_18 : decode jdk_42_method_154_code 18 = .ok (.ireturn, 1) := by decide +kernel
theorem own_pf13 : plainFor (⟨"jdk/internal/util/Preconditions", "checkIndex", "(IILjava/util/function/BiFunction;)I"⟩ : MethodName) = true := by first | exact plainFor_of_name (by first | (simp [plainName, overriddenIn]; done) | decide +kernel) | decide +kernel
theorem own_ef9 (m : MethodId) (x0 : Int32) (x1 : Int32) (x2 : Value) (r2 : x2.isRef = true) : entryFrame m #[(.int x0), (.int x1), (x2)] 3 = mkF m 0 #[.val (.int x0), .val (.int x1), .val (x2)] [] := by rcases ref_cases r2 with rfl | ⟨_, rfl⟩ <;> first | (simp [entryFrame, mkF, argsToLocals, Value.category]; done) | rfl
theorem d_jdk_41_method_11_0 : decode jdk_41_method_11_code 0 = .ok (.iload_n 0, 1) := by decide +kernel
theorem d_jdk_41_method_11_1 : decode jdk_41_method_11_code 1 = .ok (.ifCond .lt 8, 3) := by decide +kernel
theorem d_jdk_41_method_11_4 : decode jdk_41_method_11_code 4 = .ok (.iload_n 0, 1) := by decide +kernel
theorem d_jdk_41_method_11_5 : decode jdk_41_method_11_code 5 = .ok (.iload_n 1, 1) := by decide +kernel
theorem d_jdk_41_method_11_6 : decode jdk_41_method_11_code 6 = .ok (.if_icmp .lt 10, 3) := by decide +kernel
theorem d_jdk_41_method_11_16 : decode jdk_41_method_11_code 16 = .ok (.iload_n 0, 1) := by decide +kernel
theorem d_jdk_41_method_11_17 : decode jdk_41_method_11_code 17 = .ok (.ireturn, 1) := by decide +kernel
theorem own_pf14 : plainFor (⟨"java/lang/String", "checkIndex", "(II)V"⟩ : MethodName) = true := by first | exact plainFor_of_name (by first | (simp [plainName, overriddenIn]; done) | decide +kernel) | decide +kernel
theorem own_ef10 (m : MethodId) (x0 : Int32) (x1 : Int32)  : entryFrame m #[(.int x0), (.int x1)] 2 = mkF m 0 #[.val (.int x0), .val (.int x1)] [] := by first | (simp [entryFrame, mkF, argsToLocals, Value.category]; done) | rfl
theorem d_jdk_42_method_155_0 : decode jdk_42_method_155_code 0 = .ok (.iload_n 0, 1) := by decide +kernel
theorem d_jdk_42_method_155_1 : decode jdk_42_method_155_code 1 = .ok (.iload_n 1, 1) := by decide +kernel
theorem d_jdk_42_method_155_2 : decode jdk_42_method_155_code 2 = .ok (.getstatic 1053, 3) := by decide +kernel
theorem own_pd8 : parseMethodDescriptor "(IILjava/util/function/BiFunction;)I" = some ⟨[FieldType.int, FieldType.int, (FieldType.object "java/util/function/BiFunction")], some FieldType.int⟩ := by decide +kernel
theorem d_jdk_42_method_155_5 : decode jdk_42_method_155_code 5 = .ok (.invokestatic 1059, 3) := by decide +kernel
theorem d_jdk_42_method_155_8 : decode jdk_42_method_155_code 8 = .ok (.pop, 1) := by decide +kernel
theorem d_jdk_42_method_155_9 : decode jdk_42_method_155_code 9 = .ok (.return_, 1) := by decide +kernel
theorem own_pf15 : plainFor (⟨"java/lang/String", "length", "()I"⟩ : MethodName) = true := by first | exact plainFor_of_name (by first | (simp [plainName, overriddenIn]; done) | decide +kernel) | decide +kernel
theorem d_jdk_42_method_54_0 : decode jdk_42_method_54_code 0 = .ok (.aload_n 0, 1) := by decide +kernel
theorem d_jdk_42_method_54_1 : decode jdk_42_method_54_code 1 = .ok (.getfield 9, 3) := by decide +kernel
theorem d_jdk_42_method_54_4 : decode jdk_42_method_54_code 4 = .ok (.arraylength, 1) := by decide +kernel
theorem d_jdk_42_method_54_5 : decode jdk_42_method_54_code 5 = .ok (.aload_n 0, 1) := by decide +kernel
theorem own_pd9 : parseMethodDescriptor "()B" = some ⟨[], some FieldType.byte⟩ := by decide +kernel
theorem d_jdk_42_method_54_6 : decode jdk_42_method_54_code 6 = .ok (.invokevirtual 335, 3) := by decide +kernel
theorem d_jdk_42_method_54_9 : decode jdk_42_method_54_code 9 = .ok (.ishr, 1) := by decide +kernel
theorem d_jdk_42_method_54_10 : decode jdk_42_method_54_code 10 = .ok (.ireturn, 1) := by decide +kernel
theorem own_pf16 : plainFor (⟨"java/lang/StringUTF16", "checkIndex", "(I[B)V"⟩ : MethodName) = true := by first | exact plainFor_of_name (by first | (simp [plainName, overriddenIn]; done) | decide +kernel) | decide +kernel
theorem own_ef11 (m : MethodId) (x0 : Int32) (x1 : Addr)  : entryFrame m #[(.int x0), (.ref x1)] 2 = mkF m 0 #[.val (.int x0), .val (.ref x1)] [] := by first | (simp [entryFrame, mkF, argsToLocals, Value.category]; done) | rfl
theorem d_jdk_52_method_91_0 : decode jdk_52_method_91_code 0 = .ok (.iload_n 0, 1) := by decide +kernel
theorem d_jdk_52_method_91_1 : decode jdk_52_method_91_code 1 = .ok (.aload_n 1, 1) := by decide +kernel
theorem own_pd10 : parseMethodDescriptor "([B)I" = some ⟨[(FieldType.array FieldType.byte)], some FieldType.int⟩ := by decide +kernel
theorem d_jdk_52_method_91_2 : decode jdk_52_method_91_code 2 = .ok (.invokestatic 48, 3) := by decide +kernel
theorem own_pd11 : parseMethodDescriptor "(II)V" = some ⟨[FieldType.int, FieldType.int], none⟩ := by decide +kernel
theorem d_jdk_52_method_91_5 : decode jdk_52_method_91_code 5 = .ok (.invokestatic 414, 3) := by decide +kernel
theorem d_jdk_52_method_91_8 : decode jdk_52_method_91_code 8 = .ok (.return_, 1) := by decide +kernel
theorem own_pf17 : plainFor (⟨"java/lang/StringUTF16", "charAt", "([BI)C"⟩ : MethodName) = true := by first | exact plainFor_of_name (by first | (simp [plainName, overriddenIn]; done) | decide +kernel) | decide +kernel
theorem d_jdk_52_method_83_0 : decode jdk_52_method_83_code 0 = .ok (.iload_n 1, 1) := by decide +kernel
theorem d_jdk_52_method_83_1 : decode jdk_52_method_83_code 1 = .ok (.aload_n 0, 1) := by decide +kernel
theorem own_pd12 : parseMethodDescriptor "(I[B)V" = some ⟨[FieldType.int, (FieldType.array FieldType.byte)], none⟩ := by decide +kernel
theorem d_jdk_52_method_83_2 : decode jdk_52_method_83_code 2 = .ok (.invokestatic 67, 3) := by decide +kernel
theorem d_jdk_52_method_83_5 : decode jdk_52_method_83_code 5 = .ok (.aload_n 0, 1) := by decide +kernel
theorem d_jdk_52_method_83_6 : decode jdk_52_method_83_code 6 = .ok (.iload_n 1, 1) := by decide +kernel
theorem d_jdk_52_method_83_7 : decode jdk_52_method_83_code 7 = .ok (.invokestatic 71, 3) := by decide +kernel
theorem d_jdk_52_method_83_10 : decode jdk_52_method_83_code 10 = .ok (.ireturn, 1) := by decide +kernel
theorem own_pf18 : plainFor (⟨"java/lang/String", "charAt", "(I)C"⟩ : MethodName) = true := by first | exact plainFor_of_name (by first | (simp [plainName, overriddenIn]; done) | decide +kernel) | decide +kernel
theorem d_jdk_42_method_56_0 : decode jdk_42_method_56_code 0 = .ok (.aload_n 0, 1) := by decide +kernel
theorem own_pd13 : parseMethodDescriptor "()Z" = some ⟨[], some FieldType.boolean⟩ := by decide +kernel
theorem d_jdk_42_method_56_1 : decode jdk_42_method_56_code 1 = .ok (.invokevirtual 492, 3) := by decide +kernel
theorem d_jdk_42_method_56_4 : decode jdk_42_method_56_code 4 = .ok (.ifCond .eq 12, 3) := by decide +kernel
theorem d_jdk_42_method_56_16 : decode jdk_42_method_56_code 16 = .ok (.aload_n 0, 1) := by decide +kernel
theorem d_jdk_42_method_56_17 : decode jdk_42_method_56_code 17 = .ok (.getfield 9, 3) := by decide +kernel
theorem d_jdk_42_method_56_20 : decode jdk_42_method_56_code 20 = .ok (.iload_n 1, 1) := by decide +kernel
theorem d_jdk_42_method_56_21 : decode jdk_42_method_56_code 21 = .ok (.invokestatic 498, 3) := by decide +kernel
theorem d_jdk_42_method_56_24 : decode jdk_42_method_56_code 24 = .ok (.ireturn, 1) := by decide +kernel
theorem own_pf19 : plainFor (⟨"com/example/gatepost/gatepost/http/HttpSyntax", "isFieldValue", "(Ljava/lang/String;)Z"⟩ : MethodName) = true := by first | exact plainFor_of_name (by first | (simp [plainName, overriddenIn]; done) | decide +kernel) | decide +kernel
theorem own_ef12 (m : MethodId) (x0 : Addr)  : entryFrame m #[(.ref x0)] 3 = mkF m 0 #[.val (.ref x0), .unset, .unset] [] := by first | (simp [entryFrame, mkF, argsToLocals, Value.category]; done) | rfl
theorem d_prog_53_method_3_0 : decode prog_53_method_3_code 0 = .ok (.iconst 0, 1) := by decide +kernel
theorem d_prog_53_method_3_1 : decode prog_53_method_3_code 1 = .ok (.istore_n 1, 1) := by decide +kernel
theorem d_prog_53_method_3_2 : decode prog_53_method_3_code 2 = .ok (.iload_n 1, 1) := by decide +kernel
theorem d_prog_53_method_3_3 : decode prog_53_method_3_code 3 = .ok (.aload_n 0, 1) := by decide +kernel
theorem own_pd14 : parseMethodDescriptor "()I" = some ⟨[], some FieldType.int⟩ := by decide +kernel
theorem d_prog_53_method_3_4 : decode prog_53_method_3_code 4 = .ok (.invokevirtual 25, 3) := by decide +kernel
theorem d_prog_53_method_3_7 : decode prog_53_method_3_code 7 = .ok (.if_icmp .ge 42, 3) := by decide +kernel
theorem d_prog_53_method_3_49 : decode prog_53_method_3_code 49 = .ok (.iconst 1, 1) := by decide +kernel
theorem d_prog_53_method_3_50 : decode prog_53_method_3_code 50 = .ok (.ireturn, 1) := by decide +kernel
theorem d_prog_53_method_3_10 : decode prog_53_method_3_code 10 = .ok (.aload_n 0, 1) := by decide +kernel
theorem d_prog_53_method_3_11 : decode prog_53_method_3_code 11 = .ok (.iload_n 1, 1) := by decide +kernel
theorem own_pd15 : parseMethodDescriptor "(I)C" = some ⟨[FieldType.int], some FieldType.char⟩ := by decide +kernel
theorem d_prog_53_method_3_12 : decode prog_53_method_3_code 12 = .ok (.invokevirtual 31, 3) := by decide +kernel
theorem d_prog_53_method_3_15 : decode prog_53_method_3_code 15 = .ok (.istore_n 2, 1) := by decide +kernel
theorem d_prog_53_method_3_16 : decode prog_53_method_3_code 16 = .ok (.iload_n 2, 1) := by decide +kernel
theorem d_prog_53_method_3_17 : decode prog_53_method_3_code 17 = .ok (.bipush 32, 2) := by decide +kernel
theorem d_prog_53_method_3_28 : decode prog_53_method_3_code 28 = .ok (.iload_n 2, 1) := by decide +kernel
theorem d_prog_53_method_3_29 : decode prog_53_method_3_code 29 = .ok (.bipush 127, 2) := by decide +kernel
theorem d_prog_53_method_3_31 : decode prog_53_method_3_code 31 = .ok (.if_icmp .eq 10, 3) := by decide +kernel
theorem d_prog_53_method_3_41 : decode prog_53_method_3_code 41 = .ok (.iconst 0, 1) := by decide +kernel
theorem d_prog_53_method_3_42 : decode prog_53_method_3_code 42 = .ok (.ireturn, 1) := by decide +kernel
theorem d_prog_53_method_3_34 : decode prog_53_method_3_code 34 = .ok (.iload_n 2, 1) := by decide +kernel
theorem d_prog_53_method_3_35 : decode prog_53_method_3_code 35 = .ok (.sipush 255, 3) := by decide +kernel
theorem d_prog_53_method_3_38 : decode prog_53_method_3_code 38 = .ok (.if_icmp .le 5, 3) := by decide +kernel
theorem d_prog_53_method_3_43 : decode prog_53_method_3_code 43 = .ok (.iinc 1 1, 3) := by decide +kernel
theorem d_prog_53_method_3_46 : decode prog_53_method_3_code 46 = .ok (.goto (-44), 3) := by decide +kernel
theorem d_prog_53_method_3_19 : decode prog_53_method_3_code 19 = .ok (.if_icmp .ge 9, 3) := by decide +kernel
theorem d_prog_53_method_3_22 : decode prog_53_method_3_code 22 = .ok (.iload_n 2, 1) := by decide +kernel
theorem d_prog_53_method_3_23 : decode prog_53_method_3_code 23 = .ok (.bipush 9, 2) := by decide +kernel
theorem d_prog_53_method_3_25 : decode prog_53_method_3_code 25 = .ok (.if_icmp .ne 16, 3) := by decide +kernel
theorem own_pf20 : plainFor (⟨"com/example/gatepost/gatepost/http/HttpSyntaxIsFieldValuePinLaw", "draw", "(I)C"⟩ : MethodName) = true := by first | exact plainFor_of_name (by first | (simp [plainName, overriddenIn]; done) | decide +kernel) | decide +kernel
theorem d_method_2_0 : decode method_2_code 0 = .ok (.iload_n 0, 1) := by decide +kernel
theorem d_method_2_1 : decode method_2_code 1 = .ok (.bipush 16, 2) := by decide +kernel
theorem d_method_2_3 : decode method_2_code 3 = .ok (.iushr, 1) := by decide +kernel
theorem d_method_2_4 : decode method_2_code 4 = .ok (.iconst 1, 1) := by decide +kernel
theorem d_method_2_5 : decode method_2_code 5 = .ok (.iand, 1) := by decide +kernel
theorem d_method_2_6 : decode method_2_code 6 = .ok (.ifCond .eq 6, 3) := by decide +kernel
theorem d_method_2_12 : decode method_2_code 12 = .ok (.iload_n 0, 1) := by decide +kernel
theorem d_method_2_13 : decode method_2_code 13 = .ok (.sipush 255, 3) := by decide +kernel
theorem d_method_2_16 : decode method_2_code 16 = .ok (.iand, 1) := by decide +kernel
theorem d_method_2_17 : decode method_2_code 17 = .ok (.i2c, 1) := by decide +kernel
theorem d_method_2_18 : decode method_2_code 18 = .ok (.ireturn, 1) := by decide +kernel
theorem d_method_2_9 : decode method_2_code 9 = .ok (.iload_n 0, 1) := by decide +kernel
theorem d_method_2_10 : decode method_2_code 10 = .ok (.i2c, 1) := by decide +kernel
theorem d_method_2_11 : decode method_2_code 11 = .ok (.ireturn, 1) := by decide +kernel
theorem own_pf21 : plainFor (⟨"com/example/gatepost/gatepost/http/HttpSyntaxIsFieldValuePinLaw", "ok", "(C)Z"⟩ : MethodName) = true := by first | exact plainFor_of_name (by first | (simp [plainName, overriddenIn]; done) | decide +kernel) | decide +kernel
theorem d_method_3_0 : decode method_3_code 0 = .ok (.iload_n 0, 1) := by decide +kernel
theorem d_method_3_1 : decode method_3_code 1 = .ok (.bipush 9, 2) := by decide +kernel
theorem d_method_3_3 : decode method_3_code 3 = .ok (.if_icmp .ne 5, 3) := by decide +kernel
theorem d_method_3_6 : decode method_3_code 6 = .ok (.iconst 1, 1) := by decide +kernel
theorem d_method_3_7 : decode method_3_code 7 = .ok (.ireturn, 1) := by decide +kernel
theorem d_method_3_8 : decode method_3_code 8 = .ok (.iload_n 0, 1) := by decide +kernel
theorem d_method_3_9 : decode method_3_code 9 = .ok (.bipush 32, 2) := by decide +kernel
theorem d_method_3_11 : decode method_3_code 11 = .ok (.if_icmp .ge 5, 3) := by decide +kernel
theorem d_method_3_14 : decode method_3_code 14 = .ok (.iconst 0, 1) := by decide +kernel
theorem d_method_3_15 : decode method_3_code 15 = .ok (.ireturn, 1) := by decide +kernel
theorem d_method_3_16 : decode method_3_code 16 = .ok (.iload_n 0, 1) := by decide +kernel
theorem d_method_3_17 : decode method_3_code 17 = .ok (.bipush 127, 2) := by decide +kernel
theorem d_method_3_19 : decode method_3_code 19 = .ok (.if_icmp .ne 5, 3) := by decide +kernel
theorem d_method_3_22 : decode method_3_code 22 = .ok (.iconst 0, 1) := by decide +kernel
theorem d_method_3_23 : decode method_3_code 23 = .ok (.ireturn, 1) := by decide +kernel
theorem d_method_3_24 : decode method_3_code 24 = .ok (.iload_n 0, 1) := by decide +kernel
theorem d_method_3_25 : decode method_3_code 25 = .ok (.sipush 255, 3) := by decide +kernel
theorem d_method_3_28 : decode method_3_code 28 = .ok (.if_icmp .gt 7, 3) := by decide +kernel
theorem d_method_3_35 : decode method_3_code 35 = .ok (.iconst 0, 1) := by decide +kernel
theorem d_method_3_36 : decode method_3_code 36 = .ok (.ireturn, 1) := by decide +kernel
theorem d_method_3_31 : decode method_3_code 31 = .ok (.iconst 1, 1) := by decide +kernel
theorem d_method_3_32 : decode method_3_code 32 = .ok (.goto 4, 3) := by decide +kernel
theorem own_pf22 : plainFor (⟨"com/example/gatepost/gatepost/http/HttpSyntaxIsFieldValuePinLaw", "law", "(IIII)Z"⟩ : MethodName) = true := by first | exact plainFor_of_name (by first | (simp [plainName, overriddenIn]; done) | decide +kernel) | decide +kernel
theorem own_ef13 (m : MethodId) (x0 : Int32) (x1 : Int32) (x2 : Int32) (x3 : Int32)  : entryFrame m #[(.int x0), (.int x1), (.int x2), (.int x3)] 10 = mkF m 0 #[.val (.int x0), .val (.int x1), .val (.int x2), .val (.int x3), .unset, .unset, .unset, .unset, .unset, .unset] [] := by first | (simp [entryFrame, mkF, argsToLocals, Value.category]; done) | rfl
theorem own_pd16 : parseMethodDescriptor "([C)V" = some ⟨[(FieldType.array FieldType.char)], none⟩ := by decide +kernel
theorem own_pd17 : parseMethodDescriptor "(Ljava/lang/String;)Z" = some ⟨[(FieldType.object "java/lang/String")], some FieldType.boolean⟩ := by decide +kernel
theorem own_pd18 : parseMethodDescriptor "(C)Z" = some ⟨[FieldType.char], some FieldType.boolean⟩ := by decide +kernel
theorem con_new4e {l : Launch} {Z : State} {a0 : Array Value} {cz : Int32} {fm : Value} (H : Ctx Z a0 cz fm) (x b : Addr) (gzx : Z.heap.size ≤ x) (h0 : Heap) (Ax : Exa Z h0 x "java/lang/String") (Fx_value : Fld Z h0 x "java/lang/String" "value" "[B" .null) (Fx_coder : Fld Z h0 x "java/lang/String" "coder" "B" (.int (0 : Int32))) :
    ConX l Z consts_1 (⟨"java/lang/String", "<init>", "([CIILjava/lang/Void;)V"⟩ : MethodName) jdk_42_method_149_code 6 (none : Option FieldType) [] ({ frames := 1, cells := 4, slots := 8, locals := 12 } : Room) #[(.ref x), (.ref b), (.int (0 : Int32)), (.int (0 : Int32)), (.null)] h0 (fun r h => r = none ∧ Keep h0 h [x] ∧ OStr Z h x []) := by
  obtain ⟨hw, hE, S0, hcz, S1, rf, hp0, hp1, hp2⟩ := id H
  refine ConX.of own_pf0 ?_
  intro p e s m below meth c T hby hml hret hlk hnm X0
  have EX0 := ext_refl h0
  refine OEnds.cast (own_ef0 m x b (0 : Int32) (0 : Int32) ) ?_
  show OEnds p e below _ T (mkF m 0 #[.val (.ref x), .val (.ref b), .val (.int (0 : Int32)), .val (.int (0 : Int32)), .val (.null), .unset] [])
  have K0 := Keep.refl h0 [x]
  refine OEnds.go (fun _ q => XS.aloadN X0.here X0.hx rfl (hb hby d_jdk_42_method_149_0) rfl rfl q) ?_
  show OEnds p e below _ T (mkF m 1 #[.val (.ref x), .val (.ref b), .val (.int (0 : Int32)), .val (.int (0 : Int32)), .val (.null), .unset] [(.ref x)])
  refine X0.initO (own_k hw 15 rfl) (own_k hw 16 rfl) (own_k hw 17 rfl) (by rw [hml]; rfl) (hb hby d_jdk_42_method_149_1) (by decide) (W := 0) (Nat.le_of_eq rfl) (by decide) ?_
  intro T1 X2
  show OEnds p e below _ T1 (mkF m 4 #[.val (.ref x), .val (.ref b), .val (.int (0 : Int32)), .val (.int (0 : Int32)), .val (.null), .unset] [])
  refine OEnds.go (fun _ q => XS.iloadN X2.here X2.hx rfl (hb hby d_jdk_42_method_149_4) rfl q) ?_
  show OEnds p e below _ T1 (mkF m 5 #[.val (.ref x), .val (.ref b), .val (.int (0 : Int32)), .val (.int (0 : Int32)), .val (.null), .unset] [(.int (0 : Int32))])
  refine OEnds.go (fun _ q => XS.ifNo X2.here X2.hx rfl (hb hby d_jdk_42_method_149_5) rfl ((if0 _ _).trans (teq (rfl : (0 : Int32) = 0)).2) q) ?_
  show OEnds p e below _ T1 (mkF m 8 #[.val (.ref x), .val (.ref b), .val (.int (0 : Int32)), .val (.int (0 : Int32)), .val (.null), .unset] [])
  refine OEnds.go (fun _ q => XS.aloadN X2.here X2.hx rfl (hb hby d_jdk_42_method_149_8) rfl rfl q) ?_
  show OEnds p e below _ T1 (mkF m 9 #[.val (.ref x), .val (.ref b), .val (.int (0 : Int32)), .val (.int (0 : Int32)), .val (.null), .unset] [(.ref x)])
  have Sfx := safe_blank (EL := consts_1) X2.al Ax Fx_value
  refine X2.ldcR hE (own_k hw 18 rfl) (own_wS hw) (List.mem_of_getElem? (i := 0) rfl) (vs := []) (z := 0) ⟨by decide, rfl⟩ (by decide) (by decide) (hb hby d_jdk_42_method_149_9) (j := 0) (by decide) (by decide) (by decide) (by decide) ?_
  intro vm3 T4 h5 a6 a7 ka7 X8 E9 C10 Aa6 Ca6 Va6 Ka7 ne11
  have Sf12 := C10.safe Ax.lt Sfx
  have Ax_h5 := Ax.ext E9
  have Fx_value_h5 := Fx_value.ext E9
  have Fx_coder_h5 := Fx_coder.ext E9
  have EX_h5 := ext_trans EX0 E9
  have Kpx_h5 := K0.ext E9
  show OEnds p e below _ T4 (mkF m 11 #[.val (.ref x), .val (.ref b), .val (.int (0 : Int32)), .val (.int (0 : Int32)), .val (.null), .unset] [(.ref a6), (.ref x)])
  refine X8.getF (own_k hw 24 rfl) Via.refl Va6 (hb hby d_jdk_42_method_149_11) ?_
  intro T13 X14
  show OEnds p e below _ T13 (mkF m 14 #[.val (.ref x), .val (.ref b), .val (.int (0 : Int32)), .val (.int (0 : Int32)), .val (.null), .unset] [(.ref a7), (.ref x)])
  refine X14.putF (v := (.ref a7)) (own_k hw 24 rfl) Via.refl Fx_value_h5 Ax_h5 (Or.inr ⟨(own_k hw 20 rfl), rfl, hnm⟩) (own_k hw 5 rfl) (ty := (FieldType.array FieldType.byte)) (by decide) rfl rfl Sf12 gzx (hb hby d_jdk_42_method_149_14) ?_
  intro T15 h17 X16 W18
  have Fx_value_h17 := Fx_value_h5.same W18
  have Ax_h17 := Ax_h5.wr W18
  have Fx_coder_h17 := Fx_coder_h5.other W18 (Or.inr (slot_ne (a0 := a0) (Or.inr (own_k hw 21 rfl)) (Or.inr (own_k hw 20 rfl)) (by decide) (t := FieldType.byte) (by decide) (t' := (FieldType.array FieldType.byte)) (by decide)))
  have K19 := Kpx_h5.wr W18 (Or.inl (List.mem_of_getElem? (i := 0) rfl))
  have Sf20 := Safe.wr W18 Sf12 X14.chv Sf12
  have Aa6_h17 := Aa6.wr W18
  have Ca6_h17 := Ca6.other W18 (Or.inl ((ne11 _ Sf12).1.symm))
  have Va6_h17 := Va6.other W18 (Or.inl ((ne11 _ Sf12).1.symm))
  have Ka7_h17 := Ka7.other W18 ((ne11 _ Sf12).2.symm)
  show OEnds p e below _ T15 (mkF m 17 #[.val (.ref x), .val (.ref b), .val (.int (0 : Int32)), .val (.int (0 : Int32)), .val (.null), .unset] [])
  refine OEnds.go (fun _ q => XS.aloadN X16.here X16.hx rfl (hb hby d_jdk_42_method_149_17) rfl rfl q) ?_
  show OEnds p e below _ T15 (mkF m 18 #[.val (.ref x), .val (.ref b), .val (.int (0 : Int32)), .val (.int (0 : Int32)), .val (.null), .unset] [(.ref x)])
  refine X16.ldcR hE (own_k hw 18 rfl) (own_wS hw) (List.mem_of_getElem? (i := 0) rfl) (vs := []) (z := 0) ⟨by decide, rfl⟩ (by decide) (by decide) (hb hby d_jdk_42_method_149_18) (j := 0) (by decide) (by decide) (by decide) (by decide) ?_
  intro vm21 T22 h23 a24 a25 ka25 X26 E27 C28 Aa24 Ca24 Va24 Ka25 ne29
  have Sf30 := C28.safe Ax_h17.lt Sf20
  have Aa6_h23 := Aa6_h17.ext E27
  have Ca6_h23 := Ca6_h17.ext E27
  have Va6_h23 := Va6_h17.ext E27
  have Ka7_h23 := Ka7_h17.ext E27
  have Fx_value_h23 := Fx_value_h17.ext E27
  have Ax_h23 := Ax_h17.ext E27
  have Fx_coder_h23 := Fx_coder_h17.ext E27
  have Kpx_h23 := K19.ext E27
  show OEnds p e below _ T22 (mkF m 20 #[.val (.ref x), .val (.ref b), .val (.int (0 : Int32)), .val (.int (0 : Int32)), .val (.null), .unset] [(.ref a24), (.ref x)])
  refine X26.getF (own_k hw 25 rfl) Via.refl Ca24 (hb hby d_jdk_42_method_149_20) ?_
  intro T31 X32
  show OEnds p e below _ T31 (mkF m 23 #[.val (.ref x), .val (.ref b), .val (.int (0 : Int32)), .val (.int (0 : Int32)), .val (.null), .unset] [(.int (0 : Int32)), (.ref x)])
  refine X32.putF (v := (.int (0 : Int32))) (own_k hw 25 rfl) Via.refl Fx_coder_h23 Ax_h23 (Or.inr ⟨(own_k hw 21 rfl), rfl, hnm⟩) (own_k hw 5 rfl) (ty := FieldType.byte) (by decide) rfl rfl Sf30 gzx (hb hby d_jdk_42_method_149_23) ?_
  intro T33 h35 X34 W36
  have Fx_coder_h35 := Fx_coder_h23.same W36
  have Ax_h35 := Ax_h23.wr W36
  have Fx_value_h35 := Fx_value_h23.other W36 (Or.inr (slot_ne (a0 := a0) (Or.inr (own_k hw 20 rfl)) (Or.inr (own_k hw 21 rfl)) (by decide) (t := (FieldType.array FieldType.byte)) (by decide) (t' := FieldType.byte) (by decide)))
  have K37 := Kpx_h23.wr W36 (Or.inl (List.mem_of_getElem? (i := 0) rfl))
  have Sf38 := Safe.wr W36 Sf30 X32.chv Sf30
  have Aa6_h35 := Aa6_h23.wr W36
  have Ca6_h35 := Ca6_h23.other W36 (Or.inl ((ne11 _ Sf12).1.symm))
  have Va6_h35 := Va6_h23.other W36 (Or.inl ((ne11 _ Sf12).1.symm))
  have Ka7_h35 := Ka7_h23.other W36 ((ne11 _ Sf12).2.symm)
  have Aa24_h35 := Aa24.wr W36
  have Ca24_h35 := Ca24.other W36 (Or.inl ((ne29 _ Sf30).1.symm))
  have Va24_h35 := Va24.other W36 (Or.inl ((ne29 _ Sf30).1.symm))
  have Ka25_h35 := Ka25.other W36 ((ne29 _ Sf30).2.symm)
  show OEnds p e below _ T33 (mkF m 26 #[.val (.ref x), .val (.ref b), .val (.int (0 : Int32)), .val (.int (0 : Int32)), .val (.null), .unset] [])
  exact X34.ret0 hE hlk  hret (hb hby d_jdk_42_method_149_26) (by decide) (by decide) ⟨rfl, K37, Ax_h35, Fx_coder_h35, ⟨a7, ka7, Fx_value_h35, Ka7_h35⟩, all_nil, by decide⟩
theorem con_strE {l : Launch} {Z : State} {a0 : Array Value} {cz : Int32} {fm : Value} (H : Ctx Z a0 cz fm) (x b : Addr) (kC : ClassId) (dv : Value) (gzx : Z.heap.size ≤ x) (h0 : Heap) (Ax : Exa Z h0 x "java/lang/String") (Fx_value : Fld Z h0 x "java/lang/String" "value" "[B" .null) (Fx_coder : Fld Z h0 x "java/lang/String" "coder" "B" (.int (0 : Int32))) (Kb : Arv Z h0 b kC .char (0 : Int32) [] dv) :
    ConX l Z consts_1 (⟨"java/lang/String", "<init>", "([C)V"⟩ : MethodName) jdk_42_method_3_code 2 (none : Option FieldType) [] ({ frames := 2, cells := 4, slots := 8, locals := 29 } : Room) #[(.ref x), (.ref b)] h0 (fun r h => r = none ∧ Keep h0 h [x] ∧ OStr Z h x []) := by
  obtain ⟨hw, hE, S0, hcz, S1, rf, hp0, hp1, hp2⟩ := id H
  refine ConX.of own_pf1 ?_
  intro p e s m below meth c T hby hml hret hlk hnm X0
  have EX0 := ext_refl h0
  refine OEnds.cast (own_ef1 m x b ) ?_
  show OEnds p e below _ T (mkF m 0 #[.val (.ref x), .val (.ref b)] [])
  have K0 := Keep.refl h0 [x]
  refine OEnds.go (fun _ q => XS.aloadN X0.here X0.hx rfl (hb hby d_jdk_42_method_3_0) rfl rfl q) ?_
  refine OEnds.go (fun _ q => XS.aloadN X0.here X0.hx rfl (hb hby d_jdk_42_method_3_1) rfl rfl q) ?_
  show OEnds p e below _ T (mkF m 2 #[.val (.ref x), .val (.ref b)] [(.ref b), (.ref x)])
  refine OEnds.go (fun _ q => XS.iconst X0.here X0.hx rfl (hb hby d_jdk_42_method_3_2) q) ?_
  refine OEnds.go (fun _ q => XS.aloadN X0.here X0.hx rfl (hb hby d_jdk_42_method_3_3) rfl rfl q) ?_
  show OEnds p e below _ T (mkF m 4 #[.val (.ref x), .val (.ref b)] [(.ref b), (.int (0 : Int32)), (.ref b), (.ref x)])
  refine X0.alen Kb (hb hby d_jdk_42_method_3_4) ?_
  show OEnds p e below _ T (mkF m 5 #[.val (.ref x), .val (.ref b)] [(.int (0 : Int32)), (.int (0 : Int32)), (.ref b), (.ref x)])
  refine OEnds.go (fun _ q => XS.aconstNull X0.here X0.hx rfl (hb hby d_jdk_42_method_3_5) q) ?_
  show OEnds p e below _ T (mkF m 6 #[.val (.ref x), .val (.ref b)] [(.null), (.int (0 : Int32)), (.int (0 : Int32)), (.ref b), (.ref x)])
  refine X0.callI hE (con_new4e H x b gzx h0 Ax Fx_value Fx_coder) (own_k hw 11 rfl) (own_k hw 12 rfl) (own_k hw 6 rfl) (own_k hw 14 rfl) rfl (by decide) (W := 0) (by decide) (by decide) (a := x) (argsL := [(.ref b), (.int (0 : Int32)), (.int (0 : Int32)), (.null)]) (rest := []) rfl (lenOf own_pd0 rfl) rfl (by rw [hml]; rfl) (Nat.le_of_eq rfl) (hb hby d_jdk_42_method_3_6) (by decide) (by decide) ?_
  intro v6 vm4 T1 h3 X2 C5 q7
  obtain ⟨rfl, K1, S1x⟩ := q7
  show OEnds p e below _ T1 (mkF m 9 #[.val (.ref x), .val (.ref b)] [])
  exact X2.ret0 hE hlk  hret (hb hby d_jdk_42_method_3_9) (by decide) (by decide) ⟨rfl, K1, S1x⟩
theorem con_nbl1 {l : Launch} {Z : State} {a0 : Array Value} {cz : Int32} {fm : Value} (H : Ctx Z a0 cz fm)  (h0 : Heap)  :
    ConN l Z (⟨"java/lang/StringUTF16", "newBytesLength", "(I)I"⟩ : MethodName) jdk_52_method_3_code 1 (some FieldType.int) [] ({ frames := 0, cells := 0, slots := 0, locals := 0 } : Room) #[(.int (1 : Int32))] h0 (fun r h => r = some (.int (2 : Int32)) ∧ h0 = h) := by
  obtain ⟨hw, hE, S0, hcz, S1, rf, hp0, hp1, hp2⟩ := id H
  refine ConN.of own_pf2 ?_
  intro p e s m below meth c T hby hml hret hlk hnm X0
  have EX0 := ext_refl h0
  refine OEnds.cast (own_ef2 m (1 : Int32) ) ?_
  show OEnds p e below _ T (mkF m 0 #[.val (.int (1 : Int32))] [])
  refine OEnds.go (fun _ q => XS.iloadN X0.here X0.hx rfl (hb hby d_jdk_52_method_3_0) rfl q) ?_
  show OEnds p e below _ T (mkF m 1 #[.val (.int (1 : Int32))] [(.int (1 : Int32))])
  refine OEnds.go (fun _ q => XS.ifYes X0.here X0.hx rfl (pc0 := 1) (pc' := 12) rfl (hb hby d_jdk_52_method_3_1) rfl ((if0 _ _).trans (flt (by decide)).2.1) (by decide) (by decide) q) ?_
  show OEnds p e below _ T (mkF m 12 #[.val (.int (1 : Int32))] [])
  refine OEnds.go (fun _ q => XS.iloadN X0.here X0.hx rfl (hb hby d_jdk_52_method_3_12) rfl q) ?_
  show OEnds p e below _ T (mkF m 13 #[.val (.int (1 : Int32))] [(.int (1 : Int32))])
  refine X0.ldcI (own_k hw 85 rfl) (hb hby d_jdk_52_method_3_13) ?_
  show OEnds p e below _ T (mkF m 15 #[.val (.int (1 : Int32))] [(.int (1073741823 : Int32)), (.int (1 : Int32))])
  refine OEnds.go (fun _ q => XS.icmpYes X0.here X0.hx rfl (pc0 := 15) (pc' := 55) rfl (hb hby d_jdk_52_method_3_15) rfl (tlt (by decide)).1 (by decide) (by decide) q) ?_
  show OEnds p e below _ T (mkF m 55 #[.val (.int (1 : Int32))] [])
  refine OEnds.go (fun _ q => XS.iloadN X0.here X0.hx rfl (hb hby d_jdk_52_method_3_55) rfl q) ?_
  refine OEnds.go (fun _ q => XS.iconst X0.here X0.hx rfl (hb hby d_jdk_52_method_3_56) q) ?_
  show OEnds p e below _ T (mkF m 57 #[.val (.int (1 : Int32))] [(.int (1 : Int32)), (.int (1 : Int32))])
  refine OEnds.go (fun _ q => XS.ishl X0.here X0.hx rfl (hb hby d_jdk_52_method_3_57) rfl q) ?_
  show OEnds p e below _ T (mkF m 58 #[.val (.int (1 : Int32))] [(.int ((1 : Int32) <<< ((1 : Int32) &&& 31)))])
  rw [show ((1 : Int32) <<< ((1 : Int32) &&& 31)) = (2 : Int32) from by decide]
  show OEnds p e below _ T (mkF m 58 #[.val (.int (1 : Int32))] [(.int (2 : Int32))])
  exact X0.retIntN hlk  hret (hb hby d_jdk_52_method_3_58) (by decide) (by decide) ⟨rfl, rfl⟩
theorem con_nbf1 {l : Launch} {Z : State} {a0 : Array Value} {cz : Int32} {fm : Value} (H : Ctx Z a0 cz fm)  (h0 : Heap)  :
    ConN l Z (⟨"java/lang/StringUTF16", "newBytesFor", "(I)[B"⟩ : MethodName) jdk_52_method_2_code 1 (some (FieldType.array FieldType.byte)) [] ({ frames := 1, cells := 1, slots := 2, locals := 12 } : Room) #[(.int (1 : Int32))] h0 (fun r h => ∃ (t : Addr) (kb : ClassId), r = some (.ref t) ∧ Ext h0 h ∧ Arv Z h t kb .byte (2 : Int32) [.int (0 : Int32), .int (0 : Int32)] (.int (0 : Int32)) ∧ h0.size = t) := by
  obtain ⟨hw, hE, S0, hcz, S1, rf, hp0, hp1, hp2⟩ := id H
  refine ConN.of own_pf3 ?_
  intro p e s m below meth c T hby hml hret hlk hnm X0
  have EX0 := ext_refl h0
  refine OEnds.cast (own_ef2 m (1 : Int32) ) ?_
  show OEnds p e below _ T (mkF m 0 #[.val (.int (1 : Int32))] [])
  refine OEnds.go (fun _ q => XS.iloadN X0.here X0.hx rfl (hb hby d_jdk_52_method_2_0) rfl q) ?_
  show OEnds p e below _ T (mkF m 1 #[.val (.int (1 : Int32))] [(.int (1 : Int32))])
  refine X0.payS (ConN.back (W := 0) (con_nbl1 H h0) X0.old X0.hZ (own_k hw 84 rfl) (own_k hw 43 rfl) (by decide) (by decide)) (okN (fun _ _ q => Nat.le_of_eq (congrArg Array.size q.2))) (own_k hw 82 rfl) (own_k hw 83 rfl) (own_k hw 43 rfl) (own_k hw 84 rfl)  (by decide)  (argsL := [(.int (1 : Int32))]) (rest := []) rfl (lenOf own_pd1 rfl) rfl (by rw [hml]; rfl) (Nat.le_of_eq rfl) (hb hby d_jdk_52_method_2_1) (by decide) (by decide) ?_
  intro v6 T1 h3 Lh3 X2 q7
  replace q7 := q7.1
  obtain ⟨rfl, rfl⟩ := q7
  show OEnds p e below _ T1 (mkF m 4 #[.val (.int (1 : Int32))] [(.int (2 : Int32))])
  refine X2.newP (own_k hw 19 rfl) (hb hby d_jdk_52_method_2_4) (by decide) (cap := 2) (by decide) (by decide) (by decide) (by decide) ?_
  intro T8 h10 a12 ka12 ga12 X9 E11 Ka12
  have gza12 : Z.heap.size ≤ a12 := ga12 ▸ X2.old.1
  have EX_h10 := ext_trans EX0 E11
  have Ka12_0 : Arv Z h10 a12 ka12 .byte (2 : Int32) [.int (0 : Int32), .int (0 : Int32)] (.int (0 : Int32)) := Ka12.pad (pad_rep [] (.int (0 : Int32)) 2)
  show OEnds p e below _ T8 (mkF m 6 #[.val (.int (1 : Int32))] [(.ref a12)])
  exact X9.retRefN hlk rfl (t := (FieldType.array FieldType.byte)) rfl hret (hb hby d_jdk_52_method_2_6) (by decide) (by decide) ⟨a12, _, rfl, EX_h10, Ka12_0, ga12⟩
theorem con_put10 {l : Launch} {Z : State} {a0 : Array Value} {cz : Int32} {fm : Value} (H : Ctx Z a0 cz fm) (b : Addr) (kb : ClassId) (w0 w1 v : Int32) (gzb : Z.heap.size ≤ b) (h0 : Heap) (Kb : Arv Z h0 b kb .byte (2 : Int32) [.int w0, .int w1] (.int (0 : Int32))) :
    ConN l Z (⟨"java/lang/StringUTF16", "putChar", "([BII)V"⟩ : MethodName) jdk_52_method_4_code 3 (none : Option FieldType) [] ({ frames := 0, cells := 0, slots := 0, locals := 0 } : Room) #[(.ref b), (.int (0 : Int32)), (.int v)] h0 (fun r h => r = none ∧ Keep h0 h [b] ∧ Arv Z h b kb .byte (2 : Int32) [.int (own_lo v), .int (own_hi v)] (.int (0 : Int32))) := by
  obtain ⟨hw, hE, S0, hcz, S1, rf, hp0, hp1, hp2⟩ := id H
  refine ConN.of own_pf4 ?_
  intro p e s m below meth c T hby hml hret hlk hnm X0
  have EX0 := ext_refl h0
  refine OEnds.cast (own_ef3 m b (0 : Int32) v ) ?_
  show OEnds p e below _ T (mkF m 0 #[.val (.ref b), .val (.int (0 : Int32)), .val (.int v)] [])
  have K0 := Keep.refl h0 [b]
  refine X0.getS (own_k hw 89 rfl) Via.refl (hp0.ext X0.old) (hb hby d_jdk_52_method_4_0) ?_
  intro T1 X2
  show OEnds p e below _ T1 (mkF m 3 #[.val (.ref b), .val (.int (0 : Int32)), .val (.int v)] [(.int (1 : Int32))])
  refine OEnds.go (fun _ q => XS.ifYes X2.here X2.hx rfl (pc0 := 3) (pc' := 28) rfl (hb hby d_jdk_52_method_4_3) rfl ((if0 _ _).trans (feq (by decide)).2) (by decide) (by decide) q) ?_
  show OEnds p e below _ T1 (mkF m 28 #[.val (.ref b), .val (.int (0 : Int32)), .val (.int v)] [])
  refine OEnds.go (fun _ q => XS.iloadN X2.here X2.hx rfl (hb hby d_jdk_52_method_4_28) rfl q) ?_
  show OEnds p e below _ T1 (mkF m 29 #[.val (.ref b), .val (.int (0 : Int32)), .val (.int v)] [(.int (0 : Int32))])
  refine OEnds.go (fun _ q => XS.iconst X2.here X2.hx rfl (hb hby d_jdk_52_method_4_29) q) ?_
  show OEnds p e below _ T1 (mkF m 30 #[.val (.ref b), .val (.int (0 : Int32)), .val (.int v)] [(.int (1 : Int32)), (.int (0 : Int32))])
  refine OEnds.go (fun _ q => XS.ishl X2.here X2.hx rfl (hb hby d_jdk_52_method_4_30) rfl q) ?_
  show OEnds p e below _ T1 (mkF m 31 #[.val (.ref b), .val (.int (0 : Int32)), .val (.int v)] [(.int ((0 : Int32) <<< ((1 : Int32) &&& 31)))])
  rw [show ((0 : Int32) <<< ((1 : Int32) &&& 31)) = (0 : Int32) from by decide]
  show OEnds p e below _ T1 (mkF m 31 #[.val (.ref b), .val (.int (0 : Int32)), .val (.int v)] [(.int (0 : Int32))])
  refine OEnds.go (fun _ q => XS.istoreN X2.here X2.hx rfl (hb hby d_jdk_52_method_4_31) rfl (l' := #[.val (.ref b), .val (.int (0 : Int32)), .val (.int v)]) rfl q) ?_
  show OEnds p e below _ T1 (mkF m 32 #[.val (.ref b), .val (.int (0 : Int32)), .val (.int v)] [])
  refine OEnds.go (fun _ q => XS.aloadN X2.here X2.hx rfl (hb hby d_jdk_52_method_4_32) rfl rfl q) ?_
  show OEnds p e below _ T1 (mkF m 33 #[.val (.ref b), .val (.int (0 : Int32)), .val (.int v)] [(.ref b)])
  refine OEnds.go (fun _ q => XS.iloadN X2.here X2.hx rfl (hb hby d_jdk_52_method_4_33) rfl q) ?_
  show OEnds p e below _ T1 (mkF m 34 #[.val (.ref b), .val (.int (0 : Int32)), .val (.int v)] [(.int (0 : Int32)), (.ref b)])
  refine OEnds.go (fun _ q => XS.iinc X2.here X2.hx rfl (hb hby d_jdk_52_method_4_34) rfl (l' := #[.val (.ref b), .val (.int ((0 : Int32) + (1 : Int32))), .val (.int v)]) rfl q) ?_
  show OEnds p e below _ T1 (mkF m 37 #[.val (.ref b), .val (.int ((0 : Int32) + (1 : Int32))), .val (.int v)] [(.int (0 : Int32)), (.ref b)])
  rw [show ((0 : Int32) + (1 : Int32)) = (1 : Int32) from by decide]
  show OEnds p e below _ T1 (mkF m 37 #[.val (.ref b), .val (.int (1 : Int32)), .val (.int v)] [(.int (0 : Int32)), (.ref b)])
  refine OEnds.go (fun _ q => XS.iloadN X2.here X2.hx rfl (hb hby d_jdk_52_method_4_37) rfl q) ?_
  show OEnds p e below _ T1 (mkF m 38 #[.val (.ref b), .val (.int (1 : Int32)), .val (.int v)] [(.int v), (.int (0 : Int32)), (.ref b)])
  refine X2.getS (own_k hw 90 rfl) Via.refl (hp1.ext X2.old) (hb hby d_jdk_52_method_4_38) ?_
  intro T3 X4
  show OEnds p e below _ T3 (mkF m 41 #[.val (.ref b), .val (.int (1 : Int32)), .val (.int v)] [(.int (0 : Int32)), (.int v), (.int (0 : Int32)), (.ref b)])
  refine OEnds.go (fun _ q => XS.ishr X4.here X4.hx rfl (hb hby d_jdk_52_method_4_41) rfl q) ?_
  refine OEnds.go (fun _ q => XS.i2b X4.here X4.hx rfl (hb hby d_jdk_52_method_4_42) rfl q) ?_
  show OEnds p e below _ T3 (mkF m 43 #[.val (.ref b), .val (.int (1 : Int32)), .val (.int v)] [(.int ((v >>> ((0 : Int32) &&& 31)).toInt8.toInt32)), (.int (0 : Int32)), (.ref b)])
  refine X4.stB Kb safe_nil (by decide) (i := 0) rfl (Nat.le_of_ble_eq_true rfl) gzb (hb hby d_jdk_52_method_4_43) ?_
  intro T5 h7 X6 W8 Kb_h7x
  have Kb_h7 : Arv Z h7 b kb .byte (2 : Int32) [.int (own_lo v), .int w1] (.int (0 : Int32)) := Kb_h7x
  have K9 := K0.wr W8 (Or.inl (List.mem_of_getElem? (i := 0) rfl))
  show OEnds p e below _ T5 (mkF m 44 #[.val (.ref b), .val (.int (1 : Int32)), .val (.int v)] [])
  refine OEnds.go (fun _ q => XS.aloadN X6.here X6.hx rfl (hb hby d_jdk_52_method_4_44) rfl rfl q) ?_
  refine OEnds.go (fun _ q => XS.iloadN X6.here X6.hx rfl (hb hby d_jdk_52_method_4_45) rfl q) ?_
  show OEnds p e below _ T5 (mkF m 46 #[.val (.ref b), .val (.int (1 : Int32)), .val (.int v)] [(.int (1 : Int32)), (.ref b)])
  refine OEnds.go (fun _ q => XS.iloadN X6.here X6.hx rfl (hb hby d_jdk_52_method_4_46) rfl q) ?_
  show OEnds p e below _ T5 (mkF m 47 #[.val (.ref b), .val (.int (1 : Int32)), .val (.int v)] [(.int v), (.int (1 : Int32)), (.ref b)])
  refine X6.getS (own_k hw 91 rfl) Via.refl (hp2.ext X6.old) (hb hby d_jdk_52_method_4_47) ?_
  intro T10 X11
  show OEnds p e below _ T10 (mkF m 50 #[.val (.ref b), .val (.int (1 : Int32)), .val (.int v)] [(.int (8 : Int32)), (.int v), (.int (1 : Int32)), (.ref b)])
  refine OEnds.go (fun _ q => XS.ishr X11.here X11.hx rfl (hb hby d_jdk_52_method_4_50) rfl q) ?_
  refine OEnds.go (fun _ q => XS.i2b X11.here X11.hx rfl (hb hby d_jdk_52_method_4_51) rfl q) ?_
  show OEnds p e below _ T10 (mkF m 52 #[.val (.ref b), .val (.int (1 : Int32)), .val (.int v)] [(.int ((v >>> ((8 : Int32) &&& 31)).toInt8.toInt32)), (.int (1 : Int32)), (.ref b)])
  refine X11.stB Kb_h7 safe_nil (by decide) (i := 1) rfl (Nat.le_of_ble_eq_true rfl) gzb (hb hby d_jdk_52_method_4_52) ?_
  intro T12 h14 X13 W15 Kb_h14x
  have Kb_h14 : Arv Z h14 b kb .byte (2 : Int32) [.int (own_lo v), .int (own_hi v)] (.int (0 : Int32)) := Kb_h14x
  have K16 := K9.wr W15 (Or.inl (List.mem_of_getElem? (i := 0) rfl))
  show OEnds p e below _ T12 (mkF m 53 #[.val (.ref b), .val (.int (1 : Int32)), .val (.int v)] [])
  exact X13.ret0N hlk  hret (hb hby d_jdk_52_method_4_53) (by decide) (by decide) ⟨rfl, K16, Kb_h14⟩
theorem con_tob1 {l : Launch} {Z : State} {a0 : Array Value} {cz : Int32} {fm : Value} (H : Ctx Z a0 cz fm) (a : Addr) (kc : ClassId) (c0 : Int32) (h0 : Heap) (Ka : Arv Z h0 a kc .char (1 : Int32) [.int c0] (.int (0 : Int32))) :
    ConN l Z (⟨"java/lang/StringUTF16", "toBytes", "([CII)[B"⟩ : MethodName) jdk_52_method_14_code 5 (some (FieldType.array FieldType.byte)) [] ({ frames := 2, cells := 1, slots := 2, locals := 24 } : Room) #[(.ref a), (.int (0 : Int32)), (.int (1 : Int32))] h0 (fun r h => ∃ (t : Addr) (kb : ClassId), r = some (.ref t) ∧ Ext h0 h ∧ Arv Z h t kb .byte (2 : Int32) [.int (own_lo c0), .int (own_hi c0)] (.int (0 : Int32))) := by
  obtain ⟨hw, hE, S0, hcz, S1, rf, hp0, hp1, hp2⟩ := id H
  refine ConN.of own_pf5 ?_
  intro p e s m below meth c T hby hml hret hlk hnm X0
  have EX0 := ext_refl h0
  refine OEnds.cast (own_ef4 m a (0 : Int32) (1 : Int32) ) ?_
  show OEnds p e below _ T (mkF m 0 #[.val (.ref a), .val (.int (0 : Int32)), .val (.int (1 : Int32)), .unset, .unset] [])
  refine OEnds.go (fun _ q => XS.iloadN X0.here X0.hx rfl (hb hby d_jdk_52_method_14_0) rfl q) ?_
  show OEnds p e below _ T (mkF m 1 #[.val (.ref a), .val (.int (0 : Int32)), .val (.int (1 : Int32)), .unset, .unset] [(.int (1 : Int32))])
  refine X0.payS (ConN.back (W := 0) (con_nbf1 H h0) X0.old X0.hZ (own_k hw 81 rfl) (own_k hw 43 rfl) (by decide) (by decide)) (okN (fun _ _ ⟨_, _, _, q, _⟩ => q.1)) (own_k hw 79 rfl) (own_k hw 80 rfl) (own_k hw 43 rfl) (own_k hw 81 rfl)  (by decide)  (argsL := [(.int (1 : Int32))]) (rest := []) rfl (lenOf own_pd2 rfl) rfl (by rw [hml]; rfl) (Nat.le_of_eq rfl) (hb hby d_jdk_52_method_14_1) (by decide) (by decide) ?_
  intro v6 T1 h3 Lh3 X2 q7
  replace q7 := q7.1
  obtain ⟨t, kb, rfl, Et, Kt, gt⟩ := q7
  have Ka_h3 := Ka.ext Et
  have EX_h3 := ext_trans EX0 Et
  show OEnds p e below _ T1 (mkF m 4 #[.val (.ref a), .val (.int (0 : Int32)), .val (.int (1 : Int32)), .unset, .unset] [(.ref t)])
  have gzt : Z.heap.size ≤ t := gt ▸ X0.old.1
  refine OEnds.go (fun _ q => XS.astoreN X2.here X2.hx rfl (hb hby d_jdk_52_method_14_4) rfl rfl (l' := #[.val (.ref a), .val (.int (0 : Int32)), .val (.int (1 : Int32)), .val (.ref t), .unset]) rfl q) ?_
  show OEnds p e below _ T1 (mkF m 5 #[.val (.ref a), .val (.int (0 : Int32)), .val (.int (1 : Int32)), .val (.ref t), .unset] [])
  refine OEnds.go (fun _ q => XS.iconst X2.here X2.hx rfl (hb hby d_jdk_52_method_14_5) q) ?_
  show OEnds p e below _ T1 (mkF m 6 #[.val (.ref a), .val (.int (0 : Int32)), .val (.int (1 : Int32)), .val (.ref t), .unset] [(.int (0 : Int32))])
  refine OEnds.go (fun _ q => XS.istore X2.here X2.hx rfl (hb hby d_jdk_52_method_14_6) rfl (l' := #[.val (.ref a), .val (.int (0 : Int32)), .val (.int (1 : Int32)), .val (.ref t), .val (.int (0 : Int32))]) rfl q) ?_
  show OEnds p e below _ T1 (mkF m 8 #[.val (.ref a), .val (.int (0 : Int32)), .val (.int (1 : Int32)), .val (.ref t), .val (.int (0 : Int32))] [])
  refine OEnds.go (fun _ q => XS.iload X2.here X2.hx rfl (hb hby d_jdk_52_method_14_8) rfl q) ?_
  show OEnds p e below _ T1 (mkF m 10 #[.val (.ref a), .val (.int (0 : Int32)), .val (.int (1 : Int32)), .val (.ref t), .val (.int (0 : Int32))] [(.int (0 : Int32))])
  refine OEnds.go (fun _ q => XS.iloadN X2.here X2.hx rfl (hb hby d_jdk_52_method_14_10) rfl q) ?_
  show OEnds p e below _ T1 (mkF m 11 #[.val (.ref a), .val (.int (0 : Int32)), .val (.int (1 : Int32)), .val (.ref t), .val (.int (0 : Int32))] [(.int (1 : Int32)), (.int (0 : Int32))])
  refine OEnds.go (fun _ q => XS.icmpNo X2.here X2.hx rfl (hb hby d_jdk_52_method_14_11) rfl (tlt (by decide)).2.1 q) ?_
  show OEnds p e below _ T1 (mkF m 14 #[.val (.ref a), .val (.int (0 : Int32)), .val (.int (1 : Int32)), .val (.ref t), .val (.int (0 : Int32))] [])
  refine OEnds.go (fun _ q => XS.aloadN X2.here X2.hx rfl (hb hby d_jdk_52_method_14_14) rfl rfl q) ?_
  refine OEnds.go (fun _ q => XS.iload X2.here X2.hx rfl (hb hby d_jdk_52_method_14_15) rfl q) ?_
  show OEnds p e below _ T1 (mkF m 17 #[.val (.ref a), .val (.int (0 : Int32)), .val (.int (1 : Int32)), .val (.ref t), .val (.int (0 : Int32))] [(.int (0 : Int32)), (.ref t)])
  refine OEnds.go (fun _ q => XS.aloadN X2.here X2.hx rfl (hb hby d_jdk_52_method_14_17) rfl rfl q) ?_
  refine OEnds.go (fun _ q => XS.iloadN X2.here X2.hx rfl (hb hby d_jdk_52_method_14_18) rfl q) ?_
  show OEnds p e below _ T1 (mkF m 19 #[.val (.ref a), .val (.int (0 : Int32)), .val (.int (1 : Int32)), .val (.ref t), .val (.int (0 : Int32))] [(.int (0 : Int32)), (.ref a), (.int (0 : Int32)), (.ref t)])
  refine X2.cald Ka_h3 (by decide) (v := .int c0) rfl (hb hby d_jdk_52_method_14_19) ?_
  show OEnds p e below _ T1 (mkF m 20 #[.val (.ref a), .val (.int (0 : Int32)), .val (.int (1 : Int32)), .val (.ref t), .val (.int (0 : Int32))] [(.int c0), (.int (0 : Int32)), (.ref t)])
  refine X2.payS (ConN.back (W := 0) (con_put10 H t kb (0 : Int32) (0 : Int32) c0 gzt h3 Kt) X2.old X2.hZ (own_k hw 88 rfl) (own_k hw 43 rfl) (by decide) (by decide)) (okN (fun _ _ q => q.2.1.1)) (own_k hw 86 rfl) (own_k hw 87 rfl) (own_k hw 43 rfl) (own_k hw 88 rfl)  (by decide)  (argsL := [(.ref t), (.int (0 : Int32)), (.int c0)]) (rest := []) rfl (lenOf own_pd3 rfl) rfl (by rw [hml]; rfl) (Nat.le_of_eq rfl) (hb hby d_jdk_52_method_14_20) (by decide) (by decide) ?_
  intro v15 T10 h12 Lh12 X11 q16
  replace q16 := q16.1
  obtain ⟨rfl, Kq8, Aq9⟩ := q16
  have EBt_h12 := ext_keep Et Kq8 (allS (Nat.le_of_eq gt) all0)
  have Ka_h12 := Ka.ext EBt_h12
  have EX_h12 := ext_keep EX_h3 Kq8 (allS (Nat.le_trans EX0.1 (Nat.le_of_eq gt)) all0)
  show OEnds p e below _ T10 (mkF m 23 #[.val (.ref a), .val (.int (0 : Int32)), .val (.int (1 : Int32)), .val (.ref t), .val (.int (0 : Int32))] [])
  refine OEnds.go (fun _ q => XS.iinc X11.here X11.hx rfl (hb hby d_jdk_52_method_14_23) rfl (l' := #[.val (.ref a), .val (.int ((0 : Int32) + (1 : Int32))), .val (.int (1 : Int32)), .val (.ref t), .val (.int (0 : Int32))]) rfl q) ?_
  show OEnds p e below _ T10 (mkF m 26 #[.val (.ref a), .val (.int ((0 : Int32) + (1 : Int32))), .val (.int (1 : Int32)), .val (.ref t), .val (.int (0 : Int32))] [])
  rw [show ((0 : Int32) + (1 : Int32)) = (1 : Int32) from by decide]
  show OEnds p e below _ T10 (mkF m 26 #[.val (.ref a), .val (.int (1 : Int32)), .val (.int (1 : Int32)), .val (.ref t), .val (.int (0 : Int32))] [])
  refine OEnds.go (fun _ q => XS.iinc X11.here X11.hx rfl (hb hby d_jdk_52_method_14_26) rfl (l' := #[.val (.ref a), .val (.int (1 : Int32)), .val (.int (1 : Int32)), .val (.ref t), .val (.int ((0 : Int32) + (1 : Int32)))]) rfl q) ?_
  show OEnds p e below _ T10 (mkF m 29 #[.val (.ref a), .val (.int (1 : Int32)), .val (.int (1 : Int32)), .val (.ref t), .val (.int ((0 : Int32) + (1 : Int32)))] [])
  rw [show ((0 : Int32) + (1 : Int32)) = (1 : Int32) from by decide]
  show OEnds p e below _ T10 (mkF m 29 #[.val (.ref a), .val (.int (1 : Int32)), .val (.int (1 : Int32)), .val (.ref t), .val (.int (1 : Int32))] [])
  refine OEnds.go (fun _ q => XS.goto X11.here X11.hx rfl (pc0 := 29) (pc' := 8) rfl (hb hby d_jdk_52_method_14_29) (by decide) (by decide) q) ?_
  refine OEnds.go (fun _ q => XS.iload X11.here X11.hx rfl (hb hby d_jdk_52_method_14_8) rfl q) ?_
  show OEnds p e below _ T10 (mkF m 10 #[.val (.ref a), .val (.int (1 : Int32)), .val (.int (1 : Int32)), .val (.ref t), .val (.int (1 : Int32))] [(.int (1 : Int32))])
  refine OEnds.go (fun _ q => XS.iloadN X11.here X11.hx rfl (hb hby d_jdk_52_method_14_10) rfl q) ?_
  show OEnds p e below _ T10 (mkF m 11 #[.val (.ref a), .val (.int (1 : Int32)), .val (.int (1 : Int32)), .val (.ref t), .val (.int (1 : Int32))] [(.int (1 : Int32)), (.int (1 : Int32))])
  refine OEnds.go (fun _ q => XS.icmpYes X11.here X11.hx rfl (pc0 := 11) (pc' := 32) rfl (hb hby d_jdk_52_method_14_11) rfl (flt (by decide)).2.1 (by decide) (by decide) q) ?_
  show OEnds p e below _ T10 (mkF m 32 #[.val (.ref a), .val (.int (1 : Int32)), .val (.int (1 : Int32)), .val (.ref t), .val (.int (1 : Int32))] [])
  refine OEnds.go (fun _ q => XS.aloadN X11.here X11.hx rfl (hb hby d_jdk_52_method_14_32) rfl rfl q) ?_
  show OEnds p e below _ T10 (mkF m 33 #[.val (.ref a), .val (.int (1 : Int32)), .val (.int (1 : Int32)), .val (.ref t), .val (.int (1 : Int32))] [(.ref t)])
  exact X11.retRefN hlk rfl (t := (FieldType.array FieldType.byte)) rfl hret (hb hby d_jdk_52_method_14_33) (by decide) (by decide) ⟨t, kb, rfl, EX_h12, Aq9⟩
theorem con_get10 {l : Launch} {Z : State} {a0 : Array Value} {cz : Int32} {fm : Value} (H : Ctx Z a0 cz fm) (b : Addr) (kb : ClassId) (c0 : Int32) (hu : ¬ c0 < 0 ∧ ¬ (65535 : Int32) < c0) (h0 : Heap) (Kb : Arv Z h0 b kb .byte (2 : Int32) [.int (own_lo c0), .int (own_hi c0)] (.int (0 : Int32))) :
    ConN l Z (⟨"java/lang/StringUTF16", "getChar", "([BI)C"⟩ : MethodName) jdk_52_method_5_code 2 (some FieldType.char) [] ({ frames := 0, cells := 0, slots := 0, locals := 0 } : Room) #[(.ref b), (.int (0 : Int32))] h0 (fun r h => r = some (.int c0) ∧ h0 = h) := by
  obtain ⟨hw, hE, S0, hcz, S1, rf, hp0, hp1, hp2⟩ := id H
  refine ConN.of own_pf6 ?_
  intro p e s m below meth c T hby hml hret hlk hnm X0
  have EX0 := ext_refl h0
  refine OEnds.cast (own_ef5 m b (0 : Int32) ) ?_
  show OEnds p e below _ T (mkF m 0 #[.val (.ref b), .val (.int (0 : Int32))] [])
  refine X0.getS (own_k hw 89 rfl) Via.refl (hp0.ext X0.old) (hb hby d_jdk_52_method_5_0) ?_
  intro T1 X2
  show OEnds p e below _ T1 (mkF m 3 #[.val (.ref b), .val (.int (0 : Int32))] [(.int (1 : Int32))])
  refine OEnds.go (fun _ q => XS.ifYes X2.here X2.hx rfl (pc0 := 3) (pc' := 28) rfl (hb hby d_jdk_52_method_5_3) rfl ((if0 _ _).trans (feq (by decide)).2) (by decide) (by decide) q) ?_
  show OEnds p e below _ T1 (mkF m 28 #[.val (.ref b), .val (.int (0 : Int32))] [])
  refine OEnds.go (fun _ q => XS.iloadN X2.here X2.hx rfl (hb hby d_jdk_52_method_5_28) rfl q) ?_
  show OEnds p e below _ T1 (mkF m 29 #[.val (.ref b), .val (.int (0 : Int32))] [(.int (0 : Int32))])
  refine OEnds.go (fun _ q => XS.iconst X2.here X2.hx rfl (hb hby d_jdk_52_method_5_29) q) ?_
  show OEnds p e below _ T1 (mkF m 30 #[.val (.ref b), .val (.int (0 : Int32))] [(.int (1 : Int32)), (.int (0 : Int32))])
  refine OEnds.go (fun _ q => XS.ishl X2.here X2.hx rfl (hb hby d_jdk_52_method_5_30) rfl q) ?_
  show OEnds p e below _ T1 (mkF m 31 #[.val (.ref b), .val (.int (0 : Int32))] [(.int ((0 : Int32) <<< ((1 : Int32) &&& 31)))])
  rw [show ((0 : Int32) <<< ((1 : Int32) &&& 31)) = (0 : Int32) from by decide]
  show OEnds p e below _ T1 (mkF m 31 #[.val (.ref b), .val (.int (0 : Int32))] [(.int (0 : Int32))])
  refine OEnds.go (fun _ q => XS.istoreN X2.here X2.hx rfl (hb hby d_jdk_52_method_5_31) rfl (l' := #[.val (.ref b), .val (.int (0 : Int32))]) rfl q) ?_
  show OEnds p e below _ T1 (mkF m 32 #[.val (.ref b), .val (.int (0 : Int32))] [])
  refine OEnds.go (fun _ q => XS.aloadN X2.here X2.hx rfl (hb hby d_jdk_52_method_5_32) rfl rfl q) ?_
  show OEnds p e below _ T1 (mkF m 33 #[.val (.ref b), .val (.int (0 : Int32))] [(.ref b)])
  refine OEnds.go (fun _ q => XS.iloadN X2.here X2.hx rfl (hb hby d_jdk_52_method_5_33) rfl q) ?_
  show OEnds p e below _ T1 (mkF m 34 #[.val (.ref b), .val (.int (0 : Int32))] [(.int (0 : Int32)), (.ref b)])
  refine OEnds.go (fun _ q => XS.iinc X2.here X2.hx rfl (hb hby d_jdk_52_method_5_34) rfl (l' := #[.val (.ref b), .val (.int ((0 : Int32) + (1 : Int32)))]) rfl q) ?_
  show OEnds p e below _ T1 (mkF m 37 #[.val (.ref b), .val (.int ((0 : Int32) + (1 : Int32)))] [(.int (0 : Int32)), (.ref b)])
  rw [show ((0 : Int32) + (1 : Int32)) = (1 : Int32) from by decide]
  show OEnds p e below _ T1 (mkF m 37 #[.val (.ref b), .val (.int (1 : Int32))] [(.int (0 : Int32)), (.ref b)])
  refine X2.bald Kb (by decide) (v := .int (own_lo c0)) rfl (hb hby d_jdk_52_method_5_37) ?_
  show OEnds p e below _ T1 (mkF m 38 #[.val (.ref b), .val (.int (1 : Int32))] [(.int (own_lo c0))])
  refine OEnds.go (fun _ q => XS.sipush X2.here X2.hx rfl (hb hby d_jdk_52_method_5_38) q) ?_
  refine OEnds.go (fun _ q => XS.iand X2.here X2.hx rfl (hb hby d_jdk_52_method_5_41) rfl q) ?_
  show OEnds p e below _ T1 (mkF m 42 #[.val (.ref b), .val (.int (1 : Int32))] [(.int ((own_lo c0) &&& (255 : Int32)))])
  refine X2.getS (own_k hw 90 rfl) Via.refl (hp1.ext X2.old) (hb hby d_jdk_52_method_5_42) ?_
  intro T3 X4
  show OEnds p e below _ T3 (mkF m 45 #[.val (.ref b), .val (.int (1 : Int32))] [(.int (0 : Int32)), (.int ((own_lo c0) &&& (255 : Int32)))])
  refine OEnds.go (fun _ q => XS.ishl X4.here X4.hx rfl (hb hby d_jdk_52_method_5_45) rfl q) ?_
  refine OEnds.go (fun _ q => XS.aloadN X4.here X4.hx rfl (hb hby d_jdk_52_method_5_46) rfl rfl q) ?_
  show OEnds p e below _ T3 (mkF m 47 #[.val (.ref b), .val (.int (1 : Int32))] [(.ref b), (.int (((own_lo c0) &&& (255 : Int32)) <<< ((0 : Int32) &&& 31)))])
  refine OEnds.go (fun _ q => XS.iloadN X4.here X4.hx rfl (hb hby d_jdk_52_method_5_47) rfl q) ?_
  show OEnds p e below _ T3 (mkF m 48 #[.val (.ref b), .val (.int (1 : Int32))] [(.int (1 : Int32)), (.ref b), (.int (((own_lo c0) &&& (255 : Int32)) <<< ((0 : Int32) &&& 31)))])
  refine X4.bald Kb (by decide) (v := .int (own_hi c0)) rfl (hb hby d_jdk_52_method_5_48) ?_
  show OEnds p e below _ T3 (mkF m 49 #[.val (.ref b), .val (.int (1 : Int32))] [(.int (own_hi c0)), (.int (((own_lo c0) &&& (255 : Int32)) <<< ((0 : Int32) &&& 31)))])
  refine OEnds.go (fun _ q => XS.sipush X4.here X4.hx rfl (hb hby d_jdk_52_method_5_49) q) ?_
  refine OEnds.go (fun _ q => XS.iand X4.here X4.hx rfl (hb hby d_jdk_52_method_5_52) rfl q) ?_
  show OEnds p e below _ T3 (mkF m 53 #[.val (.ref b), .val (.int (1 : Int32))] [(.int ((own_hi c0) &&& (255 : Int32))), (.int (((own_lo c0) &&& (255 : Int32)) <<< ((0 : Int32) &&& 31)))])
  refine X4.getS (own_k hw 91 rfl) Via.refl (hp2.ext X4.old) (hb hby d_jdk_52_method_5_53) ?_
  intro T5 X6
  show OEnds p e below _ T5 (mkF m 56 #[.val (.ref b), .val (.int (1 : Int32))] [(.int (8 : Int32)), (.int ((own_hi c0) &&& (255 : Int32))), (.int (((own_lo c0) &&& (255 : Int32)) <<< ((0 : Int32) &&& 31)))])
  refine OEnds.go (fun _ q => XS.ishl X6.here X6.hx rfl (hb hby d_jdk_52_method_5_56) rfl q) ?_
  refine OEnds.go (fun _ q => XS.ior X6.here X6.hx rfl (hb hby d_jdk_52_method_5_57) rfl q) ?_
  show OEnds p e below _ T5 (mkF m 58 #[.val (.ref b), .val (.int (1 : Int32))] [(.int ((((own_lo c0) &&& (255 : Int32)) <<< ((0 : Int32) &&& 31)) ||| (((own_hi c0) &&& (255 : Int32)) <<< ((8 : Int32) &&& 31))))])
  refine OEnds.go (fun _ q => XS.i2c X6.here X6.hx rfl (hb hby d_jdk_52_method_5_58) rfl q) ?_
  show OEnds p e below _ T5 (mkF m 59 #[.val (.ref b), .val (.int (1 : Int32))] [(.int (((((own_lo c0) &&& (255 : Int32)) <<< ((0 : Int32) &&& 31)) ||| (((own_hi c0) &&& (255 : Int32)) <<< ((8 : Int32) &&& 31))).toUInt32.toUInt16.toUInt32.toInt32))])
  show OEnds p e below _ T5 (mkF m 59 #[.val (.ref b), .val (.int (1 : Int32))] [(.int (own_rd (own_lo c0) (own_hi c0)))])
  rw [own_round hu]
  show OEnds p e below _ T5 (mkF m 59 #[.val (.ref b), .val (.int (1 : Int32))] [(.int c0)])
  exact X6.retCharN hlk hu hret (hb hby d_jdk_52_method_5_59) (by decide) (by decide) ⟨rfl, rfl⟩
theorem con_cfa1 {l : Launch} {Z : State} {a0 : Array Value} {cz : Int32} {fm : Value} (H : Ctx Z a0 cz fm) (b : Addr) (kb : ClassId) (vs : List Value) (h0 : Heap) (Kb : Arv Z h0 b kb .byte (2 : Int32) vs (.int (0 : Int32))) :
    ConN l Z (⟨"java/lang/StringUTF16", "coderFromArrayLen", "([BI)B"⟩ : MethodName) jdk_52_method_15_code 2 (some FieldType.byte) [] ({ frames := 0, cells := 0, slots := 0, locals := 0 } : Room) #[(.ref b), (.int (1 : Int32))] h0 (fun r h => r = some (.int 1) ∧ h0 = h) := by
  obtain ⟨hw, hE, S0, hcz, S1, rf, hp0, hp1, hp2⟩ := id H
  refine ConN.of own_pf7 ?_
  intro p e s m below meth c T hby hml hret hlk hnm X0
  have EX0 := ext_refl h0
  refine OEnds.cast (own_ef5 m b (1 : Int32) ) ?_
  show OEnds p e below _ T (mkF m 0 #[.val (.ref b), .val (.int (1 : Int32))] [])
  refine OEnds.go (fun _ q => XS.iloadN X0.here X0.hx rfl (hb hby d_jdk_52_method_15_0) rfl q) ?_
  refine OEnds.go (fun _ q => XS.aloadN X0.here X0.hx rfl (hb hby d_jdk_52_method_15_1) rfl rfl q) ?_
  show OEnds p e below _ T (mkF m 2 #[.val (.ref b), .val (.int (1 : Int32))] [(.ref b), (.int (1 : Int32))])
  refine X0.alen Kb (hb hby d_jdk_52_method_15_2) ?_
  show OEnds p e below _ T (mkF m 3 #[.val (.ref b), .val (.int (1 : Int32))] [(.int (2 : Int32)), (.int (1 : Int32))])
  refine OEnds.go (fun _ q => XS.isub X0.here X0.hx rfl (hb hby d_jdk_52_method_15_3) rfl q) ?_
  refine OEnds.go (fun _ q => XS.bipush X0.here X0.hx rfl (hb hby d_jdk_52_method_15_4) q) ?_
  show OEnds p e below _ T (mkF m 6 #[.val (.ref b), .val (.int (1 : Int32))] [(.int (31 : Int32)), (.int ((1 : Int32) - (2 : Int32)))])
  refine OEnds.go (fun _ q => XS.iushr X0.here X0.hx rfl (hb hby d_jdk_52_method_15_6) rfl q) ?_
  refine OEnds.go (fun _ q => XS.i2b X0.here X0.hx rfl (hb hby d_jdk_52_method_15_7) rfl q) ?_
  show OEnds p e below _ T (mkF m 8 #[.val (.ref b), .val (.int (1 : Int32))] [(.int ((((1 : Int32) - (2 : Int32)).toUInt32 >>> ((31 : Int32) &&& 31).toUInt32).toInt32.toInt8.toInt32))])
  rw [show ((((1 : Int32) - (2 : Int32)).toUInt32 >>> ((31 : Int32) &&& 31).toUInt32).toInt32.toInt8.toInt32) = (1 : Int32) from by decide]
  show OEnds p e below _ T (mkF m 8 #[.val (.ref b), .val (.int (1 : Int32))] [(.int (1 : Int32))])
  exact X0.retByteN hlk rfl hret (hb hby d_jdk_52_method_15_8) (by decide) (by decide) ⟨rfl, rfl⟩
theorem con_ul1 {l : Launch} {Z : State} {a0 : Array Value} {cz : Int32} {fm : Value} (H : Ctx Z a0 cz fm) (b : Addr) (kb : ClassId) (vs : List Value) (h0 : Heap) (Kb : Arv Z h0 b kb .byte (2 : Int32) vs (.int (0 : Int32))) :
    ConN l Z (⟨"java/lang/StringUTF16", "length", "([B)I"⟩ : MethodName) jdk_52_method_6_code 1 (some FieldType.int) [] ({ frames := 0, cells := 0, slots := 0, locals := 0 } : Room) #[(.ref b)] h0 (fun r h => r = some (.int (1 : Int32)) ∧ h0 = h) := by
  obtain ⟨hw, hE, S0, hcz, S1, rf, hp0, hp1, hp2⟩ := id H
  refine ConN.of own_pf8 ?_
  intro p e s m below meth c T hby hml hret hlk hnm X0
  have EX0 := ext_refl h0
  refine OEnds.cast (own_ef6 m b ) ?_
  show OEnds p e below _ T (mkF m 0 #[.val (.ref b)] [])
  refine OEnds.go (fun _ q => XS.aloadN X0.here X0.hx rfl (hb hby d_jdk_52_method_6_0) rfl rfl q) ?_
  show OEnds p e below _ T (mkF m 1 #[.val (.ref b)] [(.ref b)])
  refine X0.alen Kb (hb hby d_jdk_52_method_6_1) ?_
  show OEnds p e below _ T (mkF m 2 #[.val (.ref b)] [(.int (2 : Int32))])
  refine OEnds.go (fun _ q => XS.iconst X0.here X0.hx rfl (hb hby d_jdk_52_method_6_2) q) ?_
  refine OEnds.go (fun _ q => XS.ishr X0.here X0.hx rfl (hb hby d_jdk_52_method_6_3) rfl q) ?_
  show OEnds p e below _ T (mkF m 4 #[.val (.ref b)] [(.int ((2 : Int32) >>> ((1 : Int32) &&& 31)))])
  rw [show ((2 : Int32) >>> ((1 : Int32) &&& 31)) = (1 : Int32) from by decide]
  show OEnds p e below _ T (mkF m 4 #[.val (.ref b)] [(.int (1 : Int32))])
  exact X0.retIntN hlk  hret (hb hby d_jdk_52_method_6_4) (by decide) (by decide) ⟨rfl, rfl⟩
theorem con_ci10 {l : Launch} {Z : State} {a0 : Array Value} {cz : Int32} {fm : Value} (H : Ctx Z a0 cz fm) (a d : Addr) (kc kd : ClassId) (c0 : Int32) (hk : (255 : Int32) < c0) (gzd : Z.heap.size ≤ d) (h0 : Heap) (Ka : Arv Z h0 a kc .char (1 : Int32) [.int c0] (.int (0 : Int32))) (Kd : Arv Z h0 d kd .byte (1 : Int32) [.int (0 : Int32)] (.int (0 : Int32))) :
    ConN l Z (⟨"java/lang/StringUTF16", "compress", "([CI[BII)I"⟩ : MethodName) jdk_52_method_21_code 7 (some FieldType.int) [] ({ frames := 0, cells := 0, slots := 0, locals := 0 } : Room) #[(.ref a), (.int (0 : Int32)), (.ref d), (.int (0 : Int32)), (.int (1 : Int32))] h0 (fun r h => r = some (.int (0 : Int32)) ∧ Keep h0 h [d]) := by
  obtain ⟨hw, hE, S0, hcz, S1, rf, hp0, hp1, hp2⟩ := id H
  refine ConN.of own_pf9 ?_
  intro p e s m below meth c T hby hml hret hlk hnm X0
  have EX0 := ext_refl h0
  refine OEnds.cast (own_ef7 m a (0 : Int32) d (0 : Int32) (1 : Int32) ) ?_
  show OEnds p e below _ T (mkF m 0 #[.val (.ref a), .val (.int (0 : Int32)), .val (.ref d), .val (.int (0 : Int32)), .val (.int (1 : Int32)), .unset, .unset] [])
  have K0 := Keep.refl h0 [d]
  have nad := arv_ne Ka Kd
  refine OEnds.go (fun _ q => XS.iconst X0.here X0.hx rfl (hb hby d_jdk_52_method_21_0) q) ?_
  refine OEnds.go (fun _ q => XS.istore X0.here X0.hx rfl (hb hby d_jdk_52_method_21_1) rfl (l' := #[.val (.ref a), .val (.int (0 : Int32)), .val (.ref d), .val (.int (0 : Int32)), .val (.int (1 : Int32)), .val (.int (0 : Int32)), .unset]) rfl q) ?_
  show OEnds p e below _ T (mkF m 3 #[.val (.ref a), .val (.int (0 : Int32)), .val (.ref d), .val (.int (0 : Int32)), .val (.int (1 : Int32)), .val (.int (0 : Int32)), .unset] [])
  refine OEnds.go (fun _ q => XS.iload X0.here X0.hx rfl (hb hby d_jdk_52_method_21_3) rfl q) ?_
  refine OEnds.go (fun _ q => XS.iload X0.here X0.hx rfl (hb hby d_jdk_52_method_21_5) rfl q) ?_
  show OEnds p e below _ T (mkF m 7 #[.val (.ref a), .val (.int (0 : Int32)), .val (.ref d), .val (.int (0 : Int32)), .val (.int (1 : Int32)), .val (.int (0 : Int32)), .unset] [(.int (1 : Int32)), (.int (0 : Int32))])
  refine OEnds.go (fun _ q => XS.icmpNo X0.here X0.hx rfl (hb hby d_jdk_52_method_21_7) rfl (tlt (by decide)).2.1 q) ?_
  show OEnds p e below _ T (mkF m 10 #[.val (.ref a), .val (.int (0 : Int32)), .val (.ref d), .val (.int (0 : Int32)), .val (.int (1 : Int32)), .val (.int (0 : Int32)), .unset] [])
  refine OEnds.go (fun _ q => XS.aloadN X0.here X0.hx rfl (hb hby d_jdk_52_method_21_10) rfl rfl q) ?_
  refine OEnds.go (fun _ q => XS.iloadN X0.here X0.hx rfl (hb hby d_jdk_52_method_21_11) rfl q) ?_
  show OEnds p e below _ T (mkF m 12 #[.val (.ref a), .val (.int (0 : Int32)), .val (.ref d), .val (.int (0 : Int32)), .val (.int (1 : Int32)), .val (.int (0 : Int32)), .unset] [(.int (0 : Int32)), (.ref a)])
  refine X0.cald Ka (by decide) (v := .int c0) rfl (hb hby d_jdk_52_method_21_12) ?_
  show OEnds p e below _ T (mkF m 13 #[.val (.ref a), .val (.int (0 : Int32)), .val (.ref d), .val (.int (0 : Int32)), .val (.int (1 : Int32)), .val (.int (0 : Int32)), .unset] [(.int c0)])
  refine OEnds.go (fun _ q => XS.istore X0.here X0.hx rfl (hb hby d_jdk_52_method_21_13) rfl (l' := #[.val (.ref a), .val (.int (0 : Int32)), .val (.ref d), .val (.int (0 : Int32)), .val (.int (1 : Int32)), .val (.int (0 : Int32)), .val (.int c0)]) rfl q) ?_
  refine OEnds.go (fun _ q => XS.iload X0.here X0.hx rfl (hb hby d_jdk_52_method_21_15) rfl q) ?_
  show OEnds p e below _ T (mkF m 17 #[.val (.ref a), .val (.int (0 : Int32)), .val (.ref d), .val (.int (0 : Int32)), .val (.int (1 : Int32)), .val (.int (0 : Int32)), .val (.int c0)] [(.int c0)])
  refine OEnds.go (fun _ q => XS.sipush X0.here X0.hx rfl (hb hby d_jdk_52_method_21_17) q) ?_
  show OEnds p e below _ T (mkF m 20 #[.val (.ref a), .val (.int (0 : Int32)), .val (.ref d), .val (.int (0 : Int32)), .val (.int (1 : Int32)), .val (.int (0 : Int32)), .val (.int c0)] [(.int (255 : Int32)), (.int c0)])
  refine OEnds.go (fun _ q => XS.icmpNo X0.here X0.hx rfl (hb hby d_jdk_52_method_21_20) rfl (tlt hk).2.2.2 q) ?_
  show OEnds p e below _ T (mkF m 23 #[.val (.ref a), .val (.int (0 : Int32)), .val (.ref d), .val (.int (0 : Int32)), .val (.int (1 : Int32)), .val (.int (0 : Int32)), .val (.int c0)] [])
  refine OEnds.go (fun _ q => XS.iload X0.here X0.hx rfl (hb hby d_jdk_52_method_21_23) rfl q) ?_
  show OEnds p e below _ T (mkF m 25 #[.val (.ref a), .val (.int (0 : Int32)), .val (.ref d), .val (.int (0 : Int32)), .val (.int (1 : Int32)), .val (.int (0 : Int32)), .val (.int c0)] [(.int (0 : Int32))])
  exact X0.retIntN hlk  hret (hb hby d_jdk_52_method_21_25) (by decide) (by decide) ⟨rfl, K0⟩
theorem con_co10 {l : Launch} {Z : State} {a0 : Array Value} {cz : Int32} {fm : Value} (H : Ctx Z a0 cz fm) (a : Addr) (kc : ClassId) (c0 : Int32) (hk : (255 : Int32) < c0) (hu : ¬ c0 < 0 ∧ ¬ (65535 : Int32) < c0) (h0 : Heap) (Ka : Arv Z h0 a kc .char (1 : Int32) [.int c0] (.int (0 : Int32))) :
    ConN l Z (⟨"java/lang/StringUTF16", "compress", "([CII)[B"⟩ : MethodName) jdk_52_method_16_code 6 (some (FieldType.array FieldType.byte)) [] ({ frames := 3, cells := 2, slots := 3, locals := 40 } : Room) #[(.ref a), (.int (0 : Int32)), (.int (1 : Int32))] h0 (fun r h => ∃ (t : Addr) (kb : ClassId), r = some (.ref t) ∧ Ext h0 h ∧ Arv Z h t kb .byte (2 : Int32) [.int (own_lo c0), .int (own_hi c0)] (.int (0 : Int32))) := by
  obtain ⟨hw, hE, S0, hcz, S1, rf, hp0, hp1, hp2⟩ := id H
  refine ConN.of own_pf10 ?_
  intro p e s m below meth c T hby hml hret hlk hnm X0
  have EX0 := ext_refl h0
  refine OEnds.cast (own_ef8 m a (0 : Int32) (1 : Int32) ) ?_
  show OEnds p e below _ T (mkF m 0 #[.val (.ref a), .val (.int (0 : Int32)), .val (.int (1 : Int32)), .unset, .unset, .unset] [])
  refine OEnds.go (fun _ q => XS.iloadN X0.here X0.hx rfl (hb hby d_jdk_52_method_16_0) rfl q) ?_
  show OEnds p e below _ T (mkF m 1 #[.val (.ref a), .val (.int (0 : Int32)), .val (.int (1 : Int32)), .unset, .unset, .unset] [(.int (1 : Int32))])
  refine X0.newP (own_k hw 19 rfl) (hb hby d_jdk_52_method_16_1) (by decide) (cap := 1) (by decide) (by decide) (by decide) (by decide) ?_
  intro T1 h3 a5 ka5 ga5 X2 E4 Ka5
  have gza5 : Z.heap.size ≤ a5 := ga5 ▸ X0.old.1
  have Ka_h3 := Ka.ext E4
  have EX_h3 := ext_trans EX0 E4
  have Ka5_0 : Arv Z h3 a5 ka5 .byte (1 : Int32) [.int (0 : Int32)] (.int (0 : Int32)) := Ka5.pad (pad_rep [] (.int (0 : Int32)) 1)
  show OEnds p e below _ T1 (mkF m 3 #[.val (.ref a), .val (.int (0 : Int32)), .val (.int (1 : Int32)), .unset, .unset, .unset] [(.ref a5)])
  refine OEnds.go (fun _ q => XS.astoreN X2.here X2.hx rfl (hb hby d_jdk_52_method_16_3) rfl rfl (l' := #[.val (.ref a), .val (.int (0 : Int32)), .val (.int (1 : Int32)), .val (.ref a5), .unset, .unset]) rfl q) ?_
  refine OEnds.go (fun _ q => XS.aloadN X2.here X2.hx rfl (hb hby d_jdk_52_method_16_4) rfl rfl q) ?_
  show OEnds p e below _ T1 (mkF m 5 #[.val (.ref a), .val (.int (0 : Int32)), .val (.int (1 : Int32)), .val (.ref a5), .unset, .unset] [(.ref a)])
  refine OEnds.go (fun _ q => XS.iloadN X2.here X2.hx rfl (hb hby d_jdk_52_method_16_5) rfl q) ?_
  refine OEnds.go (fun _ q => XS.aloadN X2.here X2.hx rfl (hb hby d_jdk_52_method_16_6) rfl rfl q) ?_
  show OEnds p e below _ T1 (mkF m 7 #[.val (.ref a), .val (.int (0 : Int32)), .val (.int (1 : Int32)), .val (.ref a5), .unset, .unset] [(.ref a5), (.int (0 : Int32)), (.ref a)])
  refine OEnds.go (fun _ q => XS.iconst X2.here X2.hx rfl (hb hby d_jdk_52_method_16_7) q) ?_
  refine OEnds.go (fun _ q => XS.iloadN X2.here X2.hx rfl (hb hby d_jdk_52_method_16_8) rfl q) ?_
  show OEnds p e below _ T1 (mkF m 9 #[.val (.ref a), .val (.int (0 : Int32)), .val (.int (1 : Int32)), .val (.ref a5), .unset, .unset] [(.int (1 : Int32)), (.int (0 : Int32)), (.ref a5), (.int (0 : Int32)), (.ref a)])
  refine X2.payS (ConN.back (W := 0) (con_ci10 H a a5 kc ka5 c0 hk gza5 h3 Ka_h3 Ka5_0) X2.old X2.hZ (own_k hw 47 rfl) (own_k hw 43 rfl) (by decide) (by decide)) (okN (fun _ _ q => q.2.1)) (own_k hw 45 rfl) (own_k hw 46 rfl) (own_k hw 43 rfl) (own_k hw 47 rfl)  (by decide)  (argsL := [(.ref a), (.int (0 : Int32)), (.ref a5), (.int (0 : Int32)), (.int (1 : Int32))]) (rest := []) rfl (lenOf own_pd4 rfl) rfl (by rw [hml]; rfl) (Nat.le_of_eq rfl) (hb hby d_jdk_52_method_16_9) (by decide) (by decide) ?_
  intro v12 T7 h9 Lh9 X8 q13
  replace q13 := q13.1
  obtain ⟨rfl, Kq6⟩ := q13
  have EBa5_h9 := ext_keep E4 Kq6 (allS (Nat.le_of_eq ga5) all0)
  have Ka_h9 := Ka.ext EBa5_h9
  have EX_h9 := ext_keep EX_h3 Kq6 (allS (Nat.le_trans EX0.1 (Nat.le_of_eq ga5)) all0)
  show OEnds p e below _ T7 (mkF m 12 #[.val (.ref a), .val (.int (0 : Int32)), .val (.int (1 : Int32)), .val (.ref a5), .unset, .unset] [(.int (0 : Int32))])
  refine OEnds.go (fun _ q => XS.istore X8.here X8.hx rfl (hb hby d_jdk_52_method_16_12) rfl (l' := #[.val (.ref a), .val (.int (0 : Int32)), .val (.int (1 : Int32)), .val (.ref a5), .val (.int (0 : Int32)), .unset]) rfl q) ?_
  refine OEnds.go (fun _ q => XS.iload X8.here X8.hx rfl (hb hby d_jdk_52_method_16_14) rfl q) ?_
  show OEnds p e below _ T7 (mkF m 16 #[.val (.ref a), .val (.int (0 : Int32)), .val (.int (1 : Int32)), .val (.ref a5), .val (.int (0 : Int32)), .unset] [(.int (0 : Int32))])
  refine OEnds.go (fun _ q => XS.iloadN X8.here X8.hx rfl (hb hby d_jdk_52_method_16_16) rfl q) ?_
  show OEnds p e below _ T7 (mkF m 17 #[.val (.ref a), .val (.int (0 : Int32)), .val (.int (1 : Int32)), .val (.ref a5), .val (.int (0 : Int32)), .unset] [(.int (1 : Int32)), (.int (0 : Int32))])
  refine OEnds.go (fun _ q => XS.icmpNo X8.here X8.hx rfl (hb hby d_jdk_52_method_16_17) rfl (feq (by decide)).1 q) ?_
  show OEnds p e below _ T7 (mkF m 20 #[.val (.ref a), .val (.int (0 : Int32)), .val (.int (1 : Int32)), .val (.ref a5), .val (.int (0 : Int32)), .unset] [])
  refine OEnds.go (fun _ q => XS.aloadN X8.here X8.hx rfl (hb hby d_jdk_52_method_16_20) rfl rfl q) ?_
  refine OEnds.go (fun _ q => XS.iloadN X8.here X8.hx rfl (hb hby d_jdk_52_method_16_21) rfl q) ?_
  show OEnds p e below _ T7 (mkF m 22 #[.val (.ref a), .val (.int (0 : Int32)), .val (.int (1 : Int32)), .val (.ref a5), .val (.int (0 : Int32)), .unset] [(.int (0 : Int32)), (.ref a)])
  refine OEnds.go (fun _ q => XS.iloadN X8.here X8.hx rfl (hb hby d_jdk_52_method_16_22) rfl q) ?_
  show OEnds p e below _ T7 (mkF m 23 #[.val (.ref a), .val (.int (0 : Int32)), .val (.int (1 : Int32)), .val (.ref a5), .val (.int (0 : Int32)), .unset] [(.int (1 : Int32)), (.int (0 : Int32)), (.ref a)])
  refine X8.payS (ConN.back (W := 0) (con_tob1 H a kc c0 h9 Ka_h9) X8.old X8.hZ (own_k hw 78 rfl) (own_k hw 43 rfl) (by decide) (by decide)) (okN (fun _ _ ⟨_, _, _, q, _⟩ => q.1)) (own_k hw 76 rfl) (own_k hw 77 rfl) (own_k hw 43 rfl) (own_k hw 78 rfl)  (by decide)  (argsL := [(.ref a), (.int (0 : Int32)), (.int (1 : Int32))]) (rest := []) rfl (lenOf own_pd5 rfl) rfl (by rw [hml]; rfl) (Nat.le_of_eq rfl) (hb hby d_jdk_52_method_16_23) (by decide) (by decide) ?_
  intro v19 T14 h16 Lh16 X15 q20
  replace q20 := q20.1
  obtain ⟨t, kb, rfl, Et, Kt⟩ := q20
  have Ka_h16 := Ka_h9.ext Et
  have EX_h16 := ext_trans EX_h9 Et
  show OEnds p e below _ T14 (mkF m 26 #[.val (.ref a), .val (.int (0 : Int32)), .val (.int (1 : Int32)), .val (.ref a5), .val (.int (0 : Int32)), .unset] [(.ref t)])
  refine OEnds.go (fun _ q => XS.astore X15.here X15.hx rfl (hb hby d_jdk_52_method_16_26) rfl rfl (l' := #[.val (.ref a), .val (.int (0 : Int32)), .val (.int (1 : Int32)), .val (.ref a5), .val (.int (0 : Int32)), .val (.ref t)]) rfl q) ?_
  refine OEnds.go (fun _ q => XS.aload X15.here X15.hx rfl (hb hby d_jdk_52_method_16_28) rfl rfl q) ?_
  show OEnds p e below _ T14 (mkF m 30 #[.val (.ref a), .val (.int (0 : Int32)), .val (.int (1 : Int32)), .val (.ref a5), .val (.int (0 : Int32)), .val (.ref t)] [(.ref t)])
  refine OEnds.go (fun _ q => XS.iload X15.here X15.hx rfl (hb hby d_jdk_52_method_16_30) rfl q) ?_
  show OEnds p e below _ T14 (mkF m 32 #[.val (.ref a), .val (.int (0 : Int32)), .val (.int (1 : Int32)), .val (.ref a5), .val (.int (0 : Int32)), .val (.ref t)] [(.int (0 : Int32)), (.ref t)])
  refine X15.payS (ConN.back (W := 0) (con_get10 H t kb c0 hu h16 Kt) X15.old X15.hZ (own_k hw 94 rfl) (own_k hw 43 rfl) (by decide) (by decide)) (okN (fun _ _ q => Nat.le_of_eq (congrArg Array.size q.2))) (own_k hw 92 rfl) (own_k hw 93 rfl) (own_k hw 43 rfl) (own_k hw 94 rfl)  (by decide)  (argsL := [(.ref t), (.int (0 : Int32))]) (rest := []) rfl (lenOf own_pd6 rfl) rfl (by rw [hml]; rfl) (Nat.le_of_eq rfl) (hb hby d_jdk_52_method_16_32) (by decide) (by decide) ?_
  intro v26 T21 h23 Lh23 X22 q27
  replace q27 := q27.1
  obtain ⟨rfl, rfl⟩ := q27
  show OEnds p e below _ T21 (mkF m 35 #[.val (.ref a), .val (.int (0 : Int32)), .val (.int (1 : Int32)), .val (.ref a5), .val (.int (0 : Int32)), .val (.ref t)] [(.int c0)])
  refine OEnds.go (fun _ q => XS.sipush X22.here X22.hx rfl (hb hby d_jdk_52_method_16_35) q) ?_
  show OEnds p e below _ T21 (mkF m 38 #[.val (.ref a), .val (.int (0 : Int32)), .val (.int (1 : Int32)), .val (.ref a5), .val (.int (0 : Int32)), .val (.ref t)] [(.int (255 : Int32)), (.int c0)])
  refine OEnds.go (fun _ q => XS.icmpYes X22.here X22.hx rfl (pc0 := 38) (pc' := 54) rfl (hb hby d_jdk_52_method_16_38) rfl (tlt hk).2.2.1 (by decide) (by decide) q) ?_
  show OEnds p e below _ T21 (mkF m 54 #[.val (.ref a), .val (.int (0 : Int32)), .val (.int (1 : Int32)), .val (.ref a5), .val (.int (0 : Int32)), .val (.ref t)] [])
  refine OEnds.go (fun _ q => XS.aload X22.here X22.hx rfl (hb hby d_jdk_52_method_16_54) rfl rfl q) ?_
  show OEnds p e below _ T21 (mkF m 56 #[.val (.ref a), .val (.int (0 : Int32)), .val (.int (1 : Int32)), .val (.ref a5), .val (.int (0 : Int32)), .val (.ref t)] [(.ref t)])
  exact X22.retRefN hlk rfl (t := (FieldType.array FieldType.byte)) rfl hret (hb hby d_jdk_52_method_16_56) (by decide) (by decide) ⟨t, kb, rfl, EX_h16, Kt⟩
theorem con_nv10 {l : Launch} {Z : State} {a0 : Array Value} {cz : Int32} {fm : Value} (H : Ctx Z a0 cz fm) (x a : Addr) (kc : ClassId) (c0 : Int32) (hk : (255 : Int32) < c0) (hu : ¬ c0 < 0 ∧ ¬ (65535 : Int32) < c0) (gzx : Z.heap.size ≤ x) (h0 : Heap) (Ex : Exa Z h0 x "java/lang/String") (Vx : Fld Z h0 x "java/lang/String" "value" "[B" .null) (Cx : Fld Z h0 x "java/lang/String" "coder" "B" (.int (0 : Int32))) (Ka : Arv Z h0 a kc .char (1 : Int32) [.int c0] (.int (0 : Int32))) :
    ConN l Z (⟨"java/lang/String", "<init>", "([CIILjava/lang/Void;)V"⟩ : MethodName) jdk_42_method_149_code 6 (none : Option FieldType) [] ({ frames := 4, cells := 2, slots := 3, locals := 57 } : Room) #[(.ref x), (.ref a), (.int (0 : Int32)), (.int (1 : Int32)), (.null)] h0 (fun r h => r = none ∧ Keep h0 h [x] ∧ OUtf1 Z h x c0) := by
  obtain ⟨hw, hE, S0, hcz, S1, rf, hp0, hp1, hp2⟩ := id H
  refine ConN.of own_pf0 ?_
  intro p e s m below meth c T hby hml hret hlk hnm X0
  have EX0 := ext_refl h0
  refine OEnds.cast (own_ef0 m x a (0 : Int32) (1 : Int32) ) ?_
  show OEnds p e below _ T (mkF m 0 #[.val (.ref x), .val (.ref a), .val (.int (0 : Int32)), .val (.int (1 : Int32)), .val (.null), .unset] [])
  have K0 := Keep.refl h0 [x]
  refine OEnds.go (fun _ q => XS.aloadN X0.here X0.hx rfl (hb hby d_jdk_42_method_149_0) rfl rfl q) ?_
  show OEnds p e below _ T (mkF m 1 #[.val (.ref x), .val (.ref a), .val (.int (0 : Int32)), .val (.int (1 : Int32)), .val (.null), .unset] [(.ref x)])
  refine X0.initO (own_k hw 15 rfl) (own_k hw 16 rfl) (own_k hw 17 rfl) (by rw [hml]; rfl) (hb hby d_jdk_42_method_149_1) (by decide) (W := 0) (Nat.le_of_eq rfl) (by decide) ?_
  intro T1 X2
  show OEnds p e below _ T1 (mkF m 4 #[.val (.ref x), .val (.ref a), .val (.int (0 : Int32)), .val (.int (1 : Int32)), .val (.null), .unset] [])
  refine OEnds.go (fun _ q => XS.iloadN X2.here X2.hx rfl (hb hby d_jdk_42_method_149_4) rfl q) ?_
  show OEnds p e below _ T1 (mkF m 5 #[.val (.ref x), .val (.ref a), .val (.int (0 : Int32)), .val (.int (1 : Int32)), .val (.null), .unset] [(.int (1 : Int32))])
  refine OEnds.go (fun _ q => XS.ifYes X2.here X2.hx rfl (pc0 := 5) (pc' := 27) rfl (hb hby d_jdk_42_method_149_5) rfl ((if0 _ _).trans (feq (by decide)).2) (by decide) (by decide) q) ?_
  show OEnds p e below _ T1 (mkF m 27 #[.val (.ref x), .val (.ref a), .val (.int (0 : Int32)), .val (.int (1 : Int32)), .val (.null), .unset] [])
  refine X2.getS (own_k hw 40 rfl) Via.refl (S0.ext X2.old) (hb hby d_jdk_42_method_149_27) ?_
  intro T3 X4
  show OEnds p e below _ T3 (mkF m 30 #[.val (.ref x), .val (.ref a), .val (.int (0 : Int32)), .val (.int (1 : Int32)), .val (.null), .unset] [(.int cz)])
  refine OEnds.go (fun _ q => XS.ifNo X4.here X4.hx rfl (hb hby d_jdk_42_method_149_30) rfl ((if0 _ _).trans (feq hcz).1) q) ?_
  show OEnds p e below _ T3 (mkF m 33 #[.val (.ref x), .val (.ref a), .val (.int (0 : Int32)), .val (.int (1 : Int32)), .val (.null), .unset] [])
  refine OEnds.go (fun _ q => XS.aloadN X4.here X4.hx rfl (hb hby d_jdk_42_method_149_33) rfl rfl q) ?_
  refine OEnds.go (fun _ q => XS.iloadN X4.here X4.hx rfl (hb hby d_jdk_42_method_149_34) rfl q) ?_
  show OEnds p e below _ T3 (mkF m 35 #[.val (.ref x), .val (.ref a), .val (.int (0 : Int32)), .val (.int (1 : Int32)), .val (.null), .unset] [(.int (0 : Int32)), (.ref a)])
  refine OEnds.go (fun _ q => XS.iloadN X4.here X4.hx rfl (hb hby d_jdk_42_method_149_35) rfl q) ?_
  show OEnds p e below _ T3 (mkF m 36 #[.val (.ref x), .val (.ref a), .val (.int (0 : Int32)), .val (.int (1 : Int32)), .val (.null), .unset] [(.int (1 : Int32)), (.int (0 : Int32)), (.ref a)])
  refine X4.payS (ConN.back (W := 0) (con_co10 H a kc c0 hk hu h0 Ka) X4.old X4.hZ (own_k hw 44 rfl) (own_k hw 43 rfl) (by decide) (by decide)) (okN (fun _ _ ⟨_, _, _, q, _⟩ => q.1)) (own_k hw 41 rfl) (own_k hw 42 rfl) (own_k hw 43 rfl) (own_k hw 44 rfl)  (by decide)  (argsL := [(.ref a), (.int (0 : Int32)), (.int (1 : Int32))]) (rest := []) rfl (lenOf own_pd5 rfl) rfl (by rw [hml]; rfl) (Nat.le_of_eq rfl) (hb hby d_jdk_42_method_149_36) (by decide) (by decide) ?_
  intro v10 T5 h7 Lh7 X6 q11
  replace q11 := q11.1
  obtain ⟨t, kb, rfl, Et, Kt⟩ := q11
  have Ex_h7 := Ex.ext Et
  have Vx_h7 := Vx.ext Et
  have Cx_h7 := Cx.ext Et
  have Ka_h7 := Ka.ext Et
  have EX_h7 := ext_trans EX0 Et
  have Kpx_h7 := K0.ext Et
  show OEnds p e below _ T5 (mkF m 39 #[.val (.ref x), .val (.ref a), .val (.int (0 : Int32)), .val (.int (1 : Int32)), .val (.null), .unset] [(.ref t)])
  have nxt : t ≠ x := fun q => Exa.neArv Ex_h7 Kt (own_k hw 5 rfl) q.symm
  refine OEnds.go (fun _ q => XS.astore X6.here X6.hx rfl (hb hby d_jdk_42_method_149_39) rfl rfl (l' := #[.val (.ref x), .val (.ref a), .val (.int (0 : Int32)), .val (.int (1 : Int32)), .val (.null), .val (.ref t)]) rfl q) ?_
  refine OEnds.go (fun _ q => XS.aloadN X6.here X6.hx rfl (hb hby d_jdk_42_method_149_41) rfl rfl q) ?_
  show OEnds p e below _ T5 (mkF m 42 #[.val (.ref x), .val (.ref a), .val (.int (0 : Int32)), .val (.int (1 : Int32)), .val (.null), .val (.ref t)] [(.ref x)])
  refine OEnds.go (fun _ q => XS.aload X6.here X6.hx rfl (hb hby d_jdk_42_method_149_42) rfl rfl q) ?_
  refine OEnds.go (fun _ q => XS.iloadN X6.here X6.hx rfl (hb hby d_jdk_42_method_149_44) rfl q) ?_
  show OEnds p e below _ T5 (mkF m 45 #[.val (.ref x), .val (.ref a), .val (.int (0 : Int32)), .val (.int (1 : Int32)), .val (.null), .val (.ref t)] [(.int (1 : Int32)), (.ref t), (.ref x)])
  refine X6.payS (ConN.back (W := 1) (con_cfa1 H t kb _ h7 Kt) X6.old X6.hZ (own_k hw 50 rfl) (own_k hw 43 rfl) (by decide) (by decide)) (okN (fun _ _ q => Nat.le_of_eq (congrArg Array.size q.2))) (own_k hw 48 rfl) (own_k hw 49 rfl) (own_k hw 43 rfl) (own_k hw 50 rfl)  (by decide)  (argsL := [(.ref t), (.int (1 : Int32))]) (rest := [(.ref x)]) rfl (lenOf own_pd7 rfl) rfl (by rw [hml]; rfl) (Nat.le_of_eq rfl) (hb hby d_jdk_42_method_149_45) (by decide) (by decide) ?_
  intro v17 T12 h14 Lh14 X13 q18
  replace q18 := q18.1
  obtain ⟨rfl, rfl⟩ := q18
  show OEnds p e below _ T12 (mkF m 48 #[.val (.ref x), .val (.ref a), .val (.int (0 : Int32)), .val (.int (1 : Int32)), .val (.null), .val (.ref t)] [(.int (1 : Int32)), (.ref x)])
  refine X13.putF (v := (.int (1 : Int32))) (own_k hw 25 rfl) Via.refl Cx_h7 Ex_h7 (Or.inr ⟨(own_k hw 21 rfl), rfl, hnm⟩) (own_k hw 5 rfl) (ty := FieldType.byte) (by decide) rfl rfl safe_nil gzx (hb hby d_jdk_42_method_149_48) ?_
  intro T19 h21 X20 W22
  have Cx_h21 := Cx_h7.same W22
  have Ex_h21 := Ex_h7.wr W22
  have Vx_h21 := Vx_h7.other W22 (Or.inr (slot_ne (a0 := a0) (Or.inr (own_k hw 20 rfl)) (Or.inr (own_k hw 21 rfl)) (by decide) (t := (FieldType.array FieldType.byte)) (by decide) (t' := FieldType.byte) (by decide)))
  have K23 := Kpx_h7.wr W22 (Or.inl (List.mem_of_getElem? (i := 0) rfl))
  have Kt_h21 := Kt.other W22 nxt
  show OEnds p e below _ T19 (mkF m 51 #[.val (.ref x), .val (.ref a), .val (.int (0 : Int32)), .val (.int (1 : Int32)), .val (.null), .val (.ref t)] [])
  refine OEnds.go (fun _ q => XS.aloadN X20.here X20.hx rfl (hb hby d_jdk_42_method_149_51) rfl rfl q) ?_
  refine OEnds.go (fun _ q => XS.aload X20.here X20.hx rfl (hb hby d_jdk_42_method_149_52) rfl rfl q) ?_
  show OEnds p e below _ T19 (mkF m 54 #[.val (.ref x), .val (.ref a), .val (.int (0 : Int32)), .val (.int (1 : Int32)), .val (.null), .val (.ref t)] [(.ref t), (.ref x)])
  refine X20.putF (v := (.ref t)) (own_k hw 24 rfl) Via.refl Vx_h21 Ex_h21 (Or.inr ⟨(own_k hw 20 rfl), rfl, hnm⟩) (own_k hw 5 rfl) (ty := (FieldType.array FieldType.byte)) (by decide) rfl rfl safe_nil gzx (hb hby d_jdk_42_method_149_54) ?_
  intro T24 h26 X25 W27
  have Vx_h26 := Vx_h21.same W27
  have Ex_h26 := Ex_h21.wr W27
  have Cx_h26 := Cx_h21.other W27 (Or.inr (slot_ne (a0 := a0) (Or.inr (own_k hw 21 rfl)) (Or.inr (own_k hw 20 rfl)) (by decide) (t := FieldType.byte) (by decide) (t' := (FieldType.array FieldType.byte)) (by decide)))
  have K28 := K23.wr W27 (Or.inl (List.mem_of_getElem? (i := 0) rfl))
  have Kt_h26 := Kt_h21.other W27 nxt
  show OEnds p e below _ T24 (mkF m 57 #[.val (.ref x), .val (.ref a), .val (.int (0 : Int32)), .val (.int (1 : Int32)), .val (.null), .val (.ref t)] [])
  exact X25.ret0N hlk  hret (hb hby d_jdk_42_method_149_57) (by decide) (by decide) ⟨rfl, K28, Ex_h26, Cx_h26, t, kb, Vx_h26, Kt_h26⟩
theorem con_nu10 {l : Launch} {Z : State} {a0 : Array Value} {cz : Int32} {fm : Value} (H : Ctx Z a0 cz fm) (x a : Addr) (kc : ClassId) (c0 : Int32) (hk : (255 : Int32) < c0) (hu : ¬ c0 < 0 ∧ ¬ (65535 : Int32) < c0) (gzx : Z.heap.size ≤ x) (h0 : Heap) (Ex : Exa Z h0 x "java/lang/String") (Vx : Fld Z h0 x "java/lang/String" "value" "[B" .null) (Cx : Fld Z h0 x "java/lang/String" "coder" "B" (.int (0 : Int32))) (Ka : Arv Z h0 a kc .char (1 : Int32) [.int c0] (.int (0 : Int32))) :
    ConN l Z (⟨"java/lang/String", "<init>", "([C)V"⟩ : MethodName) jdk_42_method_3_code 2 (none : Option FieldType) [] ({ frames := 5, cells := 2, slots := 3, locals := 74 } : Room) #[(.ref x), (.ref a)] h0 (fun r h => r = none ∧ Keep h0 h [x] ∧ OUtf1 Z h x c0) := by
  obtain ⟨hw, hE, S0, hcz, S1, rf, hp0, hp1, hp2⟩ := id H
  refine ConN.of own_pf1 ?_
  intro p e s m below meth c T hby hml hret hlk hnm X0
  have EX0 := ext_refl h0
  refine OEnds.cast (own_ef1 m x a ) ?_
  show OEnds p e below _ T (mkF m 0 #[.val (.ref x), .val (.ref a)] [])
  refine OEnds.go (fun _ q => XS.aloadN X0.here X0.hx rfl (hb hby d_jdk_42_method_3_0) rfl rfl q) ?_
  refine OEnds.go (fun _ q => XS.aloadN X0.here X0.hx rfl (hb hby d_jdk_42_method_3_1) rfl rfl q) ?_
  show OEnds p e below _ T (mkF m 2 #[.val (.ref x), .val (.ref a)] [(.ref a), (.ref x)])
  refine OEnds.go (fun _ q => XS.iconst X0.here X0.hx rfl (hb hby d_jdk_42_method_3_2) q) ?_
  refine OEnds.go (fun _ q => XS.aloadN X0.here X0.hx rfl (hb hby d_jdk_42_method_3_3) rfl rfl q) ?_
  show OEnds p e below _ T (mkF m 4 #[.val (.ref x), .val (.ref a)] [(.ref a), (.int (0 : Int32)), (.ref a), (.ref x)])
  refine X0.alen Ka (hb hby d_jdk_42_method_3_4) ?_
  show OEnds p e below _ T (mkF m 5 #[.val (.ref x), .val (.ref a)] [(.int (1 : Int32)), (.int (0 : Int32)), (.ref a), (.ref x)])
  refine OEnds.go (fun _ q => XS.aconstNull X0.here X0.hx rfl (hb hby d_jdk_42_method_3_5) q) ?_
  show OEnds p e below _ T (mkF m 6 #[.val (.ref x), .val (.ref a)] [(.null), (.int (1 : Int32)), (.int (0 : Int32)), (.ref a), (.ref x)])
  refine X0.payI (ConN.back (W := 0) (con_nv10 H x a kc c0 hk hu gzx h0 Ex Vx Cx Ka) X0.old X0.hZ (own_k hw 14 rfl) (own_k hw 6 rfl) (by decide) (by decide)) (okN (fun _ _ q => q.2.1.1)) (own_k hw 11 rfl) (own_k hw 12 rfl)  (own_k hw 14 rfl) rfl (by decide)  (a := x) (argsL := [(.ref a), (.int (0 : Int32)), (.int (1 : Int32)), (.null)]) (rest := []) rfl (lenOf own_pd0 rfl) rfl (by rw [hml]; rfl) (Nat.le_of_eq rfl) (hb hby d_jdk_42_method_3_6) (by decide) (by decide) ?_
  intro v6 T1 h3 Lh3 X2 q7
  replace q7 := q7.1
  obtain ⟨rfl, Kq, Uq⟩ := q7
  show OEnds p e below _ T1 (mkF m 9 #[.val (.ref x), .val (.ref a)] [])
  exact X2.ret0N hlk  hret (hb hby d_jdk_42_method_3_9) (by decide) (by decide) ⟨rfl, Kq, Uq⟩
theorem con_nbl2 {l : Launch} {Z : State} {a0 : Array Value} {cz : Int32} {fm : Value} (H : Ctx Z a0 cz fm)  (h0 : Heap)  :
    ConN l Z (⟨"java/lang/StringUTF16", "newBytesLength", "(I)I"⟩ : MethodName) jdk_52_method_3_code 1 (some FieldType.int) [] ({ frames := 0, cells := 0, slots := 0, locals := 0 } : Room) #[(.int (2 : Int32))] h0 (fun r h => r = some (.int (4 : Int32)) ∧ h0 = h) := by
  obtain ⟨hw, hE, S0, hcz, S1, rf, hp0, hp1, hp2⟩ := id H
  refine ConN.of own_pf2 ?_
  intro p e s m below meth c T hby hml hret hlk hnm X0
  have EX0 := ext_refl h0
  refine OEnds.cast (own_ef2 m (2 : Int32) ) ?_
  show OEnds p e below _ T (mkF m 0 #[.val (.int (2 : Int32))] [])
  refine OEnds.go (fun _ q => XS.iloadN X0.here X0.hx rfl (hb hby d_jdk_52_method_3_0) rfl q) ?_
  show OEnds p e below _ T (mkF m 1 #[.val (.int (2 : Int32))] [(.int (2 : Int32))])
  refine OEnds.go (fun _ q => XS.ifYes X0.here X0.hx rfl (pc0 := 1) (pc' := 12) rfl (hb hby d_jdk_52_method_3_1) rfl ((if0 _ _).trans (flt (by decide)).2.1) (by decide) (by decide) q) ?_
  show OEnds p e below _ T (mkF m 12 #[.val (.int (2 : Int32))] [])
  refine OEnds.go (fun _ q => XS.iloadN X0.here X0.hx rfl (hb hby d_jdk_52_method_3_12) rfl q) ?_
  show OEnds p e below _ T (mkF m 13 #[.val (.int (2 : Int32))] [(.int (2 : Int32))])
  refine X0.ldcI (own_k hw 85 rfl) (hb hby d_jdk_52_method_3_13) ?_
  show OEnds p e below _ T (mkF m 15 #[.val (.int (2 : Int32))] [(.int (1073741823 : Int32)), (.int (2 : Int32))])
  refine OEnds.go (fun _ q => XS.icmpYes X0.here X0.hx rfl (pc0 := 15) (pc' := 55) rfl (hb hby d_jdk_52_method_3_15) rfl (tlt (by decide)).1 (by decide) (by decide) q) ?_
  show OEnds p e below _ T (mkF m 55 #[.val (.int (2 : Int32))] [])
  refine OEnds.go (fun _ q => XS.iloadN X0.here X0.hx rfl (hb hby d_jdk_52_method_3_55) rfl q) ?_
  refine OEnds.go (fun _ q => XS.iconst X0.here X0.hx rfl (hb hby d_jdk_52_method_3_56) q) ?_
  show OEnds p e below _ T (mkF m 57 #[.val (.int (2 : Int32))] [(.int (1 : Int32)), (.int (2 : Int32))])
  refine OEnds.go (fun _ q => XS.ishl X0.here X0.hx rfl (hb hby d_jdk_52_method_3_57) rfl q) ?_
  show OEnds p e below _ T (mkF m 58 #[.val (.int (2 : Int32))] [(.int ((2 : Int32) <<< ((1 : Int32) &&& 31)))])
  rw [show ((2 : Int32) <<< ((1 : Int32) &&& 31)) = (4 : Int32) from by decide]
  show OEnds p e below _ T (mkF m 58 #[.val (.int (2 : Int32))] [(.int (4 : Int32))])
  exact X0.retIntN hlk  hret (hb hby d_jdk_52_method_3_58) (by decide) (by decide) ⟨rfl, rfl⟩
theorem con_nbf2 {l : Launch} {Z : State} {a0 : Array Value} {cz : Int32} {fm : Value} (H : Ctx Z a0 cz fm)  (h0 : Heap)  :
    ConN l Z (⟨"java/lang/StringUTF16", "newBytesFor", "(I)[B"⟩ : MethodName) jdk_52_method_2_code 1 (some (FieldType.array FieldType.byte)) [] ({ frames := 1, cells := 1, slots := 4, locals := 12 } : Room) #[(.int (2 : Int32))] h0 (fun r h => ∃ (t : Addr) (kb : ClassId), r = some (.ref t) ∧ Ext h0 h ∧ Arv Z h t kb .byte (4 : Int32) [.int (0 : Int32), .int (0 : Int32), .int (0 : Int32), .int (0 : Int32)] (.int (0 : Int32)) ∧ h0.size = t) := by
  obtain ⟨hw, hE, S0, hcz, S1, rf, hp0, hp1, hp2⟩ := id H
  refine ConN.of own_pf3 ?_
  intro p e s m below meth c T hby hml hret hlk hnm X0
  have EX0 := ext_refl h0
  refine OEnds.cast (own_ef2 m (2 : Int32) ) ?_
  show OEnds p e below _ T (mkF m 0 #[.val (.int (2 : Int32))] [])
  refine OEnds.go (fun _ q => XS.iloadN X0.here X0.hx rfl (hb hby d_jdk_52_method_2_0) rfl q) ?_
  show OEnds p e below _ T (mkF m 1 #[.val (.int (2 : Int32))] [(.int (2 : Int32))])
  refine X0.payS (ConN.back (W := 0) (con_nbl2 H h0) X0.old X0.hZ (own_k hw 84 rfl) (own_k hw 43 rfl) (by decide) (by decide)) (okN (fun _ _ q => Nat.le_of_eq (congrArg Array.size q.2))) (own_k hw 82 rfl) (own_k hw 83 rfl) (own_k hw 43 rfl) (own_k hw 84 rfl)  (by decide)  (argsL := [(.int (2 : Int32))]) (rest := []) rfl (lenOf own_pd1 rfl) rfl (by rw [hml]; rfl) (Nat.le_of_eq rfl) (hb hby d_jdk_52_method_2_1) (by decide) (by decide) ?_
  intro v6 T1 h3 Lh3 X2 q7
  replace q7 := q7.1
  obtain ⟨rfl, rfl⟩ := q7
  show OEnds p e below _ T1 (mkF m 4 #[.val (.int (2 : Int32))] [(.int (4 : Int32))])
  refine X2.newP (own_k hw 19 rfl) (hb hby d_jdk_52_method_2_4) (by decide) (cap := 4) (by decide) (by decide) (by decide) (by decide) ?_
  intro T8 h10 a12 ka12 ga12 X9 E11 Ka12
  have gza12 : Z.heap.size ≤ a12 := ga12 ▸ X2.old.1
  have EX_h10 := ext_trans EX0 E11
  have Ka12_0 : Arv Z h10 a12 ka12 .byte (4 : Int32) [.int (0 : Int32), .int (0 : Int32), .int (0 : Int32), .int (0 : Int32)] (.int (0 : Int32)) := Ka12.pad (pad_rep [] (.int (0 : Int32)) 4)
  show OEnds p e below _ T8 (mkF m 6 #[.val (.int (2 : Int32))] [(.ref a12)])
  exact X9.retRefN hlk rfl (t := (FieldType.array FieldType.byte)) rfl hret (hb hby d_jdk_52_method_2_6) (by decide) (by decide) ⟨a12, _, rfl, EX_h10, Ka12_0, ga12⟩
theorem con_put20 {l : Launch} {Z : State} {a0 : Array Value} {cz : Int32} {fm : Value} (H : Ctx Z a0 cz fm) (b : Addr) (kb : ClassId) (w0 w1 w2 w3 v : Int32) (gzb : Z.heap.size ≤ b) (h0 : Heap) (Kb : Arv Z h0 b kb .byte (4 : Int32) [.int w0, .int w1, .int w2, .int w3] (.int (0 : Int32))) :
    ConN l Z (⟨"java/lang/StringUTF16", "putChar", "([BII)V"⟩ : MethodName) jdk_52_method_4_code 3 (none : Option FieldType) [] ({ frames := 0, cells := 0, slots := 0, locals := 0 } : Room) #[(.ref b), (.int (0 : Int32)), (.int v)] h0 (fun r h => r = none ∧ Keep h0 h [b] ∧ Arv Z h b kb .byte (4 : Int32) [.int (own_lo v), .int (own_hi v), .int w2, .int w3] (.int (0 : Int32))) := by
  obtain ⟨hw, hE, S0, hcz, S1, rf, hp0, hp1, hp2⟩ := id H
  refine ConN.of own_pf4 ?_
  intro p e s m below meth c T hby hml hret hlk hnm X0
  have EX0 := ext_refl h0
  refine OEnds.cast (own_ef3 m b (0 : Int32) v ) ?_
  show OEnds p e below _ T (mkF m 0 #[.val (.ref b), .val (.int (0 : Int32)), .val (.int v)] [])
  have K0 := Keep.refl h0 [b]
  refine X0.getS (own_k hw 89 rfl) Via.refl (hp0.ext X0.old) (hb hby d_jdk_52_method_4_0) ?_
  intro T1 X2
  show OEnds p e below _ T1 (mkF m 3 #[.val (.ref b), .val (.int (0 : Int32)), .val (.int v)] [(.int (1 : Int32))])
  refine OEnds.go (fun _ q => XS.ifYes X2.here X2.hx rfl (pc0 := 3) (pc' := 28) rfl (hb hby d_jdk_52_method_4_3) rfl ((if0 _ _).trans (feq (by decide)).2) (by decide) (by decide) q) ?_
  show OEnds p e below _ T1 (mkF m 28 #[.val (.ref b), .val (.int (0 : Int32)), .val (.int v)] [])
  refine OEnds.go (fun _ q => XS.iloadN X2.here X2.hx rfl (hb hby d_jdk_52_method_4_28) rfl q) ?_
  show OEnds p e below _ T1 (mkF m 29 #[.val (.ref b), .val (.int (0 : Int32)), .val (.int v)] [(.int (0 : Int32))])
  refine OEnds.go (fun _ q => XS.iconst X2.here X2.hx rfl (hb hby d_jdk_52_method_4_29) q) ?_
  show OEnds p e below _ T1 (mkF m 30 #[.val (.ref b), .val (.int (0 : Int32)), .val (.int v)] [(.int (1 : Int32)), (.int (0 : Int32))])
  refine OEnds.go (fun _ q => XS.ishl X2.here X2.hx rfl (hb hby d_jdk_52_method_4_30) rfl q) ?_
  show OEnds p e below _ T1 (mkF m 31 #[.val (.ref b), .val (.int (0 : Int32)), .val (.int v)] [(.int ((0 : Int32) <<< ((1 : Int32) &&& 31)))])
  rw [show ((0 : Int32) <<< ((1 : Int32) &&& 31)) = (0 : Int32) from by decide]
  show OEnds p e below _ T1 (mkF m 31 #[.val (.ref b), .val (.int (0 : Int32)), .val (.int v)] [(.int (0 : Int32))])
  refine OEnds.go (fun _ q => XS.istoreN X2.here X2.hx rfl (hb hby d_jdk_52_method_4_31) rfl (l' := #[.val (.ref b), .val (.int (0 : Int32)), .val (.int v)]) rfl q) ?_
  show OEnds p e below _ T1 (mkF m 32 #[.val (.ref b), .val (.int (0 : Int32)), .val (.int v)] [])
  refine OEnds.go (fun _ q => XS.aloadN X2.here X2.hx rfl (hb hby d_jdk_52_method_4_32) rfl rfl q) ?_
  show OEnds p e below _ T1 (mkF m 33 #[.val (.ref b), .val (.int (0 : Int32)), .val (.int v)] [(.ref b)])
  refine OEnds.go (fun _ q => XS.iloadN X2.here X2.hx rfl (hb hby d_jdk_52_method_4_33) rfl q) ?_
  show OEnds p e below _ T1 (mkF m 34 #[.val (.ref b), .val (.int (0 : Int32)), .val (.int v)] [(.int (0 : Int32)), (.ref b)])
  refine OEnds.go (fun _ q => XS.iinc X2.here X2.hx rfl (hb hby d_jdk_52_method_4_34) rfl (l' := #[.val (.ref b), .val (.int ((0 : Int32) + (1 : Int32))), .val (.int v)]) rfl q) ?_
  show OEnds p e below _ T1 (mkF m 37 #[.val (.ref b), .val (.int ((0 : Int32) + (1 : Int32))), .val (.int v)] [(.int (0 : Int32)), (.ref b)])
  rw [show ((0 : Int32) + (1 : Int32)) = (1 : Int32) from by decide]
  show OEnds p e below _ T1 (mkF m 37 #[.val (.ref b), .val (.int (1 : Int32)), .val (.int v)] [(.int (0 : Int32)), (.ref b)])
  refine OEnds.go (fun _ q => XS.iloadN X2.here X2.hx rfl (hb hby d_jdk_52_method_4_37) rfl q) ?_
  show OEnds p e below _ T1 (mkF m 38 #[.val (.ref b), .val (.int (1 : Int32)), .val (.int v)] [(.int v), (.int (0 : Int32)), (.ref b)])
  refine X2.getS (own_k hw 90 rfl) Via.refl (hp1.ext X2.old) (hb hby d_jdk_52_method_4_38) ?_
  intro T3 X4
  show OEnds p e below _ T3 (mkF m 41 #[.val (.ref b), .val (.int (1 : Int32)), .val (.int v)] [(.int (0 : Int32)), (.int v), (.int (0 : Int32)), (.ref b)])
  refine OEnds.go (fun _ q => XS.ishr X4.here X4.hx rfl (hb hby d_jdk_52_method_4_41) rfl q) ?_
  refine OEnds.go (fun _ q => XS.i2b X4.here X4.hx rfl (hb hby d_jdk_52_method_4_42) rfl q) ?_
  show OEnds p e below _ T3 (mkF m 43 #[.val (.ref b), .val (.int (1 : Int32)), .val (.int v)] [(.int ((v >>> ((0 : Int32) &&& 31)).toInt8.toInt32)), (.int (0 : Int32)), (.ref b)])
  refine X4.stB Kb safe_nil (by decide) (i := 0) rfl (Nat.le_of_ble_eq_true rfl) gzb (hb hby d_jdk_52_method_4_43) ?_
  intro T5 h7 X6 W8 Kb_h7x
  have Kb_h7 : Arv Z h7 b kb .byte (4 : Int32) [.int (own_lo v), .int w1, .int w2, .int w3] (.int (0 : Int32)) := Kb_h7x
  have K9 := K0.wr W8 (Or.inl (List.mem_of_getElem? (i := 0) rfl))
  show OEnds p e below _ T5 (mkF m 44 #[.val (.ref b), .val (.int (1 : Int32)), .val (.int v)] [])
  refine OEnds.go (fun _ q => XS.aloadN X6.here X6.hx rfl (hb hby d_jdk_52_method_4_44) rfl rfl q) ?_
  refine OEnds.go (fun _ q => XS.iloadN X6.here X6.hx rfl (hb hby d_jdk_52_method_4_45) rfl q) ?_
  show OEnds p e below _ T5 (mkF m 46 #[.val (.ref b), .val (.int (1 : Int32)), .val (.int v)] [(.int (1 : Int32)), (.ref b)])
  refine OEnds.go (fun _ q => XS.iloadN X6.here X6.hx rfl (hb hby d_jdk_52_method_4_46) rfl q) ?_
  show OEnds p e below _ T5 (mkF m 47 #[.val (.ref b), .val (.int (1 : Int32)), .val (.int v)] [(.int v), (.int (1 : Int32)), (.ref b)])
  refine X6.getS (own_k hw 91 rfl) Via.refl (hp2.ext X6.old) (hb hby d_jdk_52_method_4_47) ?_
  intro T10 X11
  show OEnds p e below _ T10 (mkF m 50 #[.val (.ref b), .val (.int (1 : Int32)), .val (.int v)] [(.int (8 : Int32)), (.int v), (.int (1 : Int32)), (.ref b)])
  refine OEnds.go (fun _ q => XS.ishr X11.here X11.hx rfl (hb hby d_jdk_52_method_4_50) rfl q) ?_
  refine OEnds.go (fun _ q => XS.i2b X11.here X11.hx rfl (hb hby d_jdk_52_method_4_51) rfl q) ?_
  show OEnds p e below _ T10 (mkF m 52 #[.val (.ref b), .val (.int (1 : Int32)), .val (.int v)] [(.int ((v >>> ((8 : Int32) &&& 31)).toInt8.toInt32)), (.int (1 : Int32)), (.ref b)])
  refine X11.stB Kb_h7 safe_nil (by decide) (i := 1) rfl (Nat.le_of_ble_eq_true rfl) gzb (hb hby d_jdk_52_method_4_52) ?_
  intro T12 h14 X13 W15 Kb_h14x
  have Kb_h14 : Arv Z h14 b kb .byte (4 : Int32) [.int (own_lo v), .int (own_hi v), .int w2, .int w3] (.int (0 : Int32)) := Kb_h14x
  have K16 := K9.wr W15 (Or.inl (List.mem_of_getElem? (i := 0) rfl))
  show OEnds p e below _ T12 (mkF m 53 #[.val (.ref b), .val (.int (1 : Int32)), .val (.int v)] [])
  exact X13.ret0N hlk  hret (hb hby d_jdk_52_method_4_53) (by decide) (by decide) ⟨rfl, K16, Kb_h14⟩
theorem con_put21 {l : Launch} {Z : State} {a0 : Array Value} {cz : Int32} {fm : Value} (H : Ctx Z a0 cz fm) (b : Addr) (kb : ClassId) (w0 w1 w2 w3 v : Int32) (gzb : Z.heap.size ≤ b) (h0 : Heap) (Kb : Arv Z h0 b kb .byte (4 : Int32) [.int w0, .int w1, .int w2, .int w3] (.int (0 : Int32))) :
    ConN l Z (⟨"java/lang/StringUTF16", "putChar", "([BII)V"⟩ : MethodName) jdk_52_method_4_code 3 (none : Option FieldType) [] ({ frames := 0, cells := 0, slots := 0, locals := 0 } : Room) #[(.ref b), (.int (1 : Int32)), (.int v)] h0 (fun r h => r = none ∧ Keep h0 h [b] ∧ Arv Z h b kb .byte (4 : Int32) [.int w0, .int w1, .int (own_lo v), .int (own_hi v)] (.int (0 : Int32))) := by
  obtain ⟨hw, hE, S0, hcz, S1, rf, hp0, hp1, hp2⟩ := id H
  refine ConN.of own_pf4 ?_
  intro p e s m below meth c T hby hml hret hlk hnm X0
  have EX0 := ext_refl h0
  refine OEnds.cast (own_ef3 m b (1 : Int32) v ) ?_
  show OEnds p e below _ T (mkF m 0 #[.val (.ref b), .val (.int (1 : Int32)), .val (.int v)] [])
  have K0 := Keep.refl h0 [b]
  refine X0.getS (own_k hw 89 rfl) Via.refl (hp0.ext X0.old) (hb hby d_jdk_52_method_4_0) ?_
  intro T1 X2
  show OEnds p e below _ T1 (mkF m 3 #[.val (.ref b), .val (.int (1 : Int32)), .val (.int v)] [(.int (1 : Int32))])
  refine OEnds.go (fun _ q => XS.ifYes X2.here X2.hx rfl (pc0 := 3) (pc' := 28) rfl (hb hby d_jdk_52_method_4_3) rfl ((if0 _ _).trans (feq (by decide)).2) (by decide) (by decide) q) ?_
  show OEnds p e below _ T1 (mkF m 28 #[.val (.ref b), .val (.int (1 : Int32)), .val (.int v)] [])
  refine OEnds.go (fun _ q => XS.iloadN X2.here X2.hx rfl (hb hby d_jdk_52_method_4_28) rfl q) ?_
  show OEnds p e below _ T1 (mkF m 29 #[.val (.ref b), .val (.int (1 : Int32)), .val (.int v)] [(.int (1 : Int32))])
  refine OEnds.go (fun _ q => XS.iconst X2.here X2.hx rfl (hb hby d_jdk_52_method_4_29) q) ?_
  show OEnds p e below _ T1 (mkF m 30 #[.val (.ref b), .val (.int (1 : Int32)), .val (.int v)] [(.int (1 : Int32)), (.int (1 : Int32))])
  refine OEnds.go (fun _ q => XS.ishl X2.here X2.hx rfl (hb hby d_jdk_52_method_4_30) rfl q) ?_
  show OEnds p e below _ T1 (mkF m 31 #[.val (.ref b), .val (.int (1 : Int32)), .val (.int v)] [(.int ((1 : Int32) <<< ((1 : Int32) &&& 31)))])
  rw [show ((1 : Int32) <<< ((1 : Int32) &&& 31)) = (2 : Int32) from by decide]
  show OEnds p e below _ T1 (mkF m 31 #[.val (.ref b), .val (.int (1 : Int32)), .val (.int v)] [(.int (2 : Int32))])
  refine OEnds.go (fun _ q => XS.istoreN X2.here X2.hx rfl (hb hby d_jdk_52_method_4_31) rfl (l' := #[.val (.ref b), .val (.int (2 : Int32)), .val (.int v)]) rfl q) ?_
  show OEnds p e below _ T1 (mkF m 32 #[.val (.ref b), .val (.int (2 : Int32)), .val (.int v)] [])
  refine OEnds.go (fun _ q => XS.aloadN X2.here X2.hx rfl (hb hby d_jdk_52_method_4_32) rfl rfl q) ?_
  show OEnds p e below _ T1 (mkF m 33 #[.val (.ref b), .val (.int (2 : Int32)), .val (.int v)] [(.ref b)])
  refine OEnds.go (fun _ q => XS.iloadN X2.here X2.hx rfl (hb hby d_jdk_52_method_4_33) rfl q) ?_
  show OEnds p e below _ T1 (mkF m 34 #[.val (.ref b), .val (.int (2 : Int32)), .val (.int v)] [(.int (2 : Int32)), (.ref b)])
  refine OEnds.go (fun _ q => XS.iinc X2.here X2.hx rfl (hb hby d_jdk_52_method_4_34) rfl (l' := #[.val (.ref b), .val (.int ((2 : Int32) + (1 : Int32))), .val (.int v)]) rfl q) ?_
  show OEnds p e below _ T1 (mkF m 37 #[.val (.ref b), .val (.int ((2 : Int32) + (1 : Int32))), .val (.int v)] [(.int (2 : Int32)), (.ref b)])
  rw [show ((2 : Int32) + (1 : Int32)) = (3 : Int32) from by decide]
  show OEnds p e below _ T1 (mkF m 37 #[.val (.ref b), .val (.int (3 : Int32)), .val (.int v)] [(.int (2 : Int32)), (.ref b)])
  refine OEnds.go (fun _ q => XS.iloadN X2.here X2.hx rfl (hb hby d_jdk_52_method_4_37) rfl q) ?_
  show OEnds p e below _ T1 (mkF m 38 #[.val (.ref b), .val (.int (3 : Int32)), .val (.int v)] [(.int v), (.int (2 : Int32)), (.ref b)])
  refine X2.getS (own_k hw 90 rfl) Via.refl (hp1.ext X2.old) (hb hby d_jdk_52_method_4_38) ?_
  intro T3 X4
  show OEnds p e below _ T3 (mkF m 41 #[.val (.ref b), .val (.int (3 : Int32)), .val (.int v)] [(.int (0 : Int32)), (.int v), (.int (2 : Int32)), (.ref b)])
  refine OEnds.go (fun _ q => XS.ishr X4.here X4.hx rfl (hb hby d_jdk_52_method_4_41) rfl q) ?_
  refine OEnds.go (fun _ q => XS.i2b X4.here X4.hx rfl (hb hby d_jdk_52_method_4_42) rfl q) ?_
  show OEnds p e below _ T3 (mkF m 43 #[.val (.ref b), .val (.int (3 : Int32)), .val (.int v)] [(.int ((v >>> ((0 : Int32) &&& 31)).toInt8.toInt32)), (.int (2 : Int32)), (.ref b)])
  refine X4.stB Kb safe_nil (by decide) (i := 2) rfl (Nat.le_of_ble_eq_true rfl) gzb (hb hby d_jdk_52_method_4_43) ?_
  intro T5 h7 X6 W8 Kb_h7x
  have Kb_h7 : Arv Z h7 b kb .byte (4 : Int32) [.int w0, .int w1, .int (own_lo v), .int w3] (.int (0 : Int32)) := Kb_h7x
  have K9 := K0.wr W8 (Or.inl (List.mem_of_getElem? (i := 0) rfl))
  show OEnds p e below _ T5 (mkF m 44 #[.val (.ref b), .val (.int (3 : Int32)), .val (.int v)] [])
  refine OEnds.go (fun _ q => XS.aloadN X6.here X6.hx rfl (hb hby d_jdk_52_method_4_44) rfl rfl q) ?_
  refine OEnds.go (fun _ q => XS.iloadN X6.here X6.hx rfl (hb hby d_jdk_52_method_4_45) rfl q) ?_
  show OEnds p e below _ T5 (mkF m 46 #[.val (.ref b), .val (.int (3 : Int32)), .val (.int v)] [(.int (3 : Int32)), (.ref b)])
  refine OEnds.go (fun _ q => XS.iloadN X6.here X6.hx rfl (hb hby d_jdk_52_method_4_46) rfl q) ?_
  show OEnds p e below _ T5 (mkF m 47 #[.val (.ref b), .val (.int (3 : Int32)), .val (.int v)] [(.int v), (.int (3 : Int32)), (.ref b)])
  refine X6.getS (own_k hw 91 rfl) Via.refl (hp2.ext X6.old) (hb hby d_jdk_52_method_4_47) ?_
  intro T10 X11
  show OEnds p e below _ T10 (mkF m 50 #[.val (.ref b), .val (.int (3 : Int32)), .val (.int v)] [(.int (8 : Int32)), (.int v), (.int (3 : Int32)), (.ref b)])
  refine OEnds.go (fun _ q => XS.ishr X11.here X11.hx rfl (hb hby d_jdk_52_method_4_50) rfl q) ?_
  refine OEnds.go (fun _ q => XS.i2b X11.here X11.hx rfl (hb hby d_jdk_52_method_4_51) rfl q) ?_
  show OEnds p e below _ T10 (mkF m 52 #[.val (.ref b), .val (.int (3 : Int32)), .val (.int v)] [(.int ((v >>> ((8 : Int32) &&& 31)).toInt8.toInt32)), (.int (3 : Int32)), (.ref b)])
  refine X11.stB Kb_h7 safe_nil (by decide) (i := 3) rfl (Nat.le_of_ble_eq_true rfl) gzb (hb hby d_jdk_52_method_4_52) ?_
  intro T12 h14 X13 W15 Kb_h14x
  have Kb_h14 : Arv Z h14 b kb .byte (4 : Int32) [.int w0, .int w1, .int (own_lo v), .int (own_hi v)] (.int (0 : Int32)) := Kb_h14x
  have K16 := K9.wr W15 (Or.inl (List.mem_of_getElem? (i := 0) rfl))
  show OEnds p e below _ T12 (mkF m 53 #[.val (.ref b), .val (.int (3 : Int32)), .val (.int v)] [])
  exact X13.ret0N hlk  hret (hb hby d_jdk_52_method_4_53) (by decide) (by decide) ⟨rfl, K16, Kb_h14⟩
theorem con_tob2 {l : Launch} {Z : State} {a0 : Array Value} {cz : Int32} {fm : Value} (H : Ctx Z a0 cz fm) (a : Addr) (kc : ClassId) (c0 c1 : Int32) (h0 : Heap) (Ka : Arv Z h0 a kc .char (2 : Int32) [.int c0, .int c1] (.int (0 : Int32))) :
    ConN l Z (⟨"java/lang/StringUTF16", "toBytes", "([CII)[B"⟩ : MethodName) jdk_52_method_14_code 5 (some (FieldType.array FieldType.byte)) [] ({ frames := 2, cells := 1, slots := 4, locals := 24 } : Room) #[(.ref a), (.int (0 : Int32)), (.int (2 : Int32))] h0 (fun r h => ∃ (t : Addr) (kb : ClassId), r = some (.ref t) ∧ Ext h0 h ∧ Arv Z h t kb .byte (4 : Int32) [.int (own_lo c0), .int (own_hi c0), .int (own_lo c1), .int (own_hi c1)] (.int (0 : Int32))) := by
  obtain ⟨hw, hE, S0, hcz, S1, rf, hp0, hp1, hp2⟩ := id H
  refine ConN.of own_pf5 ?_
  intro p e s m below meth c T hby hml hret hlk hnm X0
  have EX0 := ext_refl h0
  refine OEnds.cast (own_ef4 m a (0 : Int32) (2 : Int32) ) ?_
  show OEnds p e below _ T (mkF m 0 #[.val (.ref a), .val (.int (0 : Int32)), .val (.int (2 : Int32)), .unset, .unset] [])
  refine OEnds.go (fun _ q => XS.iloadN X0.here X0.hx rfl (hb hby d_jdk_52_method_14_0) rfl q) ?_
  show OEnds p e below _ T (mkF m 1 #[.val (.ref a), .val (.int (0 : Int32)), .val (.int (2 : Int32)), .unset, .unset] [(.int (2 : Int32))])
  refine X0.payS (ConN.back (W := 0) (con_nbf2 H h0) X0.old X0.hZ (own_k hw 81 rfl) (own_k hw 43 rfl) (by decide) (by decide)) (okN (fun _ _ ⟨_, _, _, q, _⟩ => q.1)) (own_k hw 79 rfl) (own_k hw 80 rfl) (own_k hw 43 rfl) (own_k hw 81 rfl)  (by decide)  (argsL := [(.int (2 : Int32))]) (rest := []) rfl (lenOf own_pd2 rfl) rfl (by rw [hml]; rfl) (Nat.le_of_eq rfl) (hb hby d_jdk_52_method_14_1) (by decide) (by decide) ?_
  intro v6 T1 h3 Lh3 X2 q7
  replace q7 := q7.1
  obtain ⟨t, kb, rfl, Et, Kt, gt⟩ := q7
  have Ka_h3 := Ka.ext Et
  have EX_h3 := ext_trans EX0 Et
  show OEnds p e below _ T1 (mkF m 4 #[.val (.ref a), .val (.int (0 : Int32)), .val (.int (2 : Int32)), .unset, .unset] [(.ref t)])
  have gzt : Z.heap.size ≤ t := gt ▸ X0.old.1
  refine OEnds.go (fun _ q => XS.astoreN X2.here X2.hx rfl (hb hby d_jdk_52_method_14_4) rfl rfl (l' := #[.val (.ref a), .val (.int (0 : Int32)), .val (.int (2 : Int32)), .val (.ref t), .unset]) rfl q) ?_
  show OEnds p e below _ T1 (mkF m 5 #[.val (.ref a), .val (.int (0 : Int32)), .val (.int (2 : Int32)), .val (.ref t), .unset] [])
  refine OEnds.go (fun _ q => XS.iconst X2.here X2.hx rfl (hb hby d_jdk_52_method_14_5) q) ?_
  show OEnds p e below _ T1 (mkF m 6 #[.val (.ref a), .val (.int (0 : Int32)), .val (.int (2 : Int32)), .val (.ref t), .unset] [(.int (0 : Int32))])
  refine OEnds.go (fun _ q => XS.istore X2.here X2.hx rfl (hb hby d_jdk_52_method_14_6) rfl (l' := #[.val (.ref a), .val (.int (0 : Int32)), .val (.int (2 : Int32)), .val (.ref t), .val (.int (0 : Int32))]) rfl q) ?_
  show OEnds p e below _ T1 (mkF m 8 #[.val (.ref a), .val (.int (0 : Int32)), .val (.int (2 : Int32)), .val (.ref t), .val (.int (0 : Int32))] [])
  refine OEnds.go (fun _ q => XS.iload X2.here X2.hx rfl (hb hby d_jdk_52_method_14_8) rfl q) ?_
  show OEnds p e below _ T1 (mkF m 10 #[.val (.ref a), .val (.int (0 : Int32)), .val (.int (2 : Int32)), .val (.ref t), .val (.int (0 : Int32))] [(.int (0 : Int32))])
  refine OEnds.go (fun _ q => XS.iloadN X2.here X2.hx rfl (hb hby d_jdk_52_method_14_10) rfl q) ?_
  show OEnds p e below _ T1 (mkF m 11 #[.val (.ref a), .val (.int (0 : Int32)), .val (.int (2 : Int32)), .val (.ref t), .val (.int (0 : Int32))] [(.int (2 : Int32)), (.int (0 : Int32))])
  refine OEnds.go (fun _ q => XS.icmpNo X2.here X2.hx rfl (hb hby d_jdk_52_method_14_11) rfl (tlt (by decide)).2.1 q) ?_
  show OEnds p e below _ T1 (mkF m 14 #[.val (.ref a), .val (.int (0 : Int32)), .val (.int (2 : Int32)), .val (.ref t), .val (.int (0 : Int32))] [])
  refine OEnds.go (fun _ q => XS.aloadN X2.here X2.hx rfl (hb hby d_jdk_52_method_14_14) rfl rfl q) ?_
  refine OEnds.go (fun _ q => XS.iload X2.here X2.hx rfl (hb hby d_jdk_52_method_14_15) rfl q) ?_
  show OEnds p e below _ T1 (mkF m 17 #[.val (.ref a), .val (.int (0 : Int32)), .val (.int (2 : Int32)), .val (.ref t), .val (.int (0 : Int32))] [(.int (0 : Int32)), (.ref t)])
  refine OEnds.go (fun _ q => XS.aloadN X2.here X2.hx rfl (hb hby d_jdk_52_method_14_17) rfl rfl q) ?_
  refine OEnds.go (fun _ q => XS.iloadN X2.here X2.hx rfl (hb hby d_jdk_52_method_14_18) rfl q) ?_
  show OEnds p e below _ T1 (mkF m 19 #[.val (.ref a), .val (.int (0 : Int32)), .val (.int (2 : Int32)), .val (.ref t), .val (.int (0 : Int32))] [(.int (0 : Int32)), (.ref a), (.int (0 : Int32)), (.ref t)])
  refine X2.cald Ka_h3 (by decide) (v := .int c0) rfl (hb hby d_jdk_52_method_14_19) ?_
  show OEnds p e below _ T1 (mkF m 20 #[.val (.ref a), .val (.int (0 : Int32)), .val (.int (2 : Int32)), .val (.ref t), .val (.int (0 : Int32))] [(.int c0), (.int (0 : Int32)), (.ref t)])
  refine X2.payS (ConN.back (W := 0) (con_put20 H t kb (0 : Int32) (0 : Int32) (0 : Int32) (0 : Int32) c0 gzt h3 Kt) X2.old X2.hZ (own_k hw 88 rfl) (own_k hw 43 rfl) (by decide) (by decide)) (okN (fun _ _ q => q.2.1.1)) (own_k hw 86 rfl) (own_k hw 87 rfl) (own_k hw 43 rfl) (own_k hw 88 rfl)  (by decide)  (argsL := [(.ref t), (.int (0 : Int32)), (.int c0)]) (rest := []) rfl (lenOf own_pd3 rfl) rfl (by rw [hml]; rfl) (Nat.le_of_eq rfl) (hb hby d_jdk_52_method_14_20) (by decide) (by decide) ?_
  intro v15 T10 h12 Lh12 X11 q16
  replace q16 := q16.1
  obtain ⟨rfl, Kq8, Aq9⟩ := q16
  have EBt_h12 := ext_keep Et Kq8 (allS (Nat.le_of_eq gt) all0)
  have Ka_h12 := Ka.ext EBt_h12
  have EX_h12 := ext_keep EX_h3 Kq8 (allS (Nat.le_trans EX0.1 (Nat.le_of_eq gt)) all0)
  show OEnds p e below _ T10 (mkF m 23 #[.val (.ref a), .val (.int (0 : Int32)), .val (.int (2 : Int32)), .val (.ref t), .val (.int (0 : Int32))] [])
  refine OEnds.go (fun _ q => XS.iinc X11.here X11.hx rfl (hb hby d_jdk_52_method_14_23) rfl (l' := #[.val (.ref a), .val (.int ((0 : Int32) + (1 : Int32))), .val (.int (2 : Int32)), .val (.ref t), .val (.int (0 : Int32))]) rfl q) ?_
  show OEnds p e below _ T10 (mkF m 26 #[.val (.ref a), .val (.int ((0 : Int32) + (1 : Int32))), .val (.int (2 : Int32)), .val (.ref t), .val (.int (0 : Int32))] [])
  rw [show ((0 : Int32) + (1 : Int32)) = (1 : Int32) from by decide]
  show OEnds p e below _ T10 (mkF m 26 #[.val (.ref a), .val (.int (1 : Int32)), .val (.int (2 : Int32)), .val (.ref t), .val (.int (0 : Int32))] [])
  refine OEnds.go (fun _ q => XS.iinc X11.here X11.hx rfl (hb hby d_jdk_52_method_14_26) rfl (l' := #[.val (.ref a), .val (.int (1 : Int32)), .val (.int (2 : Int32)), .val (.ref t), .val (.int ((0 : Int32) + (1 : Int32)))]) rfl q) ?_
  show OEnds p e below _ T10 (mkF m 29 #[.val (.ref a), .val (.int (1 : Int32)), .val (.int (2 : Int32)), .val (.ref t), .val (.int ((0 : Int32) + (1 : Int32)))] [])
  rw [show ((0 : Int32) + (1 : Int32)) = (1 : Int32) from by decide]
  show OEnds p e below _ T10 (mkF m 29 #[.val (.ref a), .val (.int (1 : Int32)), .val (.int (2 : Int32)), .val (.ref t), .val (.int (1 : Int32))] [])
  refine OEnds.go (fun _ q => XS.goto X11.here X11.hx rfl (pc0 := 29) (pc' := 8) rfl (hb hby d_jdk_52_method_14_29) (by decide) (by decide) q) ?_
  show OEnds p e below _ T10 (mkF m 8 #[.val (.ref a), .val (.int (1 : Int32)), .val (.int (2 : Int32)), .val (.ref t), .val (.int (1 : Int32))] [])
  refine OEnds.go (fun _ q => XS.iload X11.here X11.hx rfl (hb hby d_jdk_52_method_14_8) rfl q) ?_
  show OEnds p e below _ T10 (mkF m 10 #[.val (.ref a), .val (.int (1 : Int32)), .val (.int (2 : Int32)), .val (.ref t), .val (.int (1 : Int32))] [(.int (1 : Int32))])
  refine OEnds.go (fun _ q => XS.iloadN X11.here X11.hx rfl (hb hby d_jdk_52_method_14_10) rfl q) ?_
  show OEnds p e below _ T10 (mkF m 11 #[.val (.ref a), .val (.int (1 : Int32)), .val (.int (2 : Int32)), .val (.ref t), .val (.int (1 : Int32))] [(.int (2 : Int32)), (.int (1 : Int32))])
  refine OEnds.go (fun _ q => XS.icmpNo X11.here X11.hx rfl (hb hby d_jdk_52_method_14_11) rfl (tlt (by decide)).2.1 q) ?_
  show OEnds p e below _ T10 (mkF m 14 #[.val (.ref a), .val (.int (1 : Int32)), .val (.int (2 : Int32)), .val (.ref t), .val (.int (1 : Int32))] [])
  refine OEnds.go (fun _ q => XS.aloadN X11.here X11.hx rfl (hb hby d_jdk_52_method_14_14) rfl rfl q) ?_
  refine OEnds.go (fun _ q => XS.iload X11.here X11.hx rfl (hb hby d_jdk_52_method_14_15) rfl q) ?_
  show OEnds p e below _ T10 (mkF m 17 #[.val (.ref a), .val (.int (1 : Int32)), .val (.int (2 : Int32)), .val (.ref t), .val (.int (1 : Int32))] [(.int (1 : Int32)), (.ref t)])
  refine OEnds.go (fun _ q => XS.aloadN X11.here X11.hx rfl (hb hby d_jdk_52_method_14_17) rfl rfl q) ?_
  refine OEnds.go (fun _ q => XS.iloadN X11.here X11.hx rfl (hb hby d_jdk_52_method_14_18) rfl q) ?_
  show OEnds p e below _ T10 (mkF m 19 #[.val (.ref a), .val (.int (1 : Int32)), .val (.int (2 : Int32)), .val (.ref t), .val (.int (1 : Int32))] [(.int (1 : Int32)), (.ref a), (.int (1 : Int32)), (.ref t)])
  refine X11.cald Ka_h12 (by decide) (v := .int c1) rfl (hb hby d_jdk_52_method_14_19) ?_
  show OEnds p e below _ T10 (mkF m 20 #[.val (.ref a), .val (.int (1 : Int32)), .val (.int (2 : Int32)), .val (.ref t), .val (.int (1 : Int32))] [(.int c1), (.int (1 : Int32)), (.ref t)])
  refine X11.payS (ConN.back (W := 0) (con_put21 H t kb (own_lo c0) (own_hi c0) (0 : Int32) (0 : Int32) c1 gzt h12 Aq9) X11.old X11.hZ (own_k hw 88 rfl) (own_k hw 43 rfl) (by decide) (by decide)) (okN (fun _ _ q => q.2.1.1)) (own_k hw 86 rfl) (own_k hw 87 rfl) (own_k hw 43 rfl) (own_k hw 88 rfl)  (by decide)  (argsL := [(.ref t), (.int (1 : Int32)), (.int c1)]) (rest := []) rfl (lenOf own_pd3 rfl) rfl (by rw [hml]; rfl) (Nat.le_of_eq rfl) (hb hby d_jdk_52_method_14_20) (by decide) (by decide) ?_
  intro v24 T19 h21 Lh21 X20 q25
  replace q25 := q25.1
  obtain ⟨rfl, Kq17, Aq18⟩ := q25
  have EBt_h21 := ext_keep EBt_h12 Kq17 (allS (Nat.le_of_eq gt) all0)
  have Ka_h21 := Ka.ext EBt_h21
  have EX_h21 := ext_keep EX_h12 Kq17 (allS (Nat.le_trans EX0.1 (Nat.le_of_eq gt)) all0)
  show OEnds p e below _ T19 (mkF m 23 #[.val (.ref a), .val (.int (1 : Int32)), .val (.int (2 : Int32)), .val (.ref t), .val (.int (1 : Int32))] [])
  refine OEnds.go (fun _ q => XS.iinc X20.here X20.hx rfl (hb hby d_jdk_52_method_14_23) rfl (l' := #[.val (.ref a), .val (.int ((1 : Int32) + (1 : Int32))), .val (.int (2 : Int32)), .val (.ref t), .val (.int (1 : Int32))]) rfl q) ?_
  show OEnds p e below _ T19 (mkF m 26 #[.val (.ref a), .val (.int ((1 : Int32) + (1 : Int32))), .val (.int (2 : Int32)), .val (.ref t), .val (.int (1 : Int32))] [])
  rw [show ((1 : Int32) + (1 : Int32)) = (2 : Int32) from by decide]
  show OEnds p e below _ T19 (mkF m 26 #[.val (.ref a), .val (.int (2 : Int32)), .val (.int (2 : Int32)), .val (.ref t), .val (.int (1 : Int32))] [])
  refine OEnds.go (fun _ q => XS.iinc X20.here X20.hx rfl (hb hby d_jdk_52_method_14_26) rfl (l' := #[.val (.ref a), .val (.int (2 : Int32)), .val (.int (2 : Int32)), .val (.ref t), .val (.int ((1 : Int32) + (1 : Int32)))]) rfl q) ?_
  show OEnds p e below _ T19 (mkF m 29 #[.val (.ref a), .val (.int (2 : Int32)), .val (.int (2 : Int32)), .val (.ref t), .val (.int ((1 : Int32) + (1 : Int32)))] [])
  rw [show ((1 : Int32) + (1 : Int32)) = (2 : Int32) from by decide]
  show OEnds p e below _ T19 (mkF m 29 #[.val (.ref a), .val (.int (2 : Int32)), .val (.int (2 : Int32)), .val (.ref t), .val (.int (2 : Int32))] [])
  refine OEnds.go (fun _ q => XS.goto X20.here X20.hx rfl (pc0 := 29) (pc' := 8) rfl (hb hby d_jdk_52_method_14_29) (by decide) (by decide) q) ?_
  refine OEnds.go (fun _ q => XS.iload X20.here X20.hx rfl (hb hby d_jdk_52_method_14_8) rfl q) ?_
  show OEnds p e below _ T19 (mkF m 10 #[.val (.ref a), .val (.int (2 : Int32)), .val (.int (2 : Int32)), .val (.ref t), .val (.int (2 : Int32))] [(.int (2 : Int32))])
  refine OEnds.go (fun _ q => XS.iloadN X20.here X20.hx rfl (hb hby d_jdk_52_method_14_10) rfl q) ?_
  show OEnds p e below _ T19 (mkF m 11 #[.val (.ref a), .val (.int (2 : Int32)), .val (.int (2 : Int32)), .val (.ref t), .val (.int (2 : Int32))] [(.int (2 : Int32)), (.int (2 : Int32))])
  refine OEnds.go (fun _ q => XS.icmpYes X20.here X20.hx rfl (pc0 := 11) (pc' := 32) rfl (hb hby d_jdk_52_method_14_11) rfl (flt (by decide)).2.1 (by decide) (by decide) q) ?_
  show OEnds p e below _ T19 (mkF m 32 #[.val (.ref a), .val (.int (2 : Int32)), .val (.int (2 : Int32)), .val (.ref t), .val (.int (2 : Int32))] [])
  refine OEnds.go (fun _ q => XS.aloadN X20.here X20.hx rfl (hb hby d_jdk_52_method_14_32) rfl rfl q) ?_
  show OEnds p e below _ T19 (mkF m 33 #[.val (.ref a), .val (.int (2 : Int32)), .val (.int (2 : Int32)), .val (.ref t), .val (.int (2 : Int32))] [(.ref t)])
  exact X20.retRefN hlk rfl (t := (FieldType.array FieldType.byte)) rfl hret (hb hby d_jdk_52_method_14_33) (by decide) (by decide) ⟨t, kb, rfl, EX_h21, Aq18⟩
theorem con_get20 {l : Launch} {Z : State} {a0 : Array Value} {cz : Int32} {fm : Value} (H : Ctx Z a0 cz fm) (b : Addr) (kb : ClassId) (c0 c1 : Int32) (hu : ¬ c0 < 0 ∧ ¬ (65535 : Int32) < c0) (h0 : Heap) (Kb : Arv Z h0 b kb .byte (4 : Int32) [.int (own_lo c0), .int (own_hi c0), .int (own_lo c1), .int (own_hi c1)] (.int (0 : Int32))) :
    ConN l Z (⟨"java/lang/StringUTF16", "getChar", "([BI)C"⟩ : MethodName) jdk_52_method_5_code 2 (some FieldType.char) [] ({ frames := 0, cells := 0, slots := 0, locals := 0 } : Room) #[(.ref b), (.int (0 : Int32))] h0 (fun r h => r = some (.int c0) ∧ h0 = h) := by
  obtain ⟨hw, hE, S0, hcz, S1, rf, hp0, hp1, hp2⟩ := id H
  refine ConN.of own_pf6 ?_
  intro p e s m below meth c T hby hml hret hlk hnm X0
  have EX0 := ext_refl h0
  refine OEnds.cast (own_ef5 m b (0 : Int32) ) ?_
  show OEnds p e below _ T (mkF m 0 #[.val (.ref b), .val (.int (0 : Int32))] [])
  refine X0.getS (own_k hw 89 rfl) Via.refl (hp0.ext X0.old) (hb hby d_jdk_52_method_5_0) ?_
  intro T1 X2
  show OEnds p e below _ T1 (mkF m 3 #[.val (.ref b), .val (.int (0 : Int32))] [(.int (1 : Int32))])
  refine OEnds.go (fun _ q => XS.ifYes X2.here X2.hx rfl (pc0 := 3) (pc' := 28) rfl (hb hby d_jdk_52_method_5_3) rfl ((if0 _ _).trans (feq (by decide)).2) (by decide) (by decide) q) ?_
  show OEnds p e below _ T1 (mkF m 28 #[.val (.ref b), .val (.int (0 : Int32))] [])
  refine OEnds.go (fun _ q => XS.iloadN X2.here X2.hx rfl (hb hby d_jdk_52_method_5_28) rfl q) ?_
  show OEnds p e below _ T1 (mkF m 29 #[.val (.ref b), .val (.int (0 : Int32))] [(.int (0 : Int32))])
  refine OEnds.go (fun _ q => XS.iconst X2.here X2.hx rfl (hb hby d_jdk_52_method_5_29) q) ?_
  show OEnds p e below _ T1 (mkF m 30 #[.val (.ref b), .val (.int (0 : Int32))] [(.int (1 : Int32)), (.int (0 : Int32))])
  refine OEnds.go (fun _ q => XS.ishl X2.here X2.hx rfl (hb hby d_jdk_52_method_5_30) rfl q) ?_
  show OEnds p e below _ T1 (mkF m 31 #[.val (.ref b), .val (.int (0 : Int32))] [(.int ((0 : Int32) <<< ((1 : Int32) &&& 31)))])
  rw [show ((0 : Int32) <<< ((1 : Int32) &&& 31)) = (0 : Int32) from by decide]
  show OEnds p e below _ T1 (mkF m 31 #[.val (.ref b), .val (.int (0 : Int32))] [(.int (0 : Int32))])
  refine OEnds.go (fun _ q => XS.istoreN X2.here X2.hx rfl (hb hby d_jdk_52_method_5_31) rfl (l' := #[.val (.ref b), .val (.int (0 : Int32))]) rfl q) ?_
  show OEnds p e below _ T1 (mkF m 32 #[.val (.ref b), .val (.int (0 : Int32))] [])
  refine OEnds.go (fun _ q => XS.aloadN X2.here X2.hx rfl (hb hby d_jdk_52_method_5_32) rfl rfl q) ?_
  show OEnds p e below _ T1 (mkF m 33 #[.val (.ref b), .val (.int (0 : Int32))] [(.ref b)])
  refine OEnds.go (fun _ q => XS.iloadN X2.here X2.hx rfl (hb hby d_jdk_52_method_5_33) rfl q) ?_
  show OEnds p e below _ T1 (mkF m 34 #[.val (.ref b), .val (.int (0 : Int32))] [(.int (0 : Int32)), (.ref b)])
  refine OEnds.go (fun _ q => XS.iinc X2.here X2.hx rfl (hb hby d_jdk_52_method_5_34) rfl (l' := #[.val (.ref b), .val (.int ((0 : Int32) + (1 : Int32)))]) rfl q) ?_
  show OEnds p e below _ T1 (mkF m 37 #[.val (.ref b), .val (.int ((0 : Int32) + (1 : Int32)))] [(.int (0 : Int32)), (.ref b)])
  rw [show ((0 : Int32) + (1 : Int32)) = (1 : Int32) from by decide]
  show OEnds p e below _ T1 (mkF m 37 #[.val (.ref b), .val (.int (1 : Int32))] [(.int (0 : Int32)), (.ref b)])
  refine X2.bald Kb (by decide) (v := .int (own_lo c0)) rfl (hb hby d_jdk_52_method_5_37) ?_
  show OEnds p e below _ T1 (mkF m 38 #[.val (.ref b), .val (.int (1 : Int32))] [(.int (own_lo c0))])
  refine OEnds.go (fun _ q => XS.sipush X2.here X2.hx rfl (hb hby d_jdk_52_method_5_38) q) ?_
  refine OEnds.go (fun _ q => XS.iand X2.here X2.hx rfl (hb hby d_jdk_52_method_5_41) rfl q) ?_
  show OEnds p e below _ T1 (mkF m 42 #[.val (.ref b), .val (.int (1 : Int32))] [(.int ((own_lo c0) &&& (255 : Int32)))])
  refine X2.getS (own_k hw 90 rfl) Via.refl (hp1.ext X2.old) (hb hby d_jdk_52_method_5_42) ?_
  intro T3 X4
  show OEnds p e below _ T3 (mkF m 45 #[.val (.ref b), .val (.int (1 : Int32))] [(.int (0 : Int32)), (.int ((own_lo c0) &&& (255 : Int32)))])
  refine OEnds.go (fun _ q => XS.ishl X4.here X4.hx rfl (hb hby d_jdk_52_method_5_45) rfl q) ?_
  refine OEnds.go (fun _ q => XS.aloadN X4.here X4.hx rfl (hb hby d_jdk_52_method_5_46) rfl rfl q) ?_
  show OEnds p e below _ T3 (mkF m 47 #[.val (.ref b), .val (.int (1 : Int32))] [(.ref b), (.int (((own_lo c0) &&& (255 : Int32)) <<< ((0 : Int32) &&& 31)))])
  refine OEnds.go (fun _ q => XS.iloadN X4.here X4.hx rfl (hb hby d_jdk_52_method_5_47) rfl q) ?_
  show OEnds p e below _ T3 (mkF m 48 #[.val (.ref b), .val (.int (1 : Int32))] [(.int (1 : Int32)), (.ref b), (.int (((own_lo c0) &&& (255 : Int32)) <<< ((0 : Int32) &&& 31)))])
  refine X4.bald Kb (by decide) (v := .int (own_hi c0)) rfl (hb hby d_jdk_52_method_5_48) ?_
  show OEnds p e below _ T3 (mkF m 49 #[.val (.ref b), .val (.int (1 : Int32))] [(.int (own_hi c0)), (.int (((own_lo c0) &&& (255 : Int32)) <<< ((0 : Int32) &&& 31)))])
  refine OEnds.go (fun _ q => XS.sipush X4.here X4.hx rfl (hb hby d_jdk_52_method_5_49) q) ?_
  refine OEnds.go (fun _ q => XS.iand X4.here X4.hx rfl (hb hby d_jdk_52_method_5_52) rfl q) ?_
  show OEnds p e below _ T3 (mkF m 53 #[.val (.ref b), .val (.int (1 : Int32))] [(.int ((own_hi c0) &&& (255 : Int32))), (.int (((own_lo c0) &&& (255 : Int32)) <<< ((0 : Int32) &&& 31)))])
  refine X4.getS (own_k hw 91 rfl) Via.refl (hp2.ext X4.old) (hb hby d_jdk_52_method_5_53) ?_
  intro T5 X6
  show OEnds p e below _ T5 (mkF m 56 #[.val (.ref b), .val (.int (1 : Int32))] [(.int (8 : Int32)), (.int ((own_hi c0) &&& (255 : Int32))), (.int (((own_lo c0) &&& (255 : Int32)) <<< ((0 : Int32) &&& 31)))])
  refine OEnds.go (fun _ q => XS.ishl X6.here X6.hx rfl (hb hby d_jdk_52_method_5_56) rfl q) ?_
  refine OEnds.go (fun _ q => XS.ior X6.here X6.hx rfl (hb hby d_jdk_52_method_5_57) rfl q) ?_
  show OEnds p e below _ T5 (mkF m 58 #[.val (.ref b), .val (.int (1 : Int32))] [(.int ((((own_lo c0) &&& (255 : Int32)) <<< ((0 : Int32) &&& 31)) ||| (((own_hi c0) &&& (255 : Int32)) <<< ((8 : Int32) &&& 31))))])
  refine OEnds.go (fun _ q => XS.i2c X6.here X6.hx rfl (hb hby d_jdk_52_method_5_58) rfl q) ?_
  show OEnds p e below _ T5 (mkF m 59 #[.val (.ref b), .val (.int (1 : Int32))] [(.int (((((own_lo c0) &&& (255 : Int32)) <<< ((0 : Int32) &&& 31)) ||| (((own_hi c0) &&& (255 : Int32)) <<< ((8 : Int32) &&& 31))).toUInt32.toUInt16.toUInt32.toInt32))])
  show OEnds p e below _ T5 (mkF m 59 #[.val (.ref b), .val (.int (1 : Int32))] [(.int (own_rd (own_lo c0) (own_hi c0)))])
  rw [own_round hu]
  show OEnds p e below _ T5 (mkF m 59 #[.val (.ref b), .val (.int (1 : Int32))] [(.int c0)])
  exact X6.retCharN hlk hu hret (hb hby d_jdk_52_method_5_59) (by decide) (by decide) ⟨rfl, rfl⟩
theorem con_get21 {l : Launch} {Z : State} {a0 : Array Value} {cz : Int32} {fm : Value} (H : Ctx Z a0 cz fm) (b : Addr) (kb : ClassId) (c0 c1 : Int32) (hu : ¬ c1 < 0 ∧ ¬ (65535 : Int32) < c1) (h0 : Heap) (Kb : Arv Z h0 b kb .byte (4 : Int32) [.int (own_lo c0), .int (own_hi c0), .int (own_lo c1), .int (own_hi c1)] (.int (0 : Int32))) :
    ConN l Z (⟨"java/lang/StringUTF16", "getChar", "([BI)C"⟩ : MethodName) jdk_52_method_5_code 2 (some FieldType.char) [] ({ frames := 0, cells := 0, slots := 0, locals := 0 } : Room) #[(.ref b), (.int (1 : Int32))] h0 (fun r h => r = some (.int c1) ∧ h0 = h) := by
  obtain ⟨hw, hE, S0, hcz, S1, rf, hp0, hp1, hp2⟩ := id H
  refine ConN.of own_pf6 ?_
  intro p e s m below meth c T hby hml hret hlk hnm X0
  have EX0 := ext_refl h0
  refine OEnds.cast (own_ef5 m b (1 : Int32) ) ?_
  show OEnds p e below _ T (mkF m 0 #[.val (.ref b), .val (.int (1 : Int32))] [])
  refine X0.getS (own_k hw 89 rfl) Via.refl (hp0.ext X0.old) (hb hby d_jdk_52_method_5_0) ?_
  intro T1 X2
  show OEnds p e below _ T1 (mkF m 3 #[.val (.ref b), .val (.int (1 : Int32))] [(.int (1 : Int32))])
  refine OEnds.go (fun _ q => XS.ifYes X2.here X2.hx rfl (pc0 := 3) (pc' := 28) rfl (hb hby d_jdk_52_method_5_3) rfl ((if0 _ _).trans (feq (by decide)).2) (by decide) (by decide) q) ?_
  show OEnds p e below _ T1 (mkF m 28 #[.val (.ref b), .val (.int (1 : Int32))] [])
  refine OEnds.go (fun _ q => XS.iloadN X2.here X2.hx rfl (hb hby d_jdk_52_method_5_28) rfl q) ?_
  show OEnds p e below _ T1 (mkF m 29 #[.val (.ref b), .val (.int (1 : Int32))] [(.int (1 : Int32))])
  refine OEnds.go (fun _ q => XS.iconst X2.here X2.hx rfl (hb hby d_jdk_52_method_5_29) q) ?_
  show OEnds p e below _ T1 (mkF m 30 #[.val (.ref b), .val (.int (1 : Int32))] [(.int (1 : Int32)), (.int (1 : Int32))])
  refine OEnds.go (fun _ q => XS.ishl X2.here X2.hx rfl (hb hby d_jdk_52_method_5_30) rfl q) ?_
  show OEnds p e below _ T1 (mkF m 31 #[.val (.ref b), .val (.int (1 : Int32))] [(.int ((1 : Int32) <<< ((1 : Int32) &&& 31)))])
  rw [show ((1 : Int32) <<< ((1 : Int32) &&& 31)) = (2 : Int32) from by decide]
  show OEnds p e below _ T1 (mkF m 31 #[.val (.ref b), .val (.int (1 : Int32))] [(.int (2 : Int32))])
  refine OEnds.go (fun _ q => XS.istoreN X2.here X2.hx rfl (hb hby d_jdk_52_method_5_31) rfl (l' := #[.val (.ref b), .val (.int (2 : Int32))]) rfl q) ?_
  show OEnds p e below _ T1 (mkF m 32 #[.val (.ref b), .val (.int (2 : Int32))] [])
  refine OEnds.go (fun _ q => XS.aloadN X2.here X2.hx rfl (hb hby d_jdk_52_method_5_32) rfl rfl q) ?_
  show OEnds p e below _ T1 (mkF m 33 #[.val (.ref b), .val (.int (2 : Int32))] [(.ref b)])
  refine OEnds.go (fun _ q => XS.iloadN X2.here X2.hx rfl (hb hby d_jdk_52_method_5_33) rfl q) ?_
  show OEnds p e below _ T1 (mkF m 34 #[.val (.ref b), .val (.int (2 : Int32))] [(.int (2 : Int32)), (.ref b)])
  refine OEnds.go (fun _ q => XS.iinc X2.here X2.hx rfl (hb hby d_jdk_52_method_5_34) rfl (l' := #[.val (.ref b), .val (.int ((2 : Int32) + (1 : Int32)))]) rfl q) ?_
  show OEnds p e below _ T1 (mkF m 37 #[.val (.ref b), .val (.int ((2 : Int32) + (1 : Int32)))] [(.int (2 : Int32)), (.ref b)])
  rw [show ((2 : Int32) + (1 : Int32)) = (3 : Int32) from by decide]
  show OEnds p e below _ T1 (mkF m 37 #[.val (.ref b), .val (.int (3 : Int32))] [(.int (2 : Int32)), (.ref b)])
  refine X2.bald Kb (by decide) (v := .int (own_lo c1)) rfl (hb hby d_jdk_52_method_5_37) ?_
  show OEnds p e below _ T1 (mkF m 38 #[.val (.ref b), .val (.int (3 : Int32))] [(.int (own_lo c1))])
  refine OEnds.go (fun _ q => XS.sipush X2.here X2.hx rfl (hb hby d_jdk_52_method_5_38) q) ?_
  refine OEnds.go (fun _ q => XS.iand X2.here X2.hx rfl (hb hby d_jdk_52_method_5_41) rfl q) ?_
  show OEnds p e below _ T1 (mkF m 42 #[.val (.ref b), .val (.int (3 : Int32))] [(.int ((own_lo c1) &&& (255 : Int32)))])
  refine X2.getS (own_k hw 90 rfl) Via.refl (hp1.ext X2.old) (hb hby d_jdk_52_method_5_42) ?_
  intro T3 X4
  show OEnds p e below _ T3 (mkF m 45 #[.val (.ref b), .val (.int (3 : Int32))] [(.int (0 : Int32)), (.int ((own_lo c1) &&& (255 : Int32)))])
  refine OEnds.go (fun _ q => XS.ishl X4.here X4.hx rfl (hb hby d_jdk_52_method_5_45) rfl q) ?_
  refine OEnds.go (fun _ q => XS.aloadN X4.here X4.hx rfl (hb hby d_jdk_52_method_5_46) rfl rfl q) ?_
  show OEnds p e below _ T3 (mkF m 47 #[.val (.ref b), .val (.int (3 : Int32))] [(.ref b), (.int (((own_lo c1) &&& (255 : Int32)) <<< ((0 : Int32) &&& 31)))])
  refine OEnds.go (fun _ q => XS.iloadN X4.here X4.hx rfl (hb hby d_jdk_52_method_5_47) rfl q) ?_
  show OEnds p e below _ T3 (mkF m 48 #[.val (.ref b), .val (.int (3 : Int32))] [(.int (3 : Int32)), (.ref b), (.int (((own_lo c1) &&& (255 : Int32)) <<< ((0 : Int32) &&& 31)))])
  refine X4.bald Kb (by decide) (v := .int (own_hi c1)) rfl (hb hby d_jdk_52_method_5_48) ?_
  show OEnds p e below _ T3 (mkF m 49 #[.val (.ref b), .val (.int (3 : Int32))] [(.int (own_hi c1)), (.int (((own_lo c1) &&& (255 : Int32)) <<< ((0 : Int32) &&& 31)))])
  refine OEnds.go (fun _ q => XS.sipush X4.here X4.hx rfl (hb hby d_jdk_52_method_5_49) q) ?_
  refine OEnds.go (fun _ q => XS.iand X4.here X4.hx rfl (hb hby d_jdk_52_method_5_52) rfl q) ?_
  show OEnds p e below _ T3 (mkF m 53 #[.val (.ref b), .val (.int (3 : Int32))] [(.int ((own_hi c1) &&& (255 : Int32))), (.int (((own_lo c1) &&& (255 : Int32)) <<< ((0 : Int32) &&& 31)))])
  refine X4.getS (own_k hw 91 rfl) Via.refl (hp2.ext X4.old) (hb hby d_jdk_52_method_5_53) ?_
  intro T5 X6
  show OEnds p e below _ T5 (mkF m 56 #[.val (.ref b), .val (.int (3 : Int32))] [(.int (8 : Int32)), (.int ((own_hi c1) &&& (255 : Int32))), (.int (((own_lo c1) &&& (255 : Int32)) <<< ((0 : Int32) &&& 31)))])
  refine OEnds.go (fun _ q => XS.ishl X6.here X6.hx rfl (hb hby d_jdk_52_method_5_56) rfl q) ?_
  refine OEnds.go (fun _ q => XS.ior X6.here X6.hx rfl (hb hby d_jdk_52_method_5_57) rfl q) ?_
  show OEnds p e below _ T5 (mkF m 58 #[.val (.ref b), .val (.int (3 : Int32))] [(.int ((((own_lo c1) &&& (255 : Int32)) <<< ((0 : Int32) &&& 31)) ||| (((own_hi c1) &&& (255 : Int32)) <<< ((8 : Int32) &&& 31))))])
  refine OEnds.go (fun _ q => XS.i2c X6.here X6.hx rfl (hb hby d_jdk_52_method_5_58) rfl q) ?_
  show OEnds p e below _ T5 (mkF m 59 #[.val (.ref b), .val (.int (3 : Int32))] [(.int (((((own_lo c1) &&& (255 : Int32)) <<< ((0 : Int32) &&& 31)) ||| (((own_hi c1) &&& (255 : Int32)) <<< ((8 : Int32) &&& 31))).toUInt32.toUInt16.toUInt32.toInt32))])
  show OEnds p e below _ T5 (mkF m 59 #[.val (.ref b), .val (.int (3 : Int32))] [(.int (own_rd (own_lo c1) (own_hi c1)))])
  rw [own_round hu]
  show OEnds p e below _ T5 (mkF m 59 #[.val (.ref b), .val (.int (3 : Int32))] [(.int c1)])
  exact X6.retCharN hlk hu hret (hb hby d_jdk_52_method_5_59) (by decide) (by decide) ⟨rfl, rfl⟩
theorem con_cfa2 {l : Launch} {Z : State} {a0 : Array Value} {cz : Int32} {fm : Value} (H : Ctx Z a0 cz fm) (b : Addr) (kb : ClassId) (vs : List Value) (h0 : Heap) (Kb : Arv Z h0 b kb .byte (4 : Int32) vs (.int (0 : Int32))) :
    ConN l Z (⟨"java/lang/StringUTF16", "coderFromArrayLen", "([BI)B"⟩ : MethodName) jdk_52_method_15_code 2 (some FieldType.byte) [] ({ frames := 0, cells := 0, slots := 0, locals := 0 } : Room) #[(.ref b), (.int (2 : Int32))] h0 (fun r h => r = some (.int 1) ∧ h0 = h) := by
  obtain ⟨hw, hE, S0, hcz, S1, rf, hp0, hp1, hp2⟩ := id H
  refine ConN.of own_pf7 ?_
  intro p e s m below meth c T hby hml hret hlk hnm X0
  have EX0 := ext_refl h0
  refine OEnds.cast (own_ef5 m b (2 : Int32) ) ?_
  show OEnds p e below _ T (mkF m 0 #[.val (.ref b), .val (.int (2 : Int32))] [])
  refine OEnds.go (fun _ q => XS.iloadN X0.here X0.hx rfl (hb hby d_jdk_52_method_15_0) rfl q) ?_
  refine OEnds.go (fun _ q => XS.aloadN X0.here X0.hx rfl (hb hby d_jdk_52_method_15_1) rfl rfl q) ?_
  show OEnds p e below _ T (mkF m 2 #[.val (.ref b), .val (.int (2 : Int32))] [(.ref b), (.int (2 : Int32))])
  refine X0.alen Kb (hb hby d_jdk_52_method_15_2) ?_
  show OEnds p e below _ T (mkF m 3 #[.val (.ref b), .val (.int (2 : Int32))] [(.int (4 : Int32)), (.int (2 : Int32))])
  refine OEnds.go (fun _ q => XS.isub X0.here X0.hx rfl (hb hby d_jdk_52_method_15_3) rfl q) ?_
  refine OEnds.go (fun _ q => XS.bipush X0.here X0.hx rfl (hb hby d_jdk_52_method_15_4) q) ?_
  show OEnds p e below _ T (mkF m 6 #[.val (.ref b), .val (.int (2 : Int32))] [(.int (31 : Int32)), (.int ((2 : Int32) - (4 : Int32)))])
  refine OEnds.go (fun _ q => XS.iushr X0.here X0.hx rfl (hb hby d_jdk_52_method_15_6) rfl q) ?_
  refine OEnds.go (fun _ q => XS.i2b X0.here X0.hx rfl (hb hby d_jdk_52_method_15_7) rfl q) ?_
  show OEnds p e below _ T (mkF m 8 #[.val (.ref b), .val (.int (2 : Int32))] [(.int ((((2 : Int32) - (4 : Int32)).toUInt32 >>> ((31 : Int32) &&& 31).toUInt32).toInt32.toInt8.toInt32))])
  rw [show ((((2 : Int32) - (4 : Int32)).toUInt32 >>> ((31 : Int32) &&& 31).toUInt32).toInt32.toInt8.toInt32) = (1 : Int32) from by decide]
  show OEnds p e below _ T (mkF m 8 #[.val (.ref b), .val (.int (2 : Int32))] [(.int (1 : Int32))])
  exact X0.retByteN hlk rfl hret (hb hby d_jdk_52_method_15_8) (by decide) (by decide) ⟨rfl, rfl⟩
theorem con_ul2 {l : Launch} {Z : State} {a0 : Array Value} {cz : Int32} {fm : Value} (H : Ctx Z a0 cz fm) (b : Addr) (kb : ClassId) (vs : List Value) (h0 : Heap) (Kb : Arv Z h0 b kb .byte (4 : Int32) vs (.int (0 : Int32))) :
    ConN l Z (⟨"java/lang/StringUTF16", "length", "([B)I"⟩ : MethodName) jdk_52_method_6_code 1 (some FieldType.int) [] ({ frames := 0, cells := 0, slots := 0, locals := 0 } : Room) #[(.ref b)] h0 (fun r h => r = some (.int (2 : Int32)) ∧ h0 = h) := by
  obtain ⟨hw, hE, S0, hcz, S1, rf, hp0, hp1, hp2⟩ := id H
  refine ConN.of own_pf8 ?_
  intro p e s m below meth c T hby hml hret hlk hnm X0
  have EX0 := ext_refl h0
  refine OEnds.cast (own_ef6 m b ) ?_
  show OEnds p e below _ T (mkF m 0 #[.val (.ref b)] [])
  refine OEnds.go (fun _ q => XS.aloadN X0.here X0.hx rfl (hb hby d_jdk_52_method_6_0) rfl rfl q) ?_
  show OEnds p e below _ T (mkF m 1 #[.val (.ref b)] [(.ref b)])
  refine X0.alen Kb (hb hby d_jdk_52_method_6_1) ?_
  show OEnds p e below _ T (mkF m 2 #[.val (.ref b)] [(.int (4 : Int32))])
  refine OEnds.go (fun _ q => XS.iconst X0.here X0.hx rfl (hb hby d_jdk_52_method_6_2) q) ?_
  refine OEnds.go (fun _ q => XS.ishr X0.here X0.hx rfl (hb hby d_jdk_52_method_6_3) rfl q) ?_
  show OEnds p e below _ T (mkF m 4 #[.val (.ref b)] [(.int ((4 : Int32) >>> ((1 : Int32) &&& 31)))])
  rw [show ((4 : Int32) >>> ((1 : Int32) &&& 31)) = (2 : Int32) from by decide]
  show OEnds p e below _ T (mkF m 4 #[.val (.ref b)] [(.int (2 : Int32))])
  exact X0.retIntN hlk  hret (hb hby d_jdk_52_method_6_4) (by decide) (by decide) ⟨rfl, rfl⟩
theorem con_ci20 {l : Launch} {Z : State} {a0 : Array Value} {cz : Int32} {fm : Value} (H : Ctx Z a0 cz fm) (a d : Addr) (kc kd : ClassId) (c0 c1 : Int32) (hk : (255 : Int32) < c0) (gzd : Z.heap.size ≤ d) (h0 : Heap) (Ka : Arv Z h0 a kc .char (2 : Int32) [.int c0, .int c1] (.int (0 : Int32))) (Kd : Arv Z h0 d kd .byte (2 : Int32) [.int (0 : Int32), .int (0 : Int32)] (.int (0 : Int32))) :
    ConN l Z (⟨"java/lang/StringUTF16", "compress", "([CI[BII)I"⟩ : MethodName) jdk_52_method_21_code 7 (some FieldType.int) [] ({ frames := 0, cells := 0, slots := 0, locals := 0 } : Room) #[(.ref a), (.int (0 : Int32)), (.ref d), (.int (0 : Int32)), (.int (2 : Int32))] h0 (fun r h => r = some (.int (0 : Int32)) ∧ Keep h0 h [d]) := by
  obtain ⟨hw, hE, S0, hcz, S1, rf, hp0, hp1, hp2⟩ := id H
  refine ConN.of own_pf9 ?_
  intro p e s m below meth c T hby hml hret hlk hnm X0
  have EX0 := ext_refl h0
  refine OEnds.cast (own_ef7 m a (0 : Int32) d (0 : Int32) (2 : Int32) ) ?_
  show OEnds p e below _ T (mkF m 0 #[.val (.ref a), .val (.int (0 : Int32)), .val (.ref d), .val (.int (0 : Int32)), .val (.int (2 : Int32)), .unset, .unset] [])
  have K0 := Keep.refl h0 [d]
  have nad := arv_ne Ka Kd
  refine OEnds.go (fun _ q => XS.iconst X0.here X0.hx rfl (hb hby d_jdk_52_method_21_0) q) ?_
  refine OEnds.go (fun _ q => XS.istore X0.here X0.hx rfl (hb hby d_jdk_52_method_21_1) rfl (l' := #[.val (.ref a), .val (.int (0 : Int32)), .val (.ref d), .val (.int (0 : Int32)), .val (.int (2 : Int32)), .val (.int (0 : Int32)), .unset]) rfl q) ?_
  show OEnds p e below _ T (mkF m 3 #[.val (.ref a), .val (.int (0 : Int32)), .val (.ref d), .val (.int (0 : Int32)), .val (.int (2 : Int32)), .val (.int (0 : Int32)), .unset] [])
  refine OEnds.go (fun _ q => XS.iload X0.here X0.hx rfl (hb hby d_jdk_52_method_21_3) rfl q) ?_
  refine OEnds.go (fun _ q => XS.iload X0.here X0.hx rfl (hb hby d_jdk_52_method_21_5) rfl q) ?_
  show OEnds p e below _ T (mkF m 7 #[.val (.ref a), .val (.int (0 : Int32)), .val (.ref d), .val (.int (0 : Int32)), .val (.int (2 : Int32)), .val (.int (0 : Int32)), .unset] [(.int (2 : Int32)), (.int (0 : Int32))])
  refine OEnds.go (fun _ q => XS.icmpNo X0.here X0.hx rfl (hb hby d_jdk_52_method_21_7) rfl (tlt (by decide)).2.1 q) ?_
  show OEnds p e below _ T (mkF m 10 #[.val (.ref a), .val (.int (0 : Int32)), .val (.ref d), .val (.int (0 : Int32)), .val (.int (2 : Int32)), .val (.int (0 : Int32)), .unset] [])
  refine OEnds.go (fun _ q => XS.aloadN X0.here X0.hx rfl (hb hby d_jdk_52_method_21_10) rfl rfl q) ?_
  refine OEnds.go (fun _ q => XS.iloadN X0.here X0.hx rfl (hb hby d_jdk_52_method_21_11) rfl q) ?_
  show OEnds p e below _ T (mkF m 12 #[.val (.ref a), .val (.int (0 : Int32)), .val (.ref d), .val (.int (0 : Int32)), .val (.int (2 : Int32)), .val (.int (0 : Int32)), .unset] [(.int (0 : Int32)), (.ref a)])
  refine X0.cald Ka (by decide) (v := .int c0) rfl (hb hby d_jdk_52_method_21_12) ?_
  show OEnds p e below _ T (mkF m 13 #[.val (.ref a), .val (.int (0 : Int32)), .val (.ref d), .val (.int (0 : Int32)), .val (.int (2 : Int32)), .val (.int (0 : Int32)), .unset] [(.int c0)])
  refine OEnds.go (fun _ q => XS.istore X0.here X0.hx rfl (hb hby d_jdk_52_method_21_13) rfl (l' := #[.val (.ref a), .val (.int (0 : Int32)), .val (.ref d), .val (.int (0 : Int32)), .val (.int (2 : Int32)), .val (.int (0 : Int32)), .val (.int c0)]) rfl q) ?_
  refine OEnds.go (fun _ q => XS.iload X0.here X0.hx rfl (hb hby d_jdk_52_method_21_15) rfl q) ?_
  show OEnds p e below _ T (mkF m 17 #[.val (.ref a), .val (.int (0 : Int32)), .val (.ref d), .val (.int (0 : Int32)), .val (.int (2 : Int32)), .val (.int (0 : Int32)), .val (.int c0)] [(.int c0)])
  refine OEnds.go (fun _ q => XS.sipush X0.here X0.hx rfl (hb hby d_jdk_52_method_21_17) q) ?_
  show OEnds p e below _ T (mkF m 20 #[.val (.ref a), .val (.int (0 : Int32)), .val (.ref d), .val (.int (0 : Int32)), .val (.int (2 : Int32)), .val (.int (0 : Int32)), .val (.int c0)] [(.int (255 : Int32)), (.int c0)])
  refine OEnds.go (fun _ q => XS.icmpNo X0.here X0.hx rfl (hb hby d_jdk_52_method_21_20) rfl (tlt hk).2.2.2 q) ?_
  show OEnds p e below _ T (mkF m 23 #[.val (.ref a), .val (.int (0 : Int32)), .val (.ref d), .val (.int (0 : Int32)), .val (.int (2 : Int32)), .val (.int (0 : Int32)), .val (.int c0)] [])
  refine OEnds.go (fun _ q => XS.iload X0.here X0.hx rfl (hb hby d_jdk_52_method_21_23) rfl q) ?_
  show OEnds p e below _ T (mkF m 25 #[.val (.ref a), .val (.int (0 : Int32)), .val (.ref d), .val (.int (0 : Int32)), .val (.int (2 : Int32)), .val (.int (0 : Int32)), .val (.int c0)] [(.int (0 : Int32))])
  exact X0.retIntN hlk  hret (hb hby d_jdk_52_method_21_25) (by decide) (by decide) ⟨rfl, K0⟩
theorem con_co20 {l : Launch} {Z : State} {a0 : Array Value} {cz : Int32} {fm : Value} (H : Ctx Z a0 cz fm) (a : Addr) (kc : ClassId) (c0 c1 : Int32) (hk : (255 : Int32) < c0) (hu : ¬ c0 < 0 ∧ ¬ (65535 : Int32) < c0) (h0 : Heap) (Ka : Arv Z h0 a kc .char (2 : Int32) [.int c0, .int c1] (.int (0 : Int32))) :
    ConN l Z (⟨"java/lang/StringUTF16", "compress", "([CII)[B"⟩ : MethodName) jdk_52_method_16_code 6 (some (FieldType.array FieldType.byte)) [] ({ frames := 3, cells := 2, slots := 6, locals := 40 } : Room) #[(.ref a), (.int (0 : Int32)), (.int (2 : Int32))] h0 (fun r h => ∃ (t : Addr) (kb : ClassId), r = some (.ref t) ∧ Ext h0 h ∧ Arv Z h t kb .byte (4 : Int32) [.int (own_lo c0), .int (own_hi c0), .int (own_lo c1), .int (own_hi c1)] (.int (0 : Int32))) := by
  obtain ⟨hw, hE, S0, hcz, S1, rf, hp0, hp1, hp2⟩ := id H
  refine ConN.of own_pf10 ?_
  intro p e s m below meth c T hby hml hret hlk hnm X0
  have EX0 := ext_refl h0
  refine OEnds.cast (own_ef8 m a (0 : Int32) (2 : Int32) ) ?_
  show OEnds p e below _ T (mkF m 0 #[.val (.ref a), .val (.int (0 : Int32)), .val (.int (2 : Int32)), .unset, .unset, .unset] [])
  refine OEnds.go (fun _ q => XS.iloadN X0.here X0.hx rfl (hb hby d_jdk_52_method_16_0) rfl q) ?_
  show OEnds p e below _ T (mkF m 1 #[.val (.ref a), .val (.int (0 : Int32)), .val (.int (2 : Int32)), .unset, .unset, .unset] [(.int (2 : Int32))])
  refine X0.newP (own_k hw 19 rfl) (hb hby d_jdk_52_method_16_1) (by decide) (cap := 2) (by decide) (by decide) (by decide) (by decide) ?_
  intro T1 h3 a5 ka5 ga5 X2 E4 Ka5
  have gza5 : Z.heap.size ≤ a5 := ga5 ▸ X0.old.1
  have Ka_h3 := Ka.ext E4
  have EX_h3 := ext_trans EX0 E4
  have Ka5_0 : Arv Z h3 a5 ka5 .byte (2 : Int32) [.int (0 : Int32), .int (0 : Int32)] (.int (0 : Int32)) := Ka5.pad (pad_rep [] (.int (0 : Int32)) 2)
  show OEnds p e below _ T1 (mkF m 3 #[.val (.ref a), .val (.int (0 : Int32)), .val (.int (2 : Int32)), .unset, .unset, .unset] [(.ref a5)])
  refine OEnds.go (fun _ q => XS.astoreN X2.here X2.hx rfl (hb hby d_jdk_52_method_16_3) rfl rfl (l' := #[.val (.ref a), .val (.int (0 : Int32)), .val (.int (2 : Int32)), .val (.ref a5), .unset, .unset]) rfl q) ?_
  refine OEnds.go (fun _ q => XS.aloadN X2.here X2.hx rfl (hb hby d_jdk_52_method_16_4) rfl rfl q) ?_
  show OEnds p e below _ T1 (mkF m 5 #[.val (.ref a), .val (.int (0 : Int32)), .val (.int (2 : Int32)), .val (.ref a5), .unset, .unset] [(.ref a)])
  refine OEnds.go (fun _ q => XS.iloadN X2.here X2.hx rfl (hb hby d_jdk_52_method_16_5) rfl q) ?_
  refine OEnds.go (fun _ q => XS.aloadN X2.here X2.hx rfl (hb hby d_jdk_52_method_16_6) rfl rfl q) ?_
  show OEnds p e below _ T1 (mkF m 7 #[.val (.ref a), .val (.int (0 : Int32)), .val (.int (2 : Int32)), .val (.ref a5), .unset, .unset] [(.ref a5), (.int (0 : Int32)), (.ref a)])
  refine OEnds.go (fun _ q => XS.iconst X2.here X2.hx rfl (hb hby d_jdk_52_method_16_7) q) ?_
  refine OEnds.go (fun _ q => XS.iloadN X2.here X2.hx rfl (hb hby d_jdk_52_method_16_8) rfl q) ?_
  show OEnds p e below _ T1 (mkF m 9 #[.val (.ref a), .val (.int (0 : Int32)), .val (.int (2 : Int32)), .val (.ref a5), .unset, .unset] [(.int (2 : Int32)), (.int (0 : Int32)), (.ref a5), (.int (0 : Int32)), (.ref a)])
  refine X2.payS (ConN.back (W := 0) (con_ci20 H a a5 kc ka5 c0 c1 hk gza5 h3 Ka_h3 Ka5_0) X2.old X2.hZ (own_k hw 47 rfl) (own_k hw 43 rfl) (by decide) (by decide)) (okN (fun _ _ q => q.2.1)) (own_k hw 45 rfl) (own_k hw 46 rfl) (own_k hw 43 rfl) (own_k hw 47 rfl)  (by decide)  (argsL := [(.ref a), (.int (0 : Int32)), (.ref a5), (.int (0 : Int32)), (.int (2 : Int32))]) (rest := []) rfl (lenOf own_pd4 rfl) rfl (by rw [hml]; rfl) (Nat.le_of_eq rfl) (hb hby d_jdk_52_method_16_9) (by decide) (by decide) ?_
  intro v12 T7 h9 Lh9 X8 q13
  replace q13 := q13.1
  obtain ⟨rfl, Kq6⟩ := q13
  have EBa5_h9 := ext_keep E4 Kq6 (allS (Nat.le_of_eq ga5) all0)
  have Ka_h9 := Ka.ext EBa5_h9
  have EX_h9 := ext_keep EX_h3 Kq6 (allS (Nat.le_trans EX0.1 (Nat.le_of_eq ga5)) all0)
  show OEnds p e below _ T7 (mkF m 12 #[.val (.ref a), .val (.int (0 : Int32)), .val (.int (2 : Int32)), .val (.ref a5), .unset, .unset] [(.int (0 : Int32))])
  refine OEnds.go (fun _ q => XS.istore X8.here X8.hx rfl (hb hby d_jdk_52_method_16_12) rfl (l' := #[.val (.ref a), .val (.int (0 : Int32)), .val (.int (2 : Int32)), .val (.ref a5), .val (.int (0 : Int32)), .unset]) rfl q) ?_
  refine OEnds.go (fun _ q => XS.iload X8.here X8.hx rfl (hb hby d_jdk_52_method_16_14) rfl q) ?_
  show OEnds p e below _ T7 (mkF m 16 #[.val (.ref a), .val (.int (0 : Int32)), .val (.int (2 : Int32)), .val (.ref a5), .val (.int (0 : Int32)), .unset] [(.int (0 : Int32))])
  refine OEnds.go (fun _ q => XS.iloadN X8.here X8.hx rfl (hb hby d_jdk_52_method_16_16) rfl q) ?_
  show OEnds p e below _ T7 (mkF m 17 #[.val (.ref a), .val (.int (0 : Int32)), .val (.int (2 : Int32)), .val (.ref a5), .val (.int (0 : Int32)), .unset] [(.int (2 : Int32)), (.int (0 : Int32))])
  refine OEnds.go (fun _ q => XS.icmpNo X8.here X8.hx rfl (hb hby d_jdk_52_method_16_17) rfl (feq (by decide)).1 q) ?_
  show OEnds p e below _ T7 (mkF m 20 #[.val (.ref a), .val (.int (0 : Int32)), .val (.int (2 : Int32)), .val (.ref a5), .val (.int (0 : Int32)), .unset] [])
  refine OEnds.go (fun _ q => XS.aloadN X8.here X8.hx rfl (hb hby d_jdk_52_method_16_20) rfl rfl q) ?_
  refine OEnds.go (fun _ q => XS.iloadN X8.here X8.hx rfl (hb hby d_jdk_52_method_16_21) rfl q) ?_
  show OEnds p e below _ T7 (mkF m 22 #[.val (.ref a), .val (.int (0 : Int32)), .val (.int (2 : Int32)), .val (.ref a5), .val (.int (0 : Int32)), .unset] [(.int (0 : Int32)), (.ref a)])
  refine OEnds.go (fun _ q => XS.iloadN X8.here X8.hx rfl (hb hby d_jdk_52_method_16_22) rfl q) ?_
  show OEnds p e below _ T7 (mkF m 23 #[.val (.ref a), .val (.int (0 : Int32)), .val (.int (2 : Int32)), .val (.ref a5), .val (.int (0 : Int32)), .unset] [(.int (2 : Int32)), (.int (0 : Int32)), (.ref a)])
  refine X8.payS (ConN.back (W := 0) (con_tob2 H a kc c0 c1 h9 Ka_h9) X8.old X8.hZ (own_k hw 78 rfl) (own_k hw 43 rfl) (by decide) (by decide)) (okN (fun _ _ ⟨_, _, _, q, _⟩ => q.1)) (own_k hw 76 rfl) (own_k hw 77 rfl) (own_k hw 43 rfl) (own_k hw 78 rfl)  (by decide)  (argsL := [(.ref a), (.int (0 : Int32)), (.int (2 : Int32))]) (rest := []) rfl (lenOf own_pd5 rfl) rfl (by rw [hml]; rfl) (Nat.le_of_eq rfl) (hb hby d_jdk_52_method_16_23) (by decide) (by decide) ?_
  intro v19 T14 h16 Lh16 X15 q20
  replace q20 := q20.1
  obtain ⟨t, kb, rfl, Et, Kt⟩ := q20
  have Ka_h16 := Ka_h9.ext Et
  have EX_h16 := ext_trans EX_h9 Et
  show OEnds p e below _ T14 (mkF m 26 #[.val (.ref a), .val (.int (0 : Int32)), .val (.int (2 : Int32)), .val (.ref a5), .val (.int (0 : Int32)), .unset] [(.ref t)])
  refine OEnds.go (fun _ q => XS.astore X15.here X15.hx rfl (hb hby d_jdk_52_method_16_26) rfl rfl (l' := #[.val (.ref a), .val (.int (0 : Int32)), .val (.int (2 : Int32)), .val (.ref a5), .val (.int (0 : Int32)), .val (.ref t)]) rfl q) ?_
  refine OEnds.go (fun _ q => XS.aload X15.here X15.hx rfl (hb hby d_jdk_52_method_16_28) rfl rfl q) ?_
  show OEnds p e below _ T14 (mkF m 30 #[.val (.ref a), .val (.int (0 : Int32)), .val (.int (2 : Int32)), .val (.ref a5), .val (.int (0 : Int32)), .val (.ref t)] [(.ref t)])
  refine OEnds.go (fun _ q => XS.iload X15.here X15.hx rfl (hb hby d_jdk_52_method_16_30) rfl q) ?_
  show OEnds p e below _ T14 (mkF m 32 #[.val (.ref a), .val (.int (0 : Int32)), .val (.int (2 : Int32)), .val (.ref a5), .val (.int (0 : Int32)), .val (.ref t)] [(.int (0 : Int32)), (.ref t)])
  refine X15.payS (ConN.back (W := 0) (con_get20 H t kb c0 c1 hu h16 Kt) X15.old X15.hZ (own_k hw 94 rfl) (own_k hw 43 rfl) (by decide) (by decide)) (okN (fun _ _ q => Nat.le_of_eq (congrArg Array.size q.2))) (own_k hw 92 rfl) (own_k hw 93 rfl) (own_k hw 43 rfl) (own_k hw 94 rfl)  (by decide)  (argsL := [(.ref t), (.int (0 : Int32))]) (rest := []) rfl (lenOf own_pd6 rfl) rfl (by rw [hml]; rfl) (Nat.le_of_eq rfl) (hb hby d_jdk_52_method_16_32) (by decide) (by decide) ?_
  intro v26 T21 h23 Lh23 X22 q27
  replace q27 := q27.1
  obtain ⟨rfl, rfl⟩ := q27
  show OEnds p e below _ T21 (mkF m 35 #[.val (.ref a), .val (.int (0 : Int32)), .val (.int (2 : Int32)), .val (.ref a5), .val (.int (0 : Int32)), .val (.ref t)] [(.int c0)])
  refine OEnds.go (fun _ q => XS.sipush X22.here X22.hx rfl (hb hby d_jdk_52_method_16_35) q) ?_
  show OEnds p e below _ T21 (mkF m 38 #[.val (.ref a), .val (.int (0 : Int32)), .val (.int (2 : Int32)), .val (.ref a5), .val (.int (0 : Int32)), .val (.ref t)] [(.int (255 : Int32)), (.int c0)])
  refine OEnds.go (fun _ q => XS.icmpYes X22.here X22.hx rfl (pc0 := 38) (pc' := 54) rfl (hb hby d_jdk_52_method_16_38) rfl (tlt hk).2.2.1 (by decide) (by decide) q) ?_
  show OEnds p e below _ T21 (mkF m 54 #[.val (.ref a), .val (.int (0 : Int32)), .val (.int (2 : Int32)), .val (.ref a5), .val (.int (0 : Int32)), .val (.ref t)] [])
  refine OEnds.go (fun _ q => XS.aload X22.here X22.hx rfl (hb hby d_jdk_52_method_16_54) rfl rfl q) ?_
  show OEnds p e below _ T21 (mkF m 56 #[.val (.ref a), .val (.int (0 : Int32)), .val (.int (2 : Int32)), .val (.ref a5), .val (.int (0 : Int32)), .val (.ref t)] [(.ref t)])
  exact X22.retRefN hlk rfl (t := (FieldType.array FieldType.byte)) rfl hret (hb hby d_jdk_52_method_16_56) (by decide) (by decide) ⟨t, kb, rfl, EX_h16, Kt⟩
theorem con_nv20 {l : Launch} {Z : State} {a0 : Array Value} {cz : Int32} {fm : Value} (H : Ctx Z a0 cz fm) (x a : Addr) (kc : ClassId) (c0 c1 : Int32) (hk : (255 : Int32) < c0) (hu : ¬ c0 < 0 ∧ ¬ (65535 : Int32) < c0) (gzx : Z.heap.size ≤ x) (h0 : Heap) (Ex : Exa Z h0 x "java/lang/String") (Vx : Fld Z h0 x "java/lang/String" "value" "[B" .null) (Cx : Fld Z h0 x "java/lang/String" "coder" "B" (.int (0 : Int32))) (Ka : Arv Z h0 a kc .char (2 : Int32) [.int c0, .int c1] (.int (0 : Int32))) :
    ConN l Z (⟨"java/lang/String", "<init>", "([CIILjava/lang/Void;)V"⟩ : MethodName) jdk_42_method_149_code 6 (none : Option FieldType) [] ({ frames := 4, cells := 2, slots := 6, locals := 57 } : Room) #[(.ref x), (.ref a), (.int (0 : Int32)), (.int (2 : Int32)), (.null)] h0 (fun r h => r = none ∧ Keep h0 h [x] ∧ OUtf2 Z h x c0 c1) := by
  obtain ⟨hw, hE, S0, hcz, S1, rf, hp0, hp1, hp2⟩ := id H
  refine ConN.of own_pf0 ?_
  intro p e s m below meth c T hby hml hret hlk hnm X0
  have EX0 := ext_refl h0
  refine OEnds.cast (own_ef0 m x a (0 : Int32) (2 : Int32) ) ?_
  show OEnds p e below _ T (mkF m 0 #[.val (.ref x), .val (.ref a), .val (.int (0 : Int32)), .val (.int (2 : Int32)), .val (.null), .unset] [])
  have K0 := Keep.refl h0 [x]
  refine OEnds.go (fun _ q => XS.aloadN X0.here X0.hx rfl (hb hby d_jdk_42_method_149_0) rfl rfl q) ?_
  show OEnds p e below _ T (mkF m 1 #[.val (.ref x), .val (.ref a), .val (.int (0 : Int32)), .val (.int (2 : Int32)), .val (.null), .unset] [(.ref x)])
  refine X0.initO (own_k hw 15 rfl) (own_k hw 16 rfl) (own_k hw 17 rfl) (by rw [hml]; rfl) (hb hby d_jdk_42_method_149_1) (by decide) (W := 0) (Nat.le_of_eq rfl) (by decide) ?_
  intro T1 X2
  show OEnds p e below _ T1 (mkF m 4 #[.val (.ref x), .val (.ref a), .val (.int (0 : Int32)), .val (.int (2 : Int32)), .val (.null), .unset] [])
  refine OEnds.go (fun _ q => XS.iloadN X2.here X2.hx rfl (hb hby d_jdk_42_method_149_4) rfl q) ?_
  show OEnds p e below _ T1 (mkF m 5 #[.val (.ref x), .val (.ref a), .val (.int (0 : Int32)), .val (.int (2 : Int32)), .val (.null), .unset] [(.int (2 : Int32))])
  refine OEnds.go (fun _ q => XS.ifYes X2.here X2.hx rfl (pc0 := 5) (pc' := 27) rfl (hb hby d_jdk_42_method_149_5) rfl ((if0 _ _).trans (feq (by decide)).2) (by decide) (by decide) q) ?_
  show OEnds p e below _ T1 (mkF m 27 #[.val (.ref x), .val (.ref a), .val (.int (0 : Int32)), .val (.int (2 : Int32)), .val (.null), .unset] [])
  refine X2.getS (own_k hw 40 rfl) Via.refl (S0.ext X2.old) (hb hby d_jdk_42_method_149_27) ?_
  intro T3 X4
  show OEnds p e below _ T3 (mkF m 30 #[.val (.ref x), .val (.ref a), .val (.int (0 : Int32)), .val (.int (2 : Int32)), .val (.null), .unset] [(.int cz)])
  refine OEnds.go (fun _ q => XS.ifNo X4.here X4.hx rfl (hb hby d_jdk_42_method_149_30) rfl ((if0 _ _).trans (feq hcz).1) q) ?_
  show OEnds p e below _ T3 (mkF m 33 #[.val (.ref x), .val (.ref a), .val (.int (0 : Int32)), .val (.int (2 : Int32)), .val (.null), .unset] [])
  refine OEnds.go (fun _ q => XS.aloadN X4.here X4.hx rfl (hb hby d_jdk_42_method_149_33) rfl rfl q) ?_
  refine OEnds.go (fun _ q => XS.iloadN X4.here X4.hx rfl (hb hby d_jdk_42_method_149_34) rfl q) ?_
  show OEnds p e below _ T3 (mkF m 35 #[.val (.ref x), .val (.ref a), .val (.int (0 : Int32)), .val (.int (2 : Int32)), .val (.null), .unset] [(.int (0 : Int32)), (.ref a)])
  refine OEnds.go (fun _ q => XS.iloadN X4.here X4.hx rfl (hb hby d_jdk_42_method_149_35) rfl q) ?_
  show OEnds p e below _ T3 (mkF m 36 #[.val (.ref x), .val (.ref a), .val (.int (0 : Int32)), .val (.int (2 : Int32)), .val (.null), .unset] [(.int (2 : Int32)), (.int (0 : Int32)), (.ref a)])
  refine X4.payS (ConN.back (W := 0) (con_co20 H a kc c0 c1 hk hu h0 Ka) X4.old X4.hZ (own_k hw 44 rfl) (own_k hw 43 rfl) (by decide) (by decide)) (okN (fun _ _ ⟨_, _, _, q, _⟩ => q.1)) (own_k hw 41 rfl) (own_k hw 42 rfl) (own_k hw 43 rfl) (own_k hw 44 rfl)  (by decide)  (argsL := [(.ref a), (.int (0 : Int32)), (.int (2 : Int32))]) (rest := []) rfl (lenOf own_pd5 rfl) rfl (by rw [hml]; rfl) (Nat.le_of_eq rfl) (hb hby d_jdk_42_method_149_36) (by decide) (by decide) ?_
  intro v10 T5 h7 Lh7 X6 q11
  replace q11 := q11.1
  obtain ⟨t, kb, rfl, Et, Kt⟩ := q11
  have Ex_h7 := Ex.ext Et
  have Vx_h7 := Vx.ext Et
  have Cx_h7 := Cx.ext Et
  have Ka_h7 := Ka.ext Et
  have EX_h7 := ext_trans EX0 Et
  have Kpx_h7 := K0.ext Et
  show OEnds p e below _ T5 (mkF m 39 #[.val (.ref x), .val (.ref a), .val (.int (0 : Int32)), .val (.int (2 : Int32)), .val (.null), .unset] [(.ref t)])
  have nxt : t ≠ x := fun q => Exa.neArv Ex_h7 Kt (own_k hw 5 rfl) q.symm
  refine OEnds.go (fun _ q => XS.astore X6.here X6.hx rfl (hb hby d_jdk_42_method_149_39) rfl rfl (l' := #[.val (.ref x), .val (.ref a), .val (.int (0 : Int32)), .val (.int (2 : Int32)), .val (.null), .val (.ref t)]) rfl q) ?_
  refine OEnds.go (fun _ q => XS.aloadN X6.here X6.hx rfl (hb hby d_jdk_42_method_149_41) rfl rfl q) ?_
  show OEnds p e below _ T5 (mkF m 42 #[.val (.ref x), .val (.ref a), .val (.int (0 : Int32)), .val (.int (2 : Int32)), .val (.null), .val (.ref t)] [(.ref x)])
  refine OEnds.go (fun _ q => XS.aload X6.here X6.hx rfl (hb hby d_jdk_42_method_149_42) rfl rfl q) ?_
  refine OEnds.go (fun _ q => XS.iloadN X6.here X6.hx rfl (hb hby d_jdk_42_method_149_44) rfl q) ?_
  show OEnds p e below _ T5 (mkF m 45 #[.val (.ref x), .val (.ref a), .val (.int (0 : Int32)), .val (.int (2 : Int32)), .val (.null), .val (.ref t)] [(.int (2 : Int32)), (.ref t), (.ref x)])
  refine X6.payS (ConN.back (W := 1) (con_cfa2 H t kb _ h7 Kt) X6.old X6.hZ (own_k hw 50 rfl) (own_k hw 43 rfl) (by decide) (by decide)) (okN (fun _ _ q => Nat.le_of_eq (congrArg Array.size q.2))) (own_k hw 48 rfl) (own_k hw 49 rfl) (own_k hw 43 rfl) (own_k hw 50 rfl)  (by decide)  (argsL := [(.ref t), (.int (2 : Int32))]) (rest := [(.ref x)]) rfl (lenOf own_pd7 rfl) rfl (by rw [hml]; rfl) (Nat.le_of_eq rfl) (hb hby d_jdk_42_method_149_45) (by decide) (by decide) ?_
  intro v17 T12 h14 Lh14 X13 q18
  replace q18 := q18.1
  obtain ⟨rfl, rfl⟩ := q18
  show OEnds p e below _ T12 (mkF m 48 #[.val (.ref x), .val (.ref a), .val (.int (0 : Int32)), .val (.int (2 : Int32)), .val (.null), .val (.ref t)] [(.int (1 : Int32)), (.ref x)])
  refine X13.putF (v := (.int (1 : Int32))) (own_k hw 25 rfl) Via.refl Cx_h7 Ex_h7 (Or.inr ⟨(own_k hw 21 rfl), rfl, hnm⟩) (own_k hw 5 rfl) (ty := FieldType.byte) (by decide) rfl rfl safe_nil gzx (hb hby d_jdk_42_method_149_48) ?_
  intro T19 h21 X20 W22
  have Cx_h21 := Cx_h7.same W22
  have Ex_h21 := Ex_h7.wr W22
  have Vx_h21 := Vx_h7.other W22 (Or.inr (slot_ne (a0 := a0) (Or.inr (own_k hw 20 rfl)) (Or.inr (own_k hw 21 rfl)) (by decide) (t := (FieldType.array FieldType.byte)) (by decide) (t' := FieldType.byte) (by decide)))
  have K23 := Kpx_h7.wr W22 (Or.inl (List.mem_of_getElem? (i := 0) rfl))
  have Kt_h21 := Kt.other W22 nxt
  show OEnds p e below _ T19 (mkF m 51 #[.val (.ref x), .val (.ref a), .val (.int (0 : Int32)), .val (.int (2 : Int32)), .val (.null), .val (.ref t)] [])
  refine OEnds.go (fun _ q => XS.aloadN X20.here X20.hx rfl (hb hby d_jdk_42_method_149_51) rfl rfl q) ?_
  refine OEnds.go (fun _ q => XS.aload X20.here X20.hx rfl (hb hby d_jdk_42_method_149_52) rfl rfl q) ?_
  show OEnds p e below _ T19 (mkF m 54 #[.val (.ref x), .val (.ref a), .val (.int (0 : Int32)), .val (.int (2 : Int32)), .val (.null), .val (.ref t)] [(.ref t), (.ref x)])
  refine X20.putF (v := (.ref t)) (own_k hw 24 rfl) Via.refl Vx_h21 Ex_h21 (Or.inr ⟨(own_k hw 20 rfl), rfl, hnm⟩) (own_k hw 5 rfl) (ty := (FieldType.array FieldType.byte)) (by decide) rfl rfl safe_nil gzx (hb hby d_jdk_42_method_149_54) ?_
  intro T24 h26 X25 W27
  have Vx_h26 := Vx_h21.same W27
  have Ex_h26 := Ex_h21.wr W27
  have Cx_h26 := Cx_h21.other W27 (Or.inr (slot_ne (a0 := a0) (Or.inr (own_k hw 21 rfl)) (Or.inr (own_k hw 20 rfl)) (by decide) (t := FieldType.byte) (by decide) (t' := (FieldType.array FieldType.byte)) (by decide)))
  have K28 := K23.wr W27 (Or.inl (List.mem_of_getElem? (i := 0) rfl))
  have Kt_h26 := Kt_h21.other W27 nxt
  show OEnds p e below _ T24 (mkF m 57 #[.val (.ref x), .val (.ref a), .val (.int (0 : Int32)), .val (.int (2 : Int32)), .val (.null), .val (.ref t)] [])
  exact X25.ret0N hlk  hret (hb hby d_jdk_42_method_149_57) (by decide) (by decide) ⟨rfl, K28, Ex_h26, Cx_h26, t, kb, Vx_h26, Kt_h26⟩
theorem con_nu20 {l : Launch} {Z : State} {a0 : Array Value} {cz : Int32} {fm : Value} (H : Ctx Z a0 cz fm) (x a : Addr) (kc : ClassId) (c0 c1 : Int32) (hk : (255 : Int32) < c0) (hu : ¬ c0 < 0 ∧ ¬ (65535 : Int32) < c0) (gzx : Z.heap.size ≤ x) (h0 : Heap) (Ex : Exa Z h0 x "java/lang/String") (Vx : Fld Z h0 x "java/lang/String" "value" "[B" .null) (Cx : Fld Z h0 x "java/lang/String" "coder" "B" (.int (0 : Int32))) (Ka : Arv Z h0 a kc .char (2 : Int32) [.int c0, .int c1] (.int (0 : Int32))) :
    ConN l Z (⟨"java/lang/String", "<init>", "([C)V"⟩ : MethodName) jdk_42_method_3_code 2 (none : Option FieldType) [] ({ frames := 5, cells := 2, slots := 6, locals := 74 } : Room) #[(.ref x), (.ref a)] h0 (fun r h => r = none ∧ Keep h0 h [x] ∧ OUtf2 Z h x c0 c1) := by
  obtain ⟨hw, hE, S0, hcz, S1, rf, hp0, hp1, hp2⟩ := id H
  refine ConN.of own_pf1 ?_
  intro p e s m below meth c T hby hml hret hlk hnm X0
  have EX0 := ext_refl h0
  refine OEnds.cast (own_ef1 m x a ) ?_
  show OEnds p e below _ T (mkF m 0 #[.val (.ref x), .val (.ref a)] [])
  refine OEnds.go (fun _ q => XS.aloadN X0.here X0.hx rfl (hb hby d_jdk_42_method_3_0) rfl rfl q) ?_
  refine OEnds.go (fun _ q => XS.aloadN X0.here X0.hx rfl (hb hby d_jdk_42_method_3_1) rfl rfl q) ?_
  show OEnds p e below _ T (mkF m 2 #[.val (.ref x), .val (.ref a)] [(.ref a), (.ref x)])
  refine OEnds.go (fun _ q => XS.iconst X0.here X0.hx rfl (hb hby d_jdk_42_method_3_2) q) ?_
  refine OEnds.go (fun _ q => XS.aloadN X0.here X0.hx rfl (hb hby d_jdk_42_method_3_3) rfl rfl q) ?_
  show OEnds p e below _ T (mkF m 4 #[.val (.ref x), .val (.ref a)] [(.ref a), (.int (0 : Int32)), (.ref a), (.ref x)])
  refine X0.alen Ka (hb hby d_jdk_42_method_3_4) ?_
  show OEnds p e below _ T (mkF m 5 #[.val (.ref x), .val (.ref a)] [(.int (2 : Int32)), (.int (0 : Int32)), (.ref a), (.ref x)])
  refine OEnds.go (fun _ q => XS.aconstNull X0.here X0.hx rfl (hb hby d_jdk_42_method_3_5) q) ?_
  show OEnds p e below _ T (mkF m 6 #[.val (.ref x), .val (.ref a)] [(.null), (.int (2 : Int32)), (.int (0 : Int32)), (.ref a), (.ref x)])
  refine X0.payI (ConN.back (W := 0) (con_nv20 H x a kc c0 c1 hk hu gzx h0 Ex Vx Cx Ka) X0.old X0.hZ (own_k hw 14 rfl) (own_k hw 6 rfl) (by decide) (by decide)) (okN (fun _ _ q => q.2.1.1)) (own_k hw 11 rfl) (own_k hw 12 rfl)  (own_k hw 14 rfl) rfl (by decide)  (a := x) (argsL := [(.ref a), (.int (0 : Int32)), (.int (2 : Int32)), (.null)]) (rest := []) rfl (lenOf own_pd0 rfl) rfl (by rw [hml]; rfl) (Nat.le_of_eq rfl) (hb hby d_jdk_42_method_3_6) (by decide) (by decide) ?_
  intro v6 T1 h3 Lh3 X2 q7
  replace q7 := q7.1
  obtain ⟨rfl, Kq, Uq⟩ := q7
  show OEnds p e below _ T1 (mkF m 9 #[.val (.ref x), .val (.ref a)] [])
  exact X2.ret0N hlk  hret (hb hby d_jdk_42_method_3_9) (by decide) (by decide) ⟨rfl, Kq, Uq⟩
theorem con_ci21 {l : Launch} {Z : State} {a0 : Array Value} {cz : Int32} {fm : Value} (H : Ctx Z a0 cz fm) (a d : Addr) (kc kd : ClassId) (c0 c1 : Int32) (hl0 : ¬ (255 : Int32) < c0) (hk : (255 : Int32) < c1) (gzd : Z.heap.size ≤ d) (h0 : Heap) (Ka : Arv Z h0 a kc .char (2 : Int32) [.int c0, .int c1] (.int (0 : Int32))) (Kd : Arv Z h0 d kd .byte (2 : Int32) [.int (0 : Int32), .int (0 : Int32)] (.int (0 : Int32))) :
    ConN l Z (⟨"java/lang/StringUTF16", "compress", "([CI[BII)I"⟩ : MethodName) jdk_52_method_21_code 7 (some FieldType.int) [] ({ frames := 0, cells := 0, slots := 0, locals := 0 } : Room) #[(.ref a), (.int (0 : Int32)), (.ref d), (.int (0 : Int32)), (.int (2 : Int32))] h0 (fun r h => r = some (.int (1 : Int32)) ∧ Keep h0 h [d]) := by
  obtain ⟨hw, hE, S0, hcz, S1, rf, hp0, hp1, hp2⟩ := id H
  refine ConN.of own_pf9 ?_
  intro p e s m below meth c T hby hml hret hlk hnm X0
  have EX0 := ext_refl h0
  refine OEnds.cast (own_ef7 m a (0 : Int32) d (0 : Int32) (2 : Int32) ) ?_
  show OEnds p e below _ T (mkF m 0 #[.val (.ref a), .val (.int (0 : Int32)), .val (.ref d), .val (.int (0 : Int32)), .val (.int (2 : Int32)), .unset, .unset] [])
  have K0 := Keep.refl h0 [d]
  have nad := arv_ne Ka Kd
  refine OEnds.go (fun _ q => XS.iconst X0.here X0.hx rfl (hb hby d_jdk_52_method_21_0) q) ?_
  refine OEnds.go (fun _ q => XS.istore X0.here X0.hx rfl (hb hby d_jdk_52_method_21_1) rfl (l' := #[.val (.ref a), .val (.int (0 : Int32)), .val (.ref d), .val (.int (0 : Int32)), .val (.int (2 : Int32)), .val (.int (0 : Int32)), .unset]) rfl q) ?_
  show OEnds p e below _ T (mkF m 3 #[.val (.ref a), .val (.int (0 : Int32)), .val (.ref d), .val (.int (0 : Int32)), .val (.int (2 : Int32)), .val (.int (0 : Int32)), .unset] [])
  refine OEnds.go (fun _ q => XS.iload X0.here X0.hx rfl (hb hby d_jdk_52_method_21_3) rfl q) ?_
  refine OEnds.go (fun _ q => XS.iload X0.here X0.hx rfl (hb hby d_jdk_52_method_21_5) rfl q) ?_
  show OEnds p e below _ T (mkF m 7 #[.val (.ref a), .val (.int (0 : Int32)), .val (.ref d), .val (.int (0 : Int32)), .val (.int (2 : Int32)), .val (.int (0 : Int32)), .unset] [(.int (2 : Int32)), (.int (0 : Int32))])
  refine OEnds.go (fun _ q => XS.icmpNo X0.here X0.hx rfl (hb hby d_jdk_52_method_21_7) rfl (tlt (by decide)).2.1 q) ?_
  show OEnds p e below _ T (mkF m 10 #[.val (.ref a), .val (.int (0 : Int32)), .val (.ref d), .val (.int (0 : Int32)), .val (.int (2 : Int32)), .val (.int (0 : Int32)), .unset] [])
  refine OEnds.go (fun _ q => XS.aloadN X0.here X0.hx rfl (hb hby d_jdk_52_method_21_10) rfl rfl q) ?_
  refine OEnds.go (fun _ q => XS.iloadN X0.here X0.hx rfl (hb hby d_jdk_52_method_21_11) rfl q) ?_
  show OEnds p e below _ T (mkF m 12 #[.val (.ref a), .val (.int (0 : Int32)), .val (.ref d), .val (.int (0 : Int32)), .val (.int (2 : Int32)), .val (.int (0 : Int32)), .unset] [(.int (0 : Int32)), (.ref a)])
  refine X0.cald Ka (by decide) (v := .int c0) rfl (hb hby d_jdk_52_method_21_12) ?_
  show OEnds p e below _ T (mkF m 13 #[.val (.ref a), .val (.int (0 : Int32)), .val (.ref d), .val (.int (0 : Int32)), .val (.int (2 : Int32)), .val (.int (0 : Int32)), .unset] [(.int c0)])
  refine OEnds.go (fun _ q => XS.istore X0.here X0.hx rfl (hb hby d_jdk_52_method_21_13) rfl (l' := #[.val (.ref a), .val (.int (0 : Int32)), .val (.ref d), .val (.int (0 : Int32)), .val (.int (2 : Int32)), .val (.int (0 : Int32)), .val (.int c0)]) rfl q) ?_
  refine OEnds.go (fun _ q => XS.iload X0.here X0.hx rfl (hb hby d_jdk_52_method_21_15) rfl q) ?_
  show OEnds p e below _ T (mkF m 17 #[.val (.ref a), .val (.int (0 : Int32)), .val (.ref d), .val (.int (0 : Int32)), .val (.int (2 : Int32)), .val (.int (0 : Int32)), .val (.int c0)] [(.int c0)])
  refine OEnds.go (fun _ q => XS.sipush X0.here X0.hx rfl (hb hby d_jdk_52_method_21_17) q) ?_
  show OEnds p e below _ T (mkF m 20 #[.val (.ref a), .val (.int (0 : Int32)), .val (.ref d), .val (.int (0 : Int32)), .val (.int (2 : Int32)), .val (.int (0 : Int32)), .val (.int c0)] [(.int (255 : Int32)), (.int c0)])
  refine OEnds.go (fun _ q => XS.icmpYes X0.here X0.hx rfl (pc0 := 20) (pc' := 26) rfl (hb hby d_jdk_52_method_21_20) rfl (flt hl0).2.2.2 (by decide) (by decide) q) ?_
  show OEnds p e below _ T (mkF m 26 #[.val (.ref a), .val (.int (0 : Int32)), .val (.ref d), .val (.int (0 : Int32)), .val (.int (2 : Int32)), .val (.int (0 : Int32)), .val (.int c0)] [])
  refine OEnds.go (fun _ q => XS.aloadN X0.here X0.hx rfl (hb hby d_jdk_52_method_21_26) rfl rfl q) ?_
  refine OEnds.go (fun _ q => XS.iloadN X0.here X0.hx rfl (hb hby d_jdk_52_method_21_27) rfl q) ?_
  show OEnds p e below _ T (mkF m 28 #[.val (.ref a), .val (.int (0 : Int32)), .val (.ref d), .val (.int (0 : Int32)), .val (.int (2 : Int32)), .val (.int (0 : Int32)), .val (.int c0)] [(.int (0 : Int32)), (.ref d)])
  refine OEnds.go (fun _ q => XS.iload X0.here X0.hx rfl (hb hby d_jdk_52_method_21_28) rfl q) ?_
  refine OEnds.go (fun _ q => XS.i2b X0.here X0.hx rfl (hb hby d_jdk_52_method_21_30) rfl q) ?_
  show OEnds p e below _ T (mkF m 31 #[.val (.ref a), .val (.int (0 : Int32)), .val (.ref d), .val (.int (0 : Int32)), .val (.int (2 : Int32)), .val (.int (0 : Int32)), .val (.int c0)] [(.int (c0.toInt8.toInt32)), (.int (0 : Int32)), (.ref d)])
  refine X0.stB Kd safe_nil (by decide) (i := 0) rfl (Nat.le_of_ble_eq_true rfl) gzd (hb hby d_jdk_52_method_21_31) ?_
  intro T1 h3 X2 W4 Kd_h3x
  have Kd_h3 : Arv Z h3 d kd .byte (2 : Int32) [.int (c0.toInt8.toInt32).toInt8.toInt32, .int (0 : Int32)] (.int (0 : Int32)) := Kd_h3x
  have K5 := K0.wr W4 (Or.inl (List.mem_of_getElem? (i := 0) rfl))
  have Ka_h3 := Ka.other W4 nad
  show OEnds p e below _ T1 (mkF m 32 #[.val (.ref a), .val (.int (0 : Int32)), .val (.ref d), .val (.int (0 : Int32)), .val (.int (2 : Int32)), .val (.int (0 : Int32)), .val (.int c0)] [])
  refine OEnds.go (fun _ q => XS.iinc X2.here X2.hx rfl (hb hby d_jdk_52_method_21_32) rfl (l' := #[.val (.ref a), .val (.int ((0 : Int32) + (1 : Int32))), .val (.ref d), .val (.int (0 : Int32)), .val (.int (2 : Int32)), .val (.int (0 : Int32)), .val (.int c0)]) rfl q) ?_
  show OEnds p e below _ T1 (mkF m 35 #[.val (.ref a), .val (.int ((0 : Int32) + (1 : Int32))), .val (.ref d), .val (.int (0 : Int32)), .val (.int (2 : Int32)), .val (.int (0 : Int32)), .val (.int c0)] [])
  rw [show ((0 : Int32) + (1 : Int32)) = (1 : Int32) from by decide]
  show OEnds p e below _ T1 (mkF m 35 #[.val (.ref a), .val (.int (1 : Int32)), .val (.ref d), .val (.int (0 : Int32)), .val (.int (2 : Int32)), .val (.int (0 : Int32)), .val (.int c0)] [])
  refine OEnds.go (fun _ q => XS.iinc X2.here X2.hx rfl (hb hby d_jdk_52_method_21_35) rfl (l' := #[.val (.ref a), .val (.int (1 : Int32)), .val (.ref d), .val (.int ((0 : Int32) + (1 : Int32))), .val (.int (2 : Int32)), .val (.int (0 : Int32)), .val (.int c0)]) rfl q) ?_
  show OEnds p e below _ T1 (mkF m 38 #[.val (.ref a), .val (.int (1 : Int32)), .val (.ref d), .val (.int ((0 : Int32) + (1 : Int32))), .val (.int (2 : Int32)), .val (.int (0 : Int32)), .val (.int c0)] [])
  rw [show ((0 : Int32) + (1 : Int32)) = (1 : Int32) from by decide]
  show OEnds p e below _ T1 (mkF m 38 #[.val (.ref a), .val (.int (1 : Int32)), .val (.ref d), .val (.int (1 : Int32)), .val (.int (2 : Int32)), .val (.int (0 : Int32)), .val (.int c0)] [])
  refine OEnds.go (fun _ q => XS.iinc X2.here X2.hx rfl (hb hby d_jdk_52_method_21_38) rfl (l' := #[.val (.ref a), .val (.int (1 : Int32)), .val (.ref d), .val (.int (1 : Int32)), .val (.int (2 : Int32)), .val (.int ((0 : Int32) + (1 : Int32))), .val (.int c0)]) rfl q) ?_
  show OEnds p e below _ T1 (mkF m 41 #[.val (.ref a), .val (.int (1 : Int32)), .val (.ref d), .val (.int (1 : Int32)), .val (.int (2 : Int32)), .val (.int ((0 : Int32) + (1 : Int32))), .val (.int c0)] [])
  rw [show ((0 : Int32) + (1 : Int32)) = (1 : Int32) from by decide]
  show OEnds p e below _ T1 (mkF m 41 #[.val (.ref a), .val (.int (1 : Int32)), .val (.ref d), .val (.int (1 : Int32)), .val (.int (2 : Int32)), .val (.int (1 : Int32)), .val (.int c0)] [])
  refine OEnds.go (fun _ q => XS.goto X2.here X2.hx rfl (pc0 := 41) (pc' := 3) rfl (hb hby d_jdk_52_method_21_41) (by decide) (by decide) q) ?_
  refine OEnds.go (fun _ q => XS.iload X2.here X2.hx rfl (hb hby d_jdk_52_method_21_3) rfl q) ?_
  show OEnds p e below _ T1 (mkF m 5 #[.val (.ref a), .val (.int (1 : Int32)), .val (.ref d), .val (.int (1 : Int32)), .val (.int (2 : Int32)), .val (.int (1 : Int32)), .val (.int c0)] [(.int (1 : Int32))])
  refine OEnds.go (fun _ q => XS.iload X2.here X2.hx rfl (hb hby d_jdk_52_method_21_5) rfl q) ?_
  show OEnds p e below _ T1 (mkF m 7 #[.val (.ref a), .val (.int (1 : Int32)), .val (.ref d), .val (.int (1 : Int32)), .val (.int (2 : Int32)), .val (.int (1 : Int32)), .val (.int c0)] [(.int (2 : Int32)), (.int (1 : Int32))])
  refine OEnds.go (fun _ q => XS.icmpNo X2.here X2.hx rfl (hb hby d_jdk_52_method_21_7) rfl (tlt (by decide)).2.1 q) ?_
  show OEnds p e below _ T1 (mkF m 10 #[.val (.ref a), .val (.int (1 : Int32)), .val (.ref d), .val (.int (1 : Int32)), .val (.int (2 : Int32)), .val (.int (1 : Int32)), .val (.int c0)] [])
  refine OEnds.go (fun _ q => XS.aloadN X2.here X2.hx rfl (hb hby d_jdk_52_method_21_10) rfl rfl q) ?_
  refine OEnds.go (fun _ q => XS.iloadN X2.here X2.hx rfl (hb hby d_jdk_52_method_21_11) rfl q) ?_
  show OEnds p e below _ T1 (mkF m 12 #[.val (.ref a), .val (.int (1 : Int32)), .val (.ref d), .val (.int (1 : Int32)), .val (.int (2 : Int32)), .val (.int (1 : Int32)), .val (.int c0)] [(.int (1 : Int32)), (.ref a)])
  refine X2.cald Ka_h3 (by decide) (v := .int c1) rfl (hb hby d_jdk_52_method_21_12) ?_
  show OEnds p e below _ T1 (mkF m 13 #[.val (.ref a), .val (.int (1 : Int32)), .val (.ref d), .val (.int (1 : Int32)), .val (.int (2 : Int32)), .val (.int (1 : Int32)), .val (.int c0)] [(.int c1)])
  refine OEnds.go (fun _ q => XS.istore X2.here X2.hx rfl (hb hby d_jdk_52_method_21_13) rfl (l' := #[.val (.ref a), .val (.int (1 : Int32)), .val (.ref d), .val (.int (1 : Int32)), .val (.int (2 : Int32)), .val (.int (1 : Int32)), .val (.int c1)]) rfl q) ?_
  refine OEnds.go (fun _ q => XS.iload X2.here X2.hx rfl (hb hby d_jdk_52_method_21_15) rfl q) ?_
  show OEnds p e below _ T1 (mkF m 17 #[.val (.ref a), .val (.int (1 : Int32)), .val (.ref d), .val (.int (1 : Int32)), .val (.int (2 : Int32)), .val (.int (1 : Int32)), .val (.int c1)] [(.int c1)])
  refine OEnds.go (fun _ q => XS.sipush X2.here X2.hx rfl (hb hby d_jdk_52_method_21_17) q) ?_
  show OEnds p e below _ T1 (mkF m 20 #[.val (.ref a), .val (.int (1 : Int32)), .val (.ref d), .val (.int (1 : Int32)), .val (.int (2 : Int32)), .val (.int (1 : Int32)), .val (.int c1)] [(.int (255 : Int32)), (.int c1)])
  refine OEnds.go (fun _ q => XS.icmpNo X2.here X2.hx rfl (hb hby d_jdk_52_method_21_20) rfl (tlt hk).2.2.2 q) ?_
  show OEnds p e below _ T1 (mkF m 23 #[.val (.ref a), .val (.int (1 : Int32)), .val (.ref d), .val (.int (1 : Int32)), .val (.int (2 : Int32)), .val (.int (1 : Int32)), .val (.int c1)] [])
  refine OEnds.go (fun _ q => XS.iload X2.here X2.hx rfl (hb hby d_jdk_52_method_21_23) rfl q) ?_
  show OEnds p e below _ T1 (mkF m 25 #[.val (.ref a), .val (.int (1 : Int32)), .val (.ref d), .val (.int (1 : Int32)), .val (.int (2 : Int32)), .val (.int (1 : Int32)), .val (.int c1)] [(.int (1 : Int32))])
  exact X2.retIntN hlk  hret (hb hby d_jdk_52_method_21_25) (by decide) (by decide) ⟨rfl, K5⟩
theorem con_co21 {l : Launch} {Z : State} {a0 : Array Value} {cz : Int32} {fm : Value} (H : Ctx Z a0 cz fm) (a : Addr) (kc : ClassId) (c0 c1 : Int32) (hl0 : ¬ (255 : Int32) < c0) (hk : (255 : Int32) < c1) (hu : ¬ c1 < 0 ∧ ¬ (65535 : Int32) < c1) (h0 : Heap) (Ka : Arv Z h0 a kc .char (2 : Int32) [.int c0, .int c1] (.int (0 : Int32))) :
    ConN l Z (⟨"java/lang/StringUTF16", "compress", "([CII)[B"⟩ : MethodName) jdk_52_method_16_code 6 (some (FieldType.array FieldType.byte)) [] ({ frames := 3, cells := 2, slots := 6, locals := 40 } : Room) #[(.ref a), (.int (0 : Int32)), (.int (2 : Int32))] h0 (fun r h => ∃ (t : Addr) (kb : ClassId), r = some (.ref t) ∧ Ext h0 h ∧ Arv Z h t kb .byte (4 : Int32) [.int (own_lo c0), .int (own_hi c0), .int (own_lo c1), .int (own_hi c1)] (.int (0 : Int32))) := by
  obtain ⟨hw, hE, S0, hcz, S1, rf, hp0, hp1, hp2⟩ := id H
  refine ConN.of own_pf10 ?_
  intro p e s m below meth c T hby hml hret hlk hnm X0
  have EX0 := ext_refl h0
  refine OEnds.cast (own_ef8 m a (0 : Int32) (2 : Int32) ) ?_
  show OEnds p e below _ T (mkF m 0 #[.val (.ref a), .val (.int (0 : Int32)), .val (.int (2 : Int32)), .unset, .unset, .unset] [])
  refine OEnds.go (fun _ q => XS.iloadN X0.here X0.hx rfl (hb hby d_jdk_52_method_16_0) rfl q) ?_
  show OEnds p e below _ T (mkF m 1 #[.val (.ref a), .val (.int (0 : Int32)), .val (.int (2 : Int32)), .unset, .unset, .unset] [(.int (2 : Int32))])
  refine X0.newP (own_k hw 19 rfl) (hb hby d_jdk_52_method_16_1) (by decide) (cap := 2) (by decide) (by decide) (by decide) (by decide) ?_
  intro T1 h3 a5 ka5 ga5 X2 E4 Ka5
  have gza5 : Z.heap.size ≤ a5 := ga5 ▸ X0.old.1
  have Ka_h3 := Ka.ext E4
  have EX_h3 := ext_trans EX0 E4
  have Ka5_0 : Arv Z h3 a5 ka5 .byte (2 : Int32) [.int (0 : Int32), .int (0 : Int32)] (.int (0 : Int32)) := Ka5.pad (pad_rep [] (.int (0 : Int32)) 2)
  show OEnds p e below _ T1 (mkF m 3 #[.val (.ref a), .val (.int (0 : Int32)), .val (.int (2 : Int32)), .unset, .unset, .unset] [(.ref a5)])
  refine OEnds.go (fun _ q => XS.astoreN X2.here X2.hx rfl (hb hby d_jdk_52_method_16_3) rfl rfl (l' := #[.val (.ref a), .val (.int (0 : Int32)), .val (.int (2 : Int32)), .val (.ref a5), .unset, .unset]) rfl q) ?_
  refine OEnds.go (fun _ q => XS.aloadN X2.here X2.hx rfl (hb hby d_jdk_52_method_16_4) rfl rfl q) ?_
  show OEnds p e below _ T1 (mkF m 5 #[.val (.ref a), .val (.int (0 : Int32)), .val (.int (2 : Int32)), .val (.ref a5), .unset, .unset] [(.ref a)])
  refine OEnds.go (fun _ q => XS.iloadN X2.here X2.hx rfl (hb hby d_jdk_52_method_16_5) rfl q) ?_
  refine OEnds.go (fun _ q => XS.aloadN X2.here X2.hx rfl (hb hby d_jdk_52_method_16_6) rfl rfl q) ?_
  show OEnds p e below _ T1 (mkF m 7 #[.val (.ref a), .val (.int (0 : Int32)), .val (.int (2 : Int32)), .val (.ref a5), .unset, .unset] [(.ref a5), (.int (0 : Int32)), (.ref a)])
  refine OEnds.go (fun _ q => XS.iconst X2.here X2.hx rfl (hb hby d_jdk_52_method_16_7) q) ?_
  refine OEnds.go (fun _ q => XS.iloadN X2.here X2.hx rfl (hb hby d_jdk_52_method_16_8) rfl q) ?_
  show OEnds p e below _ T1 (mkF m 9 #[.val (.ref a), .val (.int (0 : Int32)), .val (.int (2 : Int32)), .val (.ref a5), .unset, .unset] [(.int (2 : Int32)), (.int (0 : Int32)), (.ref a5), (.int (0 : Int32)), (.ref a)])
  refine X2.payS (ConN.back (W := 0) (con_ci21 H a a5 kc ka5 c0 c1 hl0 hk gza5 h3 Ka_h3 Ka5_0) X2.old X2.hZ (own_k hw 47 rfl) (own_k hw 43 rfl) (by decide) (by decide)) (okN (fun _ _ q => q.2.1)) (own_k hw 45 rfl) (own_k hw 46 rfl) (own_k hw 43 rfl) (own_k hw 47 rfl)  (by decide)  (argsL := [(.ref a), (.int (0 : Int32)), (.ref a5), (.int (0 : Int32)), (.int (2 : Int32))]) (rest := []) rfl (lenOf own_pd4 rfl) rfl (by rw [hml]; rfl) (Nat.le_of_eq rfl) (hb hby d_jdk_52_method_16_9) (by decide) (by decide) ?_
  intro v12 T7 h9 Lh9 X8 q13
  replace q13 := q13.1
  obtain ⟨rfl, Kq6⟩ := q13
  have EBa5_h9 := ext_keep E4 Kq6 (allS (Nat.le_of_eq ga5) all0)
  have Ka_h9 := Ka.ext EBa5_h9
  have EX_h9 := ext_keep EX_h3 Kq6 (allS (Nat.le_trans EX0.1 (Nat.le_of_eq ga5)) all0)
  show OEnds p e below _ T7 (mkF m 12 #[.val (.ref a), .val (.int (0 : Int32)), .val (.int (2 : Int32)), .val (.ref a5), .unset, .unset] [(.int (1 : Int32))])
  refine OEnds.go (fun _ q => XS.istore X8.here X8.hx rfl (hb hby d_jdk_52_method_16_12) rfl (l' := #[.val (.ref a), .val (.int (0 : Int32)), .val (.int (2 : Int32)), .val (.ref a5), .val (.int (1 : Int32)), .unset]) rfl q) ?_
  refine OEnds.go (fun _ q => XS.iload X8.here X8.hx rfl (hb hby d_jdk_52_method_16_14) rfl q) ?_
  show OEnds p e below _ T7 (mkF m 16 #[.val (.ref a), .val (.int (0 : Int32)), .val (.int (2 : Int32)), .val (.ref a5), .val (.int (1 : Int32)), .unset] [(.int (1 : Int32))])
  refine OEnds.go (fun _ q => XS.iloadN X8.here X8.hx rfl (hb hby d_jdk_52_method_16_16) rfl q) ?_
  show OEnds p e below _ T7 (mkF m 17 #[.val (.ref a), .val (.int (0 : Int32)), .val (.int (2 : Int32)), .val (.ref a5), .val (.int (1 : Int32)), .unset] [(.int (2 : Int32)), (.int (1 : Int32))])
  refine OEnds.go (fun _ q => XS.icmpNo X8.here X8.hx rfl (hb hby d_jdk_52_method_16_17) rfl (feq (by decide)).1 q) ?_
  show OEnds p e below _ T7 (mkF m 20 #[.val (.ref a), .val (.int (0 : Int32)), .val (.int (2 : Int32)), .val (.ref a5), .val (.int (1 : Int32)), .unset] [])
  refine OEnds.go (fun _ q => XS.aloadN X8.here X8.hx rfl (hb hby d_jdk_52_method_16_20) rfl rfl q) ?_
  refine OEnds.go (fun _ q => XS.iloadN X8.here X8.hx rfl (hb hby d_jdk_52_method_16_21) rfl q) ?_
  show OEnds p e below _ T7 (mkF m 22 #[.val (.ref a), .val (.int (0 : Int32)), .val (.int (2 : Int32)), .val (.ref a5), .val (.int (1 : Int32)), .unset] [(.int (0 : Int32)), (.ref a)])
  refine OEnds.go (fun _ q => XS.iloadN X8.here X8.hx rfl (hb hby d_jdk_52_method_16_22) rfl q) ?_
  show OEnds p e below _ T7 (mkF m 23 #[.val (.ref a), .val (.int (0 : Int32)), .val (.int (2 : Int32)), .val (.ref a5), .val (.int (1 : Int32)), .unset] [(.int (2 : Int32)), (.int (0 : Int32)), (.ref a)])
  refine X8.payS (ConN.back (W := 0) (con_tob2 H a kc c0 c1 h9 Ka_h9) X8.old X8.hZ (own_k hw 78 rfl) (own_k hw 43 rfl) (by decide) (by decide)) (okN (fun _ _ ⟨_, _, _, q, _⟩ => q.1)) (own_k hw 76 rfl) (own_k hw 77 rfl) (own_k hw 43 rfl) (own_k hw 78 rfl)  (by decide)  (argsL := [(.ref a), (.int (0 : Int32)), (.int (2 : Int32))]) (rest := []) rfl (lenOf own_pd5 rfl) rfl (by rw [hml]; rfl) (Nat.le_of_eq rfl) (hb hby d_jdk_52_method_16_23) (by decide) (by decide) ?_
  intro v19 T14 h16 Lh16 X15 q20
  replace q20 := q20.1
  obtain ⟨t, kb, rfl, Et, Kt⟩ := q20
  have Ka_h16 := Ka_h9.ext Et
  have EX_h16 := ext_trans EX_h9 Et
  show OEnds p e below _ T14 (mkF m 26 #[.val (.ref a), .val (.int (0 : Int32)), .val (.int (2 : Int32)), .val (.ref a5), .val (.int (1 : Int32)), .unset] [(.ref t)])
  refine OEnds.go (fun _ q => XS.astore X15.here X15.hx rfl (hb hby d_jdk_52_method_16_26) rfl rfl (l' := #[.val (.ref a), .val (.int (0 : Int32)), .val (.int (2 : Int32)), .val (.ref a5), .val (.int (1 : Int32)), .val (.ref t)]) rfl q) ?_
  refine OEnds.go (fun _ q => XS.aload X15.here X15.hx rfl (hb hby d_jdk_52_method_16_28) rfl rfl q) ?_
  show OEnds p e below _ T14 (mkF m 30 #[.val (.ref a), .val (.int (0 : Int32)), .val (.int (2 : Int32)), .val (.ref a5), .val (.int (1 : Int32)), .val (.ref t)] [(.ref t)])
  refine OEnds.go (fun _ q => XS.iload X15.here X15.hx rfl (hb hby d_jdk_52_method_16_30) rfl q) ?_
  show OEnds p e below _ T14 (mkF m 32 #[.val (.ref a), .val (.int (0 : Int32)), .val (.int (2 : Int32)), .val (.ref a5), .val (.int (1 : Int32)), .val (.ref t)] [(.int (1 : Int32)), (.ref t)])
  refine X15.payS (ConN.back (W := 0) (con_get21 H t kb c0 c1 hu h16 Kt) X15.old X15.hZ (own_k hw 94 rfl) (own_k hw 43 rfl) (by decide) (by decide)) (okN (fun _ _ q => Nat.le_of_eq (congrArg Array.size q.2))) (own_k hw 92 rfl) (own_k hw 93 rfl) (own_k hw 43 rfl) (own_k hw 94 rfl)  (by decide)  (argsL := [(.ref t), (.int (1 : Int32))]) (rest := []) rfl (lenOf own_pd6 rfl) rfl (by rw [hml]; rfl) (Nat.le_of_eq rfl) (hb hby d_jdk_52_method_16_32) (by decide) (by decide) ?_
  intro v26 T21 h23 Lh23 X22 q27
  replace q27 := q27.1
  obtain ⟨rfl, rfl⟩ := q27
  show OEnds p e below _ T21 (mkF m 35 #[.val (.ref a), .val (.int (0 : Int32)), .val (.int (2 : Int32)), .val (.ref a5), .val (.int (1 : Int32)), .val (.ref t)] [(.int c1)])
  refine OEnds.go (fun _ q => XS.sipush X22.here X22.hx rfl (hb hby d_jdk_52_method_16_35) q) ?_
  show OEnds p e below _ T21 (mkF m 38 #[.val (.ref a), .val (.int (0 : Int32)), .val (.int (2 : Int32)), .val (.ref a5), .val (.int (1 : Int32)), .val (.ref t)] [(.int (255 : Int32)), (.int c1)])
  refine OEnds.go (fun _ q => XS.icmpYes X22.here X22.hx rfl (pc0 := 38) (pc' := 54) rfl (hb hby d_jdk_52_method_16_38) rfl (tlt hk).2.2.1 (by decide) (by decide) q) ?_
  show OEnds p e below _ T21 (mkF m 54 #[.val (.ref a), .val (.int (0 : Int32)), .val (.int (2 : Int32)), .val (.ref a5), .val (.int (1 : Int32)), .val (.ref t)] [])
  refine OEnds.go (fun _ q => XS.aload X22.here X22.hx rfl (hb hby d_jdk_52_method_16_54) rfl rfl q) ?_
  show OEnds p e below _ T21 (mkF m 56 #[.val (.ref a), .val (.int (0 : Int32)), .val (.int (2 : Int32)), .val (.ref a5), .val (.int (1 : Int32)), .val (.ref t)] [(.ref t)])
  exact X22.retRefN hlk rfl (t := (FieldType.array FieldType.byte)) rfl hret (hb hby d_jdk_52_method_16_56) (by decide) (by decide) ⟨t, kb, rfl, EX_h16, Kt⟩
theorem con_nv21 {l : Launch} {Z : State} {a0 : Array Value} {cz : Int32} {fm : Value} (H : Ctx Z a0 cz fm) (x a : Addr) (kc : ClassId) (c0 c1 : Int32) (hl0 : ¬ (255 : Int32) < c0) (hk : (255 : Int32) < c1) (hu : ¬ c1 < 0 ∧ ¬ (65535 : Int32) < c1) (gzx : Z.heap.size ≤ x) (h0 : Heap) (Ex : Exa Z h0 x "java/lang/String") (Vx : Fld Z h0 x "java/lang/String" "value" "[B" .null) (Cx : Fld Z h0 x "java/lang/String" "coder" "B" (.int (0 : Int32))) (Ka : Arv Z h0 a kc .char (2 : Int32) [.int c0, .int c1] (.int (0 : Int32))) :
    ConN l Z (⟨"java/lang/String", "<init>", "([CIILjava/lang/Void;)V"⟩ : MethodName) jdk_42_method_149_code 6 (none : Option FieldType) [] ({ frames := 4, cells := 2, slots := 6, locals := 57 } : Room) #[(.ref x), (.ref a), (.int (0 : Int32)), (.int (2 : Int32)), (.null)] h0 (fun r h => r = none ∧ Keep h0 h [x] ∧ OUtf2 Z h x c0 c1) := by
  obtain ⟨hw, hE, S0, hcz, S1, rf, hp0, hp1, hp2⟩ := id H
  refine ConN.of own_pf0 ?_
  intro p e s m below meth c T hby hml hret hlk hnm X0
  have EX0 := ext_refl h0
  refine OEnds.cast (own_ef0 m x a (0 : Int32) (2 : Int32) ) ?_
  show OEnds p e below _ T (mkF m 0 #[.val (.ref x), .val (.ref a), .val (.int (0 : Int32)), .val (.int (2 : Int32)), .val (.null), .unset] [])
  have K0 := Keep.refl h0 [x]
  refine OEnds.go (fun _ q => XS.aloadN X0.here X0.hx rfl (hb hby d_jdk_42_method_149_0) rfl rfl q) ?_
  show OEnds p e below _ T (mkF m 1 #[.val (.ref x), .val (.ref a), .val (.int (0 : Int32)), .val (.int (2 : Int32)), .val (.null), .unset] [(.ref x)])
  refine X0.initO (own_k hw 15 rfl) (own_k hw 16 rfl) (own_k hw 17 rfl) (by rw [hml]; rfl) (hb hby d_jdk_42_method_149_1) (by decide) (W := 0) (Nat.le_of_eq rfl) (by decide) ?_
  intro T1 X2
  show OEnds p e below _ T1 (mkF m 4 #[.val (.ref x), .val (.ref a), .val (.int (0 : Int32)), .val (.int (2 : Int32)), .val (.null), .unset] [])
  refine OEnds.go (fun _ q => XS.iloadN X2.here X2.hx rfl (hb hby d_jdk_42_method_149_4) rfl q) ?_
  show OEnds p e below _ T1 (mkF m 5 #[.val (.ref x), .val (.ref a), .val (.int (0 : Int32)), .val (.int (2 : Int32)), .val (.null), .unset] [(.int (2 : Int32))])
  refine OEnds.go (fun _ q => XS.ifYes X2.here X2.hx rfl (pc0 := 5) (pc' := 27) rfl (hb hby d_jdk_42_method_149_5) rfl ((if0 _ _).trans (feq (by decide)).2) (by decide) (by decide) q) ?_
  show OEnds p e below _ T1 (mkF m 27 #[.val (.ref x), .val (.ref a), .val (.int (0 : Int32)), .val (.int (2 : Int32)), .val (.null), .unset] [])
  refine X2.getS (own_k hw 40 rfl) Via.refl (S0.ext X2.old) (hb hby d_jdk_42_method_149_27) ?_
  intro T3 X4
  show OEnds p e below _ T3 (mkF m 30 #[.val (.ref x), .val (.ref a), .val (.int (0 : Int32)), .val (.int (2 : Int32)), .val (.null), .unset] [(.int cz)])
  refine OEnds.go (fun _ q => XS.ifNo X4.here X4.hx rfl (hb hby d_jdk_42_method_149_30) rfl ((if0 _ _).trans (feq hcz).1) q) ?_
  show OEnds p e below _ T3 (mkF m 33 #[.val (.ref x), .val (.ref a), .val (.int (0 : Int32)), .val (.int (2 : Int32)), .val (.null), .unset] [])
  refine OEnds.go (fun _ q => XS.aloadN X4.here X4.hx rfl (hb hby d_jdk_42_method_149_33) rfl rfl q) ?_
  refine OEnds.go (fun _ q => XS.iloadN X4.here X4.hx rfl (hb hby d_jdk_42_method_149_34) rfl q) ?_
  show OEnds p e below _ T3 (mkF m 35 #[.val (.ref x), .val (.ref a), .val (.int (0 : Int32)), .val (.int (2 : Int32)), .val (.null), .unset] [(.int (0 : Int32)), (.ref a)])
  refine OEnds.go (fun _ q => XS.iloadN X4.here X4.hx rfl (hb hby d_jdk_42_method_149_35) rfl q) ?_
  show OEnds p e below _ T3 (mkF m 36 #[.val (.ref x), .val (.ref a), .val (.int (0 : Int32)), .val (.int (2 : Int32)), .val (.null), .unset] [(.int (2 : Int32)), (.int (0 : Int32)), (.ref a)])
  refine X4.payS (ConN.back (W := 0) (con_co21 H a kc c0 c1 hl0 hk hu h0 Ka) X4.old X4.hZ (own_k hw 44 rfl) (own_k hw 43 rfl) (by decide) (by decide)) (okN (fun _ _ ⟨_, _, _, q, _⟩ => q.1)) (own_k hw 41 rfl) (own_k hw 42 rfl) (own_k hw 43 rfl) (own_k hw 44 rfl)  (by decide)  (argsL := [(.ref a), (.int (0 : Int32)), (.int (2 : Int32))]) (rest := []) rfl (lenOf own_pd5 rfl) rfl (by rw [hml]; rfl) (Nat.le_of_eq rfl) (hb hby d_jdk_42_method_149_36) (by decide) (by decide) ?_
  intro v10 T5 h7 Lh7 X6 q11
  replace q11 := q11.1
  obtain ⟨t, kb, rfl, Et, Kt⟩ := q11
  have Ex_h7 := Ex.ext Et
  have Vx_h7 := Vx.ext Et
  have Cx_h7 := Cx.ext Et
  have Ka_h7 := Ka.ext Et
  have EX_h7 := ext_trans EX0 Et
  have Kpx_h7 := K0.ext Et
  show OEnds p e below _ T5 (mkF m 39 #[.val (.ref x), .val (.ref a), .val (.int (0 : Int32)), .val (.int (2 : Int32)), .val (.null), .unset] [(.ref t)])
  have nxt : t ≠ x := fun q => Exa.neArv Ex_h7 Kt (own_k hw 5 rfl) q.symm
  refine OEnds.go (fun _ q => XS.astore X6.here X6.hx rfl (hb hby d_jdk_42_method_149_39) rfl rfl (l' := #[.val (.ref x), .val (.ref a), .val (.int (0 : Int32)), .val (.int (2 : Int32)), .val (.null), .val (.ref t)]) rfl q) ?_
  refine OEnds.go (fun _ q => XS.aloadN X6.here X6.hx rfl (hb hby d_jdk_42_method_149_41) rfl rfl q) ?_
  show OEnds p e below _ T5 (mkF m 42 #[.val (.ref x), .val (.ref a), .val (.int (0 : Int32)), .val (.int (2 : Int32)), .val (.null), .val (.ref t)] [(.ref x)])
  refine OEnds.go (fun _ q => XS.aload X6.here X6.hx rfl (hb hby d_jdk_42_method_149_42) rfl rfl q) ?_
  refine OEnds.go (fun _ q => XS.iloadN X6.here X6.hx rfl (hb hby d_jdk_42_method_149_44) rfl q) ?_
  show OEnds p e below _ T5 (mkF m 45 #[.val (.ref x), .val (.ref a), .val (.int (0 : Int32)), .val (.int (2 : Int32)), .val (.null), .val (.ref t)] [(.int (2 : Int32)), (.ref t), (.ref x)])
  refine X6.payS (ConN.back (W := 1) (con_cfa2 H t kb _ h7 Kt) X6.old X6.hZ (own_k hw 50 rfl) (own_k hw 43 rfl) (by decide) (by decide)) (okN (fun _ _ q => Nat.le_of_eq (congrArg Array.size q.2))) (own_k hw 48 rfl) (own_k hw 49 rfl) (own_k hw 43 rfl) (own_k hw 50 rfl)  (by decide)  (argsL := [(.ref t), (.int (2 : Int32))]) (rest := [(.ref x)]) rfl (lenOf own_pd7 rfl) rfl (by rw [hml]; rfl) (Nat.le_of_eq rfl) (hb hby d_jdk_42_method_149_45) (by decide) (by decide) ?_
  intro v17 T12 h14 Lh14 X13 q18
  replace q18 := q18.1
  obtain ⟨rfl, rfl⟩ := q18
  show OEnds p e below _ T12 (mkF m 48 #[.val (.ref x), .val (.ref a), .val (.int (0 : Int32)), .val (.int (2 : Int32)), .val (.null), .val (.ref t)] [(.int (1 : Int32)), (.ref x)])
  refine X13.putF (v := (.int (1 : Int32))) (own_k hw 25 rfl) Via.refl Cx_h7 Ex_h7 (Or.inr ⟨(own_k hw 21 rfl), rfl, hnm⟩) (own_k hw 5 rfl) (ty := FieldType.byte) (by decide) rfl rfl safe_nil gzx (hb hby d_jdk_42_method_149_48) ?_
  intro T19 h21 X20 W22
  have Cx_h21 := Cx_h7.same W22
  have Ex_h21 := Ex_h7.wr W22
  have Vx_h21 := Vx_h7.other W22 (Or.inr (slot_ne (a0 := a0) (Or.inr (own_k hw 20 rfl)) (Or.inr (own_k hw 21 rfl)) (by decide) (t := (FieldType.array FieldType.byte)) (by decide) (t' := FieldType.byte) (by decide)))
  have K23 := Kpx_h7.wr W22 (Or.inl (List.mem_of_getElem? (i := 0) rfl))
  have Kt_h21 := Kt.other W22 nxt
  show OEnds p e below _ T19 (mkF m 51 #[.val (.ref x), .val (.ref a), .val (.int (0 : Int32)), .val (.int (2 : Int32)), .val (.null), .val (.ref t)] [])
  refine OEnds.go (fun _ q => XS.aloadN X20.here X20.hx rfl (hb hby d_jdk_42_method_149_51) rfl rfl q) ?_
  refine OEnds.go (fun _ q => XS.aload X20.here X20.hx rfl (hb hby d_jdk_42_method_149_52) rfl rfl q) ?_
  show OEnds p e below _ T19 (mkF m 54 #[.val (.ref x), .val (.ref a), .val (.int (0 : Int32)), .val (.int (2 : Int32)), .val (.null), .val (.ref t)] [(.ref t), (.ref x)])
  refine X20.putF (v := (.ref t)) (own_k hw 24 rfl) Via.refl Vx_h21 Ex_h21 (Or.inr ⟨(own_k hw 20 rfl), rfl, hnm⟩) (own_k hw 5 rfl) (ty := (FieldType.array FieldType.byte)) (by decide) rfl rfl safe_nil gzx (hb hby d_jdk_42_method_149_54) ?_
  intro T24 h26 X25 W27
  have Vx_h26 := Vx_h21.same W27
  have Ex_h26 := Ex_h21.wr W27
  have Cx_h26 := Cx_h21.other W27 (Or.inr (slot_ne (a0 := a0) (Or.inr (own_k hw 21 rfl)) (Or.inr (own_k hw 20 rfl)) (by decide) (t := FieldType.byte) (by decide) (t' := (FieldType.array FieldType.byte)) (by decide)))
  have K28 := K23.wr W27 (Or.inl (List.mem_of_getElem? (i := 0) rfl))
  have Kt_h26 := Kt_h21.other W27 nxt
  show OEnds p e below _ T24 (mkF m 57 #[.val (.ref x), .val (.ref a), .val (.int (0 : Int32)), .val (.int (2 : Int32)), .val (.null), .val (.ref t)] [])
  exact X25.ret0N hlk  hret (hb hby d_jdk_42_method_149_57) (by decide) (by decide) ⟨rfl, K28, Ex_h26, Cx_h26, t, kb, Vx_h26, Kt_h26⟩
theorem con_nu21 {l : Launch} {Z : State} {a0 : Array Value} {cz : Int32} {fm : Value} (H : Ctx Z a0 cz fm) (x a : Addr) (kc : ClassId) (c0 c1 : Int32) (hl0 : ¬ (255 : Int32) < c0) (hk : (255 : Int32) < c1) (hu : ¬ c1 < 0 ∧ ¬ (65535 : Int32) < c1) (gzx : Z.heap.size ≤ x) (h0 : Heap) (Ex : Exa Z h0 x "java/lang/String") (Vx : Fld Z h0 x "java/lang/String" "value" "[B" .null) (Cx : Fld Z h0 x "java/lang/String" "coder" "B" (.int (0 : Int32))) (Ka : Arv Z h0 a kc .char (2 : Int32) [.int c0, .int c1] (.int (0 : Int32))) :
    ConN l Z (⟨"java/lang/String", "<init>", "([C)V"⟩ : MethodName) jdk_42_method_3_code 2 (none : Option FieldType) [] ({ frames := 5, cells := 2, slots := 6, locals := 74 } : Room) #[(.ref x), (.ref a)] h0 (fun r h => r = none ∧ Keep h0 h [x] ∧ OUtf2 Z h x c0 c1) := by
  obtain ⟨hw, hE, S0, hcz, S1, rf, hp0, hp1, hp2⟩ := id H
  refine ConN.of own_pf1 ?_
  intro p e s m below meth c T hby hml hret hlk hnm X0
  have EX0 := ext_refl h0
  refine OEnds.cast (own_ef1 m x a ) ?_
  show OEnds p e below _ T (mkF m 0 #[.val (.ref x), .val (.ref a)] [])
  refine OEnds.go (fun _ q => XS.aloadN X0.here X0.hx rfl (hb hby d_jdk_42_method_3_0) rfl rfl q) ?_
  refine OEnds.go (fun _ q => XS.aloadN X0.here X0.hx rfl (hb hby d_jdk_42_method_3_1) rfl rfl q) ?_
  show OEnds p e below _ T (mkF m 2 #[.val (.ref x), .val (.ref a)] [(.ref a), (.ref x)])
  refine OEnds.go (fun _ q => XS.iconst X0.here X0.hx rfl (hb hby d_jdk_42_method_3_2) q) ?_
  refine OEnds.go (fun _ q => XS.aloadN X0.here X0.hx rfl (hb hby d_jdk_42_method_3_3) rfl rfl q) ?_
  show OEnds p e below _ T (mkF m 4 #[.val (.ref x), .val (.ref a)] [(.ref a), (.int (0 : Int32)), (.ref a), (.ref x)])
  refine X0.alen Ka (hb hby d_jdk_42_method_3_4) ?_
  show OEnds p e below _ T (mkF m 5 #[.val (.ref x), .val (.ref a)] [(.int (2 : Int32)), (.int (0 : Int32)), (.ref a), (.ref x)])
  refine OEnds.go (fun _ q => XS.aconstNull X0.here X0.hx rfl (hb hby d_jdk_42_method_3_5) q) ?_
  show OEnds p e below _ T (mkF m 6 #[.val (.ref x), .val (.ref a)] [(.null), (.int (2 : Int32)), (.int (0 : Int32)), (.ref a), (.ref x)])
  refine X0.payI (ConN.back (W := 0) (con_nv21 H x a kc c0 c1 hl0 hk hu gzx h0 Ex Vx Cx Ka) X0.old X0.hZ (own_k hw 14 rfl) (own_k hw 6 rfl) (by decide) (by decide)) (okN (fun _ _ q => q.2.1.1)) (own_k hw 11 rfl) (own_k hw 12 rfl)  (own_k hw 14 rfl) rfl (by decide)  (a := x) (argsL := [(.ref a), (.int (0 : Int32)), (.int (2 : Int32)), (.null)]) (rest := []) rfl (lenOf own_pd0 rfl) rfl (by rw [hml]; rfl) (Nat.le_of_eq rfl) (hb hby d_jdk_42_method_3_6) (by decide) (by decide) ?_
  intro v6 T1 h3 Lh3 X2 q7
  replace q7 := q7.1
  obtain ⟨rfl, Kq, Uq⟩ := q7
  show OEnds p e below _ T1 (mkF m 9 #[.val (.ref x), .val (.ref a)] [])
  exact X2.ret0N hlk  hret (hb hby d_jdk_42_method_3_9) (by decide) (by decide) ⟨rfl, Kq, Uq⟩
theorem con_nbl3 {l : Launch} {Z : State} {a0 : Array Value} {cz : Int32} {fm : Value} (H : Ctx Z a0 cz fm)  (h0 : Heap)  :
    ConN l Z (⟨"java/lang/StringUTF16", "newBytesLength", "(I)I"⟩ : MethodName) jdk_52_method_3_code 1 (some FieldType.int) [] ({ frames := 0, cells := 0, slots := 0, locals := 0 } : Room) #[(.int (3 : Int32))] h0 (fun r h => r = some (.int (6 : Int32)) ∧ h0 = h) := by
  obtain ⟨hw, hE, S0, hcz, S1, rf, hp0, hp1, hp2⟩ := id H
  refine ConN.of own_pf2 ?_
  intro p e s m below meth c T hby hml hret hlk hnm X0
  have EX0 := ext_refl h0
  refine OEnds.cast (own_ef2 m (3 : Int32) ) ?_
  show OEnds p e below _ T (mkF m 0 #[.val (.int (3 : Int32))] [])
  refine OEnds.go (fun _ q => XS.iloadN X0.here X0.hx rfl (hb hby d_jdk_52_method_3_0) rfl q) ?_
  show OEnds p e below _ T (mkF m 1 #[.val (.int (3 : Int32))] [(.int (3 : Int32))])
  refine OEnds.go (fun _ q => XS.ifYes X0.here X0.hx rfl (pc0 := 1) (pc' := 12) rfl (hb hby d_jdk_52_method_3_1) rfl ((if0 _ _).trans (flt (by decide)).2.1) (by decide) (by decide) q) ?_
  show OEnds p e below _ T (mkF m 12 #[.val (.int (3 : Int32))] [])
  refine OEnds.go (fun _ q => XS.iloadN X0.here X0.hx rfl (hb hby d_jdk_52_method_3_12) rfl q) ?_
  show OEnds p e below _ T (mkF m 13 #[.val (.int (3 : Int32))] [(.int (3 : Int32))])
  refine X0.ldcI (own_k hw 85 rfl) (hb hby d_jdk_52_method_3_13) ?_
  show OEnds p e below _ T (mkF m 15 #[.val (.int (3 : Int32))] [(.int (1073741823 : Int32)), (.int (3 : Int32))])
  refine OEnds.go (fun _ q => XS.icmpYes X0.here X0.hx rfl (pc0 := 15) (pc' := 55) rfl (hb hby d_jdk_52_method_3_15) rfl (tlt (by decide)).1 (by decide) (by decide) q) ?_
  show OEnds p e below _ T (mkF m 55 #[.val (.int (3 : Int32))] [])
  refine OEnds.go (fun _ q => XS.iloadN X0.here X0.hx rfl (hb hby d_jdk_52_method_3_55) rfl q) ?_
  refine OEnds.go (fun _ q => XS.iconst X0.here X0.hx rfl (hb hby d_jdk_52_method_3_56) q) ?_
  show OEnds p e below _ T (mkF m 57 #[.val (.int (3 : Int32))] [(.int (1 : Int32)), (.int (3 : Int32))])
  refine OEnds.go (fun _ q => XS.ishl X0.here X0.hx rfl (hb hby d_jdk_52_method_3_57) rfl q) ?_
  show OEnds p e below _ T (mkF m 58 #[.val (.int (3 : Int32))] [(.int ((3 : Int32) <<< ((1 : Int32) &&& 31)))])
  rw [show ((3 : Int32) <<< ((1 : Int32) &&& 31)) = (6 : Int32) from by decide]
  show OEnds p e below _ T (mkF m 58 #[.val (.int (3 : Int32))] [(.int (6 : Int32))])
  exact X0.retIntN hlk  hret (hb hby d_jdk_52_method_3_58) (by decide) (by decide) ⟨rfl, rfl⟩
theorem con_nbf3 {l : Launch} {Z : State} {a0 : Array Value} {cz : Int32} {fm : Value} (H : Ctx Z a0 cz fm)  (h0 : Heap)  :
    ConN l Z (⟨"java/lang/StringUTF16", "newBytesFor", "(I)[B"⟩ : MethodName) jdk_52_method_2_code 1 (some (FieldType.array FieldType.byte)) [] ({ frames := 1, cells := 1, slots := 6, locals := 12 } : Room) #[(.int (3 : Int32))] h0 (fun r h => ∃ (t : Addr) (kb : ClassId), r = some (.ref t) ∧ Ext h0 h ∧ Arv Z h t kb .byte (6 : Int32) [.int (0 : Int32), .int (0 : Int32), .int (0 : Int32), .int (0 : Int32), .int (0 : Int32), .int (0 : Int32)] (.int (0 : Int32)) ∧ h0.size = t) := by
  obtain ⟨hw, hE, S0, hcz, S1, rf, hp0, hp1, hp2⟩ := id H
  refine ConN.of own_pf3 ?_
  intro p e s m below meth c T hby hml hret hlk hnm X0
  have EX0 := ext_refl h0
  refine OEnds.cast (own_ef2 m (3 : Int32) ) ?_
  show OEnds p e below _ T (mkF m 0 #[.val (.int (3 : Int32))] [])
  refine OEnds.go (fun _ q => XS.iloadN X0.here X0.hx rfl (hb hby d_jdk_52_method_2_0) rfl q) ?_
  show OEnds p e below _ T (mkF m 1 #[.val (.int (3 : Int32))] [(.int (3 : Int32))])
  refine X0.payS (ConN.back (W := 0) (con_nbl3 H h0) X0.old X0.hZ (own_k hw 84 rfl) (own_k hw 43 rfl) (by decide) (by decide)) (okN (fun _ _ q => Nat.le_of_eq (congrArg Array.size q.2))) (own_k hw 82 rfl) (own_k hw 83 rfl) (own_k hw 43 rfl) (own_k hw 84 rfl)  (by decide)  (argsL := [(.int (3 : Int32))]) (rest := []) rfl (lenOf own_pd1 rfl) rfl (by rw [hml]; rfl) (Nat.le_of_eq rfl) (hb hby d_jdk_52_method_2_1) (by decide) (by decide) ?_
  intro v6 T1 h3 Lh3 X2 q7
  replace q7 := q7.1
  obtain ⟨rfl, rfl⟩ := q7
  show OEnds p e below _ T1 (mkF m 4 #[.val (.int (3 : Int32))] [(.int (6 : Int32))])
  refine X2.newP (own_k hw 19 rfl) (hb hby d_jdk_52_method_2_4) (by decide) (cap := 6) (by decide) (by decide) (by decide) (by decide) ?_
  intro T8 h10 a12 ka12 ga12 X9 E11 Ka12
  have gza12 : Z.heap.size ≤ a12 := ga12 ▸ X2.old.1
  have EX_h10 := ext_trans EX0 E11
  have Ka12_0 : Arv Z h10 a12 ka12 .byte (6 : Int32) [.int (0 : Int32), .int (0 : Int32), .int (0 : Int32), .int (0 : Int32), .int (0 : Int32), .int (0 : Int32)] (.int (0 : Int32)) := Ka12.pad (pad_rep [] (.int (0 : Int32)) 6)
  show OEnds p e below _ T8 (mkF m 6 #[.val (.int (3 : Int32))] [(.ref a12)])
  exact X9.retRefN hlk rfl (t := (FieldType.array FieldType.byte)) rfl hret (hb hby d_jdk_52_method_2_6) (by decide) (by decide) ⟨a12, _, rfl, EX_h10, Ka12_0, ga12⟩
theorem con_put30 {l : Launch} {Z : State} {a0 : Array Value} {cz : Int32} {fm : Value} (H : Ctx Z a0 cz fm) (b : Addr) (kb : ClassId) (w0 w1 w2 w3 w4 w5 v : Int32) (gzb : Z.heap.size ≤ b) (h0 : Heap) (Kb : Arv Z h0 b kb .byte (6 : Int32) [.int w0, .int w1, .int w2, .int w3, .int w4, .int w5] (.int (0 : Int32))) :
    ConN l Z (⟨"java/lang/StringUTF16", "putChar", "([BII)V"⟩ : MethodName) jdk_52_method_4_code 3 (none : Option FieldType) [] ({ frames := 0, cells := 0, slots := 0, locals := 0 } : Room) #[(.ref b), (.int (0 : Int32)), (.int v)] h0 (fun r h => r = none ∧ Keep h0 h [b] ∧ Arv Z h b kb .byte (6 : Int32) [.int (own_lo v), .int (own_hi v), .int w2, .int w3, .int w4, .int w5] (.int (0 : Int32))) := by
  obtain ⟨hw, hE, S0, hcz, S1, rf, hp0, hp1, hp2⟩ := id H
  refine ConN.of own_pf4 ?_
  intro p e s m below meth c T hby hml hret hlk hnm X0
  have EX0 := ext_refl h0
  refine OEnds.cast (own_ef3 m b (0 : Int32) v ) ?_
  show OEnds p e below _ T (mkF m 0 #[.val (.ref b), .val (.int (0 : Int32)), .val (.int v)] [])
  have K0 := Keep.refl h0 [b]
  refine X0.getS (own_k hw 89 rfl) Via.refl (hp0.ext X0.old) (hb hby d_jdk_52_method_4_0) ?_
  intro T1 X2
  show OEnds p e below _ T1 (mkF m 3 #[.val (.ref b), .val (.int (0 : Int32)), .val (.int v)] [(.int (1 : Int32))])
  refine OEnds.go (fun _ q => XS.ifYes X2.here X2.hx rfl (pc0 := 3) (pc' := 28) rfl (hb hby d_jdk_52_method_4_3) rfl ((if0 _ _).trans (feq (by decide)).2) (by decide) (by decide) q) ?_
  show OEnds p e below _ T1 (mkF m 28 #[.val (.ref b), .val (.int (0 : Int32)), .val (.int v)] [])
  refine OEnds.go (fun _ q => XS.iloadN X2.here X2.hx rfl (hb hby d_jdk_52_method_4_28) rfl q) ?_
  show OEnds p e below _ T1 (mkF m 29 #[.val (.ref b), .val (.int (0 : Int32)), .val (.int v)] [(.int (0 : Int32))])
  refine OEnds.go (fun _ q => XS.iconst X2.here X2.hx rfl (hb hby d_jdk_52_method_4_29) q) ?_
  show OEnds p e below _ T1 (mkF m 30 #[.val (.ref b), .val (.int (0 : Int32)), .val (.int v)] [(.int (1 : Int32)), (.int (0 : Int32))])
  refine OEnds.go (fun _ q => XS.ishl X2.here X2.hx rfl (hb hby d_jdk_52_method_4_30) rfl q) ?_
  show OEnds p e below _ T1 (mkF m 31 #[.val (.ref b), .val (.int (0 : Int32)), .val (.int v)] [(.int ((0 : Int32) <<< ((1 : Int32) &&& 31)))])
  rw [show ((0 : Int32) <<< ((1 : Int32) &&& 31)) = (0 : Int32) from by decide]
  show OEnds p e below _ T1 (mkF m 31 #[.val (.ref b), .val (.int (0 : Int32)), .val (.int v)] [(.int (0 : Int32))])
  refine OEnds.go (fun _ q => XS.istoreN X2.here X2.hx rfl (hb hby d_jdk_52_method_4_31) rfl (l' := #[.val (.ref b), .val (.int (0 : Int32)), .val (.int v)]) rfl q) ?_
  show OEnds p e below _ T1 (mkF m 32 #[.val (.ref b), .val (.int (0 : Int32)), .val (.int v)] [])
  refine OEnds.go (fun _ q => XS.aloadN X2.here X2.hx rfl (hb hby d_jdk_52_method_4_32) rfl rfl q) ?_
  show OEnds p e below _ T1 (mkF m 33 #[.val (.ref b), .val (.int (0 : Int32)), .val (.int v)] [(.ref b)])
  refine OEnds.go (fun _ q => XS.iloadN X2.here X2.hx rfl (hb hby d_jdk_52_method_4_33) rfl q) ?_
  show OEnds p e below _ T1 (mkF m 34 #[.val (.ref b), .val (.int (0 : Int32)), .val (.int v)] [(.int (0 : Int32)), (.ref b)])
  refine OEnds.go (fun _ q => XS.iinc X2.here X2.hx rfl (hb hby d_jdk_52_method_4_34) rfl (l' := #[.val (.ref b), .val (.int ((0 : Int32) + (1 : Int32))), .val (.int v)]) rfl q) ?_
  show OEnds p e below _ T1 (mkF m 37 #[.val (.ref b), .val (.int ((0 : Int32) + (1 : Int32))), .val (.int v)] [(.int (0 : Int32)), (.ref b)])
  rw [show ((0 : Int32) + (1 : Int32)) = (1 : Int32) from by decide]
  show OEnds p e below _ T1 (mkF m 37 #[.val (.ref b), .val (.int (1 : Int32)), .val (.int v)] [(.int (0 : Int32)), (.ref b)])
  refine OEnds.go (fun _ q => XS.iloadN X2.here X2.hx rfl (hb hby d_jdk_52_method_4_37) rfl q) ?_
  show OEnds p e below _ T1 (mkF m 38 #[.val (.ref b), .val (.int (1 : Int32)), .val (.int v)] [(.int v), (.int (0 : Int32)), (.ref b)])
  refine X2.getS (own_k hw 90 rfl) Via.refl (hp1.ext X2.old) (hb hby d_jdk_52_method_4_38) ?_
  intro T3 X4
  show OEnds p e below _ T3 (mkF m 41 #[.val (.ref b), .val (.int (1 : Int32)), .val (.int v)] [(.int (0 : Int32)), (.int v), (.int (0 : Int32)), (.ref b)])
  refine OEnds.go (fun _ q => XS.ishr X4.here X4.hx rfl (hb hby d_jdk_52_method_4_41) rfl q) ?_
  refine OEnds.go (fun _ q => XS.i2b X4.here X4.hx rfl (hb hby d_jdk_52_method_4_42) rfl q) ?_
  show OEnds p e below _ T3 (mkF m 43 #[.val (.ref b), .val (.int (1 : Int32)), .val (.int v)] [(.int ((v >>> ((0 : Int32) &&& 31)).toInt8.toInt32)), (.int (0 : Int32)), (.ref b)])
  refine X4.stB Kb safe_nil (by decide) (i := 0) rfl (Nat.le_of_ble_eq_true rfl) gzb (hb hby d_jdk_52_method_4_43) ?_
  intro T5 h7 X6 W8 Kb_h7x
  have Kb_h7 : Arv Z h7 b kb .byte (6 : Int32) [.int (own_lo v), .int w1, .int w2, .int w3, .int w4, .int w5] (.int (0 : Int32)) := Kb_h7x
  have K9 := K0.wr W8 (Or.inl (List.mem_of_getElem? (i := 0) rfl))
  show OEnds p e below _ T5 (mkF m 44 #[.val (.ref b), .val (.int (1 : Int32)), .val (.int v)] [])
  refine OEnds.go (fun _ q => XS.aloadN X6.here X6.hx rfl (hb hby d_jdk_52_method_4_44) rfl rfl q) ?_
  refine OEnds.go (fun _ q => XS.iloadN X6.here X6.hx rfl (hb hby d_jdk_52_method_4_45) rfl q) ?_
  show OEnds p e below _ T5 (mkF m 46 #[.val (.ref b), .val (.int (1 : Int32)), .val (.int v)] [(.int (1 : Int32)), (.ref b)])
  refine OEnds.go (fun _ q => XS.iloadN X6.here X6.hx rfl (hb hby d_jdk_52_method_4_46) rfl q) ?_
  show OEnds p e below _ T5 (mkF m 47 #[.val (.ref b), .val (.int (1 : Int32)), .val (.int v)] [(.int v), (.int (1 : Int32)), (.ref b)])
  refine X6.getS (own_k hw 91 rfl) Via.refl (hp2.ext X6.old) (hb hby d_jdk_52_method_4_47) ?_
  intro T10 X11
  show OEnds p e below _ T10 (mkF m 50 #[.val (.ref b), .val (.int (1 : Int32)), .val (.int v)] [(.int (8 : Int32)), (.int v), (.int (1 : Int32)), (.ref b)])
  refine OEnds.go (fun _ q => XS.ishr X11.here X11.hx rfl (hb hby d_jdk_52_method_4_50) rfl q) ?_
  refine OEnds.go (fun _ q => XS.i2b X11.here X11.hx rfl (hb hby d_jdk_52_method_4_51) rfl q) ?_
  show OEnds p e below _ T10 (mkF m 52 #[.val (.ref b), .val (.int (1 : Int32)), .val (.int v)] [(.int ((v >>> ((8 : Int32) &&& 31)).toInt8.toInt32)), (.int (1 : Int32)), (.ref b)])
  refine X11.stB Kb_h7 safe_nil (by decide) (i := 1) rfl (Nat.le_of_ble_eq_true rfl) gzb (hb hby d_jdk_52_method_4_52) ?_
  intro T12 h14 X13 W15 Kb_h14x
  have Kb_h14 : Arv Z h14 b kb .byte (6 : Int32) [.int (own_lo v), .int (own_hi v), .int w2, .int w3, .int w4, .int w5] (.int (0 : Int32)) := Kb_h14x
  have K16 := K9.wr W15 (Or.inl (List.mem_of_getElem? (i := 0) rfl))
  show OEnds p e below _ T12 (mkF m 53 #[.val (.ref b), .val (.int (1 : Int32)), .val (.int v)] [])
  exact X13.ret0N hlk  hret (hb hby d_jdk_52_method_4_53) (by decide) (by decide) ⟨rfl, K16, Kb_h14⟩
theorem con_put31 {l : Launch} {Z : State} {a0 : Array Value} {cz : Int32} {fm : Value} (H : Ctx Z a0 cz fm) (b : Addr) (kb : ClassId) (w0 w1 w2 w3 w4 w5 v : Int32) (gzb : Z.heap.size ≤ b) (h0 : Heap) (Kb : Arv Z h0 b kb .byte (6 : Int32) [.int w0, .int w1, .int w2, .int w3, .int w4, .int w5] (.int (0 : Int32))) :
    ConN l Z (⟨"java/lang/StringUTF16", "putChar", "([BII)V"⟩ : MethodName) jdk_52_method_4_code 3 (none : Option FieldType) [] ({ frames := 0, cells := 0, slots := 0, locals := 0 } : Room) #[(.ref b), (.int (1 : Int32)), (.int v)] h0 (fun r h => r = none ∧ Keep h0 h [b] ∧ Arv Z h b kb .byte (6 : Int32) [.int w0, .int w1, .int (own_lo v), .int (own_hi v), .int w4, .int w5] (.int (0 : Int32))) := by
  obtain ⟨hw, hE, S0, hcz, S1, rf, hp0, hp1, hp2⟩ := id H
  refine ConN.of own_pf4 ?_
  intro p e s m below meth c T hby hml hret hlk hnm X0
  have EX0 := ext_refl h0
  refine OEnds.cast (own_ef3 m b (1 : Int32) v ) ?_
  show OEnds p e below _ T (mkF m 0 #[.val (.ref b), .val (.int (1 : Int32)), .val (.int v)] [])
  have K0 := Keep.refl h0 [b]
  refine X0.getS (own_k hw 89 rfl) Via.refl (hp0.ext X0.old) (hb hby d_jdk_52_method_4_0) ?_
  intro T1 X2
  show OEnds p e below _ T1 (mkF m 3 #[.val (.ref b), .val (.int (1 : Int32)), .val (.int v)] [(.int (1 : Int32))])
  refine OEnds.go (fun _ q => XS.ifYes X2.here X2.hx rfl (pc0 := 3) (pc' := 28) rfl (hb hby d_jdk_52_method_4_3) rfl ((if0 _ _).trans (feq (by decide)).2) (by decide) (by decide) q) ?_
  show OEnds p e below _ T1 (mkF m 28 #[.val (.ref b), .val (.int (1 : Int32)), .val (.int v)] [])
  refine OEnds.go (fun _ q => XS.iloadN X2.here X2.hx rfl (hb hby d_jdk_52_method_4_28) rfl q) ?_
  show OEnds p e below _ T1 (mkF m 29 #[.val (.ref b), .val (.int (1 : Int32)), .val (.int v)] [(.int (1 : Int32))])
  refine OEnds.go (fun _ q => XS.iconst X2.here X2.hx rfl (hb hby d_jdk_52_method_4_29) q) ?_
  show OEnds p e below _ T1 (mkF m 30 #[.val (.ref b), .val (.int (1 : Int32)), .val (.int v)] [(.int (1 : Int32)), (.int (1 : Int32))])
  refine OEnds.go (fun _ q => XS.ishl X2.here X2.hx rfl (hb hby d_jdk_52_method_4_30) rfl q) ?_
  show OEnds p e below _ T1 (mkF m 31 #[.val (.ref b), .val (.int (1 : Int32)), .val (.int v)] [(.int ((1 : Int32) <<< ((1 : Int32) &&& 31)))])
  rw [show ((1 : Int32) <<< ((1 : Int32) &&& 31)) = (2 : Int32) from by decide]
  show OEnds p e below _ T1 (mkF m 31 #[.val (.ref b), .val (.int (1 : Int32)), .val (.int v)] [(.int (2 : Int32))])
  refine OEnds.go (fun _ q => XS.istoreN X2.here X2.hx rfl (hb hby d_jdk_52_method_4_31) rfl (l' := #[.val (.ref b), .val (.int (2 : Int32)), .val (.int v)]) rfl q) ?_
  show OEnds p e below _ T1 (mkF m 32 #[.val (.ref b), .val (.int (2 : Int32)), .val (.int v)] [])
  refine OEnds.go (fun _ q => XS.aloadN X2.here X2.hx rfl (hb hby d_jdk_52_method_4_32) rfl rfl q) ?_
  show OEnds p e below _ T1 (mkF m 33 #[.val (.ref b), .val (.int (2 : Int32)), .val (.int v)] [(.ref b)])
  refine OEnds.go (fun _ q => XS.iloadN X2.here X2.hx rfl (hb hby d_jdk_52_method_4_33) rfl q) ?_
  show OEnds p e below _ T1 (mkF m 34 #[.val (.ref b), .val (.int (2 : Int32)), .val (.int v)] [(.int (2 : Int32)), (.ref b)])
  refine OEnds.go (fun _ q => XS.iinc X2.here X2.hx rfl (hb hby d_jdk_52_method_4_34) rfl (l' := #[.val (.ref b), .val (.int ((2 : Int32) + (1 : Int32))), .val (.int v)]) rfl q) ?_
  show OEnds p e below _ T1 (mkF m 37 #[.val (.ref b), .val (.int ((2 : Int32) + (1 : Int32))), .val (.int v)] [(.int (2 : Int32)), (.ref b)])
  rw [show ((2 : Int32) + (1 : Int32)) = (3 : Int32) from by decide]
  show OEnds p e below _ T1 (mkF m 37 #[.val (.ref b), .val (.int (3 : Int32)), .val (.int v)] [(.int (2 : Int32)), (.ref b)])
  refine OEnds.go (fun _ q => XS.iloadN X2.here X2.hx rfl (hb hby d_jdk_52_method_4_37) rfl q) ?_
  show OEnds p e below _ T1 (mkF m 38 #[.val (.ref b), .val (.int (3 : Int32)), .val (.int v)] [(.int v), (.int (2 : Int32)), (.ref b)])
  refine X2.getS (own_k hw 90 rfl) Via.refl (hp1.ext X2.old) (hb hby d_jdk_52_method_4_38) ?_
  intro T3 X4
  show OEnds p e below _ T3 (mkF m 41 #[.val (.ref b), .val (.int (3 : Int32)), .val (.int v)] [(.int (0 : Int32)), (.int v), (.int (2 : Int32)), (.ref b)])
  refine OEnds.go (fun _ q => XS.ishr X4.here X4.hx rfl (hb hby d_jdk_52_method_4_41) rfl q) ?_
  refine OEnds.go (fun _ q => XS.i2b X4.here X4.hx rfl (hb hby d_jdk_52_method_4_42) rfl q) ?_
  show OEnds p e below _ T3 (mkF m 43 #[.val (.ref b), .val (.int (3 : Int32)), .val (.int v)] [(.int ((v >>> ((0 : Int32) &&& 31)).toInt8.toInt32)), (.int (2 : Int32)), (.ref b)])
  refine X4.stB Kb safe_nil (by decide) (i := 2) rfl (Nat.le_of_ble_eq_true rfl) gzb (hb hby d_jdk_52_method_4_43) ?_
  intro T5 h7 X6 W8 Kb_h7x
  have Kb_h7 : Arv Z h7 b kb .byte (6 : Int32) [.int w0, .int w1, .int (own_lo v), .int w3, .int w4, .int w5] (.int (0 : Int32)) := Kb_h7x
  have K9 := K0.wr W8 (Or.inl (List.mem_of_getElem? (i := 0) rfl))
  show OEnds p e below _ T5 (mkF m 44 #[.val (.ref b), .val (.int (3 : Int32)), .val (.int v)] [])
  refine OEnds.go (fun _ q => XS.aloadN X6.here X6.hx rfl (hb hby d_jdk_52_method_4_44) rfl rfl q) ?_
  refine OEnds.go (fun _ q => XS.iloadN X6.here X6.hx rfl (hb hby d_jdk_52_method_4_45) rfl q) ?_
  show OEnds p e below _ T5 (mkF m 46 #[.val (.ref b), .val (.int (3 : Int32)), .val (.int v)] [(.int (3 : Int32)), (.ref b)])
  refine OEnds.go (fun _ q => XS.iloadN X6.here X6.hx rfl (hb hby d_jdk_52_method_4_46) rfl q) ?_
  show OEnds p e below _ T5 (mkF m 47 #[.val (.ref b), .val (.int (3 : Int32)), .val (.int v)] [(.int v), (.int (3 : Int32)), (.ref b)])
  refine X6.getS (own_k hw 91 rfl) Via.refl (hp2.ext X6.old) (hb hby d_jdk_52_method_4_47) ?_
  intro T10 X11
  show OEnds p e below _ T10 (mkF m 50 #[.val (.ref b), .val (.int (3 : Int32)), .val (.int v)] [(.int (8 : Int32)), (.int v), (.int (3 : Int32)), (.ref b)])
  refine OEnds.go (fun _ q => XS.ishr X11.here X11.hx rfl (hb hby d_jdk_52_method_4_50) rfl q) ?_
  refine OEnds.go (fun _ q => XS.i2b X11.here X11.hx rfl (hb hby d_jdk_52_method_4_51) rfl q) ?_
  show OEnds p e below _ T10 (mkF m 52 #[.val (.ref b), .val (.int (3 : Int32)), .val (.int v)] [(.int ((v >>> ((8 : Int32) &&& 31)).toInt8.toInt32)), (.int (3 : Int32)), (.ref b)])
  refine X11.stB Kb_h7 safe_nil (by decide) (i := 3) rfl (Nat.le_of_ble_eq_true rfl) gzb (hb hby d_jdk_52_method_4_52) ?_
  intro T12 h14 X13 W15 Kb_h14x
  have Kb_h14 : Arv Z h14 b kb .byte (6 : Int32) [.int w0, .int w1, .int (own_lo v), .int (own_hi v), .int w4, .int w5] (.int (0 : Int32)) := Kb_h14x
  have K16 := K9.wr W15 (Or.inl (List.mem_of_getElem? (i := 0) rfl))
  show OEnds p e below _ T12 (mkF m 53 #[.val (.ref b), .val (.int (3 : Int32)), .val (.int v)] [])
  exact X13.ret0N hlk  hret (hb hby d_jdk_52_method_4_53) (by decide) (by decide) ⟨rfl, K16, Kb_h14⟩
theorem con_put32 {l : Launch} {Z : State} {a0 : Array Value} {cz : Int32} {fm : Value} (H : Ctx Z a0 cz fm) (b : Addr) (kb : ClassId) (w0 w1 w2 w3 w4 w5 v : Int32) (gzb : Z.heap.size ≤ b) (h0 : Heap) (Kb : Arv Z h0 b kb .byte (6 : Int32) [.int w0, .int w1, .int w2, .int w3, .int w4, .int w5] (.int (0 : Int32))) :
    ConN l Z (⟨"java/lang/StringUTF16", "putChar", "([BII)V"⟩ : MethodName) jdk_52_method_4_code 3 (none : Option FieldType) [] ({ frames := 0, cells := 0, slots := 0, locals := 0 } : Room) #[(.ref b), (.int (2 : Int32)), (.int v)] h0 (fun r h => r = none ∧ Keep h0 h [b] ∧ Arv Z h b kb .byte (6 : Int32) [.int w0, .int w1, .int w2, .int w3, .int (own_lo v), .int (own_hi v)] (.int (0 : Int32))) := by
  obtain ⟨hw, hE, S0, hcz, S1, rf, hp0, hp1, hp2⟩ := id H
  refine ConN.of own_pf4 ?_
  intro p e s m below meth c T hby hml hret hlk hnm X0
  have EX0 := ext_refl h0
  refine OEnds.cast (own_ef3 m b (2 : Int32) v ) ?_
  show OEnds p e below _ T (mkF m 0 #[.val (.ref b), .val (.int (2 : Int32)), .val (.int v)] [])
  have K0 := Keep.refl h0 [b]
  refine X0.getS (own_k hw 89 rfl) Via.refl (hp0.ext X0.old) (hb hby d_jdk_52_method_4_0) ?_
  intro T1 X2
  show OEnds p e below _ T1 (mkF m 3 #[.val (.ref b), .val (.int (2 : Int32)), .val (.int v)] [(.int (1 : Int32))])
  refine OEnds.go (fun _ q => XS.ifYes X2.here X2.hx rfl (pc0 := 3) (pc' := 28) rfl (hb hby d_jdk_52_method_4_3) rfl ((if0 _ _).trans (feq (by decide)).2) (by decide) (by decide) q) ?_
  show OEnds p e below _ T1 (mkF m 28 #[.val (.ref b), .val (.int (2 : Int32)), .val (.int v)] [])
  refine OEnds.go (fun _ q => XS.iloadN X2.here X2.hx rfl (hb hby d_jdk_52_method_4_28) rfl q) ?_
  show OEnds p e below _ T1 (mkF m 29 #[.val (.ref b), .val (.int (2 : Int32)), .val (.int v)] [(.int (2 : Int32))])
  refine OEnds.go (fun _ q => XS.iconst X2.here X2.hx rfl (hb hby d_jdk_52_method_4_29) q) ?_
  show OEnds p e below _ T1 (mkF m 30 #[.val (.ref b), .val (.int (2 : Int32)), .val (.int v)] [(.int (1 : Int32)), (.int (2 : Int32))])
  refine OEnds.go (fun _ q => XS.ishl X2.here X2.hx rfl (hb hby d_jdk_52_method_4_30) rfl q) ?_
  show OEnds p e below _ T1 (mkF m 31 #[.val (.ref b), .val (.int (2 : Int32)), .val (.int v)] [(.int ((2 : Int32) <<< ((1 : Int32) &&& 31)))])
  rw [show ((2 : Int32) <<< ((1 : Int32) &&& 31)) = (4 : Int32) from by decide]
  show OEnds p e below _ T1 (mkF m 31 #[.val (.ref b), .val (.int (2 : Int32)), .val (.int v)] [(.int (4 : Int32))])
  refine OEnds.go (fun _ q => XS.istoreN X2.here X2.hx rfl (hb hby d_jdk_52_method_4_31) rfl (l' := #[.val (.ref b), .val (.int (4 : Int32)), .val (.int v)]) rfl q) ?_
  show OEnds p e below _ T1 (mkF m 32 #[.val (.ref b), .val (.int (4 : Int32)), .val (.int v)] [])
  refine OEnds.go (fun _ q => XS.aloadN X2.here X2.hx rfl (hb hby d_jdk_52_method_4_32) rfl rfl q) ?_
  show OEnds p e below _ T1 (mkF m 33 #[.val (.ref b), .val (.int (4 : Int32)), .val (.int v)] [(.ref b)])
  refine OEnds.go (fun _ q => XS.iloadN X2.here X2.hx rfl (hb hby d_jdk_52_method_4_33) rfl q) ?_
  show OEnds p e below _ T1 (mkF m 34 #[.val (.ref b), .val (.int (4 : Int32)), .val (.int v)] [(.int (4 : Int32)), (.ref b)])
  refine OEnds.go (fun _ q => XS.iinc X2.here X2.hx rfl (hb hby d_jdk_52_method_4_34) rfl (l' := #[.val (.ref b), .val (.int ((4 : Int32) + (1 : Int32))), .val (.int v)]) rfl q) ?_
  show OEnds p e below _ T1 (mkF m 37 #[.val (.ref b), .val (.int ((4 : Int32) + (1 : Int32))), .val (.int v)] [(.int (4 : Int32)), (.ref b)])
  rw [show ((4 : Int32) + (1 : Int32)) = (5 : Int32) from by decide]
  show OEnds p e below _ T1 (mkF m 37 #[.val (.ref b), .val (.int (5 : Int32)), .val (.int v)] [(.int (4 : Int32)), (.ref b)])
  refine OEnds.go (fun _ q => XS.iloadN X2.here X2.hx rfl (hb hby d_jdk_52_method_4_37) rfl q) ?_
  show OEnds p e below _ T1 (mkF m 38 #[.val (.ref b), .val (.int (5 : Int32)), .val (.int v)] [(.int v), (.int (4 : Int32)), (.ref b)])
  refine X2.getS (own_k hw 90 rfl) Via.refl (hp1.ext X2.old) (hb hby d_jdk_52_method_4_38) ?_
  intro T3 X4
  show OEnds p e below _ T3 (mkF m 41 #[.val (.ref b), .val (.int (5 : Int32)), .val (.int v)] [(.int (0 : Int32)), (.int v), (.int (4 : Int32)), (.ref b)])
  refine OEnds.go (fun _ q => XS.ishr X4.here X4.hx rfl (hb hby d_jdk_52_method_4_41) rfl q) ?_
  refine OEnds.go (fun _ q => XS.i2b X4.here X4.hx rfl (hb hby d_jdk_52_method_4_42) rfl q) ?_
  show OEnds p e below _ T3 (mkF m 43 #[.val (.ref b), .val (.int (5 : Int32)), .val (.int v)] [(.int ((v >>> ((0 : Int32) &&& 31)).toInt8.toInt32)), (.int (4 : Int32)), (.ref b)])
  refine X4.stB Kb safe_nil (by decide) (i := 4) rfl (Nat.le_of_ble_eq_true rfl) gzb (hb hby d_jdk_52_method_4_43) ?_
  intro T5 h7 X6 W8 Kb_h7x
  have Kb_h7 : Arv Z h7 b kb .byte (6 : Int32) [.int w0, .int w1, .int w2, .int w3, .int (own_lo v), .int w5] (.int (0 : Int32)) := Kb_h7x
  have K9 := K0.wr W8 (Or.inl (List.mem_of_getElem? (i := 0) rfl))
  show OEnds p e below _ T5 (mkF m 44 #[.val (.ref b), .val (.int (5 : Int32)), .val (.int v)] [])
  refine OEnds.go (fun _ q => XS.aloadN X6.here X6.hx rfl (hb hby d_jdk_52_method_4_44) rfl rfl q) ?_
  refine OEnds.go (fun _ q => XS.iloadN X6.here X6.hx rfl (hb hby d_jdk_52_method_4_45) rfl q) ?_
  show OEnds p e below _ T5 (mkF m 46 #[.val (.ref b), .val (.int (5 : Int32)), .val (.int v)] [(.int (5 : Int32)), (.ref b)])
  refine OEnds.go (fun _ q => XS.iloadN X6.here X6.hx rfl (hb hby d_jdk_52_method_4_46) rfl q) ?_
  show OEnds p e below _ T5 (mkF m 47 #[.val (.ref b), .val (.int (5 : Int32)), .val (.int v)] [(.int v), (.int (5 : Int32)), (.ref b)])
  refine X6.getS (own_k hw 91 rfl) Via.refl (hp2.ext X6.old) (hb hby d_jdk_52_method_4_47) ?_
  intro T10 X11
  show OEnds p e below _ T10 (mkF m 50 #[.val (.ref b), .val (.int (5 : Int32)), .val (.int v)] [(.int (8 : Int32)), (.int v), (.int (5 : Int32)), (.ref b)])
  refine OEnds.go (fun _ q => XS.ishr X11.here X11.hx rfl (hb hby d_jdk_52_method_4_50) rfl q) ?_
  refine OEnds.go (fun _ q => XS.i2b X11.here X11.hx rfl (hb hby d_jdk_52_method_4_51) rfl q) ?_
  show OEnds p e below _ T10 (mkF m 52 #[.val (.ref b), .val (.int (5 : Int32)), .val (.int v)] [(.int ((v >>> ((8 : Int32) &&& 31)).toInt8.toInt32)), (.int (5 : Int32)), (.ref b)])
  refine X11.stB Kb_h7 safe_nil (by decide) (i := 5) rfl (Nat.le_of_ble_eq_true rfl) gzb (hb hby d_jdk_52_method_4_52) ?_
  intro T12 h14 X13 W15 Kb_h14x
  have Kb_h14 : Arv Z h14 b kb .byte (6 : Int32) [.int w0, .int w1, .int w2, .int w3, .int (own_lo v), .int (own_hi v)] (.int (0 : Int32)) := Kb_h14x
  have K16 := K9.wr W15 (Or.inl (List.mem_of_getElem? (i := 0) rfl))
  show OEnds p e below _ T12 (mkF m 53 #[.val (.ref b), .val (.int (5 : Int32)), .val (.int v)] [])
  exact X13.ret0N hlk  hret (hb hby d_jdk_52_method_4_53) (by decide) (by decide) ⟨rfl, K16, Kb_h14⟩
theorem con_tob3 {l : Launch} {Z : State} {a0 : Array Value} {cz : Int32} {fm : Value} (H : Ctx Z a0 cz fm) (a : Addr) (kc : ClassId) (c0 c1 c2 : Int32) (h0 : Heap) (Ka : Arv Z h0 a kc .char (3 : Int32) [.int c0, .int c1, .int c2] (.int (0 : Int32))) :
    ConN l Z (⟨"java/lang/StringUTF16", "toBytes", "([CII)[B"⟩ : MethodName) jdk_52_method_14_code 5 (some (FieldType.array FieldType.byte)) [] ({ frames := 2, cells := 1, slots := 6, locals := 24 } : Room) #[(.ref a), (.int (0 : Int32)), (.int (3 : Int32))] h0 (fun r h => ∃ (t : Addr) (kb : ClassId), r = some (.ref t) ∧ Ext h0 h ∧ Arv Z h t kb .byte (6 : Int32) [.int (own_lo c0), .int (own_hi c0), .int (own_lo c1), .int (own_hi c1), .int (own_lo c2), .int (own_hi c2)] (.int (0 : Int32))) := by
  obtain ⟨hw, hE, S0, hcz, S1, rf, hp0, hp1, hp2⟩ := id H
  refine ConN.of own_pf5 ?_
  intro p e s m below meth c T hby hml hret hlk hnm X0
  have EX0 := ext_refl h0
  refine OEnds.cast (own_ef4 m a (0 : Int32) (3 : Int32) ) ?_
  show OEnds p e below _ T (mkF m 0 #[.val (.ref a), .val (.int (0 : Int32)), .val (.int (3 : Int32)), .unset, .unset] [])
  refine OEnds.go (fun _ q => XS.iloadN X0.here X0.hx rfl (hb hby d_jdk_52_method_14_0) rfl q) ?_
  show OEnds p e below _ T (mkF m 1 #[.val (.ref a), .val (.int (0 : Int32)), .val (.int (3 : Int32)), .unset, .unset] [(.int (3 : Int32))])
  refine X0.payS (ConN.back (W := 0) (con_nbf3 H h0) X0.old X0.hZ (own_k hw 81 rfl) (own_k hw 43 rfl) (by decide) (by decide)) (okN (fun _ _ ⟨_, _, _, q, _⟩ => q.1)) (own_k hw 79 rfl) (own_k hw 80 rfl) (own_k hw 43 rfl) (own_k hw 81 rfl)  (by decide)  (argsL := [(.int (3 : Int32))]) (rest := []) rfl (lenOf own_pd2 rfl) rfl (by rw [hml]; rfl) (Nat.le_of_eq rfl) (hb hby d_jdk_52_method_14_1) (by decide) (by decide) ?_
  intro v6 T1 h3 Lh3 X2 q7
  replace q7 := q7.1
  obtain ⟨t, kb, rfl, Et, Kt, gt⟩ := q7
  have Ka_h3 := Ka.ext Et
  have EX_h3 := ext_trans EX0 Et
  show OEnds p e below _ T1 (mkF m 4 #[.val (.ref a), .val (.int (0 : Int32)), .val (.int (3 : Int32)), .unset, .unset] [(.ref t)])
  have gzt : Z.heap.size ≤ t := gt ▸ X0.old.1
  refine OEnds.go (fun _ q => XS.astoreN X2.here X2.hx rfl (hb hby d_jdk_52_method_14_4) rfl rfl (l' := #[.val (.ref a), .val (.int (0 : Int32)), .val (.int (3 : Int32)), .val (.ref t), .unset]) rfl q) ?_
  show OEnds p e below _ T1 (mkF m 5 #[.val (.ref a), .val (.int (0 : Int32)), .val (.int (3 : Int32)), .val (.ref t), .unset] [])
  refine OEnds.go (fun _ q => XS.iconst X2.here X2.hx rfl (hb hby d_jdk_52_method_14_5) q) ?_
  show OEnds p e below _ T1 (mkF m 6 #[.val (.ref a), .val (.int (0 : Int32)), .val (.int (3 : Int32)), .val (.ref t), .unset] [(.int (0 : Int32))])
  refine OEnds.go (fun _ q => XS.istore X2.here X2.hx rfl (hb hby d_jdk_52_method_14_6) rfl (l' := #[.val (.ref a), .val (.int (0 : Int32)), .val (.int (3 : Int32)), .val (.ref t), .val (.int (0 : Int32))]) rfl q) ?_
  show OEnds p e below _ T1 (mkF m 8 #[.val (.ref a), .val (.int (0 : Int32)), .val (.int (3 : Int32)), .val (.ref t), .val (.int (0 : Int32))] [])
  refine OEnds.go (fun _ q => XS.iload X2.here X2.hx rfl (hb hby d_jdk_52_method_14_8) rfl q) ?_
  show OEnds p e below _ T1 (mkF m 10 #[.val (.ref a), .val (.int (0 : Int32)), .val (.int (3 : Int32)), .val (.ref t), .val (.int (0 : Int32))] [(.int (0 : Int32))])
  refine OEnds.go (fun _ q => XS.iloadN X2.here X2.hx rfl (hb hby d_jdk_52_method_14_10) rfl q) ?_
  show OEnds p e below _ T1 (mkF m 11 #[.val (.ref a), .val (.int (0 : Int32)), .val (.int (3 : Int32)), .val (.ref t), .val (.int (0 : Int32))] [(.int (3 : Int32)), (.int (0 : Int32))])
  refine OEnds.go (fun _ q => XS.icmpNo X2.here X2.hx rfl (hb hby d_jdk_52_method_14_11) rfl (tlt (by decide)).2.1 q) ?_
  show OEnds p e below _ T1 (mkF m 14 #[.val (.ref a), .val (.int (0 : Int32)), .val (.int (3 : Int32)), .val (.ref t), .val (.int (0 : Int32))] [])
  refine OEnds.go (fun _ q => XS.aloadN X2.here X2.hx rfl (hb hby d_jdk_52_method_14_14) rfl rfl q) ?_
  refine OEnds.go (fun _ q => XS.iload X2.here X2.hx rfl (hb hby d_jdk_52_method_14_15) rfl q) ?_
  show OEnds p e below _ T1 (mkF m 17 #[.val (.ref a), .val (.int (0 : Int32)), .val (.int (3 : Int32)), .val (.ref t), .val (.int (0 : Int32))] [(.int (0 : Int32)), (.ref t)])
  refine OEnds.go (fun _ q => XS.aloadN X2.here X2.hx rfl (hb hby d_jdk_52_method_14_17) rfl rfl q) ?_
  refine OEnds.go (fun _ q => XS.iloadN X2.here X2.hx rfl (hb hby d_jdk_52_method_14_18) rfl q) ?_
  show OEnds p e below _ T1 (mkF m 19 #[.val (.ref a), .val (.int (0 : Int32)), .val (.int (3 : Int32)), .val (.ref t), .val (.int (0 : Int32))] [(.int (0 : Int32)), (.ref a), (.int (0 : Int32)), (.ref t)])
  refine X2.cald Ka_h3 (by decide) (v := .int c0) rfl (hb hby d_jdk_52_method_14_19) ?_
  show OEnds p e below _ T1 (mkF m 20 #[.val (.ref a), .val (.int (0 : Int32)), .val (.int (3 : Int32)), .val (.ref t), .val (.int (0 : Int32))] [(.int c0), (.int (0 : Int32)), (.ref t)])
  refine X2.payS (ConN.back (W := 0) (con_put30 H t kb (0 : Int32) (0 : Int32) (0 : Int32) (0 : Int32) (0 : Int32) (0 : Int32) c0 gzt h3 Kt) X2.old X2.hZ (own_k hw 88 rfl) (own_k hw 43 rfl) (by decide) (by decide)) (okN (fun _ _ q => q.2.1.1)) (own_k hw 86 rfl) (own_k hw 87 rfl) (own_k hw 43 rfl) (own_k hw 88 rfl)  (by decide)  (argsL := [(.ref t), (.int (0 : Int32)), (.int c0)]) (rest := []) rfl (lenOf own_pd3 rfl) rfl (by rw [hml]; rfl) (Nat.le_of_eq rfl) (hb hby d_jdk_52_method_14_20) (by decide) (by decide) ?_
  intro v15 T10 h12 Lh12 X11 q16
  replace q16 := q16.1
  obtain ⟨rfl, Kq8, Aq9⟩ := q16
  have EBt_h12 := ext_keep Et Kq8 (allS (Nat.le_of_eq gt) all0)
  have Ka_h12 := Ka.ext EBt_h12
  have EX_h12 := ext_keep EX_h3 Kq8 (allS (Nat.le_trans EX0.1 (Nat.le_of_eq gt)) all0)
  show OEnds p e below _ T10 (mkF m 23 #[.val (.ref a), .val (.int (0 : Int32)), .val (.int (3 : Int32)), .val (.ref t), .val (.int (0 : Int32))] [])
  refine OEnds.go (fun _ q => XS.iinc X11.here X11.hx rfl (hb hby d_jdk_52_method_14_23) rfl (l' := #[.val (.ref a), .val (.int ((0 : Int32) + (1 : Int32))), .val (.int (3 : Int32)), .val (.ref t), .val (.int (0 : Int32))]) rfl q) ?_
  show OEnds p e below _ T10 (mkF m 26 #[.val (.ref a), .val (.int ((0 : Int32) + (1 : Int32))), .val (.int (3 : Int32)), .val (.ref t), .val (.int (0 : Int32))] [])
  rw [show ((0 : Int32) + (1 : Int32)) = (1 : Int32) from by decide]
  show OEnds p e below _ T10 (mkF m 26 #[.val (.ref a), .val (.int (1 : Int32)), .val (.int (3 : Int32)), .val (.ref t), .val (.int (0 : Int32))] [])
  refine OEnds.go (fun _ q => XS.iinc X11.here X11.hx rfl (hb hby d_jdk_52_method_14_26) rfl (l' := #[.val (.ref a), .val (.int (1 : Int32)), .val (.int (3 : Int32)), .val (.ref t), .val (.int ((0 : Int32) + (1 : Int32)))]) rfl q) ?_
  show OEnds p e below _ T10 (mkF m 29 #[.val (.ref a), .val (.int (1 : Int32)), .val (.int (3 : Int32)), .val (.ref t), .val (.int ((0 : Int32) + (1 : Int32)))] [])
  rw [show ((0 : Int32) + (1 : Int32)) = (1 : Int32) from by decide]
  show OEnds p e below _ T10 (mkF m 29 #[.val (.ref a), .val (.int (1 : Int32)), .val (.int (3 : Int32)), .val (.ref t), .val (.int (1 : Int32))] [])
  refine OEnds.go (fun _ q => XS.goto X11.here X11.hx rfl (pc0 := 29) (pc' := 8) rfl (hb hby d_jdk_52_method_14_29) (by decide) (by decide) q) ?_
  show OEnds p e below _ T10 (mkF m 8 #[.val (.ref a), .val (.int (1 : Int32)), .val (.int (3 : Int32)), .val (.ref t), .val (.int (1 : Int32))] [])
  refine OEnds.go (fun _ q => XS.iload X11.here X11.hx rfl (hb hby d_jdk_52_method_14_8) rfl q) ?_
  show OEnds p e below _ T10 (mkF m 10 #[.val (.ref a), .val (.int (1 : Int32)), .val (.int (3 : Int32)), .val (.ref t), .val (.int (1 : Int32))] [(.int (1 : Int32))])
  refine OEnds.go (fun _ q => XS.iloadN X11.here X11.hx rfl (hb hby d_jdk_52_method_14_10) rfl q) ?_
  show OEnds p e below _ T10 (mkF m 11 #[.val (.ref a), .val (.int (1 : Int32)), .val (.int (3 : Int32)), .val (.ref t), .val (.int (1 : Int32))] [(.int (3 : Int32)), (.int (1 : Int32))])
  refine OEnds.go (fun _ q => XS.icmpNo X11.here X11.hx rfl (hb hby d_jdk_52_method_14_11) rfl (tlt (by decide)).2.1 q) ?_
  show OEnds p e below _ T10 (mkF m 14 #[.val (.ref a), .val (.int (1 : Int32)), .val (.int (3 : Int32)), .val (.ref t), .val (.int (1 : Int32))] [])
  refine OEnds.go (fun _ q => XS.aloadN X11.here X11.hx rfl (hb hby d_jdk_52_method_14_14) rfl rfl q) ?_
  refine OEnds.go (fun _ q => XS.iload X11.here X11.hx rfl (hb hby d_jdk_52_method_14_15) rfl q) ?_
  show OEnds p e below _ T10 (mkF m 17 #[.val (.ref a), .val (.int (1 : Int32)), .val (.int (3 : Int32)), .val (.ref t), .val (.int (1 : Int32))] [(.int (1 : Int32)), (.ref t)])
  refine OEnds.go (fun _ q => XS.aloadN X11.here X11.hx rfl (hb hby d_jdk_52_method_14_17) rfl rfl q) ?_
  refine OEnds.go (fun _ q => XS.iloadN X11.here X11.hx rfl (hb hby d_jdk_52_method_14_18) rfl q) ?_
  show OEnds p e below _ T10 (mkF m 19 #[.val (.ref a), .val (.int (1 : Int32)), .val (.int (3 : Int32)), .val (.ref t), .val (.int (1 : Int32))] [(.int (1 : Int32)), (.ref a), (.int (1 : Int32)), (.ref t)])
  refine X11.cald Ka_h12 (by decide) (v := .int c1) rfl (hb hby d_jdk_52_method_14_19) ?_
  show OEnds p e below _ T10 (mkF m 20 #[.val (.ref a), .val (.int (1 : Int32)), .val (.int (3 : Int32)), .val (.ref t), .val (.int (1 : Int32))] [(.int c1), (.int (1 : Int32)), (.ref t)])
  refine X11.payS (ConN.back (W := 0) (con_put31 H t kb (own_lo c0) (own_hi c0) (0 : Int32) (0 : Int32) (0 : Int32) (0 : Int32) c1 gzt h12 Aq9) X11.old X11.hZ (own_k hw 88 rfl) (own_k hw 43 rfl) (by decide) (by decide)) (okN (fun _ _ q => q.2.1.1)) (own_k hw 86 rfl) (own_k hw 87 rfl) (own_k hw 43 rfl) (own_k hw 88 rfl)  (by decide)  (argsL := [(.ref t), (.int (1 : Int32)), (.int c1)]) (rest := []) rfl (lenOf own_pd3 rfl) rfl (by rw [hml]; rfl) (Nat.le_of_eq rfl) (hb hby d_jdk_52_method_14_20) (by decide) (by decide) ?_
  intro v24 T19 h21 Lh21 X20 q25
  replace q25 := q25.1
  obtain ⟨rfl, Kq17, Aq18⟩ := q25
  have EBt_h21 := ext_keep EBt_h12 Kq17 (allS (Nat.le_of_eq gt) all0)
  have Ka_h21 := Ka.ext EBt_h21
  have EX_h21 := ext_keep EX_h12 Kq17 (allS (Nat.le_trans EX0.1 (Nat.le_of_eq gt)) all0)
  show OEnds p e below _ T19 (mkF m 23 #[.val (.ref a), .val (.int (1 : Int32)), .val (.int (3 : Int32)), .val (.ref t), .val (.int (1 : Int32))] [])
  refine OEnds.go (fun _ q => XS.iinc X20.here X20.hx rfl (hb hby d_jdk_52_method_14_23) rfl (l' := #[.val (.ref a), .val (.int ((1 : Int32) + (1 : Int32))), .val (.int (3 : Int32)), .val (.ref t), .val (.int (1 : Int32))]) rfl q) ?_
  show OEnds p e below _ T19 (mkF m 26 #[.val (.ref a), .val (.int ((1 : Int32) + (1 : Int32))), .val (.int (3 : Int32)), .val (.ref t), .val (.int (1 : Int32))] [])
  rw [show ((1 : Int32) + (1 : Int32)) = (2 : Int32) from by decide]
  show OEnds p e below _ T19 (mkF m 26 #[.val (.ref a), .val (.int (2 : Int32)), .val (.int (3 : Int32)), .val (.ref t), .val (.int (1 : Int32))] [])
  refine OEnds.go (fun _ q => XS.iinc X20.here X20.hx rfl (hb hby d_jdk_52_method_14_26) rfl (l' := #[.val (.ref a), .val (.int (2 : Int32)), .val (.int (3 : Int32)), .val (.ref t), .val (.int ((1 : Int32) + (1 : Int32)))]) rfl q) ?_
  show OEnds p e below _ T19 (mkF m 29 #[.val (.ref a), .val (.int (2 : Int32)), .val (.int (3 : Int32)), .val (.ref t), .val (.int ((1 : Int32) + (1 : Int32)))] [])
  rw [show ((1 : Int32) + (1 : Int32)) = (2 : Int32) from by decide]
  show OEnds p e below _ T19 (mkF m 29 #[.val (.ref a), .val (.int (2 : Int32)), .val (.int (3 : Int32)), .val (.ref t), .val (.int (2 : Int32))] [])
  refine OEnds.go (fun _ q => XS.goto X20.here X20.hx rfl (pc0 := 29) (pc' := 8) rfl (hb hby d_jdk_52_method_14_29) (by decide) (by decide) q) ?_
  show OEnds p e below _ T19 (mkF m 8 #[.val (.ref a), .val (.int (2 : Int32)), .val (.int (3 : Int32)), .val (.ref t), .val (.int (2 : Int32))] [])
  refine OEnds.go (fun _ q => XS.iload X20.here X20.hx rfl (hb hby d_jdk_52_method_14_8) rfl q) ?_
  show OEnds p e below _ T19 (mkF m 10 #[.val (.ref a), .val (.int (2 : Int32)), .val (.int (3 : Int32)), .val (.ref t), .val (.int (2 : Int32))] [(.int (2 : Int32))])
  refine OEnds.go (fun _ q => XS.iloadN X20.here X20.hx rfl (hb hby d_jdk_52_method_14_10) rfl q) ?_
  show OEnds p e below _ T19 (mkF m 11 #[.val (.ref a), .val (.int (2 : Int32)), .val (.int (3 : Int32)), .val (.ref t), .val (.int (2 : Int32))] [(.int (3 : Int32)), (.int (2 : Int32))])
  refine OEnds.go (fun _ q => XS.icmpNo X20.here X20.hx rfl (hb hby d_jdk_52_method_14_11) rfl (tlt (by decide)).2.1 q) ?_
  show OEnds p e below _ T19 (mkF m 14 #[.val (.ref a), .val (.int (2 : Int32)), .val (.int (3 : Int32)), .val (.ref t), .val (.int (2 : Int32))] [])
  refine OEnds.go (fun _ q => XS.aloadN X20.here X20.hx rfl (hb hby d_jdk_52_method_14_14) rfl rfl q) ?_
  refine OEnds.go (fun _ q => XS.iload X20.here X20.hx rfl (hb hby d_jdk_52_method_14_15) rfl q) ?_
  show OEnds p e below _ T19 (mkF m 17 #[.val (.ref a), .val (.int (2 : Int32)), .val (.int (3 : Int32)), .val (.ref t), .val (.int (2 : Int32))] [(.int (2 : Int32)), (.ref t)])
  refine OEnds.go (fun _ q => XS.aloadN X20.here X20.hx rfl (hb hby d_jdk_52_method_14_17) rfl rfl q) ?_
  refine OEnds.go (fun _ q => XS.iloadN X20.here X20.hx rfl (hb hby d_jdk_52_method_14_18) rfl q) ?_
  show OEnds p e below _ T19 (mkF m 19 #[.val (.ref a), .val (.int (2 : Int32)), .val (.int (3 : Int32)), .val (.ref t), .val (.int (2 : Int32))] [(.int (2 : Int32)), (.ref a), (.int (2 : Int32)), (.ref t)])
  refine X20.cald Ka_h21 (by decide) (v := .int c2) rfl (hb hby d_jdk_52_method_14_19) ?_
  show OEnds p e below _ T19 (mkF m 20 #[.val (.ref a), .val (.int (2 : Int32)), .val (.int (3 : Int32)), .val (.ref t), .val (.int (2 : Int32))] [(.int c2), (.int (2 : Int32)), (.ref t)])
  refine X20.payS (ConN.back (W := 0) (con_put32 H t kb (own_lo c0) (own_hi c0) (own_lo c1) (own_hi c1) (0 : Int32) (0 : Int32) c2 gzt h21 Aq18) X20.old X20.hZ (own_k hw 88 rfl) (own_k hw 43 rfl) (by decide) (by decide)) (okN (fun _ _ q => q.2.1.1)) (own_k hw 86 rfl) (own_k hw 87 rfl) (own_k hw 43 rfl) (own_k hw 88 rfl)  (by decide)  (argsL := [(.ref t), (.int (2 : Int32)), (.int c2)]) (rest := []) rfl (lenOf own_pd3 rfl) rfl (by rw [hml]; rfl) (Nat.le_of_eq rfl) (hb hby d_jdk_52_method_14_20) (by decide) (by decide) ?_
  intro v33 T28 h30 Lh30 X29 q34
  replace q34 := q34.1
  obtain ⟨rfl, Kq26, Aq27⟩ := q34
  have EBt_h30 := ext_keep EBt_h21 Kq26 (allS (Nat.le_of_eq gt) all0)
  have Ka_h30 := Ka.ext EBt_h30
  have EX_h30 := ext_keep EX_h21 Kq26 (allS (Nat.le_trans EX0.1 (Nat.le_of_eq gt)) all0)
  show OEnds p e below _ T28 (mkF m 23 #[.val (.ref a), .val (.int (2 : Int32)), .val (.int (3 : Int32)), .val (.ref t), .val (.int (2 : Int32))] [])
  refine OEnds.go (fun _ q => XS.iinc X29.here X29.hx rfl (hb hby d_jdk_52_method_14_23) rfl (l' := #[.val (.ref a), .val (.int ((2 : Int32) + (1 : Int32))), .val (.int (3 : Int32)), .val (.ref t), .val (.int (2 : Int32))]) rfl q) ?_
  show OEnds p e below _ T28 (mkF m 26 #[.val (.ref a), .val (.int ((2 : Int32) + (1 : Int32))), .val (.int (3 : Int32)), .val (.ref t), .val (.int (2 : Int32))] [])
  rw [show ((2 : Int32) + (1 : Int32)) = (3 : Int32) from by decide]
  show OEnds p e below _ T28 (mkF m 26 #[.val (.ref a), .val (.int (3 : Int32)), .val (.int (3 : Int32)), .val (.ref t), .val (.int (2 : Int32))] [])
  refine OEnds.go (fun _ q => XS.iinc X29.here X29.hx rfl (hb hby d_jdk_52_method_14_26) rfl (l' := #[.val (.ref a), .val (.int (3 : Int32)), .val (.int (3 : Int32)), .val (.ref t), .val (.int ((2 : Int32) + (1 : Int32)))]) rfl q) ?_
  show OEnds p e below _ T28 (mkF m 29 #[.val (.ref a), .val (.int (3 : Int32)), .val (.int (3 : Int32)), .val (.ref t), .val (.int ((2 : Int32) + (1 : Int32)))] [])
  rw [show ((2 : Int32) + (1 : Int32)) = (3 : Int32) from by decide]
  show OEnds p e below _ T28 (mkF m 29 #[.val (.ref a), .val (.int (3 : Int32)), .val (.int (3 : Int32)), .val (.ref t), .val (.int (3 : Int32))] [])
  refine OEnds.go (fun _ q => XS.goto X29.here X29.hx rfl (pc0 := 29) (pc' := 8) rfl (hb hby d_jdk_52_method_14_29) (by decide) (by decide) q) ?_
  refine OEnds.go (fun _ q => XS.iload X29.here X29.hx rfl (hb hby d_jdk_52_method_14_8) rfl q) ?_
  show OEnds p e below _ T28 (mkF m 10 #[.val (.ref a), .val (.int (3 : Int32)), .val (.int (3 : Int32)), .val (.ref t), .val (.int (3 : Int32))] [(.int (3 : Int32))])
  refine OEnds.go (fun _ q => XS.iloadN X29.here X29.hx rfl (hb hby d_jdk_52_method_14_10) rfl q) ?_
  show OEnds p e below _ T28 (mkF m 11 #[.val (.ref a), .val (.int (3 : Int32)), .val (.int (3 : Int32)), .val (.ref t), .val (.int (3 : Int32))] [(.int (3 : Int32)), (.int (3 : Int32))])
  refine OEnds.go (fun _ q => XS.icmpYes X29.here X29.hx rfl (pc0 := 11) (pc' := 32) rfl (hb hby d_jdk_52_method_14_11) rfl (flt (by decide)).2.1 (by decide) (by decide) q) ?_
  show OEnds p e below _ T28 (mkF m 32 #[.val (.ref a), .val (.int (3 : Int32)), .val (.int (3 : Int32)), .val (.ref t), .val (.int (3 : Int32))] [])
  refine OEnds.go (fun _ q => XS.aloadN X29.here X29.hx rfl (hb hby d_jdk_52_method_14_32) rfl rfl q) ?_
  show OEnds p e below _ T28 (mkF m 33 #[.val (.ref a), .val (.int (3 : Int32)), .val (.int (3 : Int32)), .val (.ref t), .val (.int (3 : Int32))] [(.ref t)])
  exact X29.retRefN hlk rfl (t := (FieldType.array FieldType.byte)) rfl hret (hb hby d_jdk_52_method_14_33) (by decide) (by decide) ⟨t, kb, rfl, EX_h30, Aq27⟩
theorem con_get30 {l : Launch} {Z : State} {a0 : Array Value} {cz : Int32} {fm : Value} (H : Ctx Z a0 cz fm) (b : Addr) (kb : ClassId) (c0 c1 c2 : Int32) (hu : ¬ c0 < 0 ∧ ¬ (65535 : Int32) < c0) (h0 : Heap) (Kb : Arv Z h0 b kb .byte (6 : Int32) [.int (own_lo c0), .int (own_hi c0), .int (own_lo c1), .int (own_hi c1), .int (own_lo c2), .int (own_hi c2)] (.int (0 : Int32))) :
    ConN l Z (⟨"java/lang/StringUTF16", "getChar", "([BI)C"⟩ : MethodName) jdk_52_method_5_code 2 (some FieldType.char) [] ({ frames := 0, cells := 0, slots := 0, locals := 0 } : Room) #[(.ref b), (.int (0 : Int32))] h0 (fun r h => r = some (.int c0) ∧ h0 = h) := by
  obtain ⟨hw, hE, S0, hcz, S1, rf, hp0, hp1, hp2⟩ := id H
  refine ConN.of own_pf6 ?_
  intro p e s m below meth c T hby hml hret hlk hnm X0
  have EX0 := ext_refl h0
  refine OEnds.cast (own_ef5 m b (0 : Int32) ) ?_
  show OEnds p e below _ T (mkF m 0 #[.val (.ref b), .val (.int (0 : Int32))] [])
  refine X0.getS (own_k hw 89 rfl) Via.refl (hp0.ext X0.old) (hb hby d_jdk_52_method_5_0) ?_
  intro T1 X2
  show OEnds p e below _ T1 (mkF m 3 #[.val (.ref b), .val (.int (0 : Int32))] [(.int (1 : Int32))])
  refine OEnds.go (fun _ q => XS.ifYes X2.here X2.hx rfl (pc0 := 3) (pc' := 28) rfl (hb hby d_jdk_52_method_5_3) rfl ((if0 _ _).trans (feq (by decide)).2) (by decide) (by decide) q) ?_
  show OEnds p e below _ T1 (mkF m 28 #[.val (.ref b), .val (.int (0 : Int32))] [])
  refine OEnds.go (fun _ q => XS.iloadN X2.here X2.hx rfl (hb hby d_jdk_52_method_5_28) rfl q) ?_
  show OEnds p e below _ T1 (mkF m 29 #[.val (.ref b), .val (.int (0 : Int32))] [(.int (0 : Int32))])
  refine OEnds.go (fun _ q => XS.iconst X2.here X2.hx rfl (hb hby d_jdk_52_method_5_29) q) ?_
  show OEnds p e below _ T1 (mkF m 30 #[.val (.ref b), .val (.int (0 : Int32))] [(.int (1 : Int32)), (.int (0 : Int32))])
  refine OEnds.go (fun _ q => XS.ishl X2.here X2.hx rfl (hb hby d_jdk_52_method_5_30) rfl q) ?_
  show OEnds p e below _ T1 (mkF m 31 #[.val (.ref b), .val (.int (0 : Int32))] [(.int ((0 : Int32) <<< ((1 : Int32) &&& 31)))])
  rw [show ((0 : Int32) <<< ((1 : Int32) &&& 31)) = (0 : Int32) from by decide]
  show OEnds p e below _ T1 (mkF m 31 #[.val (.ref b), .val (.int (0 : Int32))] [(.int (0 : Int32))])
  refine OEnds.go (fun _ q => XS.istoreN X2.here X2.hx rfl (hb hby d_jdk_52_method_5_31) rfl (l' := #[.val (.ref b), .val (.int (0 : Int32))]) rfl q) ?_
  show OEnds p e below _ T1 (mkF m 32 #[.val (.ref b), .val (.int (0 : Int32))] [])
  refine OEnds.go (fun _ q => XS.aloadN X2.here X2.hx rfl (hb hby d_jdk_52_method_5_32) rfl rfl q) ?_
  show OEnds p e below _ T1 (mkF m 33 #[.val (.ref b), .val (.int (0 : Int32))] [(.ref b)])
  refine OEnds.go (fun _ q => XS.iloadN X2.here X2.hx rfl (hb hby d_jdk_52_method_5_33) rfl q) ?_
  show OEnds p e below _ T1 (mkF m 34 #[.val (.ref b), .val (.int (0 : Int32))] [(.int (0 : Int32)), (.ref b)])
  refine OEnds.go (fun _ q => XS.iinc X2.here X2.hx rfl (hb hby d_jdk_52_method_5_34) rfl (l' := #[.val (.ref b), .val (.int ((0 : Int32) + (1 : Int32)))]) rfl q) ?_
  show OEnds p e below _ T1 (mkF m 37 #[.val (.ref b), .val (.int ((0 : Int32) + (1 : Int32)))] [(.int (0 : Int32)), (.ref b)])
  rw [show ((0 : Int32) + (1 : Int32)) = (1 : Int32) from by decide]
  show OEnds p e below _ T1 (mkF m 37 #[.val (.ref b), .val (.int (1 : Int32))] [(.int (0 : Int32)), (.ref b)])
  refine X2.bald Kb (by decide) (v := .int (own_lo c0)) rfl (hb hby d_jdk_52_method_5_37) ?_
  show OEnds p e below _ T1 (mkF m 38 #[.val (.ref b), .val (.int (1 : Int32))] [(.int (own_lo c0))])
  refine OEnds.go (fun _ q => XS.sipush X2.here X2.hx rfl (hb hby d_jdk_52_method_5_38) q) ?_
  refine OEnds.go (fun _ q => XS.iand X2.here X2.hx rfl (hb hby d_jdk_52_method_5_41) rfl q) ?_
  show OEnds p e below _ T1 (mkF m 42 #[.val (.ref b), .val (.int (1 : Int32))] [(.int ((own_lo c0) &&& (255 : Int32)))])
  refine X2.getS (own_k hw 90 rfl) Via.refl (hp1.ext X2.old) (hb hby d_jdk_52_method_5_42) ?_
  intro T3 X4
  show OEnds p e below _ T3 (mkF m 45 #[.val (.ref b), .val (.int (1 : Int32))] [(.int (0 : Int32)), (.int ((own_lo c0) &&& (255 : Int32)))])
  refine OEnds.go (fun _ q => XS.ishl X4.here X4.hx rfl (hb hby d_jdk_52_method_5_45) rfl q) ?_
  refine OEnds.go (fun _ q => XS.aloadN X4.here X4.hx rfl (hb hby d_jdk_52_method_5_46) rfl rfl q) ?_
  show OEnds p e below _ T3 (mkF m 47 #[.val (.ref b), .val (.int (1 : Int32))] [(.ref b), (.int (((own_lo c0) &&& (255 : Int32)) <<< ((0 : Int32) &&& 31)))])
  refine OEnds.go (fun _ q => XS.iloadN X4.here X4.hx rfl (hb hby d_jdk_52_method_5_47) rfl q) ?_
  show OEnds p e below _ T3 (mkF m 48 #[.val (.ref b), .val (.int (1 : Int32))] [(.int (1 : Int32)), (.ref b), (.int (((own_lo c0) &&& (255 : Int32)) <<< ((0 : Int32) &&& 31)))])
  refine X4.bald Kb (by decide) (v := .int (own_hi c0)) rfl (hb hby d_jdk_52_method_5_48) ?_
  show OEnds p e below _ T3 (mkF m 49 #[.val (.ref b), .val (.int (1 : Int32))] [(.int (own_hi c0)), (.int (((own_lo c0) &&& (255 : Int32)) <<< ((0 : Int32) &&& 31)))])
  refine OEnds.go (fun _ q => XS.sipush X4.here X4.hx rfl (hb hby d_jdk_52_method_5_49) q) ?_
  refine OEnds.go (fun _ q => XS.iand X4.here X4.hx rfl (hb hby d_jdk_52_method_5_52) rfl q) ?_
  show OEnds p e below _ T3 (mkF m 53 #[.val (.ref b), .val (.int (1 : Int32))] [(.int ((own_hi c0) &&& (255 : Int32))), (.int (((own_lo c0) &&& (255 : Int32)) <<< ((0 : Int32) &&& 31)))])
  refine X4.getS (own_k hw 91 rfl) Via.refl (hp2.ext X4.old) (hb hby d_jdk_52_method_5_53) ?_
  intro T5 X6
  show OEnds p e below _ T5 (mkF m 56 #[.val (.ref b), .val (.int (1 : Int32))] [(.int (8 : Int32)), (.int ((own_hi c0) &&& (255 : Int32))), (.int (((own_lo c0) &&& (255 : Int32)) <<< ((0 : Int32) &&& 31)))])
  refine OEnds.go (fun _ q => XS.ishl X6.here X6.hx rfl (hb hby d_jdk_52_method_5_56) rfl q) ?_
  refine OEnds.go (fun _ q => XS.ior X6.here X6.hx rfl (hb hby d_jdk_52_method_5_57) rfl q) ?_
  show OEnds p e below _ T5 (mkF m 58 #[.val (.ref b), .val (.int (1 : Int32))] [(.int ((((own_lo c0) &&& (255 : Int32)) <<< ((0 : Int32) &&& 31)) ||| (((own_hi c0) &&& (255 : Int32)) <<< ((8 : Int32) &&& 31))))])
  refine OEnds.go (fun _ q => XS.i2c X6.here X6.hx rfl (hb hby d_jdk_52_method_5_58) rfl q) ?_
  show OEnds p e below _ T5 (mkF m 59 #[.val (.ref b), .val (.int (1 : Int32))] [(.int (((((own_lo c0) &&& (255 : Int32)) <<< ((0 : Int32) &&& 31)) ||| (((own_hi c0) &&& (255 : Int32)) <<< ((8 : Int32) &&& 31))).toUInt32.toUInt16.toUInt32.toInt32))])
  show OEnds p e below _ T5 (mkF m 59 #[.val (.ref b), .val (.int (1 : Int32))] [(.int (own_rd (own_lo c0) (own_hi c0)))])
  rw [own_round hu]
  show OEnds p e below _ T5 (mkF m 59 #[.val (.ref b), .val (.int (1 : Int32))] [(.int c0)])
  exact X6.retCharN hlk hu hret (hb hby d_jdk_52_method_5_59) (by decide) (by decide) ⟨rfl, rfl⟩
theorem con_get31 {l : Launch} {Z : State} {a0 : Array Value} {cz : Int32} {fm : Value} (H : Ctx Z a0 cz fm) (b : Addr) (kb : ClassId) (c0 c1 c2 : Int32) (hu : ¬ c1 < 0 ∧ ¬ (65535 : Int32) < c1) (h0 : Heap) (Kb : Arv Z h0 b kb .byte (6 : Int32) [.int (own_lo c0), .int (own_hi c0), .int (own_lo c1), .int (own_hi c1), .int (own_lo c2), .int (own_hi c2)] (.int (0 : Int32))) :
    ConN l Z (⟨"java/lang/StringUTF16", "getChar", "([BI)C"⟩ : MethodName) jdk_52_method_5_code 2 (some FieldType.char) [] ({ frames := 0, cells := 0, slots := 0, locals := 0 } : Room) #[(.ref b), (.int (1 : Int32))] h0 (fun r h => r = some (.int c1) ∧ h0 = h) := by
  obtain ⟨hw, hE, S0, hcz, S1, rf, hp0, hp1, hp2⟩ := id H
  refine ConN.of own_pf6 ?_
  intro p e s m below meth c T hby hml hret hlk hnm X0
  have EX0 := ext_refl h0
  refine OEnds.cast (own_ef5 m b (1 : Int32) ) ?_
  show OEnds p e below _ T (mkF m 0 #[.val (.ref b), .val (.int (1 : Int32))] [])
  refine X0.getS (own_k hw 89 rfl) Via.refl (hp0.ext X0.old) (hb hby d_jdk_52_method_5_0) ?_
  intro T1 X2
  show OEnds p e below _ T1 (mkF m 3 #[.val (.ref b), .val (.int (1 : Int32))] [(.int (1 : Int32))])
  refine OEnds.go (fun _ q => XS.ifYes X2.here X2.hx rfl (pc0 := 3) (pc' := 28) rfl (hb hby d_jdk_52_method_5_3) rfl ((if0 _ _).trans (feq (by decide)).2) (by decide) (by decide) q) ?_
  show OEnds p e below _ T1 (mkF m 28 #[.val (.ref b), .val (.int (1 : Int32))] [])
  refine OEnds.go (fun _ q => XS.iloadN X2.here X2.hx rfl (hb hby d_jdk_52_method_5_28) rfl q) ?_
  show OEnds p e below _ T1 (mkF m 29 #[.val (.ref b), .val (.int (1 : Int32))] [(.int (1 : Int32))])
  refine OEnds.go (fun _ q => XS.iconst X2.here X2.hx rfl (hb hby d_jdk_52_method_5_29) q) ?_
  show OEnds p e below _ T1 (mkF m 30 #[.val (.ref b), .val (.int (1 : Int32))] [(.int (1 : Int32)), (.int (1 : Int32))])
  refine OEnds.go (fun _ q => XS.ishl X2.here X2.hx rfl (hb hby d_jdk_52_method_5_30) rfl q) ?_
  show OEnds p e below _ T1 (mkF m 31 #[.val (.ref b), .val (.int (1 : Int32))] [(.int ((1 : Int32) <<< ((1 : Int32) &&& 31)))])
  rw [show ((1 : Int32) <<< ((1 : Int32) &&& 31)) = (2 : Int32) from by decide]
  show OEnds p e below _ T1 (mkF m 31 #[.val (.ref b), .val (.int (1 : Int32))] [(.int (2 : Int32))])
  refine OEnds.go (fun _ q => XS.istoreN X2.here X2.hx rfl (hb hby d_jdk_52_method_5_31) rfl (l' := #[.val (.ref b), .val (.int (2 : Int32))]) rfl q) ?_
  show OEnds p e below _ T1 (mkF m 32 #[.val (.ref b), .val (.int (2 : Int32))] [])
  refine OEnds.go (fun _ q => XS.aloadN X2.here X2.hx rfl (hb hby d_jdk_52_method_5_32) rfl rfl q) ?_
  show OEnds p e below _ T1 (mkF m 33 #[.val (.ref b), .val (.int (2 : Int32))] [(.ref b)])
  refine OEnds.go (fun _ q => XS.iloadN X2.here X2.hx rfl (hb hby d_jdk_52_method_5_33) rfl q) ?_
  show OEnds p e below _ T1 (mkF m 34 #[.val (.ref b), .val (.int (2 : Int32))] [(.int (2 : Int32)), (.ref b)])
  refine OEnds.go (fun _ q => XS.iinc X2.here X2.hx rfl (hb hby d_jdk_52_method_5_34) rfl (l' := #[.val (.ref b), .val (.int ((2 : Int32) + (1 : Int32)))]) rfl q) ?_
  show OEnds p e below _ T1 (mkF m 37 #[.val (.ref b), .val (.int ((2 : Int32) + (1 : Int32)))] [(.int (2 : Int32)), (.ref b)])
  rw [show ((2 : Int32) + (1 : Int32)) = (3 : Int32) from by decide]
  show OEnds p e below _ T1 (mkF m 37 #[.val (.ref b), .val (.int (3 : Int32))] [(.int (2 : Int32)), (.ref b)])
  refine X2.bald Kb (by decide) (v := .int (own_lo c1)) rfl (hb hby d_jdk_52_method_5_37) ?_
  show OEnds p e below _ T1 (mkF m 38 #[.val (.ref b), .val (.int (3 : Int32))] [(.int (own_lo c1))])
  refine OEnds.go (fun _ q => XS.sipush X2.here X2.hx rfl (hb hby d_jdk_52_method_5_38) q) ?_
  refine OEnds.go (fun _ q => XS.iand X2.here X2.hx rfl (hb hby d_jdk_52_method_5_41) rfl q) ?_
  show OEnds p e below _ T1 (mkF m 42 #[.val (.ref b), .val (.int (3 : Int32))] [(.int ((own_lo c1) &&& (255 : Int32)))])
  refine X2.getS (own_k hw 90 rfl) Via.refl (hp1.ext X2.old) (hb hby d_jdk_52_method_5_42) ?_
  intro T3 X4
  show OEnds p e below _ T3 (mkF m 45 #[.val (.ref b), .val (.int (3 : Int32))] [(.int (0 : Int32)), (.int ((own_lo c1) &&& (255 : Int32)))])
  refine OEnds.go (fun _ q => XS.ishl X4.here X4.hx rfl (hb hby d_jdk_52_method_5_45) rfl q) ?_
  refine OEnds.go (fun _ q => XS.aloadN X4.here X4.hx rfl (hb hby d_jdk_52_method_5_46) rfl rfl q) ?_
  show OEnds p e below _ T3 (mkF m 47 #[.val (.ref b), .val (.int (3 : Int32))] [(.ref b), (.int (((own_lo c1) &&& (255 : Int32)) <<< ((0 : Int32) &&& 31)))])
  refine OEnds.go (fun _ q => XS.iloadN X4.here X4.hx rfl (hb hby d_jdk_52_method_5_47) rfl q) ?_
  show OEnds p e below _ T3 (mkF m 48 #[.val (.ref b), .val (.int (3 : Int32))] [(.int (3 : Int32)), (.ref b), (.int (((own_lo c1) &&& (255 : Int32)) <<< ((0 : Int32) &&& 31)))])
  refine X4.bald Kb (by decide) (v := .int (own_hi c1)) rfl (hb hby d_jdk_52_method_5_48) ?_
  show OEnds p e below _ T3 (mkF m 49 #[.val (.ref b), .val (.int (3 : Int32))] [(.int (own_hi c1)), (.int (((own_lo c1) &&& (255 : Int32)) <<< ((0 : Int32) &&& 31)))])
  refine OEnds.go (fun _ q => XS.sipush X4.here X4.hx rfl (hb hby d_jdk_52_method_5_49) q) ?_
  refine OEnds.go (fun _ q => XS.iand X4.here X4.hx rfl (hb hby d_jdk_52_method_5_52) rfl q) ?_
  show OEnds p e below _ T3 (mkF m 53 #[.val (.ref b), .val (.int (3 : Int32))] [(.int ((own_hi c1) &&& (255 : Int32))), (.int (((own_lo c1) &&& (255 : Int32)) <<< ((0 : Int32) &&& 31)))])
  refine X4.getS (own_k hw 91 rfl) Via.refl (hp2.ext X4.old) (hb hby d_jdk_52_method_5_53) ?_
  intro T5 X6
  show OEnds p e below _ T5 (mkF m 56 #[.val (.ref b), .val (.int (3 : Int32))] [(.int (8 : Int32)), (.int ((own_hi c1) &&& (255 : Int32))), (.int (((own_lo c1) &&& (255 : Int32)) <<< ((0 : Int32) &&& 31)))])
  refine OEnds.go (fun _ q => XS.ishl X6.here X6.hx rfl (hb hby d_jdk_52_method_5_56) rfl q) ?_
  refine OEnds.go (fun _ q => XS.ior X6.here X6.hx rfl (hb hby d_jdk_52_method_5_57) rfl q) ?_
  show OEnds p e below _ T5 (mkF m 58 #[.val (.ref b), .val (.int (3 : Int32))] [(.int ((((own_lo c1) &&& (255 : Int32)) <<< ((0 : Int32) &&& 31)) ||| (((own_hi c1) &&& (255 : Int32)) <<< ((8 : Int32) &&& 31))))])
  refine OEnds.go (fun _ q => XS.i2c X6.here X6.hx rfl (hb hby d_jdk_52_method_5_58) rfl q) ?_
  show OEnds p e below _ T5 (mkF m 59 #[.val (.ref b), .val (.int (3 : Int32))] [(.int (((((own_lo c1) &&& (255 : Int32)) <<< ((0 : Int32) &&& 31)) ||| (((own_hi c1) &&& (255 : Int32)) <<< ((8 : Int32) &&& 31))).toUInt32.toUInt16.toUInt32.toInt32))])
  show OEnds p e below _ T5 (mkF m 59 #[.val (.ref b), .val (.int (3 : Int32))] [(.int (own_rd (own_lo c1) (own_hi c1)))])
  rw [own_round hu]
  show OEnds p e below _ T5 (mkF m 59 #[.val (.ref b), .val (.int (3 : Int32))] [(.int c1)])
  exact X6.retCharN hlk hu hret (hb hby d_jdk_52_method_5_59) (by decide) (by decide) ⟨rfl, rfl⟩
theorem con_get32 {l : Launch} {Z : State} {a0 : Array Value} {cz : Int32} {fm : Value} (H : Ctx Z a0 cz fm) (b : Addr) (kb : ClassId) (c0 c1 c2 : Int32) (hu : ¬ c2 < 0 ∧ ¬ (65535 : Int32) < c2) (h0 : Heap) (Kb : Arv Z h0 b kb .byte (6 : Int32) [.int (own_lo c0), .int (own_hi c0), .int (own_lo c1), .int (own_hi c1), .int (own_lo c2), .int (own_hi c2)] (.int (0 : Int32))) :
    ConN l Z (⟨"java/lang/StringUTF16", "getChar", "([BI)C"⟩ : MethodName) jdk_52_method_5_code 2 (some FieldType.char) [] ({ frames := 0, cells := 0, slots := 0, locals := 0 } : Room) #[(.ref b), (.int (2 : Int32))] h0 (fun r h => r = some (.int c2) ∧ h0 = h) := by
  obtain ⟨hw, hE, S0, hcz, S1, rf, hp0, hp1, hp2⟩ := id H
  refine ConN.of own_pf6 ?_
  intro p e s m below meth c T hby hml hret hlk hnm X0
  have EX0 := ext_refl h0
  refine OEnds.cast (own_ef5 m b (2 : Int32) ) ?_
  show OEnds p e below _ T (mkF m 0 #[.val (.ref b), .val (.int (2 : Int32))] [])
  refine X0.getS (own_k hw 89 rfl) Via.refl (hp0.ext X0.old) (hb hby d_jdk_52_method_5_0) ?_
  intro T1 X2
  show OEnds p e below _ T1 (mkF m 3 #[.val (.ref b), .val (.int (2 : Int32))] [(.int (1 : Int32))])
  refine OEnds.go (fun _ q => XS.ifYes X2.here X2.hx rfl (pc0 := 3) (pc' := 28) rfl (hb hby d_jdk_52_method_5_3) rfl ((if0 _ _).trans (feq (by decide)).2) (by decide) (by decide) q) ?_
  show OEnds p e below _ T1 (mkF m 28 #[.val (.ref b), .val (.int (2 : Int32))] [])
  refine OEnds.go (fun _ q => XS.iloadN X2.here X2.hx rfl (hb hby d_jdk_52_method_5_28) rfl q) ?_
  show OEnds p e below _ T1 (mkF m 29 #[.val (.ref b), .val (.int (2 : Int32))] [(.int (2 : Int32))])
  refine OEnds.go (fun _ q => XS.iconst X2.here X2.hx rfl (hb hby d_jdk_52_method_5_29) q) ?_
  show OEnds p e below _ T1 (mkF m 30 #[.val (.ref b), .val (.int (2 : Int32))] [(.int (1 : Int32)), (.int (2 : Int32))])
  refine OEnds.go (fun _ q => XS.ishl X2.here X2.hx rfl (hb hby d_jdk_52_method_5_30) rfl q) ?_
  show OEnds p e below _ T1 (mkF m 31 #[.val (.ref b), .val (.int (2 : Int32))] [(.int ((2 : Int32) <<< ((1 : Int32) &&& 31)))])
  rw [show ((2 : Int32) <<< ((1 : Int32) &&& 31)) = (4 : Int32) from by decide]
  show OEnds p e below _ T1 (mkF m 31 #[.val (.ref b), .val (.int (2 : Int32))] [(.int (4 : Int32))])
  refine OEnds.go (fun _ q => XS.istoreN X2.here X2.hx rfl (hb hby d_jdk_52_method_5_31) rfl (l' := #[.val (.ref b), .val (.int (4 : Int32))]) rfl q) ?_
  show OEnds p e below _ T1 (mkF m 32 #[.val (.ref b), .val (.int (4 : Int32))] [])
  refine OEnds.go (fun _ q => XS.aloadN X2.here X2.hx rfl (hb hby d_jdk_52_method_5_32) rfl rfl q) ?_
  show OEnds p e below _ T1 (mkF m 33 #[.val (.ref b), .val (.int (4 : Int32))] [(.ref b)])
  refine OEnds.go (fun _ q => XS.iloadN X2.here X2.hx rfl (hb hby d_jdk_52_method_5_33) rfl q) ?_
  show OEnds p e below _ T1 (mkF m 34 #[.val (.ref b), .val (.int (4 : Int32))] [(.int (4 : Int32)), (.ref b)])
  refine OEnds.go (fun _ q => XS.iinc X2.here X2.hx rfl (hb hby d_jdk_52_method_5_34) rfl (l' := #[.val (.ref b), .val (.int ((4 : Int32) + (1 : Int32)))]) rfl q) ?_
  show OEnds p e below _ T1 (mkF m 37 #[.val (.ref b), .val (.int ((4 : Int32) + (1 : Int32)))] [(.int (4 : Int32)), (.ref b)])
  rw [show ((4 : Int32) + (1 : Int32)) = (5 : Int32) from by decide]
  show OEnds p e below _ T1 (mkF m 37 #[.val (.ref b), .val (.int (5 : Int32))] [(.int (4 : Int32)), (.ref b)])
  refine X2.bald Kb (by decide) (v := .int (own_lo c2)) rfl (hb hby d_jdk_52_method_5_37) ?_
  show OEnds p e below _ T1 (mkF m 38 #[.val (.ref b), .val (.int (5 : Int32))] [(.int (own_lo c2))])
  refine OEnds.go (fun _ q => XS.sipush X2.here X2.hx rfl (hb hby d_jdk_52_method_5_38) q) ?_
  refine OEnds.go (fun _ q => XS.iand X2.here X2.hx rfl (hb hby d_jdk_52_method_5_41) rfl q) ?_
  show OEnds p e below _ T1 (mkF m 42 #[.val (.ref b), .val (.int (5 : Int32))] [(.int ((own_lo c2) &&& (255 : Int32)))])
  refine X2.getS (own_k hw 90 rfl) Via.refl (hp1.ext X2.old) (hb hby d_jdk_52_method_5_42) ?_
  intro T3 X4
  show OEnds p e below _ T3 (mkF m 45 #[.val (.ref b), .val (.int (5 : Int32))] [(.int (0 : Int32)), (.int ((own_lo c2) &&& (255 : Int32)))])
  refine OEnds.go (fun _ q => XS.ishl X4.here X4.hx rfl (hb hby d_jdk_52_method_5_45) rfl q) ?_
  refine OEnds.go (fun _ q => XS.aloadN X4.here X4.hx rfl (hb hby d_jdk_52_method_5_46) rfl rfl q) ?_
  show OEnds p e below _ T3 (mkF m 47 #[.val (.ref b), .val (.int (5 : Int32))] [(.ref b), (.int (((own_lo c2) &&& (255 : Int32)) <<< ((0 : Int32) &&& 31)))])
  refine OEnds.go (fun _ q => XS.iloadN X4.here X4.hx rfl (hb hby d_jdk_52_method_5_47) rfl q) ?_
  show OEnds p e below _ T3 (mkF m 48 #[.val (.ref b), .val (.int (5 : Int32))] [(.int (5 : Int32)), (.ref b), (.int (((own_lo c2) &&& (255 : Int32)) <<< ((0 : Int32) &&& 31)))])
  refine X4.bald Kb (by decide) (v := .int (own_hi c2)) rfl (hb hby d_jdk_52_method_5_48) ?_
  show OEnds p e below _ T3 (mkF m 49 #[.val (.ref b), .val (.int (5 : Int32))] [(.int (own_hi c2)), (.int (((own_lo c2) &&& (255 : Int32)) <<< ((0 : Int32) &&& 31)))])
  refine OEnds.go (fun _ q => XS.sipush X4.here X4.hx rfl (hb hby d_jdk_52_method_5_49) q) ?_
  refine OEnds.go (fun _ q => XS.iand X4.here X4.hx rfl (hb hby d_jdk_52_method_5_52) rfl q) ?_
  show OEnds p e below _ T3 (mkF m 53 #[.val (.ref b), .val (.int (5 : Int32))] [(.int ((own_hi c2) &&& (255 : Int32))), (.int (((own_lo c2) &&& (255 : Int32)) <<< ((0 : Int32) &&& 31)))])
  refine X4.getS (own_k hw 91 rfl) Via.refl (hp2.ext X4.old) (hb hby d_jdk_52_method_5_53) ?_
  intro T5 X6
  show OEnds p e below _ T5 (mkF m 56 #[.val (.ref b), .val (.int (5 : Int32))] [(.int (8 : Int32)), (.int ((own_hi c2) &&& (255 : Int32))), (.int (((own_lo c2) &&& (255 : Int32)) <<< ((0 : Int32) &&& 31)))])
  refine OEnds.go (fun _ q => XS.ishl X6.here X6.hx rfl (hb hby d_jdk_52_method_5_56) rfl q) ?_
  refine OEnds.go (fun _ q => XS.ior X6.here X6.hx rfl (hb hby d_jdk_52_method_5_57) rfl q) ?_
  show OEnds p e below _ T5 (mkF m 58 #[.val (.ref b), .val (.int (5 : Int32))] [(.int ((((own_lo c2) &&& (255 : Int32)) <<< ((0 : Int32) &&& 31)) ||| (((own_hi c2) &&& (255 : Int32)) <<< ((8 : Int32) &&& 31))))])
  refine OEnds.go (fun _ q => XS.i2c X6.here X6.hx rfl (hb hby d_jdk_52_method_5_58) rfl q) ?_
  show OEnds p e below _ T5 (mkF m 59 #[.val (.ref b), .val (.int (5 : Int32))] [(.int (((((own_lo c2) &&& (255 : Int32)) <<< ((0 : Int32) &&& 31)) ||| (((own_hi c2) &&& (255 : Int32)) <<< ((8 : Int32) &&& 31))).toUInt32.toUInt16.toUInt32.toInt32))])
  show OEnds p e below _ T5 (mkF m 59 #[.val (.ref b), .val (.int (5 : Int32))] [(.int (own_rd (own_lo c2) (own_hi c2)))])
  rw [own_round hu]
  show OEnds p e below _ T5 (mkF m 59 #[.val (.ref b), .val (.int (5 : Int32))] [(.int c2)])
  exact X6.retCharN hlk hu hret (hb hby d_jdk_52_method_5_59) (by decide) (by decide) ⟨rfl, rfl⟩
theorem con_cfa3 {l : Launch} {Z : State} {a0 : Array Value} {cz : Int32} {fm : Value} (H : Ctx Z a0 cz fm) (b : Addr) (kb : ClassId) (vs : List Value) (h0 : Heap) (Kb : Arv Z h0 b kb .byte (6 : Int32) vs (.int (0 : Int32))) :
    ConN l Z (⟨"java/lang/StringUTF16", "coderFromArrayLen", "([BI)B"⟩ : MethodName) jdk_52_method_15_code 2 (some FieldType.byte) [] ({ frames := 0, cells := 0, slots := 0, locals := 0 } : Room) #[(.ref b), (.int (3 : Int32))] h0 (fun r h => r = some (.int 1) ∧ h0 = h) := by
  obtain ⟨hw, hE, S0, hcz, S1, rf, hp0, hp1, hp2⟩ := id H
  refine ConN.of own_pf7 ?_
  intro p e s m below meth c T hby hml hret hlk hnm X0
  have EX0 := ext_refl h0
  refine OEnds.cast (own_ef5 m b (3 : Int32) ) ?_
  show OEnds p e below _ T (mkF m 0 #[.val (.ref b), .val (.int (3 : Int32))] [])
  refine OEnds.go (fun _ q => XS.iloadN X0.here X0.hx rfl (hb hby d_jdk_52_method_15_0) rfl q) ?_
  refine OEnds.go (fun _ q => XS.aloadN X0.here X0.hx rfl (hb hby d_jdk_52_method_15_1) rfl rfl q) ?_
  show OEnds p e below _ T (mkF m 2 #[.val (.ref b), .val (.int (3 : Int32))] [(.ref b), (.int (3 : Int32))])
  refine X0.alen Kb (hb hby d_jdk_52_method_15_2) ?_
  show OEnds p e below _ T (mkF m 3 #[.val (.ref b), .val (.int (3 : Int32))] [(.int (6 : Int32)), (.int (3 : Int32))])
  refine OEnds.go (fun _ q => XS.isub X0.here X0.hx rfl (hb hby d_jdk_52_method_15_3) rfl q) ?_
  refine OEnds.go (fun _ q => XS.bipush X0.here X0.hx rfl (hb hby d_jdk_52_method_15_4) q) ?_
  show OEnds p e below _ T (mkF m 6 #[.val (.ref b), .val (.int (3 : Int32))] [(.int (31 : Int32)), (.int ((3 : Int32) - (6 : Int32)))])
  refine OEnds.go (fun _ q => XS.iushr X0.here X0.hx rfl (hb hby d_jdk_52_method_15_6) rfl q) ?_
  refine OEnds.go (fun _ q => XS.i2b X0.here X0.hx rfl (hb hby d_jdk_52_method_15_7) rfl q) ?_
  show OEnds p e below _ T (mkF m 8 #[.val (.ref b), .val (.int (3 : Int32))] [(.int ((((3 : Int32) - (6 : Int32)).toUInt32 >>> ((31 : Int32) &&& 31).toUInt32).toInt32.toInt8.toInt32))])
  rw [show ((((3 : Int32) - (6 : Int32)).toUInt32 >>> ((31 : Int32) &&& 31).toUInt32).toInt32.toInt8.toInt32) = (1 : Int32) from by decide]
  show OEnds p e below _ T (mkF m 8 #[.val (.ref b), .val (.int (3 : Int32))] [(.int (1 : Int32))])
  exact X0.retByteN hlk rfl hret (hb hby d_jdk_52_method_15_8) (by decide) (by decide) ⟨rfl, rfl⟩
theorem con_ul3 {l : Launch} {Z : State} {a0 : Array Value} {cz : Int32} {fm : Value} (H : Ctx Z a0 cz fm) (b : Addr) (kb : ClassId) (vs : List Value) (h0 : Heap) (Kb : Arv Z h0 b kb .byte (6 : Int32) vs (.int (0 : Int32))) :
    ConN l Z (⟨"java/lang/StringUTF16", "length", "([B)I"⟩ : MethodName) jdk_52_method_6_code 1 (some FieldType.int) [] ({ frames := 0, cells := 0, slots := 0, locals := 0 } : Room) #[(.ref b)] h0 (fun r h => r = some (.int (3 : Int32)) ∧ h0 = h) := by
  obtain ⟨hw, hE, S0, hcz, S1, rf, hp0, hp1, hp2⟩ := id H
  refine ConN.of own_pf8 ?_
  intro p e s m below meth c T hby hml hret hlk hnm X0
  have EX0 := ext_refl h0
  refine OEnds.cast (own_ef6 m b ) ?_
  show OEnds p e below _ T (mkF m 0 #[.val (.ref b)] [])
  refine OEnds.go (fun _ q => XS.aloadN X0.here X0.hx rfl (hb hby d_jdk_52_method_6_0) rfl rfl q) ?_
  show OEnds p e below _ T (mkF m 1 #[.val (.ref b)] [(.ref b)])
  refine X0.alen Kb (hb hby d_jdk_52_method_6_1) ?_
  show OEnds p e below _ T (mkF m 2 #[.val (.ref b)] [(.int (6 : Int32))])
  refine OEnds.go (fun _ q => XS.iconst X0.here X0.hx rfl (hb hby d_jdk_52_method_6_2) q) ?_
  refine OEnds.go (fun _ q => XS.ishr X0.here X0.hx rfl (hb hby d_jdk_52_method_6_3) rfl q) ?_
  show OEnds p e below _ T (mkF m 4 #[.val (.ref b)] [(.int ((6 : Int32) >>> ((1 : Int32) &&& 31)))])
  rw [show ((6 : Int32) >>> ((1 : Int32) &&& 31)) = (3 : Int32) from by decide]
  show OEnds p e below _ T (mkF m 4 #[.val (.ref b)] [(.int (3 : Int32))])
  exact X0.retIntN hlk  hret (hb hby d_jdk_52_method_6_4) (by decide) (by decide) ⟨rfl, rfl⟩
theorem con_ci30 {l : Launch} {Z : State} {a0 : Array Value} {cz : Int32} {fm : Value} (H : Ctx Z a0 cz fm) (a d : Addr) (kc kd : ClassId) (c0 c1 c2 : Int32) (hk : (255 : Int32) < c0) (gzd : Z.heap.size ≤ d) (h0 : Heap) (Ka : Arv Z h0 a kc .char (3 : Int32) [.int c0, .int c1, .int c2] (.int (0 : Int32))) (Kd : Arv Z h0 d kd .byte (3 : Int32) [.int (0 : Int32), .int (0 : Int32), .int (0 : Int32)] (.int (0 : Int32))) :
    ConN l Z (⟨"java/lang/StringUTF16", "compress", "([CI[BII)I"⟩ : MethodName) jdk_52_method_21_code 7 (some FieldType.int) [] ({ frames := 0, cells := 0, slots := 0, locals := 0 } : Room) #[(.ref a), (.int (0 : Int32)), (.ref d), (.int (0 : Int32)), (.int (3 : Int32))] h0 (fun r h => r = some (.int (0 : Int32)) ∧ Keep h0 h [d]) := by
  obtain ⟨hw, hE, S0, hcz, S1, rf, hp0, hp1, hp2⟩ := id H
  refine ConN.of own_pf9 ?_
  intro p e s m below meth c T hby hml hret hlk hnm X0
  have EX0 := ext_refl h0
  refine OEnds.cast (own_ef7 m a (0 : Int32) d (0 : Int32) (3 : Int32) ) ?_
  show OEnds p e below _ T (mkF m 0 #[.val (.ref a), .val (.int (0 : Int32)), .val (.ref d), .val (.int (0 : Int32)), .val (.int (3 : Int32)), .unset, .unset] [])
  have K0 := Keep.refl h0 [d]
  have nad := arv_ne Ka Kd
  refine OEnds.go (fun _ q => XS.iconst X0.here X0.hx rfl (hb hby d_jdk_52_method_21_0) q) ?_
  refine OEnds.go (fun _ q => XS.istore X0.here X0.hx rfl (hb hby d_jdk_52_method_21_1) rfl (l' := #[.val (.ref a), .val (.int (0 : Int32)), .val (.ref d), .val (.int (0 : Int32)), .val (.int (3 : Int32)), .val (.int (0 : Int32)), .unset]) rfl q) ?_
  show OEnds p e below _ T (mkF m 3 #[.val (.ref a), .val (.int (0 : Int32)), .val (.ref d), .val (.int (0 : Int32)), .val (.int (3 : Int32)), .val (.int (0 : Int32)), .unset] [])
  refine OEnds.go (fun _ q => XS.iload X0.here X0.hx rfl (hb hby d_jdk_52_method_21_3) rfl q) ?_
  refine OEnds.go (fun _ q => XS.iload X0.here X0.hx rfl (hb hby d_jdk_52_method_21_5) rfl q) ?_
  show OEnds p e below _ T (mkF m 7 #[.val (.ref a), .val (.int (0 : Int32)), .val (.ref d), .val (.int (0 : Int32)), .val (.int (3 : Int32)), .val (.int (0 : Int32)), .unset] [(.int (3 : Int32)), (.int (0 : Int32))])
  refine OEnds.go (fun _ q => XS.icmpNo X0.here X0.hx rfl (hb hby d_jdk_52_method_21_7) rfl (tlt (by decide)).2.1 q) ?_
  show OEnds p e below _ T (mkF m 10 #[.val (.ref a), .val (.int (0 : Int32)), .val (.ref d), .val (.int (0 : Int32)), .val (.int (3 : Int32)), .val (.int (0 : Int32)), .unset] [])
  refine OEnds.go (fun _ q => XS.aloadN X0.here X0.hx rfl (hb hby d_jdk_52_method_21_10) rfl rfl q) ?_
  refine OEnds.go (fun _ q => XS.iloadN X0.here X0.hx rfl (hb hby d_jdk_52_method_21_11) rfl q) ?_
  show OEnds p e below _ T (mkF m 12 #[.val (.ref a), .val (.int (0 : Int32)), .val (.ref d), .val (.int (0 : Int32)), .val (.int (3 : Int32)), .val (.int (0 : Int32)), .unset] [(.int (0 : Int32)), (.ref a)])
  refine X0.cald Ka (by decide) (v := .int c0) rfl (hb hby d_jdk_52_method_21_12) ?_
  show OEnds p e below _ T (mkF m 13 #[.val (.ref a), .val (.int (0 : Int32)), .val (.ref d), .val (.int (0 : Int32)), .val (.int (3 : Int32)), .val (.int (0 : Int32)), .unset] [(.int c0)])
  refine OEnds.go (fun _ q => XS.istore X0.here X0.hx rfl (hb hby d_jdk_52_method_21_13) rfl (l' := #[.val (.ref a), .val (.int (0 : Int32)), .val (.ref d), .val (.int (0 : Int32)), .val (.int (3 : Int32)), .val (.int (0 : Int32)), .val (.int c0)]) rfl q) ?_
  refine OEnds.go (fun _ q => XS.iload X0.here X0.hx rfl (hb hby d_jdk_52_method_21_15) rfl q) ?_
  show OEnds p e below _ T (mkF m 17 #[.val (.ref a), .val (.int (0 : Int32)), .val (.ref d), .val (.int (0 : Int32)), .val (.int (3 : Int32)), .val (.int (0 : Int32)), .val (.int c0)] [(.int c0)])
  refine OEnds.go (fun _ q => XS.sipush X0.here X0.hx rfl (hb hby d_jdk_52_method_21_17) q) ?_
  show OEnds p e below _ T (mkF m 20 #[.val (.ref a), .val (.int (0 : Int32)), .val (.ref d), .val (.int (0 : Int32)), .val (.int (3 : Int32)), .val (.int (0 : Int32)), .val (.int c0)] [(.int (255 : Int32)), (.int c0)])
  refine OEnds.go (fun _ q => XS.icmpNo X0.here X0.hx rfl (hb hby d_jdk_52_method_21_20) rfl (tlt hk).2.2.2 q) ?_
  show OEnds p e below _ T (mkF m 23 #[.val (.ref a), .val (.int (0 : Int32)), .val (.ref d), .val (.int (0 : Int32)), .val (.int (3 : Int32)), .val (.int (0 : Int32)), .val (.int c0)] [])
  refine OEnds.go (fun _ q => XS.iload X0.here X0.hx rfl (hb hby d_jdk_52_method_21_23) rfl q) ?_
  show OEnds p e below _ T (mkF m 25 #[.val (.ref a), .val (.int (0 : Int32)), .val (.ref d), .val (.int (0 : Int32)), .val (.int (3 : Int32)), .val (.int (0 : Int32)), .val (.int c0)] [(.int (0 : Int32))])
  exact X0.retIntN hlk  hret (hb hby d_jdk_52_method_21_25) (by decide) (by decide) ⟨rfl, K0⟩
theorem con_co30 {l : Launch} {Z : State} {a0 : Array Value} {cz : Int32} {fm : Value} (H : Ctx Z a0 cz fm) (a : Addr) (kc : ClassId) (c0 c1 c2 : Int32) (hk : (255 : Int32) < c0) (hu : ¬ c0 < 0 ∧ ¬ (65535 : Int32) < c0) (h0 : Heap) (Ka : Arv Z h0 a kc .char (3 : Int32) [.int c0, .int c1, .int c2] (.int (0 : Int32))) :
    ConN l Z (⟨"java/lang/StringUTF16", "compress", "([CII)[B"⟩ : MethodName) jdk_52_method_16_code 6 (some (FieldType.array FieldType.byte)) [] ({ frames := 3, cells := 2, slots := 9, locals := 40 } : Room) #[(.ref a), (.int (0 : Int32)), (.int (3 : Int32))] h0 (fun r h => ∃ (t : Addr) (kb : ClassId), r = some (.ref t) ∧ Ext h0 h ∧ Arv Z h t kb .byte (6 : Int32) [.int (own_lo c0), .int (own_hi c0), .int (own_lo c1), .int (own_hi c1), .int (own_lo c2), .int (own_hi c2)] (.int (0 : Int32))) := by
  obtain ⟨hw, hE, S0, hcz, S1, rf, hp0, hp1, hp2⟩ := id H
  refine ConN.of own_pf10 ?_
  intro p e s m below meth c T hby hml hret hlk hnm X0
  have EX0 := ext_refl h0
  refine OEnds.cast (own_ef8 m a (0 : Int32) (3 : Int32) ) ?_
  show OEnds p e below _ T (mkF m 0 #[.val (.ref a), .val (.int (0 : Int32)), .val (.int (3 : Int32)), .unset, .unset, .unset] [])
  refine OEnds.go (fun _ q => XS.iloadN X0.here X0.hx rfl (hb hby d_jdk_52_method_16_0) rfl q) ?_
  show OEnds p e below _ T (mkF m 1 #[.val (.ref a), .val (.int (0 : Int32)), .val (.int (3 : Int32)), .unset, .unset, .unset] [(.int (3 : Int32))])
  refine X0.newP (own_k hw 19 rfl) (hb hby d_jdk_52_method_16_1) (by decide) (cap := 3) (by decide) (by decide) (by decide) (by decide) ?_
  intro T1 h3 a5 ka5 ga5 X2 E4 Ka5
  have gza5 : Z.heap.size ≤ a5 := ga5 ▸ X0.old.1
  have Ka_h3 := Ka.ext E4
  have EX_h3 := ext_trans EX0 E4
  have Ka5_0 : Arv Z h3 a5 ka5 .byte (3 : Int32) [.int (0 : Int32), .int (0 : Int32), .int (0 : Int32)] (.int (0 : Int32)) := Ka5.pad (pad_rep [] (.int (0 : Int32)) 3)
  show OEnds p e below _ T1 (mkF m 3 #[.val (.ref a), .val (.int (0 : Int32)), .val (.int (3 : Int32)), .unset, .unset, .unset] [(.ref a5)])
  refine OEnds.go (fun _ q => XS.astoreN X2.here X2.hx rfl (hb hby d_jdk_52_method_16_3) rfl rfl (l' := #[.val (.ref a), .val (.int (0 : Int32)), .val (.int (3 : Int32)), .val (.ref a5), .unset, .unset]) rfl q) ?_
  refine OEnds.go (fun _ q => XS.aloadN X2.here X2.hx rfl (hb hby d_jdk_52_method_16_4) rfl rfl q) ?_
  show OEnds p e below _ T1 (mkF m 5 #[.val (.ref a), .val (.int (0 : Int32)), .val (.int (3 : Int32)), .val (.ref a5), .unset, .unset] [(.ref a)])
  refine OEnds.go (fun _ q => XS.iloadN X2.here X2.hx rfl (hb hby d_jdk_52_method_16_5) rfl q) ?_
  refine OEnds.go (fun _ q => XS.aloadN X2.here X2.hx rfl (hb hby d_jdk_52_method_16_6) rfl rfl q) ?_
  show OEnds p e below _ T1 (mkF m 7 #[.val (.ref a), .val (.int (0 : Int32)), .val (.int (3 : Int32)), .val (.ref a5), .unset, .unset] [(.ref a5), (.int (0 : Int32)), (.ref a)])
  refine OEnds.go (fun _ q => XS.iconst X2.here X2.hx rfl (hb hby d_jdk_52_method_16_7) q) ?_
  refine OEnds.go (fun _ q => XS.iloadN X2.here X2.hx rfl (hb hby d_jdk_52_method_16_8) rfl q) ?_
  show OEnds p e below _ T1 (mkF m 9 #[.val (.ref a), .val (.int (0 : Int32)), .val (.int (3 : Int32)), .val (.ref a5), .unset, .unset] [(.int (3 : Int32)), (.int (0 : Int32)), (.ref a5), (.int (0 : Int32)), (.ref a)])
  refine X2.payS (ConN.back (W := 0) (con_ci30 H a a5 kc ka5 c0 c1 c2 hk gza5 h3 Ka_h3 Ka5_0) X2.old X2.hZ (own_k hw 47 rfl) (own_k hw 43 rfl) (by decide) (by decide)) (okN (fun _ _ q => q.2.1)) (own_k hw 45 rfl) (own_k hw 46 rfl) (own_k hw 43 rfl) (own_k hw 47 rfl)  (by decide)  (argsL := [(.ref a), (.int (0 : Int32)), (.ref a5), (.int (0 : Int32)), (.int (3 : Int32))]) (rest := []) rfl (lenOf own_pd4 rfl) rfl (by rw [hml]; rfl) (Nat.le_of_eq rfl) (hb hby d_jdk_52_method_16_9) (by decide) (by decide) ?_
  intro v12 T7 h9 Lh9 X8 q13
  replace q13 := q13.1
  obtain ⟨rfl, Kq6⟩ := q13
  have EBa5_h9 := ext_keep E4 Kq6 (allS (Nat.le_of_eq ga5) all0)
  have Ka_h9 := Ka.ext EBa5_h9
  have EX_h9 := ext_keep EX_h3 Kq6 (allS (Nat.le_trans EX0.1 (Nat.le_of_eq ga5)) all0)
  show OEnds p e below _ T7 (mkF m 12 #[.val (.ref a), .val (.int (0 : Int32)), .val (.int (3 : Int32)), .val (.ref a5), .unset, .unset] [(.int (0 : Int32))])
  refine OEnds.go (fun _ q => XS.istore X8.here X8.hx rfl (hb hby d_jdk_52_method_16_12) rfl (l' := #[.val (.ref a), .val (.int (0 : Int32)), .val (.int (3 : Int32)), .val (.ref a5), .val (.int (0 : Int32)), .unset]) rfl q) ?_
  refine OEnds.go (fun _ q => XS.iload X8.here X8.hx rfl (hb hby d_jdk_52_method_16_14) rfl q) ?_
  show OEnds p e below _ T7 (mkF m 16 #[.val (.ref a), .val (.int (0 : Int32)), .val (.int (3 : Int32)), .val (.ref a5), .val (.int (0 : Int32)), .unset] [(.int (0 : Int32))])
  refine OEnds.go (fun _ q => XS.iloadN X8.here X8.hx rfl (hb hby d_jdk_52_method_16_16) rfl q) ?_
  show OEnds p e below _ T7 (mkF m 17 #[.val (.ref a), .val (.int (0 : Int32)), .val (.int (3 : Int32)), .val (.ref a5), .val (.int (0 : Int32)), .unset] [(.int (3 : Int32)), (.int (0 : Int32))])
  refine OEnds.go (fun _ q => XS.icmpNo X8.here X8.hx rfl (hb hby d_jdk_52_method_16_17) rfl (feq (by decide)).1 q) ?_
  show OEnds p e below _ T7 (mkF m 20 #[.val (.ref a), .val (.int (0 : Int32)), .val (.int (3 : Int32)), .val (.ref a5), .val (.int (0 : Int32)), .unset] [])
  refine OEnds.go (fun _ q => XS.aloadN X8.here X8.hx rfl (hb hby d_jdk_52_method_16_20) rfl rfl q) ?_
  refine OEnds.go (fun _ q => XS.iloadN X8.here X8.hx rfl (hb hby d_jdk_52_method_16_21) rfl q) ?_
  show OEnds p e below _ T7 (mkF m 22 #[.val (.ref a), .val (.int (0 : Int32)), .val (.int (3 : Int32)), .val (.ref a5), .val (.int (0 : Int32)), .unset] [(.int (0 : Int32)), (.ref a)])
  refine OEnds.go (fun _ q => XS.iloadN X8.here X8.hx rfl (hb hby d_jdk_52_method_16_22) rfl q) ?_
  show OEnds p e below _ T7 (mkF m 23 #[.val (.ref a), .val (.int (0 : Int32)), .val (.int (3 : Int32)), .val (.ref a5), .val (.int (0 : Int32)), .unset] [(.int (3 : Int32)), (.int (0 : Int32)), (.ref a)])
  refine X8.payS (ConN.back (W := 0) (con_tob3 H a kc c0 c1 c2 h9 Ka_h9) X8.old X8.hZ (own_k hw 78 rfl) (own_k hw 43 rfl) (by decide) (by decide)) (okN (fun _ _ ⟨_, _, _, q, _⟩ => q.1)) (own_k hw 76 rfl) (own_k hw 77 rfl) (own_k hw 43 rfl) (own_k hw 78 rfl)  (by decide)  (argsL := [(.ref a), (.int (0 : Int32)), (.int (3 : Int32))]) (rest := []) rfl (lenOf own_pd5 rfl) rfl (by rw [hml]; rfl) (Nat.le_of_eq rfl) (hb hby d_jdk_52_method_16_23) (by decide) (by decide) ?_
  intro v19 T14 h16 Lh16 X15 q20
  replace q20 := q20.1
  obtain ⟨t, kb, rfl, Et, Kt⟩ := q20
  have Ka_h16 := Ka_h9.ext Et
  have EX_h16 := ext_trans EX_h9 Et
  show OEnds p e below _ T14 (mkF m 26 #[.val (.ref a), .val (.int (0 : Int32)), .val (.int (3 : Int32)), .val (.ref a5), .val (.int (0 : Int32)), .unset] [(.ref t)])
  refine OEnds.go (fun _ q => XS.astore X15.here X15.hx rfl (hb hby d_jdk_52_method_16_26) rfl rfl (l' := #[.val (.ref a), .val (.int (0 : Int32)), .val (.int (3 : Int32)), .val (.ref a5), .val (.int (0 : Int32)), .val (.ref t)]) rfl q) ?_
  refine OEnds.go (fun _ q => XS.aload X15.here X15.hx rfl (hb hby d_jdk_52_method_16_28) rfl rfl q) ?_
  show OEnds p e below _ T14 (mkF m 30 #[.val (.ref a), .val (.int (0 : Int32)), .val (.int (3 : Int32)), .val (.ref a5), .val (.int (0 : Int32)), .val (.ref t)] [(.ref t)])
  refine OEnds.go (fun _ q => XS.iload X15.here X15.hx rfl (hb hby d_jdk_52_method_16_30) rfl q) ?_
  show OEnds p e below _ T14 (mkF m 32 #[.val (.ref a), .val (.int (0 : Int32)), .val (.int (3 : Int32)), .val (.ref a5), .val (.int (0 : Int32)), .val (.ref t)] [(.int (0 : Int32)), (.ref t)])
  refine X15.payS (ConN.back (W := 0) (con_get30 H t kb c0 c1 c2 hu h16 Kt) X15.old X15.hZ (own_k hw 94 rfl) (own_k hw 43 rfl) (by decide) (by decide)) (okN (fun _ _ q => Nat.le_of_eq (congrArg Array.size q.2))) (own_k hw 92 rfl) (own_k hw 93 rfl) (own_k hw 43 rfl) (own_k hw 94 rfl)  (by decide)  (argsL := [(.ref t), (.int (0 : Int32))]) (rest := []) rfl (lenOf own_pd6 rfl) rfl (by rw [hml]; rfl) (Nat.le_of_eq rfl) (hb hby d_jdk_52_method_16_32) (by decide) (by decide) ?_
  intro v26 T21 h23 Lh23 X22 q27
  replace q27 := q27.1
  obtain ⟨rfl, rfl⟩ := q27
  show OEnds p e below _ T21 (mkF m 35 #[.val (.ref a), .val (.int (0 : Int32)), .val (.int (3 : Int32)), .val (.ref a5), .val (.int (0 : Int32)), .val (.ref t)] [(.int c0)])
  refine OEnds.go (fun _ q => XS.sipush X22.here X22.hx rfl (hb hby d_jdk_52_method_16_35) q) ?_
  show OEnds p e below _ T21 (mkF m 38 #[.val (.ref a), .val (.int (0 : Int32)), .val (.int (3 : Int32)), .val (.ref a5), .val (.int (0 : Int32)), .val (.ref t)] [(.int (255 : Int32)), (.int c0)])
  refine OEnds.go (fun _ q => XS.icmpYes X22.here X22.hx rfl (pc0 := 38) (pc' := 54) rfl (hb hby d_jdk_52_method_16_38) rfl (tlt hk).2.2.1 (by decide) (by decide) q) ?_
  show OEnds p e below _ T21 (mkF m 54 #[.val (.ref a), .val (.int (0 : Int32)), .val (.int (3 : Int32)), .val (.ref a5), .val (.int (0 : Int32)), .val (.ref t)] [])
  refine OEnds.go (fun _ q => XS.aload X22.here X22.hx rfl (hb hby d_jdk_52_method_16_54) rfl rfl q) ?_
  show OEnds p e below _ T21 (mkF m 56 #[.val (.ref a), .val (.int (0 : Int32)), .val (.int (3 : Int32)), .val (.ref a5), .val (.int (0 : Int32)), .val (.ref t)] [(.ref t)])
  exact X22.retRefN hlk rfl (t := (FieldType.array FieldType.byte)) rfl hret (hb hby d_jdk_52_method_16_56) (by decide) (by decide) ⟨t, kb, rfl, EX_h16, Kt⟩
theorem con_nv30 {l : Launch} {Z : State} {a0 : Array Value} {cz : Int32} {fm : Value} (H : Ctx Z a0 cz fm) (x a : Addr) (kc : ClassId) (c0 c1 c2 : Int32) (hk : (255 : Int32) < c0) (hu : ¬ c0 < 0 ∧ ¬ (65535 : Int32) < c0) (gzx : Z.heap.size ≤ x) (h0 : Heap) (Ex : Exa Z h0 x "java/lang/String") (Vx : Fld Z h0 x "java/lang/String" "value" "[B" .null) (Cx : Fld Z h0 x "java/lang/String" "coder" "B" (.int (0 : Int32))) (Ka : Arv Z h0 a kc .char (3 : Int32) [.int c0, .int c1, .int c2] (.int (0 : Int32))) :
    ConN l Z (⟨"java/lang/String", "<init>", "([CIILjava/lang/Void;)V"⟩ : MethodName) jdk_42_method_149_code 6 (none : Option FieldType) [] ({ frames := 4, cells := 2, slots := 9, locals := 57 } : Room) #[(.ref x), (.ref a), (.int (0 : Int32)), (.int (3 : Int32)), (.null)] h0 (fun r h => r = none ∧ Keep h0 h [x] ∧ OUtf3 Z h x c0 c1 c2) := by
  obtain ⟨hw, hE, S0, hcz, S1, rf, hp0, hp1, hp2⟩ := id H
  refine ConN.of own_pf0 ?_
  intro p e s m below meth c T hby hml hret hlk hnm X0
  have EX0 := ext_refl h0
  refine OEnds.cast (own_ef0 m x a (0 : Int32) (3 : Int32) ) ?_
  show OEnds p e below _ T (mkF m 0 #[.val (.ref x), .val (.ref a), .val (.int (0 : Int32)), .val (.int (3 : Int32)), .val (.null), .unset] [])
  have K0 := Keep.refl h0 [x]
  refine OEnds.go (fun _ q => XS.aloadN X0.here X0.hx rfl (hb hby d_jdk_42_method_149_0) rfl rfl q) ?_
  show OEnds p e below _ T (mkF m 1 #[.val (.ref x), .val (.ref a), .val (.int (0 : Int32)), .val (.int (3 : Int32)), .val (.null), .unset] [(.ref x)])
  refine X0.initO (own_k hw 15 rfl) (own_k hw 16 rfl) (own_k hw 17 rfl) (by rw [hml]; rfl) (hb hby d_jdk_42_method_149_1) (by decide) (W := 0) (Nat.le_of_eq rfl) (by decide) ?_
  intro T1 X2
  show OEnds p e below _ T1 (mkF m 4 #[.val (.ref x), .val (.ref a), .val (.int (0 : Int32)), .val (.int (3 : Int32)), .val (.null), .unset] [])
  refine OEnds.go (fun _ q => XS.iloadN X2.here X2.hx rfl (hb hby d_jdk_42_method_149_4) rfl q) ?_
  show OEnds p e below _ T1 (mkF m 5 #[.val (.ref x), .val (.ref a), .val (.int (0 : Int32)), .val (.int (3 : Int32)), .val (.null), .unset] [(.int (3 : Int32))])
  refine OEnds.go (fun _ q => XS.ifYes X2.here X2.hx rfl (pc0 := 5) (pc' := 27) rfl (hb hby d_jdk_42_method_149_5) rfl ((if0 _ _).trans (feq (by decide)).2) (by decide) (by decide) q) ?_
  show OEnds p e below _ T1 (mkF m 27 #[.val (.ref x), .val (.ref a), .val (.int (0 : Int32)), .val (.int (3 : Int32)), .val (.null), .unset] [])
  refine X2.getS (own_k hw 40 rfl) Via.refl (S0.ext X2.old) (hb hby d_jdk_42_method_149_27) ?_
  intro T3 X4
  show OEnds p e below _ T3 (mkF m 30 #[.val (.ref x), .val (.ref a), .val (.int (0 : Int32)), .val (.int (3 : Int32)), .val (.null), .unset] [(.int cz)])
  refine OEnds.go (fun _ q => XS.ifNo X4.here X4.hx rfl (hb hby d_jdk_42_method_149_30) rfl ((if0 _ _).trans (feq hcz).1) q) ?_
  show OEnds p e below _ T3 (mkF m 33 #[.val (.ref x), .val (.ref a), .val (.int (0 : Int32)), .val (.int (3 : Int32)), .val (.null), .unset] [])
  refine OEnds.go (fun _ q => XS.aloadN X4.here X4.hx rfl (hb hby d_jdk_42_method_149_33) rfl rfl q) ?_
  refine OEnds.go (fun _ q => XS.iloadN X4.here X4.hx rfl (hb hby d_jdk_42_method_149_34) rfl q) ?_
  show OEnds p e below _ T3 (mkF m 35 #[.val (.ref x), .val (.ref a), .val (.int (0 : Int32)), .val (.int (3 : Int32)), .val (.null), .unset] [(.int (0 : Int32)), (.ref a)])
  refine OEnds.go (fun _ q => XS.iloadN X4.here X4.hx rfl (hb hby d_jdk_42_method_149_35) rfl q) ?_
  show OEnds p e below _ T3 (mkF m 36 #[.val (.ref x), .val (.ref a), .val (.int (0 : Int32)), .val (.int (3 : Int32)), .val (.null), .unset] [(.int (3 : Int32)), (.int (0 : Int32)), (.ref a)])
  refine X4.payS (ConN.back (W := 0) (con_co30 H a kc c0 c1 c2 hk hu h0 Ka) X4.old X4.hZ (own_k hw 44 rfl) (own_k hw 43 rfl) (by decide) (by decide)) (okN (fun _ _ ⟨_, _, _, q, _⟩ => q.1)) (own_k hw 41 rfl) (own_k hw 42 rfl) (own_k hw 43 rfl) (own_k hw 44 rfl)  (by decide)  (argsL := [(.ref a), (.int (0 : Int32)), (.int (3 : Int32))]) (rest := []) rfl (lenOf own_pd5 rfl) rfl (by rw [hml]; rfl) (Nat.le_of_eq rfl) (hb hby d_jdk_42_method_149_36) (by decide) (by decide) ?_
  intro v10 T5 h7 Lh7 X6 q11
  replace q11 := q11.1
  obtain ⟨t, kb, rfl, Et, Kt⟩ := q11
  have Ex_h7 := Ex.ext Et
  have Vx_h7 := Vx.ext Et
  have Cx_h7 := Cx.ext Et
  have Ka_h7 := Ka.ext Et
  have EX_h7 := ext_trans EX0 Et
  have Kpx_h7 := K0.ext Et
  show OEnds p e below _ T5 (mkF m 39 #[.val (.ref x), .val (.ref a), .val (.int (0 : Int32)), .val (.int (3 : Int32)), .val (.null), .unset] [(.ref t)])
  have nxt : t ≠ x := fun q => Exa.neArv Ex_h7 Kt (own_k hw 5 rfl) q.symm
  refine OEnds.go (fun _ q => XS.astore X6.here X6.hx rfl (hb hby d_jdk_42_method_149_39) rfl rfl (l' := #[.val (.ref x), .val (.ref a), .val (.int (0 : Int32)), .val (.int (3 : Int32)), .val (.null), .val (.ref t)]) rfl q) ?_
  refine OEnds.go (fun _ q => XS.aloadN X6.here X6.hx rfl (hb hby d_jdk_42_method_149_41) rfl rfl q) ?_
  show OEnds p e below _ T5 (mkF m 42 #[.val (.ref x), .val (.ref a), .val (.int (0 : Int32)), .val (.int (3 : Int32)), .val (.null), .val (.ref t)] [(.ref x)])
  refine OEnds.go (fun _ q => XS.aload X6.here X6.hx rfl (hb hby d_jdk_42_method_149_42) rfl rfl q) ?_
  refine OEnds.go (fun _ q => XS.iloadN X6.here X6.hx rfl (hb hby d_jdk_42_method_149_44) rfl q) ?_
  show OEnds p e below _ T5 (mkF m 45 #[.val (.ref x), .val (.ref a), .val (.int (0 : Int32)), .val (.int (3 : Int32)), .val (.null), .val (.ref t)] [(.int (3 : Int32)), (.ref t), (.ref x)])
  refine X6.payS (ConN.back (W := 1) (con_cfa3 H t kb _ h7 Kt) X6.old X6.hZ (own_k hw 50 rfl) (own_k hw 43 rfl) (by decide) (by decide)) (okN (fun _ _ q => Nat.le_of_eq (congrArg Array.size q.2))) (own_k hw 48 rfl) (own_k hw 49 rfl) (own_k hw 43 rfl) (own_k hw 50 rfl)  (by decide)  (argsL := [(.ref t), (.int (3 : Int32))]) (rest := [(.ref x)]) rfl (lenOf own_pd7 rfl) rfl (by rw [hml]; rfl) (Nat.le_of_eq rfl) (hb hby d_jdk_42_method_149_45) (by decide) (by decide) ?_
  intro v17 T12 h14 Lh14 X13 q18
  replace q18 := q18.1
  obtain ⟨rfl, rfl⟩ := q18
  show OEnds p e below _ T12 (mkF m 48 #[.val (.ref x), .val (.ref a), .val (.int (0 : Int32)), .val (.int (3 : Int32)), .val (.null), .val (.ref t)] [(.int (1 : Int32)), (.ref x)])
  refine X13.putF (v := (.int (1 : Int32))) (own_k hw 25 rfl) Via.refl Cx_h7 Ex_h7 (Or.inr ⟨(own_k hw 21 rfl), rfl, hnm⟩) (own_k hw 5 rfl) (ty := FieldType.byte) (by decide) rfl rfl safe_nil gzx (hb hby d_jdk_42_method_149_48) ?_
  intro T19 h21 X20 W22
  have Cx_h21 := Cx_h7.same W22
  have Ex_h21 := Ex_h7.wr W22
  have Vx_h21 := Vx_h7.other W22 (Or.inr (slot_ne (a0 := a0) (Or.inr (own_k hw 20 rfl)) (Or.inr (own_k hw 21 rfl)) (by decide) (t := (FieldType.array FieldType.byte)) (by decide) (t' := FieldType.byte) (by decide)))
  have K23 := Kpx_h7.wr W22 (Or.inl (List.mem_of_getElem? (i := 0) rfl))
  have Kt_h21 := Kt.other W22 nxt
  show OEnds p e below _ T19 (mkF m 51 #[.val (.ref x), .val (.ref a), .val (.int (0 : Int32)), .val (.int (3 : Int32)), .val (.null), .val (.ref t)] [])
  refine OEnds.go (fun _ q => XS.aloadN X20.here X20.hx rfl (hb hby d_jdk_42_method_149_51) rfl rfl q) ?_
  refine OEnds.go (fun _ q => XS.aload X20.here X20.hx rfl (hb hby d_jdk_42_method_149_52) rfl rfl q) ?_
  show OEnds p e below _ T19 (mkF m 54 #[.val (.ref x), .val (.ref a), .val (.int (0 : Int32)), .val (.int (3 : Int32)), .val (.null), .val (.ref t)] [(.ref t), (.ref x)])
  refine X20.putF (v := (.ref t)) (own_k hw 24 rfl) Via.refl Vx_h21 Ex_h21 (Or.inr ⟨(own_k hw 20 rfl), rfl, hnm⟩) (own_k hw 5 rfl) (ty := (FieldType.array FieldType.byte)) (by decide) rfl rfl safe_nil gzx (hb hby d_jdk_42_method_149_54) ?_
  intro T24 h26 X25 W27
  have Vx_h26 := Vx_h21.same W27
  have Ex_h26 := Ex_h21.wr W27
  have Cx_h26 := Cx_h21.other W27 (Or.inr (slot_ne (a0 := a0) (Or.inr (own_k hw 21 rfl)) (Or.inr (own_k hw 20 rfl)) (by decide) (t := FieldType.byte) (by decide) (t' := (FieldType.array FieldType.byte)) (by decide)))
  have K28 := K23.wr W27 (Or.inl (List.mem_of_getElem? (i := 0) rfl))
  have Kt_h26 := Kt_h21.other W27 nxt
  show OEnds p e below _ T24 (mkF m 57 #[.val (.ref x), .val (.ref a), .val (.int (0 : Int32)), .val (.int (3 : Int32)), .val (.null), .val (.ref t)] [])
  exact X25.ret0N hlk  hret (hb hby d_jdk_42_method_149_57) (by decide) (by decide) ⟨rfl, K28, Ex_h26, Cx_h26, t, kb, Vx_h26, Kt_h26⟩
theorem con_nu30 {l : Launch} {Z : State} {a0 : Array Value} {cz : Int32} {fm : Value} (H : Ctx Z a0 cz fm) (x a : Addr) (kc : ClassId) (c0 c1 c2 : Int32) (hk : (255 : Int32) < c0) (hu : ¬ c0 < 0 ∧ ¬ (65535 : Int32) < c0) (gzx : Z.heap.size ≤ x) (h0 : Heap) (Ex : Exa Z h0 x "java/lang/String") (Vx : Fld Z h0 x "java/lang/String" "value" "[B" .null) (Cx : Fld Z h0 x "java/lang/String" "coder" "B" (.int (0 : Int32))) (Ka : Arv Z h0 a kc .char (3 : Int32) [.int c0, .int c1, .int c2] (.int (0 : Int32))) :
    ConN l Z (⟨"java/lang/String", "<init>", "([C)V"⟩ : MethodName) jdk_42_method_3_code 2 (none : Option FieldType) [] ({ frames := 5, cells := 2, slots := 9, locals := 74 } : Room) #[(.ref x), (.ref a)] h0 (fun r h => r = none ∧ Keep h0 h [x] ∧ OUtf3 Z h x c0 c1 c2) := by
  obtain ⟨hw, hE, S0, hcz, S1, rf, hp0, hp1, hp2⟩ := id H
  refine ConN.of own_pf1 ?_
  intro p e s m below meth c T hby hml hret hlk hnm X0
  have EX0 := ext_refl h0
  refine OEnds.cast (own_ef1 m x a ) ?_
  show OEnds p e below _ T (mkF m 0 #[.val (.ref x), .val (.ref a)] [])
  refine OEnds.go (fun _ q => XS.aloadN X0.here X0.hx rfl (hb hby d_jdk_42_method_3_0) rfl rfl q) ?_
  refine OEnds.go (fun _ q => XS.aloadN X0.here X0.hx rfl (hb hby d_jdk_42_method_3_1) rfl rfl q) ?_
  show OEnds p e below _ T (mkF m 2 #[.val (.ref x), .val (.ref a)] [(.ref a), (.ref x)])
  refine OEnds.go (fun _ q => XS.iconst X0.here X0.hx rfl (hb hby d_jdk_42_method_3_2) q) ?_
  refine OEnds.go (fun _ q => XS.aloadN X0.here X0.hx rfl (hb hby d_jdk_42_method_3_3) rfl rfl q) ?_
  show OEnds p e below _ T (mkF m 4 #[.val (.ref x), .val (.ref a)] [(.ref a), (.int (0 : Int32)), (.ref a), (.ref x)])
  refine X0.alen Ka (hb hby d_jdk_42_method_3_4) ?_
  show OEnds p e below _ T (mkF m 5 #[.val (.ref x), .val (.ref a)] [(.int (3 : Int32)), (.int (0 : Int32)), (.ref a), (.ref x)])
  refine OEnds.go (fun _ q => XS.aconstNull X0.here X0.hx rfl (hb hby d_jdk_42_method_3_5) q) ?_
  show OEnds p e below _ T (mkF m 6 #[.val (.ref x), .val (.ref a)] [(.null), (.int (3 : Int32)), (.int (0 : Int32)), (.ref a), (.ref x)])
  refine X0.payI (ConN.back (W := 0) (con_nv30 H x a kc c0 c1 c2 hk hu gzx h0 Ex Vx Cx Ka) X0.old X0.hZ (own_k hw 14 rfl) (own_k hw 6 rfl) (by decide) (by decide)) (okN (fun _ _ q => q.2.1.1)) (own_k hw 11 rfl) (own_k hw 12 rfl)  (own_k hw 14 rfl) rfl (by decide)  (a := x) (argsL := [(.ref a), (.int (0 : Int32)), (.int (3 : Int32)), (.null)]) (rest := []) rfl (lenOf own_pd0 rfl) rfl (by rw [hml]; rfl) (Nat.le_of_eq rfl) (hb hby d_jdk_42_method_3_6) (by decide) (by decide) ?_
  intro v6 T1 h3 Lh3 X2 q7
  replace q7 := q7.1
  obtain ⟨rfl, Kq, Uq⟩ := q7
  show OEnds p e below _ T1 (mkF m 9 #[.val (.ref x), .val (.ref a)] [])
  exact X2.ret0N hlk  hret (hb hby d_jdk_42_method_3_9) (by decide) (by decide) ⟨rfl, Kq, Uq⟩
theorem con_ci31 {l : Launch} {Z : State} {a0 : Array Value} {cz : Int32} {fm : Value} (H : Ctx Z a0 cz fm) (a d : Addr) (kc kd : ClassId) (c0 c1 c2 : Int32) (hl0 : ¬ (255 : Int32) < c0) (hk : (255 : Int32) < c1) (gzd : Z.heap.size ≤ d) (h0 : Heap) (Ka : Arv Z h0 a kc .char (3 : Int32) [.int c0, .int c1, .int c2] (.int (0 : Int32))) (Kd : Arv Z h0 d kd .byte (3 : Int32) [.int (0 : Int32), .int (0 : Int32), .int (0 : Int32)] (.int (0 : Int32))) :
    ConN l Z (⟨"java/lang/StringUTF16", "compress", "([CI[BII)I"⟩ : MethodName) jdk_52_method_21_code 7 (some FieldType.int) [] ({ frames := 0, cells := 0, slots := 0, locals := 0 } : Room) #[(.ref a), (.int (0 : Int32)), (.ref d), (.int (0 : Int32)), (.int (3 : Int32))] h0 (fun r h => r = some (.int (1 : Int32)) ∧ Keep h0 h [d]) := by
  obtain ⟨hw, hE, S0, hcz, S1, rf, hp0, hp1, hp2⟩ := id H
  refine ConN.of own_pf9 ?_
  intro p e s m below meth c T hby hml hret hlk hnm X0
  have EX0 := ext_refl h0
  refine OEnds.cast (own_ef7 m a (0 : Int32) d (0 : Int32) (3 : Int32) ) ?_
  show OEnds p e below _ T (mkF m 0 #[.val (.ref a), .val (.int (0 : Int32)), .val (.ref d), .val (.int (0 : Int32)), .val (.int (3 : Int32)), .unset, .unset] [])
  have K0 := Keep.refl h0 [d]
  have nad := arv_ne Ka Kd
  refine OEnds.go (fun _ q => XS.iconst X0.here X0.hx rfl (hb hby d_jdk_52_method_21_0) q) ?_
  refine OEnds.go (fun _ q => XS.istore X0.here X0.hx rfl (hb hby d_jdk_52_method_21_1) rfl (l' := #[.val (.ref a), .val (.int (0 : Int32)), .val (.ref d), .val (.int (0 : Int32)), .val (.int (3 : Int32)), .val (.int (0 : Int32)), .unset]) rfl q) ?_
  show OEnds p e below _ T (mkF m 3 #[.val (.ref a), .val (.int (0 : Int32)), .val (.ref d), .val (.int (0 : Int32)), .val (.int (3 : Int32)), .val (.int (0 : Int32)), .unset] [])
  refine OEnds.go (fun _ q => XS.iload X0.here X0.hx rfl (hb hby d_jdk_52_method_21_3) rfl q) ?_
  refine OEnds.go (fun _ q => XS.iload X0.here X0.hx rfl (hb hby d_jdk_52_method_21_5) rfl q) ?_
  show OEnds p e below _ T (mkF m 7 #[.val (.ref a), .val (.int (0 : Int32)), .val (.ref d), .val (.int (0 : Int32)), .val (.int (3 : Int32)), .val (.int (0 : Int32)), .unset] [(.int (3 : Int32)), (.int (0 : Int32))])
  refine OEnds.go (fun _ q => XS.icmpNo X0.here X0.hx rfl (hb hby d_jdk_52_method_21_7) rfl (tlt (by decide)).2.1 q) ?_
  show OEnds p e below _ T (mkF m 10 #[.val (.ref a), .val (.int (0 : Int32)), .val (.ref d), .val (.int (0 : Int32)), .val (.int (3 : Int32)), .val (.int (0 : Int32)), .unset] [])
  refine OEnds.go (fun _ q => XS.aloadN X0.here X0.hx rfl (hb hby d_jdk_52_method_21_10) rfl rfl q) ?_
  refine OEnds.go (fun _ q => XS.iloadN X0.here X0.hx rfl (hb hby d_jdk_52_method_21_11) rfl q) ?_
  show OEnds p e below _ T (mkF m 12 #[.val (.ref a), .val (.int (0 : Int32)), .val (.ref d), .val (.int (0 : Int32)), .val (.int (3 : Int32)), .val (.int (0 : Int32)), .unset] [(.int (0 : Int32)), (.ref a)])
  refine X0.cald Ka (by decide) (v := .int c0) rfl (hb hby d_jdk_52_method_21_12) ?_
  show OEnds p e below _ T (mkF m 13 #[.val (.ref a), .val (.int (0 : Int32)), .val (.ref d), .val (.int (0 : Int32)), .val (.int (3 : Int32)), .val (.int (0 : Int32)), .unset] [(.int c0)])
  refine OEnds.go (fun _ q => XS.istore X0.here X0.hx rfl (hb hby d_jdk_52_method_21_13) rfl (l' := #[.val (.ref a), .val (.int (0 : Int32)), .val (.ref d), .val (.int (0 : Int32)), .val (.int (3 : Int32)), .val (.int (0 : Int32)), .val (.int c0)]) rfl q) ?_
  refine OEnds.go (fun _ q => XS.iload X0.here X0.hx rfl (hb hby d_jdk_52_method_21_15) rfl q) ?_
  show OEnds p e below _ T (mkF m 17 #[.val (.ref a), .val (.int (0 : Int32)), .val (.ref d), .val (.int (0 : Int32)), .val (.int (3 : Int32)), .val (.int (0 : Int32)), .val (.int c0)] [(.int c0)])
  refine OEnds.go (fun _ q => XS.sipush X0.here X0.hx rfl (hb hby d_jdk_52_method_21_17) q) ?_
  show OEnds p e below _ T (mkF m 20 #[.val (.ref a), .val (.int (0 : Int32)), .val (.ref d), .val (.int (0 : Int32)), .val (.int (3 : Int32)), .val (.int (0 : Int32)), .val (.int c0)] [(.int (255 : Int32)), (.int c0)])
  refine OEnds.go (fun _ q => XS.icmpYes X0.here X0.hx rfl (pc0 := 20) (pc' := 26) rfl (hb hby d_jdk_52_method_21_20) rfl (flt hl0).2.2.2 (by decide) (by decide) q) ?_
  show OEnds p e below _ T (mkF m 26 #[.val (.ref a), .val (.int (0 : Int32)), .val (.ref d), .val (.int (0 : Int32)), .val (.int (3 : Int32)), .val (.int (0 : Int32)), .val (.int c0)] [])
  refine OEnds.go (fun _ q => XS.aloadN X0.here X0.hx rfl (hb hby d_jdk_52_method_21_26) rfl rfl q) ?_
  refine OEnds.go (fun _ q => XS.iloadN X0.here X0.hx rfl (hb hby d_jdk_52_method_21_27) rfl q) ?_
  show OEnds p e below _ T (mkF m 28 #[.val (.ref a), .val (.int (0 : Int32)), .val (.ref d), .val (.int (0 : Int32)), .val (.int (3 : Int32)), .val (.int (0 : Int32)), .val (.int c0)] [(.int (0 : Int32)), (.ref d)])
  refine OEnds.go (fun _ q => XS.iload X0.here X0.hx rfl (hb hby d_jdk_52_method_21_28) rfl q) ?_
  refine OEnds.go (fun _ q => XS.i2b X0.here X0.hx rfl (hb hby d_jdk_52_method_21_30) rfl q) ?_
  show OEnds p e below _ T (mkF m 31 #[.val (.ref a), .val (.int (0 : Int32)), .val (.ref d), .val (.int (0 : Int32)), .val (.int (3 : Int32)), .val (.int (0 : Int32)), .val (.int c0)] [(.int (c0.toInt8.toInt32)), (.int (0 : Int32)), (.ref d)])
  refine X0.stB Kd safe_nil (by decide) (i := 0) rfl (Nat.le_of_ble_eq_true rfl) gzd (hb hby d_jdk_52_method_21_31) ?_
  intro T1 h3 X2 W4 Kd_h3x
  have Kd_h3 : Arv Z h3 d kd .byte (3 : Int32) [.int (c0.toInt8.toInt32).toInt8.toInt32, .int (0 : Int32), .int (0 : Int32)] (.int (0 : Int32)) := Kd_h3x
  have K5 := K0.wr W4 (Or.inl (List.mem_of_getElem? (i := 0) rfl))
  have Ka_h3 := Ka.other W4 nad
  show OEnds p e below _ T1 (mkF m 32 #[.val (.ref a), .val (.int (0 : Int32)), .val (.ref d), .val (.int (0 : Int32)), .val (.int (3 : Int32)), .val (.int (0 : Int32)), .val (.int c0)] [])
  refine OEnds.go (fun _ q => XS.iinc X2.here X2.hx rfl (hb hby d_jdk_52_method_21_32) rfl (l' := #[.val (.ref a), .val (.int ((0 : Int32) + (1 : Int32))), .val (.ref d), .val (.int (0 : Int32)), .val (.int (3 : Int32)), .val (.int (0 : Int32)), .val (.int c0)]) rfl q) ?_
  show OEnds p e below _ T1 (mkF m 35 #[.val (.ref a), .val (.int ((0 : Int32) + (1 : Int32))), .val (.ref d), .val (.int (0 : Int32)), .val (.int (3 : Int32)), .val (.int (0 : Int32)), .val (.int c0)] [])
  rw [show ((0 : Int32) + (1 : Int32)) = (1 : Int32) from by decide]
  show OEnds p e below _ T1 (mkF m 35 #[.val (.ref a), .val (.int (1 : Int32)), .val (.ref d), .val (.int (0 : Int32)), .val (.int (3 : Int32)), .val (.int (0 : Int32)), .val (.int c0)] [])
  refine OEnds.go (fun _ q => XS.iinc X2.here X2.hx rfl (hb hby d_jdk_52_method_21_35) rfl (l' := #[.val (.ref a), .val (.int (1 : Int32)), .val (.ref d), .val (.int ((0 : Int32) + (1 : Int32))), .val (.int (3 : Int32)), .val (.int (0 : Int32)), .val (.int c0)]) rfl q) ?_
  show OEnds p e below _ T1 (mkF m 38 #[.val (.ref a), .val (.int (1 : Int32)), .val (.ref d), .val (.int ((0 : Int32) + (1 : Int32))), .val (.int (3 : Int32)), .val (.int (0 : Int32)), .val (.int c0)] [])
  rw [show ((0 : Int32) + (1 : Int32)) = (1 : Int32) from by decide]
  show OEnds p e below _ T1 (mkF m 38 #[.val (.ref a), .val (.int (1 : Int32)), .val (.ref d), .val (.int (1 : Int32)), .val (.int (3 : Int32)), .val (.int (0 : Int32)), .val (.int c0)] [])
  refine OEnds.go (fun _ q => XS.iinc X2.here X2.hx rfl (hb hby d_jdk_52_method_21_38) rfl (l' := #[.val (.ref a), .val (.int (1 : Int32)), .val (.ref d), .val (.int (1 : Int32)), .val (.int (3 : Int32)), .val (.int ((0 : Int32) + (1 : Int32))), .val (.int c0)]) rfl q) ?_
  show OEnds p e below _ T1 (mkF m 41 #[.val (.ref a), .val (.int (1 : Int32)), .val (.ref d), .val (.int (1 : Int32)), .val (.int (3 : Int32)), .val (.int ((0 : Int32) + (1 : Int32))), .val (.int c0)] [])
  rw [show ((0 : Int32) + (1 : Int32)) = (1 : Int32) from by decide]
  show OEnds p e below _ T1 (mkF m 41 #[.val (.ref a), .val (.int (1 : Int32)), .val (.ref d), .val (.int (1 : Int32)), .val (.int (3 : Int32)), .val (.int (1 : Int32)), .val (.int c0)] [])
  refine OEnds.go (fun _ q => XS.goto X2.here X2.hx rfl (pc0 := 41) (pc' := 3) rfl (hb hby d_jdk_52_method_21_41) (by decide) (by decide) q) ?_
  refine OEnds.go (fun _ q => XS.iload X2.here X2.hx rfl (hb hby d_jdk_52_method_21_3) rfl q) ?_
  show OEnds p e below _ T1 (mkF m 5 #[.val (.ref a), .val (.int (1 : Int32)), .val (.ref d), .val (.int (1 : Int32)), .val (.int (3 : Int32)), .val (.int (1 : Int32)), .val (.int c0)] [(.int (1 : Int32))])
  refine OEnds.go (fun _ q => XS.iload X2.here X2.hx rfl (hb hby d_jdk_52_method_21_5) rfl q) ?_
  show OEnds p e below _ T1 (mkF m 7 #[.val (.ref a), .val (.int (1 : Int32)), .val (.ref d), .val (.int (1 : Int32)), .val (.int (3 : Int32)), .val (.int (1 : Int32)), .val (.int c0)] [(.int (3 : Int32)), (.int (1 : Int32))])
  refine OEnds.go (fun _ q => XS.icmpNo X2.here X2.hx rfl (hb hby d_jdk_52_method_21_7) rfl (tlt (by decide)).2.1 q) ?_
  show OEnds p e below _ T1 (mkF m 10 #[.val (.ref a), .val (.int (1 : Int32)), .val (.ref d), .val (.int (1 : Int32)), .val (.int (3 : Int32)), .val (.int (1 : Int32)), .val (.int c0)] [])
  refine OEnds.go (fun _ q => XS.aloadN X2.here X2.hx rfl (hb hby d_jdk_52_method_21_10) rfl rfl q) ?_
  refine OEnds.go (fun _ q => XS.iloadN X2.here X2.hx rfl (hb hby d_jdk_52_method_21_11) rfl q) ?_
  show OEnds p e below _ T1 (mkF m 12 #[.val (.ref a), .val (.int (1 : Int32)), .val (.ref d), .val (.int (1 : Int32)), .val (.int (3 : Int32)), .val (.int (1 : Int32)), .val (.int c0)] [(.int (1 : Int32)), (.ref a)])
  refine X2.cald Ka_h3 (by decide) (v := .int c1) rfl (hb hby d_jdk_52_method_21_12) ?_
  show OEnds p e below _ T1 (mkF m 13 #[.val (.ref a), .val (.int (1 : Int32)), .val (.ref d), .val (.int (1 : Int32)), .val (.int (3 : Int32)), .val (.int (1 : Int32)), .val (.int c0)] [(.int c1)])
  refine OEnds.go (fun _ q => XS.istore X2.here X2.hx rfl (hb hby d_jdk_52_method_21_13) rfl (l' := #[.val (.ref a), .val (.int (1 : Int32)), .val (.ref d), .val (.int (1 : Int32)), .val (.int (3 : Int32)), .val (.int (1 : Int32)), .val (.int c1)]) rfl q) ?_
  refine OEnds.go (fun _ q => XS.iload X2.here X2.hx rfl (hb hby d_jdk_52_method_21_15) rfl q) ?_
  show OEnds p e below _ T1 (mkF m 17 #[.val (.ref a), .val (.int (1 : Int32)), .val (.ref d), .val (.int (1 : Int32)), .val (.int (3 : Int32)), .val (.int (1 : Int32)), .val (.int c1)] [(.int c1)])
  refine OEnds.go (fun _ q => XS.sipush X2.here X2.hx rfl (hb hby d_jdk_52_method_21_17) q) ?_
  show OEnds p e below _ T1 (mkF m 20 #[.val (.ref a), .val (.int (1 : Int32)), .val (.ref d), .val (.int (1 : Int32)), .val (.int (3 : Int32)), .val (.int (1 : Int32)), .val (.int c1)] [(.int (255 : Int32)), (.int c1)])
  refine OEnds.go (fun _ q => XS.icmpNo X2.here X2.hx rfl (hb hby d_jdk_52_method_21_20) rfl (tlt hk).2.2.2 q) ?_
  show OEnds p e below _ T1 (mkF m 23 #[.val (.ref a), .val (.int (1 : Int32)), .val (.ref d), .val (.int (1 : Int32)), .val (.int (3 : Int32)), .val (.int (1 : Int32)), .val (.int c1)] [])
  refine OEnds.go (fun _ q => XS.iload X2.here X2.hx rfl (hb hby d_jdk_52_method_21_23) rfl q) ?_
  show OEnds p e below _ T1 (mkF m 25 #[.val (.ref a), .val (.int (1 : Int32)), .val (.ref d), .val (.int (1 : Int32)), .val (.int (3 : Int32)), .val (.int (1 : Int32)), .val (.int c1)] [(.int (1 : Int32))])
  exact X2.retIntN hlk  hret (hb hby d_jdk_52_method_21_25) (by decide) (by decide) ⟨rfl, K5⟩
theorem con_co31 {l : Launch} {Z : State} {a0 : Array Value} {cz : Int32} {fm : Value} (H : Ctx Z a0 cz fm) (a : Addr) (kc : ClassId) (c0 c1 c2 : Int32) (hl0 : ¬ (255 : Int32) < c0) (hk : (255 : Int32) < c1) (hu : ¬ c1 < 0 ∧ ¬ (65535 : Int32) < c1) (h0 : Heap) (Ka : Arv Z h0 a kc .char (3 : Int32) [.int c0, .int c1, .int c2] (.int (0 : Int32))) :
    ConN l Z (⟨"java/lang/StringUTF16", "compress", "([CII)[B"⟩ : MethodName) jdk_52_method_16_code 6 (some (FieldType.array FieldType.byte)) [] ({ frames := 3, cells := 2, slots := 9, locals := 40 } : Room) #[(.ref a), (.int (0 : Int32)), (.int (3 : Int32))] h0 (fun r h => ∃ (t : Addr) (kb : ClassId), r = some (.ref t) ∧ Ext h0 h ∧ Arv Z h t kb .byte (6 : Int32) [.int (own_lo c0), .int (own_hi c0), .int (own_lo c1), .int (own_hi c1), .int (own_lo c2), .int (own_hi c2)] (.int (0 : Int32))) := by
  obtain ⟨hw, hE, S0, hcz, S1, rf, hp0, hp1, hp2⟩ := id H
  refine ConN.of own_pf10 ?_
  intro p e s m below meth c T hby hml hret hlk hnm X0
  have EX0 := ext_refl h0
  refine OEnds.cast (own_ef8 m a (0 : Int32) (3 : Int32) ) ?_
  show OEnds p e below _ T (mkF m 0 #[.val (.ref a), .val (.int (0 : Int32)), .val (.int (3 : Int32)), .unset, .unset, .unset] [])
  refine OEnds.go (fun _ q => XS.iloadN X0.here X0.hx rfl (hb hby d_jdk_52_method_16_0) rfl q) ?_
  show OEnds p e below _ T (mkF m 1 #[.val (.ref a), .val (.int (0 : Int32)), .val (.int (3 : Int32)), .unset, .unset, .unset] [(.int (3 : Int32))])
  refine X0.newP (own_k hw 19 rfl) (hb hby d_jdk_52_method_16_1) (by decide) (cap := 3) (by decide) (by decide) (by decide) (by decide) ?_
  intro T1 h3 a5 ka5 ga5 X2 E4 Ka5
  have gza5 : Z.heap.size ≤ a5 := ga5 ▸ X0.old.1
  have Ka_h3 := Ka.ext E4
  have EX_h3 := ext_trans EX0 E4
  have Ka5_0 : Arv Z h3 a5 ka5 .byte (3 : Int32) [.int (0 : Int32), .int (0 : Int32), .int (0 : Int32)] (.int (0 : Int32)) := Ka5.pad (pad_rep [] (.int (0 : Int32)) 3)
  show OEnds p e below _ T1 (mkF m 3 #[.val (.ref a), .val (.int (0 : Int32)), .val (.int (3 : Int32)), .unset, .unset, .unset] [(.ref a5)])
  refine OEnds.go (fun _ q => XS.astoreN X2.here X2.hx rfl (hb hby d_jdk_52_method_16_3) rfl rfl (l' := #[.val (.ref a), .val (.int (0 : Int32)), .val (.int (3 : Int32)), .val (.ref a5), .unset, .unset]) rfl q) ?_
  refine OEnds.go (fun _ q => XS.aloadN X2.here X2.hx rfl (hb hby d_jdk_52_method_16_4) rfl rfl q) ?_
  show OEnds p e below _ T1 (mkF m 5 #[.val (.ref a), .val (.int (0 : Int32)), .val (.int (3 : Int32)), .val (.ref a5), .unset, .unset] [(.ref a)])
  refine OEnds.go (fun _ q => XS.iloadN X2.here X2.hx rfl (hb hby d_jdk_52_method_16_5) rfl q) ?_
  refine OEnds.go (fun _ q => XS.aloadN X2.here X2.hx rfl (hb hby d_jdk_52_method_16_6) rfl rfl q) ?_
  show OEnds p e below _ T1 (mkF m 7 #[.val (.ref a), .val (.int (0 : Int32)), .val (.int (3 : Int32)), .val (.ref a5), .unset, .unset] [(.ref a5), (.int (0 : Int32)), (.ref a)])
  refine OEnds.go (fun _ q => XS.iconst X2.here X2.hx rfl (hb hby d_jdk_52_method_16_7) q) ?_
  refine OEnds.go (fun _ q => XS.iloadN X2.here X2.hx rfl (hb hby d_jdk_52_method_16_8) rfl q) ?_
  show OEnds p e below _ T1 (mkF m 9 #[.val (.ref a), .val (.int (0 : Int32)), .val (.int (3 : Int32)), .val (.ref a5), .unset, .unset] [(.int (3 : Int32)), (.int (0 : Int32)), (.ref a5), (.int (0 : Int32)), (.ref a)])
  refine X2.payS (ConN.back (W := 0) (con_ci31 H a a5 kc ka5 c0 c1 c2 hl0 hk gza5 h3 Ka_h3 Ka5_0) X2.old X2.hZ (own_k hw 47 rfl) (own_k hw 43 rfl) (by decide) (by decide)) (okN (fun _ _ q => q.2.1)) (own_k hw 45 rfl) (own_k hw 46 rfl) (own_k hw 43 rfl) (own_k hw 47 rfl)  (by decide)  (argsL := [(.ref a), (.int (0 : Int32)), (.ref a5), (.int (0 : Int32)), (.int (3 : Int32))]) (rest := []) rfl (lenOf own_pd4 rfl) rfl (by rw [hml]; rfl) (Nat.le_of_eq rfl) (hb hby d_jdk_52_method_16_9) (by decide) (by decide) ?_
  intro v12 T7 h9 Lh9 X8 q13
  replace q13 := q13.1
  obtain ⟨rfl, Kq6⟩ := q13
  have EBa5_h9 := ext_keep E4 Kq6 (allS (Nat.le_of_eq ga5) all0)
  have Ka_h9 := Ka.ext EBa5_h9
  have EX_h9 := ext_keep EX_h3 Kq6 (allS (Nat.le_trans EX0.1 (Nat.le_of_eq ga5)) all0)
  show OEnds p e below _ T7 (mkF m 12 #[.val (.ref a), .val (.int (0 : Int32)), .val (.int (3 : Int32)), .val (.ref a5), .unset, .unset] [(.int (1 : Int32))])
  refine OEnds.go (fun _ q => XS.istore X8.here X8.hx rfl (hb hby d_jdk_52_method_16_12) rfl (l' := #[.val (.ref a), .val (.int (0 : Int32)), .val (.int (3 : Int32)), .val (.ref a5), .val (.int (1 : Int32)), .unset]) rfl q) ?_
  refine OEnds.go (fun _ q => XS.iload X8.here X8.hx rfl (hb hby d_jdk_52_method_16_14) rfl q) ?_
  show OEnds p e below _ T7 (mkF m 16 #[.val (.ref a), .val (.int (0 : Int32)), .val (.int (3 : Int32)), .val (.ref a5), .val (.int (1 : Int32)), .unset] [(.int (1 : Int32))])
  refine OEnds.go (fun _ q => XS.iloadN X8.here X8.hx rfl (hb hby d_jdk_52_method_16_16) rfl q) ?_
  show OEnds p e below _ T7 (mkF m 17 #[.val (.ref a), .val (.int (0 : Int32)), .val (.int (3 : Int32)), .val (.ref a5), .val (.int (1 : Int32)), .unset] [(.int (3 : Int32)), (.int (1 : Int32))])
  refine OEnds.go (fun _ q => XS.icmpNo X8.here X8.hx rfl (hb hby d_jdk_52_method_16_17) rfl (feq (by decide)).1 q) ?_
  show OEnds p e below _ T7 (mkF m 20 #[.val (.ref a), .val (.int (0 : Int32)), .val (.int (3 : Int32)), .val (.ref a5), .val (.int (1 : Int32)), .unset] [])
  refine OEnds.go (fun _ q => XS.aloadN X8.here X8.hx rfl (hb hby d_jdk_52_method_16_20) rfl rfl q) ?_
  refine OEnds.go (fun _ q => XS.iloadN X8.here X8.hx rfl (hb hby d_jdk_52_method_16_21) rfl q) ?_
  show OEnds p e below _ T7 (mkF m 22 #[.val (.ref a), .val (.int (0 : Int32)), .val (.int (3 : Int32)), .val (.ref a5), .val (.int (1 : Int32)), .unset] [(.int (0 : Int32)), (.ref a)])
  refine OEnds.go (fun _ q => XS.iloadN X8.here X8.hx rfl (hb hby d_jdk_52_method_16_22) rfl q) ?_
  show OEnds p e below _ T7 (mkF m 23 #[.val (.ref a), .val (.int (0 : Int32)), .val (.int (3 : Int32)), .val (.ref a5), .val (.int (1 : Int32)), .unset] [(.int (3 : Int32)), (.int (0 : Int32)), (.ref a)])
  refine X8.payS (ConN.back (W := 0) (con_tob3 H a kc c0 c1 c2 h9 Ka_h9) X8.old X8.hZ (own_k hw 78 rfl) (own_k hw 43 rfl) (by decide) (by decide)) (okN (fun _ _ ⟨_, _, _, q, _⟩ => q.1)) (own_k hw 76 rfl) (own_k hw 77 rfl) (own_k hw 43 rfl) (own_k hw 78 rfl)  (by decide)  (argsL := [(.ref a), (.int (0 : Int32)), (.int (3 : Int32))]) (rest := []) rfl (lenOf own_pd5 rfl) rfl (by rw [hml]; rfl) (Nat.le_of_eq rfl) (hb hby d_jdk_52_method_16_23) (by decide) (by decide) ?_
  intro v19 T14 h16 Lh16 X15 q20
  replace q20 := q20.1
  obtain ⟨t, kb, rfl, Et, Kt⟩ := q20
  have Ka_h16 := Ka_h9.ext Et
  have EX_h16 := ext_trans EX_h9 Et
  show OEnds p e below _ T14 (mkF m 26 #[.val (.ref a), .val (.int (0 : Int32)), .val (.int (3 : Int32)), .val (.ref a5), .val (.int (1 : Int32)), .unset] [(.ref t)])
  refine OEnds.go (fun _ q => XS.astore X15.here X15.hx rfl (hb hby d_jdk_52_method_16_26) rfl rfl (l' := #[.val (.ref a), .val (.int (0 : Int32)), .val (.int (3 : Int32)), .val (.ref a5), .val (.int (1 : Int32)), .val (.ref t)]) rfl q) ?_
  refine OEnds.go (fun _ q => XS.aload X15.here X15.hx rfl (hb hby d_jdk_52_method_16_28) rfl rfl q) ?_
  show OEnds p e below _ T14 (mkF m 30 #[.val (.ref a), .val (.int (0 : Int32)), .val (.int (3 : Int32)), .val (.ref a5), .val (.int (1 : Int32)), .val (.ref t)] [(.ref t)])
  refine OEnds.go (fun _ q => XS.iload X15.here X15.hx rfl (hb hby d_jdk_52_method_16_30) rfl q) ?_
  show OEnds p e below _ T14 (mkF m 32 #[.val (.ref a), .val (.int (0 : Int32)), .val (.int (3 : Int32)), .val (.ref a5), .val (.int (1 : Int32)), .val (.ref t)] [(.int (1 : Int32)), (.ref t)])
  refine X15.payS (ConN.back (W := 0) (con_get31 H t kb c0 c1 c2 hu h16 Kt) X15.old X15.hZ (own_k hw 94 rfl) (own_k hw 43 rfl) (by decide) (by decide)) (okN (fun _ _ q => Nat.le_of_eq (congrArg Array.size q.2))) (own_k hw 92 rfl) (own_k hw 93 rfl) (own_k hw 43 rfl) (own_k hw 94 rfl)  (by decide)  (argsL := [(.ref t), (.int (1 : Int32))]) (rest := []) rfl (lenOf own_pd6 rfl) rfl (by rw [hml]; rfl) (Nat.le_of_eq rfl) (hb hby d_jdk_52_method_16_32) (by decide) (by decide) ?_
  intro v26 T21 h23 Lh23 X22 q27
  replace q27 := q27.1
  obtain ⟨rfl, rfl⟩ := q27
  show OEnds p e below _ T21 (mkF m 35 #[.val (.ref a), .val (.int (0 : Int32)), .val (.int (3 : Int32)), .val (.ref a5), .val (.int (1 : Int32)), .val (.ref t)] [(.int c1)])
  refine OEnds.go (fun _ q => XS.sipush X22.here X22.hx rfl (hb hby d_jdk_52_method_16_35) q) ?_
  show OEnds p e below _ T21 (mkF m 38 #[.val (.ref a), .val (.int (0 : Int32)), .val (.int (3 : Int32)), .val (.ref a5), .val (.int (1 : Int32)), .val (.ref t)] [(.int (255 : Int32)), (.int c1)])
  refine OEnds.go (fun _ q => XS.icmpYes X22.here X22.hx rfl (pc0 := 38) (pc' := 54) rfl (hb hby d_jdk_52_method_16_38) rfl (tlt hk).2.2.1 (by decide) (by decide) q) ?_
  show OEnds p e below _ T21 (mkF m 54 #[.val (.ref a), .val (.int (0 : Int32)), .val (.int (3 : Int32)), .val (.ref a5), .val (.int (1 : Int32)), .val (.ref t)] [])
  refine OEnds.go (fun _ q => XS.aload X22.here X22.hx rfl (hb hby d_jdk_52_method_16_54) rfl rfl q) ?_
  show OEnds p e below _ T21 (mkF m 56 #[.val (.ref a), .val (.int (0 : Int32)), .val (.int (3 : Int32)), .val (.ref a5), .val (.int (1 : Int32)), .val (.ref t)] [(.ref t)])
  exact X22.retRefN hlk rfl (t := (FieldType.array FieldType.byte)) rfl hret (hb hby d_jdk_52_method_16_56) (by decide) (by decide) ⟨t, kb, rfl, EX_h16, Kt⟩
theorem con_nv31 {l : Launch} {Z : State} {a0 : Array Value} {cz : Int32} {fm : Value} (H : Ctx Z a0 cz fm) (x a : Addr) (kc : ClassId) (c0 c1 c2 : Int32) (hl0 : ¬ (255 : Int32) < c0) (hk : (255 : Int32) < c1) (hu : ¬ c1 < 0 ∧ ¬ (65535 : Int32) < c1) (gzx : Z.heap.size ≤ x) (h0 : Heap) (Ex : Exa Z h0 x "java/lang/String") (Vx : Fld Z h0 x "java/lang/String" "value" "[B" .null) (Cx : Fld Z h0 x "java/lang/String" "coder" "B" (.int (0 : Int32))) (Ka : Arv Z h0 a kc .char (3 : Int32) [.int c0, .int c1, .int c2] (.int (0 : Int32))) :
    ConN l Z (⟨"java/lang/String", "<init>", "([CIILjava/lang/Void;)V"⟩ : MethodName) jdk_42_method_149_code 6 (none : Option FieldType) [] ({ frames := 4, cells := 2, slots := 9, locals := 57 } : Room) #[(.ref x), (.ref a), (.int (0 : Int32)), (.int (3 : Int32)), (.null)] h0 (fun r h => r = none ∧ Keep h0 h [x] ∧ OUtf3 Z h x c0 c1 c2) := by
  obtain ⟨hw, hE, S0, hcz, S1, rf, hp0, hp1, hp2⟩ := id H
  refine ConN.of own_pf0 ?_
  intro p e s m below meth c T hby hml hret hlk hnm X0
  have EX0 := ext_refl h0
  refine OEnds.cast (own_ef0 m x a (0 : Int32) (3 : Int32) ) ?_
  show OEnds p e below _ T (mkF m 0 #[.val (.ref x), .val (.ref a), .val (.int (0 : Int32)), .val (.int (3 : Int32)), .val (.null), .unset] [])
  have K0 := Keep.refl h0 [x]
  refine OEnds.go (fun _ q => XS.aloadN X0.here X0.hx rfl (hb hby d_jdk_42_method_149_0) rfl rfl q) ?_
  show OEnds p e below _ T (mkF m 1 #[.val (.ref x), .val (.ref a), .val (.int (0 : Int32)), .val (.int (3 : Int32)), .val (.null), .unset] [(.ref x)])
  refine X0.initO (own_k hw 15 rfl) (own_k hw 16 rfl) (own_k hw 17 rfl) (by rw [hml]; rfl) (hb hby d_jdk_42_method_149_1) (by decide) (W := 0) (Nat.le_of_eq rfl) (by decide) ?_
  intro T1 X2
  show OEnds p e below _ T1 (mkF m 4 #[.val (.ref x), .val (.ref a), .val (.int (0 : Int32)), .val (.int (3 : Int32)), .val (.null), .unset] [])
  refine OEnds.go (fun _ q => XS.iloadN X2.here X2.hx rfl (hb hby d_jdk_42_method_149_4) rfl q) ?_
  show OEnds p e below _ T1 (mkF m 5 #[.val (.ref x), .val (.ref a), .val (.int (0 : Int32)), .val (.int (3 : Int32)), .val (.null), .unset] [(.int (3 : Int32))])
  refine OEnds.go (fun _ q => XS.ifYes X2.here X2.hx rfl (pc0 := 5) (pc' := 27) rfl (hb hby d_jdk_42_method_149_5) rfl ((if0 _ _).trans (feq (by decide)).2) (by decide) (by decide) q) ?_
  show OEnds p e below _ T1 (mkF m 27 #[.val (.ref x), .val (.ref a), .val (.int (0 : Int32)), .val (.int (3 : Int32)), .val (.null), .unset] [])
  refine X2.getS (own_k hw 40 rfl) Via.refl (S0.ext X2.old) (hb hby d_jdk_42_method_149_27) ?_
  intro T3 X4
  show OEnds p e below _ T3 (mkF m 30 #[.val (.ref x), .val (.ref a), .val (.int (0 : Int32)), .val (.int (3 : Int32)), .val (.null), .unset] [(.int cz)])
  refine OEnds.go (fun _ q => XS.ifNo X4.here X4.hx rfl (hb hby d_jdk_42_method_149_30) rfl ((if0 _ _).trans (feq hcz).1) q) ?_
  show OEnds p e below _ T3 (mkF m 33 #[.val (.ref x), .val (.ref a), .val (.int (0 : Int32)), .val (.int (3 : Int32)), .val (.null), .unset] [])
  refine OEnds.go (fun _ q => XS.aloadN X4.here X4.hx rfl (hb hby d_jdk_42_method_149_33) rfl rfl q) ?_
  refine OEnds.go (fun _ q => XS.iloadN X4.here X4.hx rfl (hb hby d_jdk_42_method_149_34) rfl q) ?_
  show OEnds p e below _ T3 (mkF m 35 #[.val (.ref x), .val (.ref a), .val (.int (0 : Int32)), .val (.int (3 : Int32)), .val (.null), .unset] [(.int (0 : Int32)), (.ref a)])
  refine OEnds.go (fun _ q => XS.iloadN X4.here X4.hx rfl (hb hby d_jdk_42_method_149_35) rfl q) ?_
  show OEnds p e below _ T3 (mkF m 36 #[.val (.ref x), .val (.ref a), .val (.int (0 : Int32)), .val (.int (3 : Int32)), .val (.null), .unset] [(.int (3 : Int32)), (.int (0 : Int32)), (.ref a)])
  refine X4.payS (ConN.back (W := 0) (con_co31 H a kc c0 c1 c2 hl0 hk hu h0 Ka) X4.old X4.hZ (own_k hw 44 rfl) (own_k hw 43 rfl) (by decide) (by decide)) (okN (fun _ _ ⟨_, _, _, q, _⟩ => q.1)) (own_k hw 41 rfl) (own_k hw 42 rfl) (own_k hw 43 rfl) (own_k hw 44 rfl)  (by decide)  (argsL := [(.ref a), (.int (0 : Int32)), (.int (3 : Int32))]) (rest := []) rfl (lenOf own_pd5 rfl) rfl (by rw [hml]; rfl) (Nat.le_of_eq rfl) (hb hby d_jdk_42_method_149_36) (by decide) (by decide) ?_
  intro v10 T5 h7 Lh7 X6 q11
  replace q11 := q11.1
  obtain ⟨t, kb, rfl, Et, Kt⟩ := q11
  have Ex_h7 := Ex.ext Et
  have Vx_h7 := Vx.ext Et
  have Cx_h7 := Cx.ext Et
  have Ka_h7 := Ka.ext Et
  have EX_h7 := ext_trans EX0 Et
  have Kpx_h7 := K0.ext Et
  show OEnds p e below _ T5 (mkF m 39 #[.val (.ref x), .val (.ref a), .val (.int (0 : Int32)), .val (.int (3 : Int32)), .val (.null), .unset] [(.ref t)])
  have nxt : t ≠ x := fun q => Exa.neArv Ex_h7 Kt (own_k hw 5 rfl) q.symm
  refine OEnds.go (fun _ q => XS.astore X6.here X6.hx rfl (hb hby d_jdk_42_method_149_39) rfl rfl (l' := #[.val (.ref x), .val (.ref a), .val (.int (0 : Int32)), .val (.int (3 : Int32)), .val (.null), .val (.ref t)]) rfl q) ?_
  refine OEnds.go (fun _ q => XS.aloadN X6.here X6.hx rfl (hb hby d_jdk_42_method_149_41) rfl rfl q) ?_
  show OEnds p e below _ T5 (mkF m 42 #[.val (.ref x), .val (.ref a), .val (.int (0 : Int32)), .val (.int (3 : Int32)), .val (.null), .val (.ref t)] [(.ref x)])
  refine OEnds.go (fun _ q => XS.aload X6.here X6.hx rfl (hb hby d_jdk_42_method_149_42) rfl rfl q) ?_
  refine OEnds.go (fun _ q => XS.iloadN X6.here X6.hx rfl (hb hby d_jdk_42_method_149_44) rfl q) ?_
  show OEnds p e below _ T5 (mkF m 45 #[.val (.ref x), .val (.ref a), .val (.int (0 : Int32)), .val (.int (3 : Int32)), .val (.null), .val (.ref t)] [(.int (3 : Int32)), (.ref t), (.ref x)])
  refine X6.payS (ConN.back (W := 1) (con_cfa3 H t kb _ h7 Kt) X6.old X6.hZ (own_k hw 50 rfl) (own_k hw 43 rfl) (by decide) (by decide)) (okN (fun _ _ q => Nat.le_of_eq (congrArg Array.size q.2))) (own_k hw 48 rfl) (own_k hw 49 rfl) (own_k hw 43 rfl) (own_k hw 50 rfl)  (by decide)  (argsL := [(.ref t), (.int (3 : Int32))]) (rest := [(.ref x)]) rfl (lenOf own_pd7 rfl) rfl (by rw [hml]; rfl) (Nat.le_of_eq rfl) (hb hby d_jdk_42_method_149_45) (by decide) (by decide) ?_
  intro v17 T12 h14 Lh14 X13 q18
  replace q18 := q18.1
  obtain ⟨rfl, rfl⟩ := q18
  show OEnds p e below _ T12 (mkF m 48 #[.val (.ref x), .val (.ref a), .val (.int (0 : Int32)), .val (.int (3 : Int32)), .val (.null), .val (.ref t)] [(.int (1 : Int32)), (.ref x)])
  refine X13.putF (v := (.int (1 : Int32))) (own_k hw 25 rfl) Via.refl Cx_h7 Ex_h7 (Or.inr ⟨(own_k hw 21 rfl), rfl, hnm⟩) (own_k hw 5 rfl) (ty := FieldType.byte) (by decide) rfl rfl safe_nil gzx (hb hby d_jdk_42_method_149_48) ?_
  intro T19 h21 X20 W22
  have Cx_h21 := Cx_h7.same W22
  have Ex_h21 := Ex_h7.wr W22
  have Vx_h21 := Vx_h7.other W22 (Or.inr (slot_ne (a0 := a0) (Or.inr (own_k hw 20 rfl)) (Or.inr (own_k hw 21 rfl)) (by decide) (t := (FieldType.array FieldType.byte)) (by decide) (t' := FieldType.byte) (by decide)))
  have K23 := Kpx_h7.wr W22 (Or.inl (List.mem_of_getElem? (i := 0) rfl))
  have Kt_h21 := Kt.other W22 nxt
  show OEnds p e below _ T19 (mkF m 51 #[.val (.ref x), .val (.ref a), .val (.int (0 : Int32)), .val (.int (3 : Int32)), .val (.null), .val (.ref t)] [])
  refine OEnds.go (fun _ q => XS.aloadN X20.here X20.hx rfl (hb hby d_jdk_42_method_149_51) rfl rfl q) ?_
  refine OEnds.go (fun _ q => XS.aload X20.here X20.hx rfl (hb hby d_jdk_42_method_149_52) rfl rfl q) ?_
  show OEnds p e below _ T19 (mkF m 54 #[.val (.ref x), .val (.ref a), .val (.int (0 : Int32)), .val (.int (3 : Int32)), .val (.null), .val (.ref t)] [(.ref t), (.ref x)])
  refine X20.putF (v := (.ref t)) (own_k hw 24 rfl) Via.refl Vx_h21 Ex_h21 (Or.inr ⟨(own_k hw 20 rfl), rfl, hnm⟩) (own_k hw 5 rfl) (ty := (FieldType.array FieldType.byte)) (by decide) rfl rfl safe_nil gzx (hb hby d_jdk_42_method_149_54) ?_
  intro T24 h26 X25 W27
  have Vx_h26 := Vx_h21.same W27
  have Ex_h26 := Ex_h21.wr W27
  have Cx_h26 := Cx_h21.other W27 (Or.inr (slot_ne (a0 := a0) (Or.inr (own_k hw 21 rfl)) (Or.inr (own_k hw 20 rfl)) (by decide) (t := FieldType.byte) (by decide) (t' := (FieldType.array FieldType.byte)) (by decide)))
  have K28 := K23.wr W27 (Or.inl (List.mem_of_getElem? (i := 0) rfl))
  have Kt_h26 := Kt_h21.other W27 nxt
  show OEnds p e below _ T24 (mkF m 57 #[.val (.ref x), .val (.ref a), .val (.int (0 : Int32)), .val (.int (3 : Int32)), .val (.null), .val (.ref t)] [])
  exact X25.ret0N hlk  hret (hb hby d_jdk_42_method_149_57) (by decide) (by decide) ⟨rfl, K28, Ex_h26, Cx_h26, t, kb, Vx_h26, Kt_h26⟩
theorem con_nu31 {l : Launch} {Z : State} {a0 : Array Value} {cz : Int32} {fm : Value} (H : Ctx Z a0 cz fm) (x a : Addr) (kc : ClassId) (c0 c1 c2 : Int32) (hl0 : ¬ (255 : Int32) < c0) (hk : (255 : Int32) < c1) (hu : ¬ c1 < 0 ∧ ¬ (65535 : Int32) < c1) (gzx : Z.heap.size ≤ x) (h0 : Heap) (Ex : Exa Z h0 x "java/lang/String") (Vx : Fld Z h0 x "java/lang/String" "value" "[B" .null) (Cx : Fld Z h0 x "java/lang/String" "coder" "B" (.int (0 : Int32))) (Ka : Arv Z h0 a kc .char (3 : Int32) [.int c0, .int c1, .int c2] (.int (0 : Int32))) :
    ConN l Z (⟨"java/lang/String", "<init>", "([C)V"⟩ : MethodName) jdk_42_method_3_code 2 (none : Option FieldType) [] ({ frames := 5, cells := 2, slots := 9, locals := 74 } : Room) #[(.ref x), (.ref a)] h0 (fun r h => r = none ∧ Keep h0 h [x] ∧ OUtf3 Z h x c0 c1 c2) := by
  obtain ⟨hw, hE, S0, hcz, S1, rf, hp0, hp1, hp2⟩ := id H
  refine ConN.of own_pf1 ?_
  intro p e s m below meth c T hby hml hret hlk hnm X0
  have EX0 := ext_refl h0
  refine OEnds.cast (own_ef1 m x a ) ?_
  show OEnds p e below _ T (mkF m 0 #[.val (.ref x), .val (.ref a)] [])
  refine OEnds.go (fun _ q => XS.aloadN X0.here X0.hx rfl (hb hby d_jdk_42_method_3_0) rfl rfl q) ?_
  refine OEnds.go (fun _ q => XS.aloadN X0.here X0.hx rfl (hb hby d_jdk_42_method_3_1) rfl rfl q) ?_
  show OEnds p e below _ T (mkF m 2 #[.val (.ref x), .val (.ref a)] [(.ref a), (.ref x)])
  refine OEnds.go (fun _ q => XS.iconst X0.here X0.hx rfl (hb hby d_jdk_42_method_3_2) q) ?_
  refine OEnds.go (fun _ q => XS.aloadN X0.here X0.hx rfl (hb hby d_jdk_42_method_3_3) rfl rfl q) ?_
  show OEnds p e below _ T (mkF m 4 #[.val (.ref x), .val (.ref a)] [(.ref a), (.int (0 : Int32)), (.ref a), (.ref x)])
  refine X0.alen Ka (hb hby d_jdk_42_method_3_4) ?_
  show OEnds p e below _ T (mkF m 5 #[.val (.ref x), .val (.ref a)] [(.int (3 : Int32)), (.int (0 : Int32)), (.ref a), (.ref x)])
  refine OEnds.go (fun _ q => XS.aconstNull X0.here X0.hx rfl (hb hby d_jdk_42_method_3_5) q) ?_
  show OEnds p e below _ T (mkF m 6 #[.val (.ref x), .val (.ref a)] [(.null), (.int (3 : Int32)), (.int (0 : Int32)), (.ref a), (.ref x)])
  refine X0.payI (ConN.back (W := 0) (con_nv31 H x a kc c0 c1 c2 hl0 hk hu gzx h0 Ex Vx Cx Ka) X0.old X0.hZ (own_k hw 14 rfl) (own_k hw 6 rfl) (by decide) (by decide)) (okN (fun _ _ q => q.2.1.1)) (own_k hw 11 rfl) (own_k hw 12 rfl)  (own_k hw 14 rfl) rfl (by decide)  (a := x) (argsL := [(.ref a), (.int (0 : Int32)), (.int (3 : Int32)), (.null)]) (rest := []) rfl (lenOf own_pd0 rfl) rfl (by rw [hml]; rfl) (Nat.le_of_eq rfl) (hb hby d_jdk_42_method_3_6) (by decide) (by decide) ?_
  intro v6 T1 h3 Lh3 X2 q7
  replace q7 := q7.1
  obtain ⟨rfl, Kq, Uq⟩ := q7
  show OEnds p e below _ T1 (mkF m 9 #[.val (.ref x), .val (.ref a)] [])
  exact X2.ret0N hlk  hret (hb hby d_jdk_42_method_3_9) (by decide) (by decide) ⟨rfl, Kq, Uq⟩
theorem con_ci32 {l : Launch} {Z : State} {a0 : Array Value} {cz : Int32} {fm : Value} (H : Ctx Z a0 cz fm) (a d : Addr) (kc kd : ClassId) (c0 c1 c2 : Int32) (hl0 : ¬ (255 : Int32) < c0) (hl1 : ¬ (255 : Int32) < c1) (hk : (255 : Int32) < c2) (gzd : Z.heap.size ≤ d) (h0 : Heap) (Ka : Arv Z h0 a kc .char (3 : Int32) [.int c0, .int c1, .int c2] (.int (0 : Int32))) (Kd : Arv Z h0 d kd .byte (3 : Int32) [.int (0 : Int32), .int (0 : Int32), .int (0 : Int32)] (.int (0 : Int32))) :
    ConN l Z (⟨"java/lang/StringUTF16", "compress", "([CI[BII)I"⟩ : MethodName) jdk_52_method_21_code 7 (some FieldType.int) [] ({ frames := 0, cells := 0, slots := 0, locals := 0 } : Room) #[(.ref a), (.int (0 : Int32)), (.ref d), (.int (0 : Int32)), (.int (3 : Int32))] h0 (fun r h => r = some (.int (2 : Int32)) ∧ Keep h0 h [d]) := by
  obtain ⟨hw, hE, S0, hcz, S1, rf, hp0, hp1, hp2⟩ := id H
  refine ConN.of own_pf9 ?_
  intro p e s m below meth c T hby hml hret hlk hnm X0
  have EX0 := ext_refl h0
  refine OEnds.cast (own_ef7 m a (0 : Int32) d (0 : Int32) (3 : Int32) ) ?_
  show OEnds p e below _ T (mkF m 0 #[.val (.ref a), .val (.int (0 : Int32)), .val (.ref d), .val (.int (0 : Int32)), .val (.int (3 : Int32)), .unset, .unset] [])
  have K0 := Keep.refl h0 [d]
  have nad := arv_ne Ka Kd
  refine OEnds.go (fun _ q => XS.iconst X0.here X0.hx rfl (hb hby d_jdk_52_method_21_0) q) ?_
  refine OEnds.go (fun _ q => XS.istore X0.here X0.hx rfl (hb hby d_jdk_52_method_21_1) rfl (l' := #[.val (.ref a), .val (.int (0 : Int32)), .val (.ref d), .val (.int (0 : Int32)), .val (.int (3 : Int32)), .val (.int (0 : Int32)), .unset]) rfl q) ?_
  show OEnds p e below _ T (mkF m 3 #[.val (.ref a), .val (.int (0 : Int32)), .val (.ref d), .val (.int (0 : Int32)), .val (.int (3 : Int32)), .val (.int (0 : Int32)), .unset] [])
  refine OEnds.go (fun _ q => XS.iload X0.here X0.hx rfl (hb hby d_jdk_52_method_21_3) rfl q) ?_
  refine OEnds.go (fun _ q => XS.iload X0.here X0.hx rfl (hb hby d_jdk_52_method_21_5) rfl q) ?_
  show OEnds p e below _ T (mkF m 7 #[.val (.ref a), .val (.int (0 : Int32)), .val (.ref d), .val (.int (0 : Int32)), .val (.int (3 : Int32)), .val (.int (0 : Int32)), .unset] [(.int (3 : Int32)), (.int (0 : Int32))])
  refine OEnds.go (fun _ q => XS.icmpNo X0.here X0.hx rfl (hb hby d_jdk_52_method_21_7) rfl (tlt (by decide)).2.1 q) ?_
  show OEnds p e below _ T (mkF m 10 #[.val (.ref a), .val (.int (0 : Int32)), .val (.ref d), .val (.int (0 : Int32)), .val (.int (3 : Int32)), .val (.int (0 : Int32)), .unset] [])
  refine OEnds.go (fun _ q => XS.aloadN X0.here X0.hx rfl (hb hby d_jdk_52_method_21_10) rfl rfl q) ?_
  refine OEnds.go (fun _ q => XS.iloadN X0.here X0.hx rfl (hb hby d_jdk_52_method_21_11) rfl q) ?_
  show OEnds p e below _ T (mkF m 12 #[.val (.ref a), .val (.int (0 : Int32)), .val (.ref d), .val (.int (0 : Int32)), .val (.int (3 : Int32)), .val (.int (0 : Int32)), .unset] [(.int (0 : Int32)), (.ref a)])
  refine X0.cald Ka (by decide) (v := .int c0) rfl (hb hby d_jdk_52_method_21_12) ?_
  show OEnds p e below _ T (mkF m 13 #[.val (.ref a), .val (.int (0 : Int32)), .val (.ref d), .val (.int (0 : Int32)), .val (.int (3 : Int32)), .val (.int (0 : Int32)), .unset] [(.int c0)])
  refine OEnds.go (fun _ q => XS.istore X0.here X0.hx rfl (hb hby d_jdk_52_method_21_13) rfl (l' := #[.val (.ref a), .val (.int (0 : Int32)), .val (.ref d), .val (.int (0 : Int32)), .val (.int (3 : Int32)), .val (.int (0 : Int32)), .val (.int c0)]) rfl q) ?_
  refine OEnds.go (fun _ q => XS.iload X0.here X0.hx rfl (hb hby d_jdk_52_method_21_15) rfl q) ?_
  show OEnds p e below _ T (mkF m 17 #[.val (.ref a), .val (.int (0 : Int32)), .val (.ref d), .val (.int (0 : Int32)), .val (.int (3 : Int32)), .val (.int (0 : Int32)), .val (.int c0)] [(.int c0)])
  refine OEnds.go (fun _ q => XS.sipush X0.here X0.hx rfl (hb hby d_jdk_52_method_21_17) q) ?_
  show OEnds p e below _ T (mkF m 20 #[.val (.ref a), .val (.int (0 : Int32)), .val (.ref d), .val (.int (0 : Int32)), .val (.int (3 : Int32)), .val (.int (0 : Int32)), .val (.int c0)] [(.int (255 : Int32)), (.int c0)])
  refine OEnds.go (fun _ q => XS.icmpYes X0.here X0.hx rfl (pc0 := 20) (pc' := 26) rfl (hb hby d_jdk_52_method_21_20) rfl (flt hl0).2.2.2 (by decide) (by decide) q) ?_
  show OEnds p e below _ T (mkF m 26 #[.val (.ref a), .val (.int (0 : Int32)), .val (.ref d), .val (.int (0 : Int32)), .val (.int (3 : Int32)), .val (.int (0 : Int32)), .val (.int c0)] [])
  refine OEnds.go (fun _ q => XS.aloadN X0.here X0.hx rfl (hb hby d_jdk_52_method_21_26) rfl rfl q) ?_
  refine OEnds.go (fun _ q => XS.iloadN X0.here X0.hx rfl (hb hby d_jdk_52_method_21_27) rfl q) ?_
  show OEnds p e below _ T (mkF m 28 #[.val (.ref a), .val (.int (0 : Int32)), .val (.ref d), .val (.int (0 : Int32)), .val (.int (3 : Int32)), .val (.int (0 : Int32)), .val (.int c0)] [(.int (0 : Int32)), (.ref d)])
  refine OEnds.go (fun _ q => XS.iload X0.here X0.hx rfl (hb hby d_jdk_52_method_21_28) rfl q) ?_
  refine OEnds.go (fun _ q => XS.i2b X0.here X0.hx rfl (hb hby d_jdk_52_method_21_30) rfl q) ?_
  show OEnds p e below _ T (mkF m 31 #[.val (.ref a), .val (.int (0 : Int32)), .val (.ref d), .val (.int (0 : Int32)), .val (.int (3 : Int32)), .val (.int (0 : Int32)), .val (.int c0)] [(.int (c0.toInt8.toInt32)), (.int (0 : Int32)), (.ref d)])
  refine X0.stB Kd safe_nil (by decide) (i := 0) rfl (Nat.le_of_ble_eq_true rfl) gzd (hb hby d_jdk_52_method_21_31) ?_
  intro T1 h3 X2 W4 Kd_h3x
  have Kd_h3 : Arv Z h3 d kd .byte (3 : Int32) [.int (c0.toInt8.toInt32).toInt8.toInt32, .int (0 : Int32), .int (0 : Int32)] (.int (0 : Int32)) := Kd_h3x
  have K5 := K0.wr W4 (Or.inl (List.mem_of_getElem? (i := 0) rfl))
  have Ka_h3 := Ka.other W4 nad
  show OEnds p e below _ T1 (mkF m 32 #[.val (.ref a), .val (.int (0 : Int32)), .val (.ref d), .val (.int (0 : Int32)), .val (.int (3 : Int32)), .val (.int (0 : Int32)), .val (.int c0)] [])
  refine OEnds.go (fun _ q => XS.iinc X2.here X2.hx rfl (hb hby d_jdk_52_method_21_32) rfl (l' := #[.val (.ref a), .val (.int ((0 : Int32) + (1 : Int32))), .val (.ref d), .val (.int (0 : Int32)), .val (.int (3 : Int32)), .val (.int (0 : Int32)), .val (.int c0)]) rfl q) ?_
  show OEnds p e below _ T1 (mkF m 35 #[.val (.ref a), .val (.int ((0 : Int32) + (1 : Int32))), .val (.ref d), .val (.int (0 : Int32)), .val (.int (3 : Int32)), .val (.int (0 : Int32)), .val (.int c0)] [])
  rw [show ((0 : Int32) + (1 : Int32)) = (1 : Int32) from by decide]
  show OEnds p e below _ T1 (mkF m 35 #[.val (.ref a), .val (.int (1 : Int32)), .val (.ref d), .val (.int (0 : Int32)), .val (.int (3 : Int32)), .val (.int (0 : Int32)), .val (.int c0)] [])
  refine OEnds.go (fun _ q => XS.iinc X2.here X2.hx rfl (hb hby d_jdk_52_method_21_35) rfl (l' := #[.val (.ref a), .val (.int (1 : Int32)), .val (.ref d), .val (.int ((0 : Int32) + (1 : Int32))), .val (.int (3 : Int32)), .val (.int (0 : Int32)), .val (.int c0)]) rfl q) ?_
  show OEnds p e below _ T1 (mkF m 38 #[.val (.ref a), .val (.int (1 : Int32)), .val (.ref d), .val (.int ((0 : Int32) + (1 : Int32))), .val (.int (3 : Int32)), .val (.int (0 : Int32)), .val (.int c0)] [])
  rw [show ((0 : Int32) + (1 : Int32)) = (1 : Int32) from by decide]
  show OEnds p e below _ T1 (mkF m 38 #[.val (.ref a), .val (.int (1 : Int32)), .val (.ref d), .val (.int (1 : Int32)), .val (.int (3 : Int32)), .val (.int (0 : Int32)), .val (.int c0)] [])
  refine OEnds.go (fun _ q => XS.iinc X2.here X2.hx rfl (hb hby d_jdk_52_method_21_38) rfl (l' := #[.val (.ref a), .val (.int (1 : Int32)), .val (.ref d), .val (.int (1 : Int32)), .val (.int (3 : Int32)), .val (.int ((0 : Int32) + (1 : Int32))), .val (.int c0)]) rfl q) ?_
  show OEnds p e below _ T1 (mkF m 41 #[.val (.ref a), .val (.int (1 : Int32)), .val (.ref d), .val (.int (1 : Int32)), .val (.int (3 : Int32)), .val (.int ((0 : Int32) + (1 : Int32))), .val (.int c0)] [])
  rw [show ((0 : Int32) + (1 : Int32)) = (1 : Int32) from by decide]
  show OEnds p e below _ T1 (mkF m 41 #[.val (.ref a), .val (.int (1 : Int32)), .val (.ref d), .val (.int (1 : Int32)), .val (.int (3 : Int32)), .val (.int (1 : Int32)), .val (.int c0)] [])
  refine OEnds.go (fun _ q => XS.goto X2.here X2.hx rfl (pc0 := 41) (pc' := 3) rfl (hb hby d_jdk_52_method_21_41) (by decide) (by decide) q) ?_
  refine OEnds.go (fun _ q => XS.iload X2.here X2.hx rfl (hb hby d_jdk_52_method_21_3) rfl q) ?_
  show OEnds p e below _ T1 (mkF m 5 #[.val (.ref a), .val (.int (1 : Int32)), .val (.ref d), .val (.int (1 : Int32)), .val (.int (3 : Int32)), .val (.int (1 : Int32)), .val (.int c0)] [(.int (1 : Int32))])
  refine OEnds.go (fun _ q => XS.iload X2.here X2.hx rfl (hb hby d_jdk_52_method_21_5) rfl q) ?_
  show OEnds p e below _ T1 (mkF m 7 #[.val (.ref a), .val (.int (1 : Int32)), .val (.ref d), .val (.int (1 : Int32)), .val (.int (3 : Int32)), .val (.int (1 : Int32)), .val (.int c0)] [(.int (3 : Int32)), (.int (1 : Int32))])
  refine OEnds.go (fun _ q => XS.icmpNo X2.here X2.hx rfl (hb hby d_jdk_52_method_21_7) rfl (tlt (by decide)).2.1 q) ?_
  show OEnds p e below _ T1 (mkF m 10 #[.val (.ref a), .val (.int (1 : Int32)), .val (.ref d), .val (.int (1 : Int32)), .val (.int (3 : Int32)), .val (.int (1 : Int32)), .val (.int c0)] [])
  refine OEnds.go (fun _ q => XS.aloadN X2.here X2.hx rfl (hb hby d_jdk_52_method_21_10) rfl rfl q) ?_
  refine OEnds.go (fun _ q => XS.iloadN X2.here X2.hx rfl (hb hby d_jdk_52_method_21_11) rfl q) ?_
  show OEnds p e below _ T1 (mkF m 12 #[.val (.ref a), .val (.int (1 : Int32)), .val (.ref d), .val (.int (1 : Int32)), .val (.int (3 : Int32)), .val (.int (1 : Int32)), .val (.int c0)] [(.int (1 : Int32)), (.ref a)])
  refine X2.cald Ka_h3 (by decide) (v := .int c1) rfl (hb hby d_jdk_52_method_21_12) ?_
  show OEnds p e below _ T1 (mkF m 13 #[.val (.ref a), .val (.int (1 : Int32)), .val (.ref d), .val (.int (1 : Int32)), .val (.int (3 : Int32)), .val (.int (1 : Int32)), .val (.int c0)] [(.int c1)])
  refine OEnds.go (fun _ q => XS.istore X2.here X2.hx rfl (hb hby d_jdk_52_method_21_13) rfl (l' := #[.val (.ref a), .val (.int (1 : Int32)), .val (.ref d), .val (.int (1 : Int32)), .val (.int (3 : Int32)), .val (.int (1 : Int32)), .val (.int c1)]) rfl q) ?_
  refine OEnds.go (fun _ q => XS.iload X2.here X2.hx rfl (hb hby d_jdk_52_method_21_15) rfl q) ?_
  show OEnds p e below _ T1 (mkF m 17 #[.val (.ref a), .val (.int (1 : Int32)), .val (.ref d), .val (.int (1 : Int32)), .val (.int (3 : Int32)), .val (.int (1 : Int32)), .val (.int c1)] [(.int c1)])
  refine OEnds.go (fun _ q => XS.sipush X2.here X2.hx rfl (hb hby d_jdk_52_method_21_17) q) ?_
  show OEnds p e below _ T1 (mkF m 20 #[.val (.ref a), .val (.int (1 : Int32)), .val (.ref d), .val (.int (1 : Int32)), .val (.int (3 : Int32)), .val (.int (1 : Int32)), .val (.int c1)] [(.int (255 : Int32)), (.int c1)])
  refine OEnds.go (fun _ q => XS.icmpYes X2.here X2.hx rfl (pc0 := 20) (pc' := 26) rfl (hb hby d_jdk_52_method_21_20) rfl (flt hl1).2.2.2 (by decide) (by decide) q) ?_
  show OEnds p e below _ T1 (mkF m 26 #[.val (.ref a), .val (.int (1 : Int32)), .val (.ref d), .val (.int (1 : Int32)), .val (.int (3 : Int32)), .val (.int (1 : Int32)), .val (.int c1)] [])
  refine OEnds.go (fun _ q => XS.aloadN X2.here X2.hx rfl (hb hby d_jdk_52_method_21_26) rfl rfl q) ?_
  refine OEnds.go (fun _ q => XS.iloadN X2.here X2.hx rfl (hb hby d_jdk_52_method_21_27) rfl q) ?_
  show OEnds p e below _ T1 (mkF m 28 #[.val (.ref a), .val (.int (1 : Int32)), .val (.ref d), .val (.int (1 : Int32)), .val (.int (3 : Int32)), .val (.int (1 : Int32)), .val (.int c1)] [(.int (1 : Int32)), (.ref d)])
  refine OEnds.go (fun _ q => XS.iload X2.here X2.hx rfl (hb hby d_jdk_52_method_21_28) rfl q) ?_
  refine OEnds.go (fun _ q => XS.i2b X2.here X2.hx rfl (hb hby d_jdk_52_method_21_30) rfl q) ?_
  show OEnds p e below _ T1 (mkF m 31 #[.val (.ref a), .val (.int (1 : Int32)), .val (.ref d), .val (.int (1 : Int32)), .val (.int (3 : Int32)), .val (.int (1 : Int32)), .val (.int c1)] [(.int (c1.toInt8.toInt32)), (.int (1 : Int32)), (.ref d)])
  refine X2.stB Kd_h3 safe_nil (by decide) (i := 1) rfl (Nat.le_of_ble_eq_true rfl) gzd (hb hby d_jdk_52_method_21_31) ?_
  intro T6 h8 X7 W9 Kd_h8x
  have Kd_h8 : Arv Z h8 d kd .byte (3 : Int32) [.int (c0.toInt8.toInt32).toInt8.toInt32, .int (c1.toInt8.toInt32).toInt8.toInt32, .int (0 : Int32)] (.int (0 : Int32)) := Kd_h8x
  have K10 := K5.wr W9 (Or.inl (List.mem_of_getElem? (i := 0) rfl))
  have Ka_h8 := Ka_h3.other W9 nad
  show OEnds p e below _ T6 (mkF m 32 #[.val (.ref a), .val (.int (1 : Int32)), .val (.ref d), .val (.int (1 : Int32)), .val (.int (3 : Int32)), .val (.int (1 : Int32)), .val (.int c1)] [])
  refine OEnds.go (fun _ q => XS.iinc X7.here X7.hx rfl (hb hby d_jdk_52_method_21_32) rfl (l' := #[.val (.ref a), .val (.int ((1 : Int32) + (1 : Int32))), .val (.ref d), .val (.int (1 : Int32)), .val (.int (3 : Int32)), .val (.int (1 : Int32)), .val (.int c1)]) rfl q) ?_
  show OEnds p e below _ T6 (mkF m 35 #[.val (.ref a), .val (.int ((1 : Int32) + (1 : Int32))), .val (.ref d), .val (.int (1 : Int32)), .val (.int (3 : Int32)), .val (.int (1 : Int32)), .val (.int c1)] [])
  rw [show ((1 : Int32) + (1 : Int32)) = (2 : Int32) from by decide]
  show OEnds p e below _ T6 (mkF m 35 #[.val (.ref a), .val (.int (2 : Int32)), .val (.ref d), .val (.int (1 : Int32)), .val (.int (3 : Int32)), .val (.int (1 : Int32)), .val (.int c1)] [])
  refine OEnds.go (fun _ q => XS.iinc X7.here X7.hx rfl (hb hby d_jdk_52_method_21_35) rfl (l' := #[.val (.ref a), .val (.int (2 : Int32)), .val (.ref d), .val (.int ((1 : Int32) + (1 : Int32))), .val (.int (3 : Int32)), .val (.int (1 : Int32)), .val (.int c1)]) rfl q) ?_
  show OEnds p e below _ T6 (mkF m 38 #[.val (.ref a), .val (.int (2 : Int32)), .val (.ref d), .val (.int ((1 : Int32) + (1 : Int32))), .val (.int (3 : Int32)), .val (.int (1 : Int32)), .val (.int c1)] [])
  rw [show ((1 : Int32) + (1 : Int32)) = (2 : Int32) from by decide]
  show OEnds p e below _ T6 (mkF m 38 #[.val (.ref a), .val (.int (2 : Int32)), .val (.ref d), .val (.int (2 : Int32)), .val (.int (3 : Int32)), .val (.int (1 : Int32)), .val (.int c1)] [])
  refine OEnds.go (fun _ q => XS.iinc X7.here X7.hx rfl (hb hby d_jdk_52_method_21_38) rfl (l' := #[.val (.ref a), .val (.int (2 : Int32)), .val (.ref d), .val (.int (2 : Int32)), .val (.int (3 : Int32)), .val (.int ((1 : Int32) + (1 : Int32))), .val (.int c1)]) rfl q) ?_
  show OEnds p e below _ T6 (mkF m 41 #[.val (.ref a), .val (.int (2 : Int32)), .val (.ref d), .val (.int (2 : Int32)), .val (.int (3 : Int32)), .val (.int ((1 : Int32) + (1 : Int32))), .val (.int c1)] [])
  rw [show ((1 : Int32) + (1 : Int32)) = (2 : Int32) from by decide]
  show OEnds p e below _ T6 (mkF m 41 #[.val (.ref a), .val (.int (2 : Int32)), .val (.ref d), .val (.int (2 : Int32)), .val (.int (3 : Int32)), .val (.int (2 : Int32)), .val (.int c1)] [])
  refine OEnds.go (fun _ q => XS.goto X7.here X7.hx rfl (pc0 := 41) (pc' := 3) rfl (hb hby d_jdk_52_method_21_41) (by decide) (by decide) q) ?_
  refine OEnds.go (fun _ q => XS.iload X7.here X7.hx rfl (hb hby d_jdk_52_method_21_3) rfl q) ?_
  show OEnds p e below _ T6 (mkF m 5 #[.val (.ref a), .val (.int (2 : Int32)), .val (.ref d), .val (.int (2 : Int32)), .val (.int (3 : Int32)), .val (.int (2 : Int32)), .val (.int c1)] [(.int (2 : Int32))])
  refine OEnds.go (fun _ q => XS.iload X7.here X7.hx rfl (hb hby d_jdk_52_method_21_5) rfl q) ?_
  show OEnds p e below _ T6 (mkF m 7 #[.val (.ref a), .val (.int (2 : Int32)), .val (.ref d), .val (.int (2 : Int32)), .val (.int (3 : Int32)), .val (.int (2 : Int32)), .val (.int c1)] [(.int (3 : Int32)), (.int (2 : Int32))])
  refine OEnds.go (fun _ q => XS.icmpNo X7.here X7.hx rfl (hb hby d_jdk_52_method_21_7) rfl (tlt (by decide)).2.1 q) ?_
  show OEnds p e below _ T6 (mkF m 10 #[.val (.ref a), .val (.int (2 : Int32)), .val (.ref d), .val (.int (2 : Int32)), .val (.int (3 : Int32)), .val (.int (2 : Int32)), .val (.int c1)] [])
  refine OEnds.go (fun _ q => XS.aloadN X7.here X7.hx rfl (hb hby d_jdk_52_method_21_10) rfl rfl q) ?_
  refine OEnds.go (fun _ q => XS.iloadN X7.here X7.hx rfl (hb hby d_jdk_52_method_21_11) rfl q) ?_
  show OEnds p e below _ T6 (mkF m 12 #[.val (.ref a), .val (.int (2 : Int32)), .val (.ref d), .val (.int (2 : Int32)), .val (.int (3 : Int32)), .val (.int (2 : Int32)), .val (.int c1)] [(.int (2 : Int32)), (.ref a)])
  refine X7.cald Ka_h8 (by decide) (v := .int c2) rfl (hb hby d_jdk_52_method_21_12) ?_
  show OEnds p e below _ T6 (mkF m 13 #[.val (.ref a), .val (.int (2 : Int32)), .val (.ref d), .val (.int (2 : Int32)), .val (.int (3 : Int32)), .val (.int (2 : Int32)), .val (.int c1)] [(.int c2)])
  refine OEnds.go (fun _ q => XS.istore X7.here X7.hx rfl (hb hby d_jdk_52_method_21_13) rfl (l' := #[.val (.ref a), .val (.int (2 : Int32)), .val (.ref d), .val (.int (2 : Int32)), .val (.int (3 : Int32)), .val (.int (2 : Int32)), .val (.int c2)]) rfl q) ?_
  refine OEnds.go (fun _ q => XS.iload X7.here X7.hx rfl (hb hby d_jdk_52_method_21_15) rfl q) ?_
  show OEnds p e below _ T6 (mkF m 17 #[.val (.ref a), .val (.int (2 : Int32)), .val (.ref d), .val (.int (2 : Int32)), .val (.int (3 : Int32)), .val (.int (2 : Int32)), .val (.int c2)] [(.int c2)])
  refine OEnds.go (fun _ q => XS.sipush X7.here X7.hx rfl (hb hby d_jdk_52_method_21_17) q) ?_
  show OEnds p e below _ T6 (mkF m 20 #[.val (.ref a), .val (.int (2 : Int32)), .val (.ref d), .val (.int (2 : Int32)), .val (.int (3 : Int32)), .val (.int (2 : Int32)), .val (.int c2)] [(.int (255 : Int32)), (.int c2)])
  refine OEnds.go (fun _ q => XS.icmpNo X7.here X7.hx rfl (hb hby d_jdk_52_method_21_20) rfl (tlt hk).2.2.2 q) ?_
  show OEnds p e below _ T6 (mkF m 23 #[.val (.ref a), .val (.int (2 : Int32)), .val (.ref d), .val (.int (2 : Int32)), .val (.int (3 : Int32)), .val (.int (2 : Int32)), .val (.int c2)] [])
  refine OEnds.go (fun _ q => XS.iload X7.here X7.hx rfl (hb hby d_jdk_52_method_21_23) rfl q) ?_
  show OEnds p e below _ T6 (mkF m 25 #[.val (.ref a), .val (.int (2 : Int32)), .val (.ref d), .val (.int (2 : Int32)), .val (.int (3 : Int32)), .val (.int (2 : Int32)), .val (.int c2)] [(.int (2 : Int32))])
  exact X7.retIntN hlk  hret (hb hby d_jdk_52_method_21_25) (by decide) (by decide) ⟨rfl, K10⟩
theorem con_co32 {l : Launch} {Z : State} {a0 : Array Value} {cz : Int32} {fm : Value} (H : Ctx Z a0 cz fm) (a : Addr) (kc : ClassId) (c0 c1 c2 : Int32) (hl0 : ¬ (255 : Int32) < c0) (hl1 : ¬ (255 : Int32) < c1) (hk : (255 : Int32) < c2) (hu : ¬ c2 < 0 ∧ ¬ (65535 : Int32) < c2) (h0 : Heap) (Ka : Arv Z h0 a kc .char (3 : Int32) [.int c0, .int c1, .int c2] (.int (0 : Int32))) :
    ConN l Z (⟨"java/lang/StringUTF16", "compress", "([CII)[B"⟩ : MethodName) jdk_52_method_16_code 6 (some (FieldType.array FieldType.byte)) [] ({ frames := 3, cells := 2, slots := 9, locals := 40 } : Room) #[(.ref a), (.int (0 : Int32)), (.int (3 : Int32))] h0 (fun r h => ∃ (t : Addr) (kb : ClassId), r = some (.ref t) ∧ Ext h0 h ∧ Arv Z h t kb .byte (6 : Int32) [.int (own_lo c0), .int (own_hi c0), .int (own_lo c1), .int (own_hi c1), .int (own_lo c2), .int (own_hi c2)] (.int (0 : Int32))) := by
  obtain ⟨hw, hE, S0, hcz, S1, rf, hp0, hp1, hp2⟩ := id H
  refine ConN.of own_pf10 ?_
  intro p e s m below meth c T hby hml hret hlk hnm X0
  have EX0 := ext_refl h0
  refine OEnds.cast (own_ef8 m a (0 : Int32) (3 : Int32) ) ?_
  show OEnds p e below _ T (mkF m 0 #[.val (.ref a), .val (.int (0 : Int32)), .val (.int (3 : Int32)), .unset, .unset, .unset] [])
  refine OEnds.go (fun _ q => XS.iloadN X0.here X0.hx rfl (hb hby d_jdk_52_method_16_0) rfl q) ?_
  show OEnds p e below _ T (mkF m 1 #[.val (.ref a), .val (.int (0 : Int32)), .val (.int (3 : Int32)), .unset, .unset, .unset] [(.int (3 : Int32))])
  refine X0.newP (own_k hw 19 rfl) (hb hby d_jdk_52_method_16_1) (by decide) (cap := 3) (by decide) (by decide) (by decide) (by decide) ?_
  intro T1 h3 a5 ka5 ga5 X2 E4 Ka5
  have gza5 : Z.heap.size ≤ a5 := ga5 ▸ X0.old.1
  have Ka_h3 := Ka.ext E4
  have EX_h3 := ext_trans EX0 E4
  have Ka5_0 : Arv Z h3 a5 ka5 .byte (3 : Int32) [.int (0 : Int32), .int (0 : Int32), .int (0 : Int32)] (.int (0 : Int32)) := Ka5.pad (pad_rep [] (.int (0 : Int32)) 3)
  show OEnds p e below _ T1 (mkF m 3 #[.val (.ref a), .val (.int (0 : Int32)), .val (.int (3 : Int32)), .unset, .unset, .unset] [(.ref a5)])
  refine OEnds.go (fun _ q => XS.astoreN X2.here X2.hx rfl (hb hby d_jdk_52_method_16_3) rfl rfl (l' := #[.val (.ref a), .val (.int (0 : Int32)), .val (.int (3 : Int32)), .val (.ref a5), .unset, .unset]) rfl q) ?_
  refine OEnds.go (fun _ q => XS.aloadN X2.here X2.hx rfl (hb hby d_jdk_52_method_16_4) rfl rfl q) ?_
  show OEnds p e below _ T1 (mkF m 5 #[.val (.ref a), .val (.int (0 : Int32)), .val (.int (3 : Int32)), .val (.ref a5), .unset, .unset] [(.ref a)])
  refine OEnds.go (fun _ q => XS.iloadN X2.here X2.hx rfl (hb hby d_jdk_52_method_16_5) rfl q) ?_
  refine OEnds.go (fun _ q => XS.aloadN X2.here X2.hx rfl (hb hby d_jdk_52_method_16_6) rfl rfl q) ?_
  show OEnds p e below _ T1 (mkF m 7 #[.val (.ref a), .val (.int (0 : Int32)), .val (.int (3 : Int32)), .val (.ref a5), .unset, .unset] [(.ref a5), (.int (0 : Int32)), (.ref a)])
  refine OEnds.go (fun _ q => XS.iconst X2.here X2.hx rfl (hb hby d_jdk_52_method_16_7) q) ?_
  refine OEnds.go (fun _ q => XS.iloadN X2.here X2.hx rfl (hb hby d_jdk_52_method_16_8) rfl q) ?_
  show OEnds p e below _ T1 (mkF m 9 #[.val (.ref a), .val (.int (0 : Int32)), .val (.int (3 : Int32)), .val (.ref a5), .unset, .unset] [(.int (3 : Int32)), (.int (0 : Int32)), (.ref a5), (.int (0 : Int32)), (.ref a)])
  refine X2.payS (ConN.back (W := 0) (con_ci32 H a a5 kc ka5 c0 c1 c2 hl0 hl1 hk gza5 h3 Ka_h3 Ka5_0) X2.old X2.hZ (own_k hw 47 rfl) (own_k hw 43 rfl) (by decide) (by decide)) (okN (fun _ _ q => q.2.1)) (own_k hw 45 rfl) (own_k hw 46 rfl) (own_k hw 43 rfl) (own_k hw 47 rfl)  (by decide)  (argsL := [(.ref a), (.int (0 : Int32)), (.ref a5), (.int (0 : Int32)), (.int (3 : Int32))]) (rest := []) rfl (lenOf own_pd4 rfl) rfl (by rw [hml]; rfl) (Nat.le_of_eq rfl) (hb hby d_jdk_52_method_16_9) (by decide) (by decide) ?_
  intro v12 T7 h9 Lh9 X8 q13
  replace q13 := q13.1
  obtain ⟨rfl, Kq6⟩ := q13
  have EBa5_h9 := ext_keep E4 Kq6 (allS (Nat.le_of_eq ga5) all0)
  have Ka_h9 := Ka.ext EBa5_h9
  have EX_h9 := ext_keep EX_h3 Kq6 (allS (Nat.le_trans EX0.1 (Nat.le_of_eq ga5)) all0)
  show OEnds p e below _ T7 (mkF m 12 #[.val (.ref a), .val (.int (0 : Int32)), .val (.int (3 : Int32)), .val (.ref a5), .unset, .unset] [(.int (2 : Int32))])
  refine OEnds.go (fun _ q => XS.istore X8.here X8.hx rfl (hb hby d_jdk_52_method_16_12) rfl (l' := #[.val (.ref a), .val (.int (0 : Int32)), .val (.int (3 : Int32)), .val (.ref a5), .val (.int (2 : Int32)), .unset]) rfl q) ?_
  refine OEnds.go (fun _ q => XS.iload X8.here X8.hx rfl (hb hby d_jdk_52_method_16_14) rfl q) ?_
  show OEnds p e below _ T7 (mkF m 16 #[.val (.ref a), .val (.int (0 : Int32)), .val (.int (3 : Int32)), .val (.ref a5), .val (.int (2 : Int32)), .unset] [(.int (2 : Int32))])
  refine OEnds.go (fun _ q => XS.iloadN X8.here X8.hx rfl (hb hby d_jdk_52_method_16_16) rfl q) ?_
  show OEnds p e below _ T7 (mkF m 17 #[.val (.ref a), .val (.int (0 : Int32)), .val (.int (3 : Int32)), .val (.ref a5), .val (.int (2 : Int32)), .unset] [(.int (3 : Int32)), (.int (2 : Int32))])
  refine OEnds.go (fun _ q => XS.icmpNo X8.here X8.hx rfl (hb hby d_jdk_52_method_16_17) rfl (feq (by decide)).1 q) ?_
  show OEnds p e below _ T7 (mkF m 20 #[.val (.ref a), .val (.int (0 : Int32)), .val (.int (3 : Int32)), .val (.ref a5), .val (.int (2 : Int32)), .unset] [])
  refine OEnds.go (fun _ q => XS.aloadN X8.here X8.hx rfl (hb hby d_jdk_52_method_16_20) rfl rfl q) ?_
  refine OEnds.go (fun _ q => XS.iloadN X8.here X8.hx rfl (hb hby d_jdk_52_method_16_21) rfl q) ?_
  show OEnds p e below _ T7 (mkF m 22 #[.val (.ref a), .val (.int (0 : Int32)), .val (.int (3 : Int32)), .val (.ref a5), .val (.int (2 : Int32)), .unset] [(.int (0 : Int32)), (.ref a)])
  refine OEnds.go (fun _ q => XS.iloadN X8.here X8.hx rfl (hb hby d_jdk_52_method_16_22) rfl q) ?_
  show OEnds p e below _ T7 (mkF m 23 #[.val (.ref a), .val (.int (0 : Int32)), .val (.int (3 : Int32)), .val (.ref a5), .val (.int (2 : Int32)), .unset] [(.int (3 : Int32)), (.int (0 : Int32)), (.ref a)])
  refine X8.payS (ConN.back (W := 0) (con_tob3 H a kc c0 c1 c2 h9 Ka_h9) X8.old X8.hZ (own_k hw 78 rfl) (own_k hw 43 rfl) (by decide) (by decide)) (okN (fun _ _ ⟨_, _, _, q, _⟩ => q.1)) (own_k hw 76 rfl) (own_k hw 77 rfl) (own_k hw 43 rfl) (own_k hw 78 rfl)  (by decide)  (argsL := [(.ref a), (.int (0 : Int32)), (.int (3 : Int32))]) (rest := []) rfl (lenOf own_pd5 rfl) rfl (by rw [hml]; rfl) (Nat.le_of_eq rfl) (hb hby d_jdk_52_method_16_23) (by decide) (by decide) ?_
  intro v19 T14 h16 Lh16 X15 q20
  replace q20 := q20.1
  obtain ⟨t, kb, rfl, Et, Kt⟩ := q20
  have Ka_h16 := Ka_h9.ext Et
  have EX_h16 := ext_trans EX_h9 Et
  show OEnds p e below _ T14 (mkF m 26 #[.val (.ref a), .val (.int (0 : Int32)), .val (.int (3 : Int32)), .val (.ref a5), .val (.int (2 : Int32)), .unset] [(.ref t)])
  refine OEnds.go (fun _ q => XS.astore X15.here X15.hx rfl (hb hby d_jdk_52_method_16_26) rfl rfl (l' := #[.val (.ref a), .val (.int (0 : Int32)), .val (.int (3 : Int32)), .val (.ref a5), .val (.int (2 : Int32)), .val (.ref t)]) rfl q) ?_
  refine OEnds.go (fun _ q => XS.aload X15.here X15.hx rfl (hb hby d_jdk_52_method_16_28) rfl rfl q) ?_
  show OEnds p e below _ T14 (mkF m 30 #[.val (.ref a), .val (.int (0 : Int32)), .val (.int (3 : Int32)), .val (.ref a5), .val (.int (2 : Int32)), .val (.ref t)] [(.ref t)])
  refine OEnds.go (fun _ q => XS.iload X15.here X15.hx rfl (hb hby d_jdk_52_method_16_30) rfl q) ?_
  show OEnds p e below _ T14 (mkF m 32 #[.val (.ref a), .val (.int (0 : Int32)), .val (.int (3 : Int32)), .val (.ref a5), .val (.int (2 : Int32)), .val (.ref t)] [(.int (2 : Int32)), (.ref t)])
  refine X15.payS (ConN.back (W := 0) (con_get32 H t kb c0 c1 c2 hu h16 Kt) X15.old X15.hZ (own_k hw 94 rfl) (own_k hw 43 rfl) (by decide) (by decide)) (okN (fun _ _ q => Nat.le_of_eq (congrArg Array.size q.2))) (own_k hw 92 rfl) (own_k hw 93 rfl) (own_k hw 43 rfl) (own_k hw 94 rfl)  (by decide)  (argsL := [(.ref t), (.int (2 : Int32))]) (rest := []) rfl (lenOf own_pd6 rfl) rfl (by rw [hml]; rfl) (Nat.le_of_eq rfl) (hb hby d_jdk_52_method_16_32) (by decide) (by decide) ?_
  intro v26 T21 h23 Lh23 X22 q27
  replace q27 := q27.1
  obtain ⟨rfl, rfl⟩ := q27
  show OEnds p e below _ T21 (mkF m 35 #[.val (.ref a), .val (.int (0 : Int32)), .val (.int (3 : Int32)), .val (.ref a5), .val (.int (2 : Int32)), .val (.ref t)] [(.int c2)])
  refine OEnds.go (fun _ q => XS.sipush X22.here X22.hx rfl (hb hby d_jdk_52_method_16_35) q) ?_
  show OEnds p e below _ T21 (mkF m 38 #[.val (.ref a), .val (.int (0 : Int32)), .val (.int (3 : Int32)), .val (.ref a5), .val (.int (2 : Int32)), .val (.ref t)] [(.int (255 : Int32)), (.int c2)])
  refine OEnds.go (fun _ q => XS.icmpYes X22.here X22.hx rfl (pc0 := 38) (pc' := 54) rfl (hb hby d_jdk_52_method_16_38) rfl (tlt hk).2.2.1 (by decide) (by decide) q) ?_
  show OEnds p e below _ T21 (mkF m 54 #[.val (.ref a), .val (.int (0 : Int32)), .val (.int (3 : Int32)), .val (.ref a5), .val (.int (2 : Int32)), .val (.ref t)] [])
  refine OEnds.go (fun _ q => XS.aload X22.here X22.hx rfl (hb hby d_jdk_52_method_16_54) rfl rfl q) ?_
  show OEnds p e below _ T21 (mkF m 56 #[.val (.ref a), .val (.int (0 : Int32)), .val (.int (3 : Int32)), .val (.ref a5), .val (.int (2 : Int32)), .val (.ref t)] [(.ref t)])
  exact X22.retRefN hlk rfl (t := (FieldType.array FieldType.byte)) rfl hret (hb hby d_jdk_52_method_16_56) (by decide) (by decide) ⟨t, kb, rfl, EX_h16, Kt⟩
theorem con_nv32 {l : Launch} {Z : State} {a0 : Array Value} {cz : Int32} {fm : Value} (H : Ctx Z a0 cz fm) (x a : Addr) (kc : ClassId) (c0 c1 c2 : Int32) (hl0 : ¬ (255 : Int32) < c0) (hl1 : ¬ (255 : Int32) < c1) (hk : (255 : Int32) < c2) (hu : ¬ c2 < 0 ∧ ¬ (65535 : Int32) < c2) (gzx : Z.heap.size ≤ x) (h0 : Heap) (Ex : Exa Z h0 x "java/lang/String") (Vx : Fld Z h0 x "java/lang/String" "value" "[B" .null) (Cx : Fld Z h0 x "java/lang/String" "coder" "B" (.int (0 : Int32))) (Ka : Arv Z h0 a kc .char (3 : Int32) [.int c0, .int c1, .int c2] (.int (0 : Int32))) :
    ConN l Z (⟨"java/lang/String", "<init>", "([CIILjava/lang/Void;)V"⟩ : MethodName) jdk_42_method_149_code 6 (none : Option FieldType) [] ({ frames := 4, cells := 2, slots := 9, locals := 57 } : Room) #[(.ref x), (.ref a), (.int (0 : Int32)), (.int (3 : Int32)), (.null)] h0 (fun r h => r = none ∧ Keep h0 h [x] ∧ OUtf3 Z h x c0 c1 c2) := by
  obtain ⟨hw, hE, S0, hcz, S1, rf, hp0, hp1, hp2⟩ := id H
  refine ConN.of own_pf0 ?_
  intro p e s m below meth c T hby hml hret hlk hnm X0
  have EX0 := ext_refl h0
  refine OEnds.cast (own_ef0 m x a (0 : Int32) (3 : Int32) ) ?_
  show OEnds p e below _ T (mkF m 0 #[.val (.ref x), .val (.ref a), .val (.int (0 : Int32)), .val (.int (3 : Int32)), .val (.null), .unset] [])
  have K0 := Keep.refl h0 [x]
  refine OEnds.go (fun _ q => XS.aloadN X0.here X0.hx rfl (hb hby d_jdk_42_method_149_0) rfl rfl q) ?_
  show OEnds p e below _ T (mkF m 1 #[.val (.ref x), .val (.ref a), .val (.int (0 : Int32)), .val (.int (3 : Int32)), .val (.null), .unset] [(.ref x)])
  refine X0.initO (own_k hw 15 rfl) (own_k hw 16 rfl) (own_k hw 17 rfl) (by rw [hml]; rfl) (hb hby d_jdk_42_method_149_1) (by decide) (W := 0) (Nat.le_of_eq rfl) (by decide) ?_
  intro T1 X2
  show OEnds p e below _ T1 (mkF m 4 #[.val (.ref x), .val (.ref a), .val (.int (0 : Int32)), .val (.int (3 : Int32)), .val (.null), .unset] [])
  refine OEnds.go (fun _ q => XS.iloadN X2.here X2.hx rfl (hb hby d_jdk_42_method_149_4) rfl q) ?_
  show OEnds p e below _ T1 (mkF m 5 #[.val (.ref x), .val (.ref a), .val (.int (0 : Int32)), .val (.int (3 : Int32)), .val (.null), .unset] [(.int (3 : Int32))])
  refine OEnds.go (fun _ q => XS.ifYes X2.here X2.hx rfl (pc0 := 5) (pc' := 27) rfl (hb hby d_jdk_42_method_149_5) rfl ((if0 _ _).trans (feq (by decide)).2) (by decide) (by decide) q) ?_
  show OEnds p e below _ T1 (mkF m 27 #[.val (.ref x), .val (.ref a), .val (.int (0 : Int32)), .val (.int (3 : Int32)), .val (.null), .unset] [])
  refine X2.getS (own_k hw 40 rfl) Via.refl (S0.ext X2.old) (hb hby d_jdk_42_method_149_27) ?_
  intro T3 X4
  show OEnds p e below _ T3 (mkF m 30 #[.val (.ref x), .val (.ref a), .val (.int (0 : Int32)), .val (.int (3 : Int32)), .val (.null), .unset] [(.int cz)])
  refine OEnds.go (fun _ q => XS.ifNo X4.here X4.hx rfl (hb hby d_jdk_42_method_149_30) rfl ((if0 _ _).trans (feq hcz).1) q) ?_
  show OEnds p e below _ T3 (mkF m 33 #[.val (.ref x), .val (.ref a), .val (.int (0 : Int32)), .val (.int (3 : Int32)), .val (.null), .unset] [])
  refine OEnds.go (fun _ q => XS.aloadN X4.here X4.hx rfl (hb hby d_jdk_42_method_149_33) rfl rfl q) ?_
  refine OEnds.go (fun _ q => XS.iloadN X4.here X4.hx rfl (hb hby d_jdk_42_method_149_34) rfl q) ?_
  show OEnds p e below _ T3 (mkF m 35 #[.val (.ref x), .val (.ref a), .val (.int (0 : Int32)), .val (.int (3 : Int32)), .val (.null), .unset] [(.int (0 : Int32)), (.ref a)])
  refine OEnds.go (fun _ q => XS.iloadN X4.here X4.hx rfl (hb hby d_jdk_42_method_149_35) rfl q) ?_
  show OEnds p e below _ T3 (mkF m 36 #[.val (.ref x), .val (.ref a), .val (.int (0 : Int32)), .val (.int (3 : Int32)), .val (.null), .unset] [(.int (3 : Int32)), (.int (0 : Int32)), (.ref a)])
  refine X4.payS (ConN.back (W := 0) (con_co32 H a kc c0 c1 c2 hl0 hl1 hk hu h0 Ka) X4.old X4.hZ (own_k hw 44 rfl) (own_k hw 43 rfl) (by decide) (by decide)) (okN (fun _ _ ⟨_, _, _, q, _⟩ => q.1)) (own_k hw 41 rfl) (own_k hw 42 rfl) (own_k hw 43 rfl) (own_k hw 44 rfl)  (by decide)  (argsL := [(.ref a), (.int (0 : Int32)), (.int (3 : Int32))]) (rest := []) rfl (lenOf own_pd5 rfl) rfl (by rw [hml]; rfl) (Nat.le_of_eq rfl) (hb hby d_jdk_42_method_149_36) (by decide) (by decide) ?_
  intro v10 T5 h7 Lh7 X6 q11
  replace q11 := q11.1
  obtain ⟨t, kb, rfl, Et, Kt⟩ := q11
  have Ex_h7 := Ex.ext Et
  have Vx_h7 := Vx.ext Et
  have Cx_h7 := Cx.ext Et
  have Ka_h7 := Ka.ext Et
  have EX_h7 := ext_trans EX0 Et
  have Kpx_h7 := K0.ext Et
  show OEnds p e below _ T5 (mkF m 39 #[.val (.ref x), .val (.ref a), .val (.int (0 : Int32)), .val (.int (3 : Int32)), .val (.null), .unset] [(.ref t)])
  have nxt : t ≠ x := fun q => Exa.neArv Ex_h7 Kt (own_k hw 5 rfl) q.symm
  refine OEnds.go (fun _ q => XS.astore X6.here X6.hx rfl (hb hby d_jdk_42_method_149_39) rfl rfl (l' := #[.val (.ref x), .val (.ref a), .val (.int (0 : Int32)), .val (.int (3 : Int32)), .val (.null), .val (.ref t)]) rfl q) ?_
  refine OEnds.go (fun _ q => XS.aloadN X6.here X6.hx rfl (hb hby d_jdk_42_method_149_41) rfl rfl q) ?_
  show OEnds p e below _ T5 (mkF m 42 #[.val (.ref x), .val (.ref a), .val (.int (0 : Int32)), .val (.int (3 : Int32)), .val (.null), .val (.ref t)] [(.ref x)])
  refine OEnds.go (fun _ q => XS.aload X6.here X6.hx rfl (hb hby d_jdk_42_method_149_42) rfl rfl q) ?_
  refine OEnds.go (fun _ q => XS.iloadN X6.here X6.hx rfl (hb hby d_jdk_42_method_149_44) rfl q) ?_
  show OEnds p e below _ T5 (mkF m 45 #[.val (.ref x), .val (.ref a), .val (.int (0 : Int32)), .val (.int (3 : Int32)), .val (.null), .val (.ref t)] [(.int (3 : Int32)), (.ref t), (.ref x)])
  refine X6.payS (ConN.back (W := 1) (con_cfa3 H t kb _ h7 Kt) X6.old X6.hZ (own_k hw 50 rfl) (own_k hw 43 rfl) (by decide) (by decide)) (okN (fun _ _ q => Nat.le_of_eq (congrArg Array.size q.2))) (own_k hw 48 rfl) (own_k hw 49 rfl) (own_k hw 43 rfl) (own_k hw 50 rfl)  (by decide)  (argsL := [(.ref t), (.int (3 : Int32))]) (rest := [(.ref x)]) rfl (lenOf own_pd7 rfl) rfl (by rw [hml]; rfl) (Nat.le_of_eq rfl) (hb hby d_jdk_42_method_149_45) (by decide) (by decide) ?_
  intro v17 T12 h14 Lh14 X13 q18
  replace q18 := q18.1
  obtain ⟨rfl, rfl⟩ := q18
  show OEnds p e below _ T12 (mkF m 48 #[.val (.ref x), .val (.ref a), .val (.int (0 : Int32)), .val (.int (3 : Int32)), .val (.null), .val (.ref t)] [(.int (1 : Int32)), (.ref x)])
  refine X13.putF (v := (.int (1 : Int32))) (own_k hw 25 rfl) Via.refl Cx_h7 Ex_h7 (Or.inr ⟨(own_k hw 21 rfl), rfl, hnm⟩) (own_k hw 5 rfl) (ty := FieldType.byte) (by decide) rfl rfl safe_nil gzx (hb hby d_jdk_42_method_149_48) ?_
  intro T19 h21 X20 W22
  have Cx_h21 := Cx_h7.same W22
  have Ex_h21 := Ex_h7.wr W22
  have Vx_h21 := Vx_h7.other W22 (Or.inr (slot_ne (a0 := a0) (Or.inr (own_k hw 20 rfl)) (Or.inr (own_k hw 21 rfl)) (by decide) (t := (FieldType.array FieldType.byte)) (by decide) (t' := FieldType.byte) (by decide)))
  have K23 := Kpx_h7.wr W22 (Or.inl (List.mem_of_getElem? (i := 0) rfl))
  have Kt_h21 := Kt.other W22 nxt
  show OEnds p e below _ T19 (mkF m 51 #[.val (.ref x), .val (.ref a), .val (.int (0 : Int32)), .val (.int (3 : Int32)), .val (.null), .val (.ref t)] [])
  refine OEnds.go (fun _ q => XS.aloadN X20.here X20.hx rfl (hb hby d_jdk_42_method_149_51) rfl rfl q) ?_
  refine OEnds.go (fun _ q => XS.aload X20.here X20.hx rfl (hb hby d_jdk_42_method_149_52) rfl rfl q) ?_
  show OEnds p e below _ T19 (mkF m 54 #[.val (.ref x), .val (.ref a), .val (.int (0 : Int32)), .val (.int (3 : Int32)), .val (.null), .val (.ref t)] [(.ref t), (.ref x)])
  refine X20.putF (v := (.ref t)) (own_k hw 24 rfl) Via.refl Vx_h21 Ex_h21 (Or.inr ⟨(own_k hw 20 rfl), rfl, hnm⟩) (own_k hw 5 rfl) (ty := (FieldType.array FieldType.byte)) (by decide) rfl rfl safe_nil gzx (hb hby d_jdk_42_method_149_54) ?_
  intro T24 h26 X25 W27
  have Vx_h26 := Vx_h21.same W27
  have Ex_h26 := Ex_h21.wr W27
  have Cx_h26 := Cx_h21.other W27 (Or.inr (slot_ne (a0 := a0) (Or.inr (own_k hw 21 rfl)) (Or.inr (own_k hw 20 rfl)) (by decide) (t := FieldType.byte) (by decide) (t' := (FieldType.array FieldType.byte)) (by decide)))
  have K28 := K23.wr W27 (Or.inl (List.mem_of_getElem? (i := 0) rfl))
  have Kt_h26 := Kt_h21.other W27 nxt
  show OEnds p e below _ T24 (mkF m 57 #[.val (.ref x), .val (.ref a), .val (.int (0 : Int32)), .val (.int (3 : Int32)), .val (.null), .val (.ref t)] [])
  exact X25.ret0N hlk  hret (hb hby d_jdk_42_method_149_57) (by decide) (by decide) ⟨rfl, K28, Ex_h26, Cx_h26, t, kb, Vx_h26, Kt_h26⟩
theorem con_nu32 {l : Launch} {Z : State} {a0 : Array Value} {cz : Int32} {fm : Value} (H : Ctx Z a0 cz fm) (x a : Addr) (kc : ClassId) (c0 c1 c2 : Int32) (hl0 : ¬ (255 : Int32) < c0) (hl1 : ¬ (255 : Int32) < c1) (hk : (255 : Int32) < c2) (hu : ¬ c2 < 0 ∧ ¬ (65535 : Int32) < c2) (gzx : Z.heap.size ≤ x) (h0 : Heap) (Ex : Exa Z h0 x "java/lang/String") (Vx : Fld Z h0 x "java/lang/String" "value" "[B" .null) (Cx : Fld Z h0 x "java/lang/String" "coder" "B" (.int (0 : Int32))) (Ka : Arv Z h0 a kc .char (3 : Int32) [.int c0, .int c1, .int c2] (.int (0 : Int32))) :
    ConN l Z (⟨"java/lang/String", "<init>", "([C)V"⟩ : MethodName) jdk_42_method_3_code 2 (none : Option FieldType) [] ({ frames := 5, cells := 2, slots := 9, locals := 74 } : Room) #[(.ref x), (.ref a)] h0 (fun r h => r = none ∧ Keep h0 h [x] ∧ OUtf3 Z h x c0 c1 c2) := by
  obtain ⟨hw, hE, S0, hcz, S1, rf, hp0, hp1, hp2⟩ := id H
  refine ConN.of own_pf1 ?_
  intro p e s m below meth c T hby hml hret hlk hnm X0
  have EX0 := ext_refl h0
  refine OEnds.cast (own_ef1 m x a ) ?_
  show OEnds p e below _ T (mkF m 0 #[.val (.ref x), .val (.ref a)] [])
  refine OEnds.go (fun _ q => XS.aloadN X0.here X0.hx rfl (hb hby d_jdk_42_method_3_0) rfl rfl q) ?_
  refine OEnds.go (fun _ q => XS.aloadN X0.here X0.hx rfl (hb hby d_jdk_42_method_3_1) rfl rfl q) ?_
  show OEnds p e below _ T (mkF m 2 #[.val (.ref x), .val (.ref a)] [(.ref a), (.ref x)])
  refine OEnds.go (fun _ q => XS.iconst X0.here X0.hx rfl (hb hby d_jdk_42_method_3_2) q) ?_
  refine OEnds.go (fun _ q => XS.aloadN X0.here X0.hx rfl (hb hby d_jdk_42_method_3_3) rfl rfl q) ?_
  show OEnds p e below _ T (mkF m 4 #[.val (.ref x), .val (.ref a)] [(.ref a), (.int (0 : Int32)), (.ref a), (.ref x)])
  refine X0.alen Ka (hb hby d_jdk_42_method_3_4) ?_
  show OEnds p e below _ T (mkF m 5 #[.val (.ref x), .val (.ref a)] [(.int (3 : Int32)), (.int (0 : Int32)), (.ref a), (.ref x)])
  refine OEnds.go (fun _ q => XS.aconstNull X0.here X0.hx rfl (hb hby d_jdk_42_method_3_5) q) ?_
  show OEnds p e below _ T (mkF m 6 #[.val (.ref x), .val (.ref a)] [(.null), (.int (3 : Int32)), (.int (0 : Int32)), (.ref a), (.ref x)])
  refine X0.payI (ConN.back (W := 0) (con_nv32 H x a kc c0 c1 c2 hl0 hl1 hk hu gzx h0 Ex Vx Cx Ka) X0.old X0.hZ (own_k hw 14 rfl) (own_k hw 6 rfl) (by decide) (by decide)) (okN (fun _ _ q => q.2.1.1)) (own_k hw 11 rfl) (own_k hw 12 rfl)  (own_k hw 14 rfl) rfl (by decide)  (a := x) (argsL := [(.ref a), (.int (0 : Int32)), (.int (3 : Int32)), (.null)]) (rest := []) rfl (lenOf own_pd0 rfl) rfl (by rw [hml]; rfl) (Nat.le_of_eq rfl) (hb hby d_jdk_42_method_3_6) (by decide) (by decide) ?_
  intro v6 T1 h3 Lh3 X2 q7
  replace q7 := q7.1
  obtain ⟨rfl, Kq, Uq⟩ := q7
  show OEnds p e below _ T1 (mkF m 9 #[.val (.ref x), .val (.ref a)] [])
  exact X2.ret0N hlk  hret (hb hby d_jdk_42_method_3_9) (by decide) (by decide) ⟨rfl, Kq, Uq⟩
theorem con_cod {l : Launch} {Z : State} {a0 : Array Value} {cz : Int32} {fm : Value} (H : Ctx Z a0 cz fm) (x : Addr) (h0 : Heap) (Cx : Fld Z h0 x "java/lang/String" "coder" "B" (.int (1 : Int32))) :
    ConN l Z (⟨"java/lang/String", "coder", "()B"⟩ : MethodName) jdk_42_method_152_code 1 (some FieldType.byte) [] ({ frames := 0, cells := 0, slots := 0, locals := 0 } : Room) #[(.ref x)] h0 (fun r h => r = some (.int 1) ∧ h0 = h) := by
  obtain ⟨hw, hE, S0, hcz, S1, rf, hp0, hp1, hp2⟩ := id H
  refine ConN.of own_pf11 ?_
  intro p e s m below meth c T hby hml hret hlk hnm X0
  have EX0 := ext_refl h0
  refine OEnds.cast (own_ef6 m x ) ?_
  show OEnds p e below _ T (mkF m 0 #[.val (.ref x)] [])
  refine X0.getS (own_k hw 40 rfl) Via.refl (S0.ext X0.old) (hb hby d_jdk_42_method_152_0) ?_
  intro T1 X2
  show OEnds p e below _ T1 (mkF m 3 #[.val (.ref x)] [(.int cz)])
  refine OEnds.go (fun _ q => XS.ifNo X2.here X2.hx rfl (hb hby d_jdk_42_method_152_3) rfl ((if0 _ _).trans (feq hcz).1) q) ?_
  show OEnds p e below _ T1 (mkF m 6 #[.val (.ref x)] [])
  refine OEnds.go (fun _ q => XS.aloadN X2.here X2.hx rfl (hb hby d_jdk_42_method_152_6) rfl rfl q) ?_
  show OEnds p e below _ T1 (mkF m 7 #[.val (.ref x)] [(.ref x)])
  refine X2.getF (own_k hw 25 rfl) Via.refl Cx (hb hby d_jdk_42_method_152_7) ?_
  intro T3 X4
  show OEnds p e below _ T3 (mkF m 10 #[.val (.ref x)] [(.int (1 : Int32))])
  refine OEnds.go (fun _ q => XS.goto X4.here X4.hx rfl (pc0 := 10) (pc' := 14) rfl (hb hby d_jdk_42_method_152_10) (by decide) (by decide) q) ?_
  show OEnds p e below _ T3 (mkF m 14 #[.val (.ref x)] [(.int (1 : Int32))])
  exact X4.retByteN hlk rfl hret (hb hby d_jdk_42_method_152_14) (by decide) (by decide) ⟨rfl, rfl⟩
theorem con_isU {l : Launch} {Z : State} {a0 : Array Value} {cz : Int32} {fm : Value} (H : Ctx Z a0 cz fm) (x : Addr) (h0 : Heap) (Cx : Fld Z h0 x "java/lang/String" "coder" "B" (.int (1 : Int32))) :
    ConN l Z (⟨"java/lang/String", "isLatin1", "()Z"⟩ : MethodName) jdk_42_method_154_code 1 (some FieldType.boolean) [] ({ frames := 0, cells := 0, slots := 0, locals := 0 } : Room) #[(.ref x)] h0 (fun r h => r = some (.int 0) ∧ h0 = h) := by
  obtain ⟨hw, hE, S0, hcz, S1, rf, hp0, hp1, hp2⟩ := id H
  refine ConN.of own_pf12 ?_
  intro p e s m below meth c T hby hml hret hlk hnm X0
  have EX0 := ext_refl h0
  refine OEnds.cast (own_ef6 m x ) ?_
  show OEnds p e below _ T (mkF m 0 #[.val (.ref x)] [])
  refine X0.getS (own_k hw 40 rfl) Via.refl (S0.ext X0.old) (hb hby d_jdk_42_method_154_0) ?_
  intro T1 X2
  show OEnds p e below _ T1 (mkF m 3 #[.val (.ref x)] [(.int cz)])
  refine OEnds.go (fun _ q => XS.ifNo X2.here X2.hx rfl (hb hby d_jdk_42_method_154_3) rfl ((if0 _ _).trans (feq hcz).1) q) ?_
  show OEnds p e below _ T1 (mkF m 6 #[.val (.ref x)] [])
  refine OEnds.go (fun _ q => XS.aloadN X2.here X2.hx rfl (hb hby d_jdk_42_method_154_6) rfl rfl q) ?_
  show OEnds p e below _ T1 (mkF m 7 #[.val (.ref x)] [(.ref x)])
  refine X2.getF (own_k hw 25 rfl) Via.refl Cx (hb hby d_jdk_42_method_154_7) ?_
  intro T3 X4
  show OEnds p e below _ T3 (mkF m 10 #[.val (.ref x)] [(.int (1 : Int32))])
  refine OEnds.go (fun _ q => XS.ifYes X4.here X4.hx rfl (pc0 := 10) (pc' := 17) rfl (hb hby d_jdk_42_method_154_10) rfl ((if0 _ _).trans (feq (by decide)).2) (by decide) (by decide) q) ?_
  show OEnds p e below _ T3 (mkF m 17 #[.val (.ref x)] [])
  refine OEnds.go (fun _ q => XS.iconst X4.here X4.hx rfl (hb hby d_jdk_42_method_154_17) q) ?_
  show OEnds p e below _ T3 (mkF m 18 #[.val (.ref x)] [(.int (0 : Int32))])
  exact X4.retBoolN hlk (by first | exact Or.inl rfl | exact Or.inr rfl | assumption) hret (hb hby d_jdk_42_method_154_18) (by decide) (by decide) ⟨rfl, rfl⟩
theorem con_ckP {l : Launch} {Z : State} {a0 : Array Value} {cz : Int32} {fm : Value} (H : Ctx Z a0 cz fm) (u v : Int32) (hu : ¬ u < 0) (hv : u < v) (h0 : Heap)  :
    ConN l Z (⟨"jdk/internal/util/Preconditions", "checkIndex", "(IILjava/util/function/BiFunction;)I"⟩ : MethodName) jdk_41_method_11_code 3 (some FieldType.int) [] ({ frames := 0, cells := 0, slots := 0, locals := 0 } : Room) #[(.int u), (.int v), (fm)] h0 (fun r h => r = some (.int u) ∧ h0 = h) := by
  obtain ⟨hw, hE, S0, hcz, S1, rf, hp0, hp1, hp2⟩ := id H
  refine ConN.of own_pf13 ?_
  intro p e s m below meth c T hby hml hret hlk hnm X0
  have EX0 := ext_refl h0
  refine OEnds.cast (own_ef9 m u v fm rf) ?_
  show OEnds p e below _ T (mkF m 0 #[.val (.int u), .val (.int v), .val (fm)] [])
  refine OEnds.go (fun _ q => XS.iloadN X0.here X0.hx rfl (hb hby d_jdk_41_method_11_0) rfl q) ?_
  show OEnds p e below _ T (mkF m 1 #[.val (.int u), .val (.int v), .val (fm)] [(.int u)])
  refine OEnds.go (fun _ q => XS.ifNo X0.here X0.hx rfl (hb hby d_jdk_41_method_11_1) rfl ((if0 _ _).trans (flt hu).1) q) ?_
  show OEnds p e below _ T (mkF m 4 #[.val (.int u), .val (.int v), .val (fm)] [])
  refine OEnds.go (fun _ q => XS.iloadN X0.here X0.hx rfl (hb hby d_jdk_41_method_11_4) rfl q) ?_
  refine OEnds.go (fun _ q => XS.iloadN X0.here X0.hx rfl (hb hby d_jdk_41_method_11_5) rfl q) ?_
  show OEnds p e below _ T (mkF m 6 #[.val (.int u), .val (.int v), .val (fm)] [(.int v), (.int u)])
  refine OEnds.go (fun _ q => XS.icmpYes X0.here X0.hx rfl (pc0 := 6) (pc' := 16) rfl (hb hby d_jdk_41_method_11_6) rfl (tlt hv).1 (by decide) (by decide) q) ?_
  show OEnds p e below _ T (mkF m 16 #[.val (.int u), .val (.int v), .val (fm)] [])
  refine OEnds.go (fun _ q => XS.iloadN X0.here X0.hx rfl (hb hby d_jdk_41_method_11_16) rfl q) ?_
  show OEnds p e below _ T (mkF m 17 #[.val (.int u), .val (.int v), .val (fm)] [(.int u)])
  exact X0.retIntN hlk  hret (hb hby d_jdk_41_method_11_17) (by decide) (by decide) ⟨rfl, rfl⟩
theorem con_ckS {l : Launch} {Z : State} {a0 : Array Value} {cz : Int32} {fm : Value} (H : Ctx Z a0 cz fm) (u v : Int32) (hu : ¬ u < 0) (hv : u < v) (h0 : Heap)  :
    ConN l Z (⟨"java/lang/String", "checkIndex", "(II)V"⟩ : MethodName) jdk_42_method_155_code 2 (none : Option FieldType) [] ({ frames := 1, cells := 0, slots := 0, locals := 14 } : Room) #[(.int u), (.int v)] h0 (fun r h => r = none ∧ h0 = h) := by
  obtain ⟨hw, hE, S0, hcz, S1, rf, hp0, hp1, hp2⟩ := id H
  refine ConN.of own_pf14 ?_
  intro p e s m below meth c T hby hml hret hlk hnm X0
  have EX0 := ext_refl h0
  refine OEnds.cast (own_ef10 m u v ) ?_
  show OEnds p e below _ T (mkF m 0 #[.val (.int u), .val (.int v)] [])
  refine OEnds.go (fun _ q => XS.iloadN X0.here X0.hx rfl (hb hby d_jdk_42_method_155_0) rfl q) ?_
  refine OEnds.go (fun _ q => XS.iloadN X0.here X0.hx rfl (hb hby d_jdk_42_method_155_1) rfl q) ?_
  show OEnds p e below _ T (mkF m 2 #[.val (.int u), .val (.int v)] [(.int v), (.int u)])
  refine X0.getS (own_k hw 71 rfl) Via.refl (S1.ext X0.old) (hb hby d_jdk_42_method_155_2) ?_
  intro T1 X2
  show OEnds p e below _ T1 (mkF m 5 #[.val (.int u), .val (.int v)] [(fm), (.int v), (.int u)])
  refine X2.payS (ConN.back (W := 0) (con_ckP H u v hu hv h0) X2.old X2.hZ (own_k hw 75 rfl) (own_k hw 72 rfl) (by decide) (by decide)) (okN (fun _ _ q => Nat.le_of_eq (congrArg Array.size q.2))) (own_k hw 73 rfl) (own_k hw 74 rfl) (own_k hw 72 rfl) (own_k hw 75 rfl)  (by decide)  (argsL := [(.int u), (.int v), (fm)]) (rest := []) rfl (lenOf own_pd8 rfl) rfl (by rw [hml]; rfl) (Nat.le_of_eq rfl) (hb hby d_jdk_42_method_155_5) (by decide) (by decide) ?_
  intro v8 T3 h5 Lh5 X4 q9
  replace q9 := q9.1
  obtain ⟨rfl, rfl⟩ := q9
  show OEnds p e below _ T3 (mkF m 8 #[.val (.int u), .val (.int v)] [(.int u)])
  refine OEnds.go (fun _ q => XS.pop X4.here X4.hx rfl (hb hby d_jdk_42_method_155_8) rfl rfl q) ?_
  show OEnds p e below _ T3 (mkF m 9 #[.val (.int u), .val (.int v)] [])
  exact X4.ret0N hlk  hret (hb hby d_jdk_42_method_155_9) (by decide) (by decide) ⟨rfl, rfl⟩
theorem con_ln1 {l : Launch} {Z : State} {a0 : Array Value} {cz : Int32} {fm : Value} (H : Ctx Z a0 cz fm) (x : Addr) (c0 : Int32) (h0 : Heap) (Ux : OUtf1 Z h0 x c0) :
    ConN l Z (⟨"java/lang/String", "length", "()I"⟩ : MethodName) jdk_42_method_54_code 1 (some FieldType.int) [] ({ frames := 1, cells := 0, slots := 0, locals := 13 } : Room) #[(.ref x)] h0 (fun r h => r = some (.int (1 : Int32)) ∧ h0 = h) := by
  obtain ⟨hw, hE, S0, hcz, S1, rf, hp0, hp1, hp2⟩ := id H
  refine ConN.of own_pf15 ?_
  intro p e s m below meth c T hby hml hret hlk hnm X0
  have EX0 := ext_refl h0
  refine OEnds.cast (own_ef6 m x ) ?_
  show OEnds p e below _ T (mkF m 0 #[.val (.ref x)] [])
  obtain ⟨Ex, Cx, t, kb, Vx, Kt⟩ := id Ux
  refine OEnds.go (fun _ q => XS.aloadN X0.here X0.hx rfl (hb hby d_jdk_42_method_54_0) rfl rfl q) ?_
  show OEnds p e below _ T (mkF m 1 #[.val (.ref x)] [(.ref x)])
  refine X0.getF (own_k hw 24 rfl) Via.refl Vx (hb hby d_jdk_42_method_54_1) ?_
  intro T1 X2
  show OEnds p e below _ T1 (mkF m 4 #[.val (.ref x)] [(.ref t)])
  refine X2.alen Kt (hb hby d_jdk_42_method_54_4) ?_
  show OEnds p e below _ T1 (mkF m 5 #[.val (.ref x)] [(.int (2 : Int32))])
  refine OEnds.go (fun _ q => XS.aloadN X2.here X2.hx rfl (hb hby d_jdk_42_method_54_5) rfl rfl q) ?_
  show OEnds p e below _ T1 (mkF m 6 #[.val (.ref x)] [(.ref x), (.int (2 : Int32))])
  refine X2.payV (ConN.back (W := 1) (con_cod H x h0 Cx) X2.old X2.hZ (own_k hw 39 rfl) (own_k hw 6 rfl) (by decide) (by decide)) (okN (fun _ _ q => Nat.le_of_eq (congrArg Array.size q.2))) (own_k hw 35 rfl) (own_k hw 36 rfl) (own_k hw 38 rfl) (own_k hw 37 rfl)  (X2.nf (own_k hw 38 rfl)) (by decide)  Ex (argsL := []) (rest := [(.int (2 : Int32))]) rfl (lenOf own_pd9 rfl) rfl (by rw [hml]; rfl) (Nat.le_of_eq rfl) (hb hby d_jdk_42_method_54_6) (by decide) (by decide) ?_
  intro v8 T3 h5 Lh5 X4 q9
  replace q9 := q9.1
  obtain ⟨rfl, rfl⟩ := q9
  show OEnds p e below _ T3 (mkF m 9 #[.val (.ref x)] [(.int (1 : Int32)), (.int (2 : Int32))])
  refine OEnds.go (fun _ q => XS.ishr X4.here X4.hx rfl (hb hby d_jdk_42_method_54_9) rfl q) ?_
  show OEnds p e below _ T3 (mkF m 10 #[.val (.ref x)] [(.int ((2 : Int32) >>> ((1 : Int32) &&& 31)))])
  rw [show ((2 : Int32) >>> ((1 : Int32) &&& 31)) = (1 : Int32) from by decide]
  show OEnds p e below _ T3 (mkF m 10 #[.val (.ref x)] [(.int (1 : Int32))])
  exact X4.retIntN hlk  hret (hb hby d_jdk_42_method_54_10) (by decide) (by decide) ⟨rfl, rfl⟩
theorem con_ck10 {l : Launch} {Z : State} {a0 : Array Value} {cz : Int32} {fm : Value} (H : Ctx Z a0 cz fm) (b : Addr) (kb : ClassId) (c0 : Int32) (h0 : Heap) (Kb : Arv Z h0 b kb .byte (2 : Int32) [.int (own_lo c0), .int (own_hi c0)] (.int (0 : Int32))) :
    ConN l Z (⟨"java/lang/StringUTF16", "checkIndex", "(I[B)V"⟩ : MethodName) jdk_52_method_91_code 2 (none : Option FieldType) [] ({ frames := 2, cells := 0, slots := 0, locals := 27 } : Room) #[(.int (0 : Int32)), (.ref b)] h0 (fun r h => r = none ∧ h0 = h) := by
  obtain ⟨hw, hE, S0, hcz, S1, rf, hp0, hp1, hp2⟩ := id H
  refine ConN.of own_pf16 ?_
  intro p e s m below meth c T hby hml hret hlk hnm X0
  have EX0 := ext_refl h0
  refine OEnds.cast (own_ef11 m (0 : Int32) b ) ?_
  show OEnds p e below _ T (mkF m 0 #[.val (.int (0 : Int32)), .val (.ref b)] [])
  refine OEnds.go (fun _ q => XS.iloadN X0.here X0.hx rfl (hb hby d_jdk_52_method_91_0) rfl q) ?_
  refine OEnds.go (fun _ q => XS.aloadN X0.here X0.hx rfl (hb hby d_jdk_52_method_91_1) rfl rfl q) ?_
  show OEnds p e below _ T (mkF m 2 #[.val (.int (0 : Int32)), .val (.ref b)] [(.ref b), (.int (0 : Int32))])
  refine X0.payS (ConN.back (W := 1) (con_ul1 H b kb _ h0 Kb) X0.old X0.hZ (own_k hw 103 rfl) (own_k hw 43 rfl) (by decide) (by decide)) (okN (fun _ _ q => Nat.le_of_eq (congrArg Array.size q.2))) (own_k hw 101 rfl) (own_k hw 102 rfl) (own_k hw 43 rfl) (own_k hw 103 rfl)  (by decide)  (argsL := [(.ref b)]) (rest := [(.int (0 : Int32))]) rfl (lenOf own_pd10 rfl) rfl (by rw [hml]; rfl) (Nat.le_of_eq rfl) (hb hby d_jdk_52_method_91_2) (by decide) (by decide) ?_
  intro v6 T1 h3 Lh3 X2 q7
  replace q7 := q7.1
  obtain ⟨rfl, rfl⟩ := q7
  show OEnds p e below _ T1 (mkF m 5 #[.val (.int (0 : Int32)), .val (.ref b)] [(.int (1 : Int32)), (.int (0 : Int32))])
  refine X2.payS (ConN.back (W := 0) (con_ckS H (0 : Int32) (1 : Int32) (by decide) (by decide) h0) X2.old X2.hZ (own_k hw 70 rfl) (own_k hw 6 rfl) (by decide) (by decide)) (okN (fun _ _ q => Nat.le_of_eq (congrArg Array.size q.2))) (own_k hw 104 rfl) (own_k hw 69 rfl) (own_k hw 6 rfl) (own_k hw 70 rfl)  (by decide)  (argsL := [(.int (0 : Int32)), (.int (1 : Int32))]) (rest := []) rfl (lenOf own_pd11 rfl) rfl (by rw [hml]; rfl) (Nat.le_of_eq rfl) (hb hby d_jdk_52_method_91_5) (by decide) (by decide) ?_
  intro v13 T8 h10 Lh10 X9 q14
  replace q14 := q14.1
  obtain ⟨rfl, rfl⟩ := q14
  show OEnds p e below _ T8 (mkF m 8 #[.val (.int (0 : Int32)), .val (.ref b)] [])
  exact X9.ret0N hlk  hret (hb hby d_jdk_52_method_91_8) (by decide) (by decide) ⟨rfl, rfl⟩
theorem con_uc10 {l : Launch} {Z : State} {a0 : Array Value} {cz : Int32} {fm : Value} (H : Ctx Z a0 cz fm) (b : Addr) (kb : ClassId) (c0 : Int32) (hu : ¬ c0 < 0 ∧ ¬ (65535 : Int32) < c0) (h0 : Heap) (Kb : Arv Z h0 b kb .byte (2 : Int32) [.int (own_lo c0), .int (own_hi c0)] (.int (0 : Int32))) :
    ConN l Z (⟨"java/lang/StringUTF16", "charAt", "([BI)C"⟩ : MethodName) jdk_52_method_83_code 2 (some FieldType.char) [] ({ frames := 3, cells := 0, slots := 0, locals := 40 } : Room) #[(.ref b), (.int (0 : Int32))] h0 (fun r h => r = some (.int c0) ∧ h0 = h) := by
  obtain ⟨hw, hE, S0, hcz, S1, rf, hp0, hp1, hp2⟩ := id H
  refine ConN.of own_pf17 ?_
  intro p e s m below meth c T hby hml hret hlk hnm X0
  have EX0 := ext_refl h0
  refine OEnds.cast (own_ef5 m b (0 : Int32) ) ?_
  show OEnds p e below _ T (mkF m 0 #[.val (.ref b), .val (.int (0 : Int32))] [])
  refine OEnds.go (fun _ q => XS.iloadN X0.here X0.hx rfl (hb hby d_jdk_52_method_83_0) rfl q) ?_
  refine OEnds.go (fun _ q => XS.aloadN X0.here X0.hx rfl (hb hby d_jdk_52_method_83_1) rfl rfl q) ?_
  show OEnds p e below _ T (mkF m 2 #[.val (.ref b), .val (.int (0 : Int32))] [(.ref b), (.int (0 : Int32))])
  refine X0.payS (ConN.back (W := 0) (con_ck10 H b kb c0 h0 Kb) X0.old X0.hZ (own_k hw 100 rfl) (own_k hw 43 rfl) (by decide) (by decide)) (okN (fun _ _ q => Nat.le_of_eq (congrArg Array.size q.2))) (own_k hw 98 rfl) (own_k hw 99 rfl) (own_k hw 43 rfl) (own_k hw 100 rfl)  (by decide)  (argsL := [(.int (0 : Int32)), (.ref b)]) (rest := []) rfl (lenOf own_pd12 rfl) rfl (by rw [hml]; rfl) (Nat.le_of_eq rfl) (hb hby d_jdk_52_method_83_2) (by decide) (by decide) ?_
  intro v6 T1 h3 Lh3 X2 q7
  replace q7 := q7.1
  obtain ⟨rfl, rfl⟩ := q7
  show OEnds p e below _ T1 (mkF m 5 #[.val (.ref b), .val (.int (0 : Int32))] [])
  refine OEnds.go (fun _ q => XS.aloadN X2.here X2.hx rfl (hb hby d_jdk_52_method_83_5) rfl rfl q) ?_
  refine OEnds.go (fun _ q => XS.iloadN X2.here X2.hx rfl (hb hby d_jdk_52_method_83_6) rfl q) ?_
  show OEnds p e below _ T1 (mkF m 7 #[.val (.ref b), .val (.int (0 : Int32))] [(.int (0 : Int32)), (.ref b)])
  refine X2.payS (ConN.back (W := 0) (con_get10 H b kb c0 hu h0 Kb) X2.old X2.hZ (own_k hw 94 rfl) (own_k hw 43 rfl) (by decide) (by decide)) (okN (fun _ _ q => Nat.le_of_eq (congrArg Array.size q.2))) (own_k hw 92 rfl) (own_k hw 93 rfl) (own_k hw 43 rfl) (own_k hw 94 rfl)  (by decide)  (argsL := [(.ref b), (.int (0 : Int32))]) (rest := []) rfl (lenOf own_pd6 rfl) rfl (by rw [hml]; rfl) (Nat.le_of_eq rfl) (hb hby d_jdk_52_method_83_7) (by decide) (by decide) ?_
  intro v13 T8 h10 Lh10 X9 q14
  replace q14 := q14.1
  obtain ⟨rfl, rfl⟩ := q14
  show OEnds p e below _ T8 (mkF m 10 #[.val (.ref b), .val (.int (0 : Int32))] [(.int c0)])
  exact X9.retCharN hlk hu hret (hb hby d_jdk_52_method_83_10) (by decide) (by decide) ⟨rfl, rfl⟩
theorem con_ch10 {l : Launch} {Z : State} {a0 : Array Value} {cz : Int32} {fm : Value} (H : Ctx Z a0 cz fm) (x : Addr) (c0 : Int32) (hu : ¬ c0 < 0 ∧ ¬ (65535 : Int32) < c0) (h0 : Heap) (Ux : OUtf1 Z h0 x c0) :
    ConN l Z (⟨"java/lang/String", "charAt", "(I)C"⟩ : MethodName) jdk_42_method_56_code 2 (some FieldType.char) [] ({ frames := 4, cells := 0, slots := 0, locals := 53 } : Room) #[(.ref x), (.int (0 : Int32))] h0 (fun r h => r = some (.int c0) ∧ h0 = h) := by
  obtain ⟨hw, hE, S0, hcz, S1, rf, hp0, hp1, hp2⟩ := id H
  refine ConN.of own_pf18 ?_
  intro p e s m below meth c T hby hml hret hlk hnm X0
  have EX0 := ext_refl h0
  refine OEnds.cast (own_ef5 m x (0 : Int32) ) ?_
  show OEnds p e below _ T (mkF m 0 #[.val (.ref x), .val (.int (0 : Int32))] [])
  obtain ⟨Ex, Cx, t, kb, Vx, Kt⟩ := id Ux
  refine OEnds.go (fun _ q => XS.aloadN X0.here X0.hx rfl (hb hby d_jdk_42_method_56_0) rfl rfl q) ?_
  show OEnds p e below _ T (mkF m 1 #[.val (.ref x), .val (.int (0 : Int32))] [(.ref x)])
  refine X0.payV (ConN.back (W := 0) (con_isU H x h0 Cx) X0.old X0.hZ (own_k hw 63 rfl) (own_k hw 6 rfl) (by decide) (by decide)) (okN (fun _ _ q => Nat.le_of_eq (congrArg Array.size q.2))) (own_k hw 59 rfl) (own_k hw 60 rfl) (own_k hw 62 rfl) (own_k hw 61 rfl)  (X0.nf (own_k hw 62 rfl)) (by decide)  Ex (argsL := []) (rest := []) rfl (lenOf own_pd13 rfl) rfl (by rw [hml]; rfl) (Nat.le_of_eq rfl) (hb hby d_jdk_42_method_56_1) (by decide) (by decide) ?_
  intro v6 T1 h3 Lh3 X2 q7
  replace q7 := q7.1
  obtain ⟨rfl, rfl⟩ := q7
  show OEnds p e below _ T1 (mkF m 4 #[.val (.ref x), .val (.int (0 : Int32))] [(.int (0 : Int32))])
  refine OEnds.go (fun _ q => XS.ifYes X2.here X2.hx rfl (pc0 := 4) (pc' := 16) rfl (hb hby d_jdk_42_method_56_4) rfl ((if0 _ _).trans (teq (by decide)).1) (by decide) (by decide) q) ?_
  show OEnds p e below _ T1 (mkF m 16 #[.val (.ref x), .val (.int (0 : Int32))] [])
  refine OEnds.go (fun _ q => XS.aloadN X2.here X2.hx rfl (hb hby d_jdk_42_method_56_16) rfl rfl q) ?_
  show OEnds p e below _ T1 (mkF m 17 #[.val (.ref x), .val (.int (0 : Int32))] [(.ref x)])
  refine X2.getF (own_k hw 24 rfl) Via.refl Vx (hb hby d_jdk_42_method_56_17) ?_
  intro T8 X9
  show OEnds p e below _ T8 (mkF m 20 #[.val (.ref x), .val (.int (0 : Int32))] [(.ref t)])
  refine OEnds.go (fun _ q => XS.iloadN X9.here X9.hx rfl (hb hby d_jdk_42_method_56_20) rfl q) ?_
  show OEnds p e below _ T8 (mkF m 21 #[.val (.ref x), .val (.int (0 : Int32))] [(.int (0 : Int32)), (.ref t)])
  refine X9.payS (ConN.back (W := 0) (con_uc10 H t kb c0 hu h0 Kt) X9.old X9.hZ (own_k hw 97 rfl) (own_k hw 43 rfl) (by decide) (by decide)) (okN (fun _ _ q => Nat.le_of_eq (congrArg Array.size q.2))) (own_k hw 95 rfl) (own_k hw 96 rfl) (own_k hw 43 rfl) (own_k hw 97 rfl)  (by decide)  (argsL := [(.ref t), (.int (0 : Int32))]) (rest := []) rfl (lenOf own_pd6 rfl) rfl (by rw [hml]; rfl) (Nat.le_of_eq rfl) (hb hby d_jdk_42_method_56_21) (by decide) (by decide) ?_
  intro v15 T10 h12 Lh12 X11 q16
  replace q16 := q16.1
  obtain ⟨rfl, rfl⟩ := q16
  show OEnds p e below _ T10 (mkF m 24 #[.val (.ref x), .val (.int (0 : Int32))] [(.int c0)])
  exact X11.retCharN hlk hu hret (hb hby d_jdk_42_method_56_24) (by decide) (by decide) ⟨rfl, rfl⟩
theorem con_ln2 {l : Launch} {Z : State} {a0 : Array Value} {cz : Int32} {fm : Value} (H : Ctx Z a0 cz fm) (x : Addr) (c0 c1 : Int32) (h0 : Heap) (Ux : OUtf2 Z h0 x c0 c1) :
    ConN l Z (⟨"java/lang/String", "length", "()I"⟩ : MethodName) jdk_42_method_54_code 1 (some FieldType.int) [] ({ frames := 1, cells := 0, slots := 0, locals := 13 } : Room) #[(.ref x)] h0 (fun r h => r = some (.int (2 : Int32)) ∧ h0 = h) := by
  obtain ⟨hw, hE, S0, hcz, S1, rf, hp0, hp1, hp2⟩ := id H
  refine ConN.of own_pf15 ?_
  intro p e s m below meth c T hby hml hret hlk hnm X0
  have EX0 := ext_refl h0
  refine OEnds.cast (own_ef6 m x ) ?_
  show OEnds p e below _ T (mkF m 0 #[.val (.ref x)] [])
  obtain ⟨Ex, Cx, t, kb, Vx, Kt⟩ := id Ux
  refine OEnds.go (fun _ q => XS.aloadN X0.here X0.hx rfl (hb hby d_jdk_42_method_54_0) rfl rfl q) ?_
  show OEnds p e below _ T (mkF m 1 #[.val (.ref x)] [(.ref x)])
  refine X0.getF (own_k hw 24 rfl) Via.refl Vx (hb hby d_jdk_42_method_54_1) ?_
  intro T1 X2
  show OEnds p e below _ T1 (mkF m 4 #[.val (.ref x)] [(.ref t)])
  refine X2.alen Kt (hb hby d_jdk_42_method_54_4) ?_
  show OEnds p e below _ T1 (mkF m 5 #[.val (.ref x)] [(.int (4 : Int32))])
  refine OEnds.go (fun _ q => XS.aloadN X2.here X2.hx rfl (hb hby d_jdk_42_method_54_5) rfl rfl q) ?_
  show OEnds p e below _ T1 (mkF m 6 #[.val (.ref x)] [(.ref x), (.int (4 : Int32))])
  refine X2.payV (ConN.back (W := 1) (con_cod H x h0 Cx) X2.old X2.hZ (own_k hw 39 rfl) (own_k hw 6 rfl) (by decide) (by decide)) (okN (fun _ _ q => Nat.le_of_eq (congrArg Array.size q.2))) (own_k hw 35 rfl) (own_k hw 36 rfl) (own_k hw 38 rfl) (own_k hw 37 rfl)  (X2.nf (own_k hw 38 rfl)) (by decide)  Ex (argsL := []) (rest := [(.int (4 : Int32))]) rfl (lenOf own_pd9 rfl) rfl (by rw [hml]; rfl) (Nat.le_of_eq rfl) (hb hby d_jdk_42_method_54_6) (by decide) (by decide) ?_
  intro v8 T3 h5 Lh5 X4 q9
  replace q9 := q9.1
  obtain ⟨rfl, rfl⟩ := q9
  show OEnds p e below _ T3 (mkF m 9 #[.val (.ref x)] [(.int (1 : Int32)), (.int (4 : Int32))])
  refine OEnds.go (fun _ q => XS.ishr X4.here X4.hx rfl (hb hby d_jdk_42_method_54_9) rfl q) ?_
  show OEnds p e below _ T3 (mkF m 10 #[.val (.ref x)] [(.int ((4 : Int32) >>> ((1 : Int32) &&& 31)))])
  rw [show ((4 : Int32) >>> ((1 : Int32) &&& 31)) = (2 : Int32) from by decide]
  show OEnds p e below _ T3 (mkF m 10 #[.val (.ref x)] [(.int (2 : Int32))])
  exact X4.retIntN hlk  hret (hb hby d_jdk_42_method_54_10) (by decide) (by decide) ⟨rfl, rfl⟩
theorem con_ck20 {l : Launch} {Z : State} {a0 : Array Value} {cz : Int32} {fm : Value} (H : Ctx Z a0 cz fm) (b : Addr) (kb : ClassId) (c0 c1 : Int32) (h0 : Heap) (Kb : Arv Z h0 b kb .byte (4 : Int32) [.int (own_lo c0), .int (own_hi c0), .int (own_lo c1), .int (own_hi c1)] (.int (0 : Int32))) :
    ConN l Z (⟨"java/lang/StringUTF16", "checkIndex", "(I[B)V"⟩ : MethodName) jdk_52_method_91_code 2 (none : Option FieldType) [] ({ frames := 2, cells := 0, slots := 0, locals := 27 } : Room) #[(.int (0 : Int32)), (.ref b)] h0 (fun r h => r = none ∧ h0 = h) := by
  obtain ⟨hw, hE, S0, hcz, S1, rf, hp0, hp1, hp2⟩ := id H
  refine ConN.of own_pf16 ?_
  intro p e s m below meth c T hby hml hret hlk hnm X0
  have EX0 := ext_refl h0
  refine OEnds.cast (own_ef11 m (0 : Int32) b ) ?_
  show OEnds p e below _ T (mkF m 0 #[.val (.int (0 : Int32)), .val (.ref b)] [])
  refine OEnds.go (fun _ q => XS.iloadN X0.here X0.hx rfl (hb hby d_jdk_52_method_91_0) rfl q) ?_
  refine OEnds.go (fun _ q => XS.aloadN X0.here X0.hx rfl (hb hby d_jdk_52_method_91_1) rfl rfl q) ?_
  show OEnds p e below _ T (mkF m 2 #[.val (.int (0 : Int32)), .val (.ref b)] [(.ref b), (.int (0 : Int32))])
  refine X0.payS (ConN.back (W := 1) (con_ul2 H b kb _ h0 Kb) X0.old X0.hZ (own_k hw 103 rfl) (own_k hw 43 rfl) (by decide) (by decide)) (okN (fun _ _ q => Nat.le_of_eq (congrArg Array.size q.2))) (own_k hw 101 rfl) (own_k hw 102 rfl) (own_k hw 43 rfl) (own_k hw 103 rfl)  (by decide)  (argsL := [(.ref b)]) (rest := [(.int (0 : Int32))]) rfl (lenOf own_pd10 rfl) rfl (by rw [hml]; rfl) (Nat.le_of_eq rfl) (hb hby d_jdk_52_method_91_2) (by decide) (by decide) ?_
  intro v6 T1 h3 Lh3 X2 q7
  replace q7 := q7.1
  obtain ⟨rfl, rfl⟩ := q7
  show OEnds p e below _ T1 (mkF m 5 #[.val (.int (0 : Int32)), .val (.ref b)] [(.int (2 : Int32)), (.int (0 : Int32))])
  refine X2.payS (ConN.back (W := 0) (con_ckS H (0 : Int32) (2 : Int32) (by decide) (by decide) h0) X2.old X2.hZ (own_k hw 70 rfl) (own_k hw 6 rfl) (by decide) (by decide)) (okN (fun _ _ q => Nat.le_of_eq (congrArg Array.size q.2))) (own_k hw 104 rfl) (own_k hw 69 rfl) (own_k hw 6 rfl) (own_k hw 70 rfl)  (by decide)  (argsL := [(.int (0 : Int32)), (.int (2 : Int32))]) (rest := []) rfl (lenOf own_pd11 rfl) rfl (by rw [hml]; rfl) (Nat.le_of_eq rfl) (hb hby d_jdk_52_method_91_5) (by decide) (by decide) ?_
  intro v13 T8 h10 Lh10 X9 q14
  replace q14 := q14.1
  obtain ⟨rfl, rfl⟩ := q14
  show OEnds p e below _ T8 (mkF m 8 #[.val (.int (0 : Int32)), .val (.ref b)] [])
  exact X9.ret0N hlk  hret (hb hby d_jdk_52_method_91_8) (by decide) (by decide) ⟨rfl, rfl⟩
theorem con_uc20 {l : Launch} {Z : State} {a0 : Array Value} {cz : Int32} {fm : Value} (H : Ctx Z a0 cz fm) (b : Addr) (kb : ClassId) (c0 c1 : Int32) (hu : ¬ c0 < 0 ∧ ¬ (65535 : Int32) < c0) (h0 : Heap) (Kb : Arv Z h0 b kb .byte (4 : Int32) [.int (own_lo c0), .int (own_hi c0), .int (own_lo c1), .int (own_hi c1)] (.int (0 : Int32))) :
    ConN l Z (⟨"java/lang/StringUTF16", "charAt", "([BI)C"⟩ : MethodName) jdk_52_method_83_code 2 (some FieldType.char) [] ({ frames := 3, cells := 0, slots := 0, locals := 40 } : Room) #[(.ref b), (.int (0 : Int32))] h0 (fun r h => r = some (.int c0) ∧ h0 = h) := by
  obtain ⟨hw, hE, S0, hcz, S1, rf, hp0, hp1, hp2⟩ := id H
  refine ConN.of own_pf17 ?_
  intro p e s m below meth c T hby hml hret hlk hnm X0
  have EX0 := ext_refl h0
  refine OEnds.cast (own_ef5 m b (0 : Int32) ) ?_
  show OEnds p e below _ T (mkF m 0 #[.val (.ref b), .val (.int (0 : Int32))] [])
  refine OEnds.go (fun _ q => XS.iloadN X0.here X0.hx rfl (hb hby d_jdk_52_method_83_0) rfl q) ?_
  refine OEnds.go (fun _ q => XS.aloadN X0.here X0.hx rfl (hb hby d_jdk_52_method_83_1) rfl rfl q) ?_
  show OEnds p e below _ T (mkF m 2 #[.val (.ref b), .val (.int (0 : Int32))] [(.ref b), (.int (0 : Int32))])
  refine X0.payS (ConN.back (W := 0) (con_ck20 H b kb c0 c1 h0 Kb) X0.old X0.hZ (own_k hw 100 rfl) (own_k hw 43 rfl) (by decide) (by decide)) (okN (fun _ _ q => Nat.le_of_eq (congrArg Array.size q.2))) (own_k hw 98 rfl) (own_k hw 99 rfl) (own_k hw 43 rfl) (own_k hw 100 rfl)  (by decide)  (argsL := [(.int (0 : Int32)), (.ref b)]) (rest := []) rfl (lenOf own_pd12 rfl) rfl (by rw [hml]; rfl) (Nat.le_of_eq rfl) (hb hby d_jdk_52_method_83_2) (by decide) (by decide) ?_
  intro v6 T1 h3 Lh3 X2 q7
  replace q7 := q7.1
  obtain ⟨rfl, rfl⟩ := q7
  show OEnds p e below _ T1 (mkF m 5 #[.val (.ref b), .val (.int (0 : Int32))] [])
  refine OEnds.go (fun _ q => XS.aloadN X2.here X2.hx rfl (hb hby d_jdk_52_method_83_5) rfl rfl q) ?_
  refine OEnds.go (fun _ q => XS.iloadN X2.here X2.hx rfl (hb hby d_jdk_52_method_83_6) rfl q) ?_
  show OEnds p e below _ T1 (mkF m 7 #[.val (.ref b), .val (.int (0 : Int32))] [(.int (0 : Int32)), (.ref b)])
  refine X2.payS (ConN.back (W := 0) (con_get20 H b kb c0 c1 hu h0 Kb) X2.old X2.hZ (own_k hw 94 rfl) (own_k hw 43 rfl) (by decide) (by decide)) (okN (fun _ _ q => Nat.le_of_eq (congrArg Array.size q.2))) (own_k hw 92 rfl) (own_k hw 93 rfl) (own_k hw 43 rfl) (own_k hw 94 rfl)  (by decide)  (argsL := [(.ref b), (.int (0 : Int32))]) (rest := []) rfl (lenOf own_pd6 rfl) rfl (by rw [hml]; rfl) (Nat.le_of_eq rfl) (hb hby d_jdk_52_method_83_7) (by decide) (by decide) ?_
  intro v13 T8 h10 Lh10 X9 q14
  replace q14 := q14.1
  obtain ⟨rfl, rfl⟩ := q14
  show OEnds p e below _ T8 (mkF m 10 #[.val (.ref b), .val (.int (0 : Int32))] [(.int c0)])
  exact X9.retCharN hlk hu hret (hb hby d_jdk_52_method_83_10) (by decide) (by decide) ⟨rfl, rfl⟩
theorem con_ch20 {l : Launch} {Z : State} {a0 : Array Value} {cz : Int32} {fm : Value} (H : Ctx Z a0 cz fm) (x : Addr) (c0 c1 : Int32) (hu : ¬ c0 < 0 ∧ ¬ (65535 : Int32) < c0) (h0 : Heap) (Ux : OUtf2 Z h0 x c0 c1) :
    ConN l Z (⟨"java/lang/String", "charAt", "(I)C"⟩ : MethodName) jdk_42_method_56_code 2 (some FieldType.char) [] ({ frames := 4, cells := 0, slots := 0, locals := 53 } : Room) #[(.ref x), (.int (0 : Int32))] h0 (fun r h => r = some (.int c0) ∧ h0 = h) := by
  obtain ⟨hw, hE, S0, hcz, S1, rf, hp0, hp1, hp2⟩ := id H
  refine ConN.of own_pf18 ?_
  intro p e s m below meth c T hby hml hret hlk hnm X0
  have EX0 := ext_refl h0
  refine OEnds.cast (own_ef5 m x (0 : Int32) ) ?_
  show OEnds p e below _ T (mkF m 0 #[.val (.ref x), .val (.int (0 : Int32))] [])
  obtain ⟨Ex, Cx, t, kb, Vx, Kt⟩ := id Ux
  refine OEnds.go (fun _ q => XS.aloadN X0.here X0.hx rfl (hb hby d_jdk_42_method_56_0) rfl rfl q) ?_
  show OEnds p e below _ T (mkF m 1 #[.val (.ref x), .val (.int (0 : Int32))] [(.ref x)])
  refine X0.payV (ConN.back (W := 0) (con_isU H x h0 Cx) X0.old X0.hZ (own_k hw 63 rfl) (own_k hw 6 rfl) (by decide) (by decide)) (okN (fun _ _ q => Nat.le_of_eq (congrArg Array.size q.2))) (own_k hw 59 rfl) (own_k hw 60 rfl) (own_k hw 62 rfl) (own_k hw 61 rfl)  (X0.nf (own_k hw 62 rfl)) (by decide)  Ex (argsL := []) (rest := []) rfl (lenOf own_pd13 rfl) rfl (by rw [hml]; rfl) (Nat.le_of_eq rfl) (hb hby d_jdk_42_method_56_1) (by decide) (by decide) ?_
  intro v6 T1 h3 Lh3 X2 q7
  replace q7 := q7.1
  obtain ⟨rfl, rfl⟩ := q7
  show OEnds p e below _ T1 (mkF m 4 #[.val (.ref x), .val (.int (0 : Int32))] [(.int (0 : Int32))])
  refine OEnds.go (fun _ q => XS.ifYes X2.here X2.hx rfl (pc0 := 4) (pc' := 16) rfl (hb hby d_jdk_42_method_56_4) rfl ((if0 _ _).trans (teq (by decide)).1) (by decide) (by decide) q) ?_
  show OEnds p e below _ T1 (mkF m 16 #[.val (.ref x), .val (.int (0 : Int32))] [])
  refine OEnds.go (fun _ q => XS.aloadN X2.here X2.hx rfl (hb hby d_jdk_42_method_56_16) rfl rfl q) ?_
  show OEnds p e below _ T1 (mkF m 17 #[.val (.ref x), .val (.int (0 : Int32))] [(.ref x)])
  refine X2.getF (own_k hw 24 rfl) Via.refl Vx (hb hby d_jdk_42_method_56_17) ?_
  intro T8 X9
  show OEnds p e below _ T8 (mkF m 20 #[.val (.ref x), .val (.int (0 : Int32))] [(.ref t)])
  refine OEnds.go (fun _ q => XS.iloadN X9.here X9.hx rfl (hb hby d_jdk_42_method_56_20) rfl q) ?_
  show OEnds p e below _ T8 (mkF m 21 #[.val (.ref x), .val (.int (0 : Int32))] [(.int (0 : Int32)), (.ref t)])
  refine X9.payS (ConN.back (W := 0) (con_uc20 H t kb c0 c1 hu h0 Kt) X9.old X9.hZ (own_k hw 97 rfl) (own_k hw 43 rfl) (by decide) (by decide)) (okN (fun _ _ q => Nat.le_of_eq (congrArg Array.size q.2))) (own_k hw 95 rfl) (own_k hw 96 rfl) (own_k hw 43 rfl) (own_k hw 97 rfl)  (by decide)  (argsL := [(.ref t), (.int (0 : Int32))]) (rest := []) rfl (lenOf own_pd6 rfl) rfl (by rw [hml]; rfl) (Nat.le_of_eq rfl) (hb hby d_jdk_42_method_56_21) (by decide) (by decide) ?_
  intro v15 T10 h12 Lh12 X11 q16
  replace q16 := q16.1
  obtain ⟨rfl, rfl⟩ := q16
  show OEnds p e below _ T10 (mkF m 24 #[.val (.ref x), .val (.int (0 : Int32))] [(.int c0)])
  exact X11.retCharN hlk hu hret (hb hby d_jdk_42_method_56_24) (by decide) (by decide) ⟨rfl, rfl⟩
theorem con_ck21 {l : Launch} {Z : State} {a0 : Array Value} {cz : Int32} {fm : Value} (H : Ctx Z a0 cz fm) (b : Addr) (kb : ClassId) (c0 c1 : Int32) (h0 : Heap) (Kb : Arv Z h0 b kb .byte (4 : Int32) [.int (own_lo c0), .int (own_hi c0), .int (own_lo c1), .int (own_hi c1)] (.int (0 : Int32))) :
    ConN l Z (⟨"java/lang/StringUTF16", "checkIndex", "(I[B)V"⟩ : MethodName) jdk_52_method_91_code 2 (none : Option FieldType) [] ({ frames := 2, cells := 0, slots := 0, locals := 27 } : Room) #[(.int (1 : Int32)), (.ref b)] h0 (fun r h => r = none ∧ h0 = h) := by
  obtain ⟨hw, hE, S0, hcz, S1, rf, hp0, hp1, hp2⟩ := id H
  refine ConN.of own_pf16 ?_
  intro p e s m below meth c T hby hml hret hlk hnm X0
  have EX0 := ext_refl h0
  refine OEnds.cast (own_ef11 m (1 : Int32) b ) ?_
  show OEnds p e below _ T (mkF m 0 #[.val (.int (1 : Int32)), .val (.ref b)] [])
  refine OEnds.go (fun _ q => XS.iloadN X0.here X0.hx rfl (hb hby d_jdk_52_method_91_0) rfl q) ?_
  refine OEnds.go (fun _ q => XS.aloadN X0.here X0.hx rfl (hb hby d_jdk_52_method_91_1) rfl rfl q) ?_
  show OEnds p e below _ T (mkF m 2 #[.val (.int (1 : Int32)), .val (.ref b)] [(.ref b), (.int (1 : Int32))])
  refine X0.payS (ConN.back (W := 1) (con_ul2 H b kb _ h0 Kb) X0.old X0.hZ (own_k hw 103 rfl) (own_k hw 43 rfl) (by decide) (by decide)) (okN (fun _ _ q => Nat.le_of_eq (congrArg Array.size q.2))) (own_k hw 101 rfl) (own_k hw 102 rfl) (own_k hw 43 rfl) (own_k hw 103 rfl)  (by decide)  (argsL := [(.ref b)]) (rest := [(.int (1 : Int32))]) rfl (lenOf own_pd10 rfl) rfl (by rw [hml]; rfl) (Nat.le_of_eq rfl) (hb hby d_jdk_52_method_91_2) (by decide) (by decide) ?_
  intro v6 T1 h3 Lh3 X2 q7
  replace q7 := q7.1
  obtain ⟨rfl, rfl⟩ := q7
  show OEnds p e below _ T1 (mkF m 5 #[.val (.int (1 : Int32)), .val (.ref b)] [(.int (2 : Int32)), (.int (1 : Int32))])
  refine X2.payS (ConN.back (W := 0) (con_ckS H (1 : Int32) (2 : Int32) (by decide) (by decide) h0) X2.old X2.hZ (own_k hw 70 rfl) (own_k hw 6 rfl) (by decide) (by decide)) (okN (fun _ _ q => Nat.le_of_eq (congrArg Array.size q.2))) (own_k hw 104 rfl) (own_k hw 69 rfl) (own_k hw 6 rfl) (own_k hw 70 rfl)  (by decide)  (argsL := [(.int (1 : Int32)), (.int (2 : Int32))]) (rest := []) rfl (lenOf own_pd11 rfl) rfl (by rw [hml]; rfl) (Nat.le_of_eq rfl) (hb hby d_jdk_52_method_91_5) (by decide) (by decide) ?_
  intro v13 T8 h10 Lh10 X9 q14
  replace q14 := q14.1
  obtain ⟨rfl, rfl⟩ := q14
  show OEnds p e below _ T8 (mkF m 8 #[.val (.int (1 : Int32)), .val (.ref b)] [])
  exact X9.ret0N hlk  hret (hb hby d_jdk_52_method_91_8) (by decide) (by decide) ⟨rfl, rfl⟩
theorem con_uc21 {l : Launch} {Z : State} {a0 : Array Value} {cz : Int32} {fm : Value} (H : Ctx Z a0 cz fm) (b : Addr) (kb : ClassId) (c0 c1 : Int32) (hu : ¬ c1 < 0 ∧ ¬ (65535 : Int32) < c1) (h0 : Heap) (Kb : Arv Z h0 b kb .byte (4 : Int32) [.int (own_lo c0), .int (own_hi c0), .int (own_lo c1), .int (own_hi c1)] (.int (0 : Int32))) :
    ConN l Z (⟨"java/lang/StringUTF16", "charAt", "([BI)C"⟩ : MethodName) jdk_52_method_83_code 2 (some FieldType.char) [] ({ frames := 3, cells := 0, slots := 0, locals := 40 } : Room) #[(.ref b), (.int (1 : Int32))] h0 (fun r h => r = some (.int c1) ∧ h0 = h) := by
  obtain ⟨hw, hE, S0, hcz, S1, rf, hp0, hp1, hp2⟩ := id H
  refine ConN.of own_pf17 ?_
  intro p e s m below meth c T hby hml hret hlk hnm X0
  have EX0 := ext_refl h0
  refine OEnds.cast (own_ef5 m b (1 : Int32) ) ?_
  show OEnds p e below _ T (mkF m 0 #[.val (.ref b), .val (.int (1 : Int32))] [])
  refine OEnds.go (fun _ q => XS.iloadN X0.here X0.hx rfl (hb hby d_jdk_52_method_83_0) rfl q) ?_
  refine OEnds.go (fun _ q => XS.aloadN X0.here X0.hx rfl (hb hby d_jdk_52_method_83_1) rfl rfl q) ?_
  show OEnds p e below _ T (mkF m 2 #[.val (.ref b), .val (.int (1 : Int32))] [(.ref b), (.int (1 : Int32))])
  refine X0.payS (ConN.back (W := 0) (con_ck21 H b kb c0 c1 h0 Kb) X0.old X0.hZ (own_k hw 100 rfl) (own_k hw 43 rfl) (by decide) (by decide)) (okN (fun _ _ q => Nat.le_of_eq (congrArg Array.size q.2))) (own_k hw 98 rfl) (own_k hw 99 rfl) (own_k hw 43 rfl) (own_k hw 100 rfl)  (by decide)  (argsL := [(.int (1 : Int32)), (.ref b)]) (rest := []) rfl (lenOf own_pd12 rfl) rfl (by rw [hml]; rfl) (Nat.le_of_eq rfl) (hb hby d_jdk_52_method_83_2) (by decide) (by decide) ?_
  intro v6 T1 h3 Lh3 X2 q7
  replace q7 := q7.1
  obtain ⟨rfl, rfl⟩ := q7
  show OEnds p e below _ T1 (mkF m 5 #[.val (.ref b), .val (.int (1 : Int32))] [])
  refine OEnds.go (fun _ q => XS.aloadN X2.here X2.hx rfl (hb hby d_jdk_52_method_83_5) rfl rfl q) ?_
  refine OEnds.go (fun _ q => XS.iloadN X2.here X2.hx rfl (hb hby d_jdk_52_method_83_6) rfl q) ?_
  show OEnds p e below _ T1 (mkF m 7 #[.val (.ref b), .val (.int (1 : Int32))] [(.int (1 : Int32)), (.ref b)])
  refine X2.payS (ConN.back (W := 0) (con_get21 H b kb c0 c1 hu h0 Kb) X2.old X2.hZ (own_k hw 94 rfl) (own_k hw 43 rfl) (by decide) (by decide)) (okN (fun _ _ q => Nat.le_of_eq (congrArg Array.size q.2))) (own_k hw 92 rfl) (own_k hw 93 rfl) (own_k hw 43 rfl) (own_k hw 94 rfl)  (by decide)  (argsL := [(.ref b), (.int (1 : Int32))]) (rest := []) rfl (lenOf own_pd6 rfl) rfl (by rw [hml]; rfl) (Nat.le_of_eq rfl) (hb hby d_jdk_52_method_83_7) (by decide) (by decide) ?_
  intro v13 T8 h10 Lh10 X9 q14
  replace q14 := q14.1
  obtain ⟨rfl, rfl⟩ := q14
  show OEnds p e below _ T8 (mkF m 10 #[.val (.ref b), .val (.int (1 : Int32))] [(.int c1)])
  exact X9.retCharN hlk hu hret (hb hby d_jdk_52_method_83_10) (by decide) (by decide) ⟨rfl, rfl⟩
theorem con_ch21 {l : Launch} {Z : State} {a0 : Array Value} {cz : Int32} {fm : Value} (H : Ctx Z a0 cz fm) (x : Addr) (c0 c1 : Int32) (hu : ¬ c1 < 0 ∧ ¬ (65535 : Int32) < c1) (h0 : Heap) (Ux : OUtf2 Z h0 x c0 c1) :
    ConN l Z (⟨"java/lang/String", "charAt", "(I)C"⟩ : MethodName) jdk_42_method_56_code 2 (some FieldType.char) [] ({ frames := 4, cells := 0, slots := 0, locals := 53 } : Room) #[(.ref x), (.int (1 : Int32))] h0 (fun r h => r = some (.int c1) ∧ h0 = h) := by
  obtain ⟨hw, hE, S0, hcz, S1, rf, hp0, hp1, hp2⟩ := id H
  refine ConN.of own_pf18 ?_
  intro p e s m below meth c T hby hml hret hlk hnm X0
  have EX0 := ext_refl h0
  refine OEnds.cast (own_ef5 m x (1 : Int32) ) ?_
  show OEnds p e below _ T (mkF m 0 #[.val (.ref x), .val (.int (1 : Int32))] [])
  obtain ⟨Ex, Cx, t, kb, Vx, Kt⟩ := id Ux
  refine OEnds.go (fun _ q => XS.aloadN X0.here X0.hx rfl (hb hby d_jdk_42_method_56_0) rfl rfl q) ?_
  show OEnds p e below _ T (mkF m 1 #[.val (.ref x), .val (.int (1 : Int32))] [(.ref x)])
  refine X0.payV (ConN.back (W := 0) (con_isU H x h0 Cx) X0.old X0.hZ (own_k hw 63 rfl) (own_k hw 6 rfl) (by decide) (by decide)) (okN (fun _ _ q => Nat.le_of_eq (congrArg Array.size q.2))) (own_k hw 59 rfl) (own_k hw 60 rfl) (own_k hw 62 rfl) (own_k hw 61 rfl)  (X0.nf (own_k hw 62 rfl)) (by decide)  Ex (argsL := []) (rest := []) rfl (lenOf own_pd13 rfl) rfl (by rw [hml]; rfl) (Nat.le_of_eq rfl) (hb hby d_jdk_42_method_56_1) (by decide) (by decide) ?_
  intro v6 T1 h3 Lh3 X2 q7
  replace q7 := q7.1
  obtain ⟨rfl, rfl⟩ := q7
  show OEnds p e below _ T1 (mkF m 4 #[.val (.ref x), .val (.int (1 : Int32))] [(.int (0 : Int32))])
  refine OEnds.go (fun _ q => XS.ifYes X2.here X2.hx rfl (pc0 := 4) (pc' := 16) rfl (hb hby d_jdk_42_method_56_4) rfl ((if0 _ _).trans (teq (by decide)).1) (by decide) (by decide) q) ?_
  show OEnds p e below _ T1 (mkF m 16 #[.val (.ref x), .val (.int (1 : Int32))] [])
  refine OEnds.go (fun _ q => XS.aloadN X2.here X2.hx rfl (hb hby d_jdk_42_method_56_16) rfl rfl q) ?_
  show OEnds p e below _ T1 (mkF m 17 #[.val (.ref x), .val (.int (1 : Int32))] [(.ref x)])
  refine X2.getF (own_k hw 24 rfl) Via.refl Vx (hb hby d_jdk_42_method_56_17) ?_
  intro T8 X9
  show OEnds p e below _ T8 (mkF m 20 #[.val (.ref x), .val (.int (1 : Int32))] [(.ref t)])
  refine OEnds.go (fun _ q => XS.iloadN X9.here X9.hx rfl (hb hby d_jdk_42_method_56_20) rfl q) ?_
  show OEnds p e below _ T8 (mkF m 21 #[.val (.ref x), .val (.int (1 : Int32))] [(.int (1 : Int32)), (.ref t)])
  refine X9.payS (ConN.back (W := 0) (con_uc21 H t kb c0 c1 hu h0 Kt) X9.old X9.hZ (own_k hw 97 rfl) (own_k hw 43 rfl) (by decide) (by decide)) (okN (fun _ _ q => Nat.le_of_eq (congrArg Array.size q.2))) (own_k hw 95 rfl) (own_k hw 96 rfl) (own_k hw 43 rfl) (own_k hw 97 rfl)  (by decide)  (argsL := [(.ref t), (.int (1 : Int32))]) (rest := []) rfl (lenOf own_pd6 rfl) rfl (by rw [hml]; rfl) (Nat.le_of_eq rfl) (hb hby d_jdk_42_method_56_21) (by decide) (by decide) ?_
  intro v15 T10 h12 Lh12 X11 q16
  replace q16 := q16.1
  obtain ⟨rfl, rfl⟩ := q16
  show OEnds p e below _ T10 (mkF m 24 #[.val (.ref x), .val (.int (1 : Int32))] [(.int c1)])
  exact X11.retCharN hlk hu hret (hb hby d_jdk_42_method_56_24) (by decide) (by decide) ⟨rfl, rfl⟩
theorem con_ln3 {l : Launch} {Z : State} {a0 : Array Value} {cz : Int32} {fm : Value} (H : Ctx Z a0 cz fm) (x : Addr) (c0 c1 c2 : Int32) (h0 : Heap) (Ux : OUtf3 Z h0 x c0 c1 c2) :
    ConN l Z (⟨"java/lang/String", "length", "()I"⟩ : MethodName) jdk_42_method_54_code 1 (some FieldType.int) [] ({ frames := 1, cells := 0, slots := 0, locals := 13 } : Room) #[(.ref x)] h0 (fun r h => r = some (.int (3 : Int32)) ∧ h0 = h) := by
  obtain ⟨hw, hE, S0, hcz, S1, rf, hp0, hp1, hp2⟩ := id H
  refine ConN.of own_pf15 ?_
  intro p e s m below meth c T hby hml hret hlk hnm X0
  have EX0 := ext_refl h0
  refine OEnds.cast (own_ef6 m x ) ?_
  show OEnds p e below _ T (mkF m 0 #[.val (.ref x)] [])
  obtain ⟨Ex, Cx, t, kb, Vx, Kt⟩ := id Ux
  refine OEnds.go (fun _ q => XS.aloadN X0.here X0.hx rfl (hb hby d_jdk_42_method_54_0) rfl rfl q) ?_
  show OEnds p e below _ T (mkF m 1 #[.val (.ref x)] [(.ref x)])
  refine X0.getF (own_k hw 24 rfl) Via.refl Vx (hb hby d_jdk_42_method_54_1) ?_
  intro T1 X2
  show OEnds p e below _ T1 (mkF m 4 #[.val (.ref x)] [(.ref t)])
  refine X2.alen Kt (hb hby d_jdk_42_method_54_4) ?_
  show OEnds p e below _ T1 (mkF m 5 #[.val (.ref x)] [(.int (6 : Int32))])
  refine OEnds.go (fun _ q => XS.aloadN X2.here X2.hx rfl (hb hby d_jdk_42_method_54_5) rfl rfl q) ?_
  show OEnds p e below _ T1 (mkF m 6 #[.val (.ref x)] [(.ref x), (.int (6 : Int32))])
  refine X2.payV (ConN.back (W := 1) (con_cod H x h0 Cx) X2.old X2.hZ (own_k hw 39 rfl) (own_k hw 6 rfl) (by decide) (by decide)) (okN (fun _ _ q => Nat.le_of_eq (congrArg Array.size q.2))) (own_k hw 35 rfl) (own_k hw 36 rfl) (own_k hw 38 rfl) (own_k hw 37 rfl)  (X2.nf (own_k hw 38 rfl)) (by decide)  Ex (argsL := []) (rest := [(.int (6 : Int32))]) rfl (lenOf own_pd9 rfl) rfl (by rw [hml]; rfl) (Nat.le_of_eq rfl) (hb hby d_jdk_42_method_54_6) (by decide) (by decide) ?_
  intro v8 T3 h5 Lh5 X4 q9
  replace q9 := q9.1
  obtain ⟨rfl, rfl⟩ := q9
  show OEnds p e below _ T3 (mkF m 9 #[.val (.ref x)] [(.int (1 : Int32)), (.int (6 : Int32))])
  refine OEnds.go (fun _ q => XS.ishr X4.here X4.hx rfl (hb hby d_jdk_42_method_54_9) rfl q) ?_
  show OEnds p e below _ T3 (mkF m 10 #[.val (.ref x)] [(.int ((6 : Int32) >>> ((1 : Int32) &&& 31)))])
  rw [show ((6 : Int32) >>> ((1 : Int32) &&& 31)) = (3 : Int32) from by decide]
  show OEnds p e below _ T3 (mkF m 10 #[.val (.ref x)] [(.int (3 : Int32))])
  exact X4.retIntN hlk  hret (hb hby d_jdk_42_method_54_10) (by decide) (by decide) ⟨rfl, rfl⟩
theorem con_ck30 {l : Launch} {Z : State} {a0 : Array Value} {cz : Int32} {fm : Value} (H : Ctx Z a0 cz fm) (b : Addr) (kb : ClassId) (c0 c1 c2 : Int32) (h0 : Heap) (Kb : Arv Z h0 b kb .byte (6 : Int32) [.int (own_lo c0), .int (own_hi c0), .int (own_lo c1), .int (own_hi c1), .int (own_lo c2), .int (own_hi c2)] (.int (0 : Int32))) :
    ConN l Z (⟨"java/lang/StringUTF16", "checkIndex", "(I[B)V"⟩ : MethodName) jdk_52_method_91_code 2 (none : Option FieldType) [] ({ frames := 2, cells := 0, slots := 0, locals := 27 } : Room) #[(.int (0 : Int32)), (.ref b)] h0 (fun r h => r = none ∧ h0 = h) := by
  obtain ⟨hw, hE, S0, hcz, S1, rf, hp0, hp1, hp2⟩ := id H
  refine ConN.of own_pf16 ?_
  intro p e s m below meth c T hby hml hret hlk hnm X0
  have EX0 := ext_refl h0
  refine OEnds.cast (own_ef11 m (0 : Int32) b ) ?_
  show OEnds p e below _ T (mkF m 0 #[.val (.int (0 : Int32)), .val (.ref b)] [])
  refine OEnds.go (fun _ q => XS.iloadN X0.here X0.hx rfl (hb hby d_jdk_52_method_91_0) rfl q) ?_
  refine OEnds.go (fun _ q => XS.aloadN X0.here X0.hx rfl (hb hby d_jdk_52_method_91_1) rfl rfl q) ?_
  show OEnds p e below _ T (mkF m 2 #[.val (.int (0 : Int32)), .val (.ref b)] [(.ref b), (.int (0 : Int32))])
  refine X0.payS (ConN.back (W := 1) (con_ul3 H b kb _ h0 Kb) X0.old X0.hZ (own_k hw 103 rfl) (own_k hw 43 rfl) (by decide) (by decide)) (okN (fun _ _ q => Nat.le_of_eq (congrArg Array.size q.2))) (own_k hw 101 rfl) (own_k hw 102 rfl) (own_k hw 43 rfl) (own_k hw 103 rfl)  (by decide)  (argsL := [(.ref b)]) (rest := [(.int (0 : Int32))]) rfl (lenOf own_pd10 rfl) rfl (by rw [hml]; rfl) (Nat.le_of_eq rfl) (hb hby d_jdk_52_method_91_2) (by decide) (by decide) ?_
  intro v6 T1 h3 Lh3 X2 q7
  replace q7 := q7.1
  obtain ⟨rfl, rfl⟩ := q7
  show OEnds p e below _ T1 (mkF m 5 #[.val (.int (0 : Int32)), .val (.ref b)] [(.int (3 : Int32)), (.int (0 : Int32))])
  refine X2.payS (ConN.back (W := 0) (con_ckS H (0 : Int32) (3 : Int32) (by decide) (by decide) h0) X2.old X2.hZ (own_k hw 70 rfl) (own_k hw 6 rfl) (by decide) (by decide)) (okN (fun _ _ q => Nat.le_of_eq (congrArg Array.size q.2))) (own_k hw 104 rfl) (own_k hw 69 rfl) (own_k hw 6 rfl) (own_k hw 70 rfl)  (by decide)  (argsL := [(.int (0 : Int32)), (.int (3 : Int32))]) (rest := []) rfl (lenOf own_pd11 rfl) rfl (by rw [hml]; rfl) (Nat.le_of_eq rfl) (hb hby d_jdk_52_method_91_5) (by decide) (by decide) ?_
  intro v13 T8 h10 Lh10 X9 q14
  replace q14 := q14.1
  obtain ⟨rfl, rfl⟩ := q14
  show OEnds p e below _ T8 (mkF m 8 #[.val (.int (0 : Int32)), .val (.ref b)] [])
  exact X9.ret0N hlk  hret (hb hby d_jdk_52_method_91_8) (by decide) (by decide) ⟨rfl, rfl⟩
theorem con_uc30 {l : Launch} {Z : State} {a0 : Array Value} {cz : Int32} {fm : Value} (H : Ctx Z a0 cz fm) (b : Addr) (kb : ClassId) (c0 c1 c2 : Int32) (hu : ¬ c0 < 0 ∧ ¬ (65535 : Int32) < c0) (h0 : Heap) (Kb : Arv Z h0 b kb .byte (6 : Int32) [.int (own_lo c0), .int (own_hi c0), .int (own_lo c1), .int (own_hi c1), .int (own_lo c2), .int (own_hi c2)] (.int (0 : Int32))) :
    ConN l Z (⟨"java/lang/StringUTF16", "charAt", "([BI)C"⟩ : MethodName) jdk_52_method_83_code 2 (some FieldType.char) [] ({ frames := 3, cells := 0, slots := 0, locals := 40 } : Room) #[(.ref b), (.int (0 : Int32))] h0 (fun r h => r = some (.int c0) ∧ h0 = h) := by
  obtain ⟨hw, hE, S0, hcz, S1, rf, hp0, hp1, hp2⟩ := id H
  refine ConN.of own_pf17 ?_
  intro p e s m below meth c T hby hml hret hlk hnm X0
  have EX0 := ext_refl h0
  refine OEnds.cast (own_ef5 m b (0 : Int32) ) ?_
  show OEnds p e below _ T (mkF m 0 #[.val (.ref b), .val (.int (0 : Int32))] [])
  refine OEnds.go (fun _ q => XS.iloadN X0.here X0.hx rfl (hb hby d_jdk_52_method_83_0) rfl q) ?_
  refine OEnds.go (fun _ q => XS.aloadN X0.here X0.hx rfl (hb hby d_jdk_52_method_83_1) rfl rfl q) ?_
  show OEnds p e below _ T (mkF m 2 #[.val (.ref b), .val (.int (0 : Int32))] [(.ref b), (.int (0 : Int32))])
  refine X0.payS (ConN.back (W := 0) (con_ck30 H b kb c0 c1 c2 h0 Kb) X0.old X0.hZ (own_k hw 100 rfl) (own_k hw 43 rfl) (by decide) (by decide)) (okN (fun _ _ q => Nat.le_of_eq (congrArg Array.size q.2))) (own_k hw 98 rfl) (own_k hw 99 rfl) (own_k hw 43 rfl) (own_k hw 100 rfl)  (by decide)  (argsL := [(.int (0 : Int32)), (.ref b)]) (rest := []) rfl (lenOf own_pd12 rfl) rfl (by rw [hml]; rfl) (Nat.le_of_eq rfl) (hb hby d_jdk_52_method_83_2) (by decide) (by decide) ?_
  intro v6 T1 h3 Lh3 X2 q7
  replace q7 := q7.1
  obtain ⟨rfl, rfl⟩ := q7
  show OEnds p e below _ T1 (mkF m 5 #[.val (.ref b), .val (.int (0 : Int32))] [])
  refine OEnds.go (fun _ q => XS.aloadN X2.here X2.hx rfl (hb hby d_jdk_52_method_83_5) rfl rfl q) ?_
  refine OEnds.go (fun _ q => XS.iloadN X2.here X2.hx rfl (hb hby d_jdk_52_method_83_6) rfl q) ?_
  show OEnds p e below _ T1 (mkF m 7 #[.val (.ref b), .val (.int (0 : Int32))] [(.int (0 : Int32)), (.ref b)])
  refine X2.payS (ConN.back (W := 0) (con_get30 H b kb c0 c1 c2 hu h0 Kb) X2.old X2.hZ (own_k hw 94 rfl) (own_k hw 43 rfl) (by decide) (by decide)) (okN (fun _ _ q => Nat.le_of_eq (congrArg Array.size q.2))) (own_k hw 92 rfl) (own_k hw 93 rfl) (own_k hw 43 rfl) (own_k hw 94 rfl)  (by decide)  (argsL := [(.ref b), (.int (0 : Int32))]) (rest := []) rfl (lenOf own_pd6 rfl) rfl (by rw [hml]; rfl) (Nat.le_of_eq rfl) (hb hby d_jdk_52_method_83_7) (by decide) (by decide) ?_
  intro v13 T8 h10 Lh10 X9 q14
  replace q14 := q14.1
  obtain ⟨rfl, rfl⟩ := q14
  show OEnds p e below _ T8 (mkF m 10 #[.val (.ref b), .val (.int (0 : Int32))] [(.int c0)])
  exact X9.retCharN hlk hu hret (hb hby d_jdk_52_method_83_10) (by decide) (by decide) ⟨rfl, rfl⟩
theorem con_ch30 {l : Launch} {Z : State} {a0 : Array Value} {cz : Int32} {fm : Value} (H : Ctx Z a0 cz fm) (x : Addr) (c0 c1 c2 : Int32) (hu : ¬ c0 < 0 ∧ ¬ (65535 : Int32) < c0) (h0 : Heap) (Ux : OUtf3 Z h0 x c0 c1 c2) :
    ConN l Z (⟨"java/lang/String", "charAt", "(I)C"⟩ : MethodName) jdk_42_method_56_code 2 (some FieldType.char) [] ({ frames := 4, cells := 0, slots := 0, locals := 53 } : Room) #[(.ref x), (.int (0 : Int32))] h0 (fun r h => r = some (.int c0) ∧ h0 = h) := by
  obtain ⟨hw, hE, S0, hcz, S1, rf, hp0, hp1, hp2⟩ := id H
  refine ConN.of own_pf18 ?_
  intro p e s m below meth c T hby hml hret hlk hnm X0
  have EX0 := ext_refl h0
  refine OEnds.cast (own_ef5 m x (0 : Int32) ) ?_
  show OEnds p e below _ T (mkF m 0 #[.val (.ref x), .val (.int (0 : Int32))] [])
  obtain ⟨Ex, Cx, t, kb, Vx, Kt⟩ := id Ux
  refine OEnds.go (fun _ q => XS.aloadN X0.here X0.hx rfl (hb hby d_jdk_42_method_56_0) rfl rfl q) ?_
  show OEnds p e below _ T (mkF m 1 #[.val (.ref x), .val (.int (0 : Int32))] [(.ref x)])
  refine X0.payV (ConN.back (W := 0) (con_isU H x h0 Cx) X0.old X0.hZ (own_k hw 63 rfl) (own_k hw 6 rfl) (by decide) (by decide)) (okN (fun _ _ q => Nat.le_of_eq (congrArg Array.size q.2))) (own_k hw 59 rfl) (own_k hw 60 rfl) (own_k hw 62 rfl) (own_k hw 61 rfl)  (X0.nf (own_k hw 62 rfl)) (by decide)  Ex (argsL := []) (rest := []) rfl (lenOf own_pd13 rfl) rfl (by rw [hml]; rfl) (Nat.le_of_eq rfl) (hb hby d_jdk_42_method_56_1) (by decide) (by decide) ?_
  intro v6 T1 h3 Lh3 X2 q7
  replace q7 := q7.1
  obtain ⟨rfl, rfl⟩ := q7
  show OEnds p e below _ T1 (mkF m 4 #[.val (.ref x), .val (.int (0 : Int32))] [(.int (0 : Int32))])
  refine OEnds.go (fun _ q => XS.ifYes X2.here X2.hx rfl (pc0 := 4) (pc' := 16) rfl (hb hby d_jdk_42_method_56_4) rfl ((if0 _ _).trans (teq (by decide)).1) (by decide) (by decide) q) ?_
  show OEnds p e below _ T1 (mkF m 16 #[.val (.ref x), .val (.int (0 : Int32))] [])
  refine OEnds.go (fun _ q => XS.aloadN X2.here X2.hx rfl (hb hby d_jdk_42_method_56_16) rfl rfl q) ?_
  show OEnds p e below _ T1 (mkF m 17 #[.val (.ref x), .val (.int (0 : Int32))] [(.ref x)])
  refine X2.getF (own_k hw 24 rfl) Via.refl Vx (hb hby d_jdk_42_method_56_17) ?_
  intro T8 X9
  show OEnds p e below _ T8 (mkF m 20 #[.val (.ref x), .val (.int (0 : Int32))] [(.ref t)])
  refine OEnds.go (fun _ q => XS.iloadN X9.here X9.hx rfl (hb hby d_jdk_42_method_56_20) rfl q) ?_
  show OEnds p e below _ T8 (mkF m 21 #[.val (.ref x), .val (.int (0 : Int32))] [(.int (0 : Int32)), (.ref t)])
  refine X9.payS (ConN.back (W := 0) (con_uc30 H t kb c0 c1 c2 hu h0 Kt) X9.old X9.hZ (own_k hw 97 rfl) (own_k hw 43 rfl) (by decide) (by decide)) (okN (fun _ _ q => Nat.le_of_eq (congrArg Array.size q.2))) (own_k hw 95 rfl) (own_k hw 96 rfl) (own_k hw 43 rfl) (own_k hw 97 rfl)  (by decide)  (argsL := [(.ref t), (.int (0 : Int32))]) (rest := []) rfl (lenOf own_pd6 rfl) rfl (by rw [hml]; rfl) (Nat.le_of_eq rfl) (hb hby d_jdk_42_method_56_21) (by decide) (by decide) ?_
  intro v15 T10 h12 Lh12 X11 q16
  replace q16 := q16.1
  obtain ⟨rfl, rfl⟩ := q16
  show OEnds p e below _ T10 (mkF m 24 #[.val (.ref x), .val (.int (0 : Int32))] [(.int c0)])
  exact X11.retCharN hlk hu hret (hb hby d_jdk_42_method_56_24) (by decide) (by decide) ⟨rfl, rfl⟩
theorem con_ck31 {l : Launch} {Z : State} {a0 : Array Value} {cz : Int32} {fm : Value} (H : Ctx Z a0 cz fm) (b : Addr) (kb : ClassId) (c0 c1 c2 : Int32) (h0 : Heap) (Kb : Arv Z h0 b kb .byte (6 : Int32) [.int (own_lo c0), .int (own_hi c0), .int (own_lo c1), .int (own_hi c1), .int (own_lo c2), .int (own_hi c2)] (.int (0 : Int32))) :
    ConN l Z (⟨"java/lang/StringUTF16", "checkIndex", "(I[B)V"⟩ : MethodName) jdk_52_method_91_code 2 (none : Option FieldType) [] ({ frames := 2, cells := 0, slots := 0, locals := 27 } : Room) #[(.int (1 : Int32)), (.ref b)] h0 (fun r h => r = none ∧ h0 = h) := by
  obtain ⟨hw, hE, S0, hcz, S1, rf, hp0, hp1, hp2⟩ := id H
  refine ConN.of own_pf16 ?_
  intro p e s m below meth c T hby hml hret hlk hnm X0
  have EX0 := ext_refl h0
  refine OEnds.cast (own_ef11 m (1 : Int32) b ) ?_
  show OEnds p e below _ T (mkF m 0 #[.val (.int (1 : Int32)), .val (.ref b)] [])
  refine OEnds.go (fun _ q => XS.iloadN X0.here X0.hx rfl (hb hby d_jdk_52_method_91_0) rfl q) ?_
  refine OEnds.go (fun _ q => XS.aloadN X0.here X0.hx rfl (hb hby d_jdk_52_method_91_1) rfl rfl q) ?_
  show OEnds p e below _ T (mkF m 2 #[.val (.int (1 : Int32)), .val (.ref b)] [(.ref b), (.int (1 : Int32))])
  refine X0.payS (ConN.back (W := 1) (con_ul3 H b kb _ h0 Kb) X0.old X0.hZ (own_k hw 103 rfl) (own_k hw 43 rfl) (by decide) (by decide)) (okN (fun _ _ q => Nat.le_of_eq (congrArg Array.size q.2))) (own_k hw 101 rfl) (own_k hw 102 rfl) (own_k hw 43 rfl) (own_k hw 103 rfl)  (by decide)  (argsL := [(.ref b)]) (rest := [(.int (1 : Int32))]) rfl (lenOf own_pd10 rfl) rfl (by rw [hml]; rfl) (Nat.le_of_eq rfl) (hb hby d_jdk_52_method_91_2) (by decide) (by decide) ?_
  intro v6 T1 h3 Lh3 X2 q7
  replace q7 := q7.1
  obtain ⟨rfl, rfl⟩ := q7
  show OEnds p e below _ T1 (mkF m 5 #[.val (.int (1 : Int32)), .val (.ref b)] [(.int (3 : Int32)), (.int (1 : Int32))])
  refine X2.payS (ConN.back (W := 0) (con_ckS H (1 : Int32) (3 : Int32) (by decide) (by decide) h0) X2.old X2.hZ (own_k hw 70 rfl) (own_k hw 6 rfl) (by decide) (by decide)) (okN (fun _ _ q => Nat.le_of_eq (congrArg Array.size q.2))) (own_k hw 104 rfl) (own_k hw 69 rfl) (own_k hw 6 rfl) (own_k hw 70 rfl)  (by decide)  (argsL := [(.int (1 : Int32)), (.int (3 : Int32))]) (rest := []) rfl (lenOf own_pd11 rfl) rfl (by rw [hml]; rfl) (Nat.le_of_eq rfl) (hb hby d_jdk_52_method_91_5) (by decide) (by decide) ?_
  intro v13 T8 h10 Lh10 X9 q14
  replace q14 := q14.1
  obtain ⟨rfl, rfl⟩ := q14
  show OEnds p e below _ T8 (mkF m 8 #[.val (.int (1 : Int32)), .val (.ref b)] [])
  exact X9.ret0N hlk  hret (hb hby d_jdk_52_method_91_8) (by decide) (by decide) ⟨rfl, rfl⟩
theorem con_uc31 {l : Launch} {Z : State} {a0 : Array Value} {cz : Int32} {fm : Value} (H : Ctx Z a0 cz fm) (b : Addr) (kb : ClassId) (c0 c1 c2 : Int32) (hu : ¬ c1 < 0 ∧ ¬ (65535 : Int32) < c1) (h0 : Heap) (Kb : Arv Z h0 b kb .byte (6 : Int32) [.int (own_lo c0), .int (own_hi c0), .int (own_lo c1), .int (own_hi c1), .int (own_lo c2), .int (own_hi c2)] (.int (0 : Int32))) :
    ConN l Z (⟨"java/lang/StringUTF16", "charAt", "([BI)C"⟩ : MethodName) jdk_52_method_83_code 2 (some FieldType.char) [] ({ frames := 3, cells := 0, slots := 0, locals := 40 } : Room) #[(.ref b), (.int (1 : Int32))] h0 (fun r h => r = some (.int c1) ∧ h0 = h) := by
  obtain ⟨hw, hE, S0, hcz, S1, rf, hp0, hp1, hp2⟩ := id H
  refine ConN.of own_pf17 ?_
  intro p e s m below meth c T hby hml hret hlk hnm X0
  have EX0 := ext_refl h0
  refine OEnds.cast (own_ef5 m b (1 : Int32) ) ?_
  show OEnds p e below _ T (mkF m 0 #[.val (.ref b), .val (.int (1 : Int32))] [])
  refine OEnds.go (fun _ q => XS.iloadN X0.here X0.hx rfl (hb hby d_jdk_52_method_83_0) rfl q) ?_
  refine OEnds.go (fun _ q => XS.aloadN X0.here X0.hx rfl (hb hby d_jdk_52_method_83_1) rfl rfl q) ?_
  show OEnds p e below _ T (mkF m 2 #[.val (.ref b), .val (.int (1 : Int32))] [(.ref b), (.int (1 : Int32))])
  refine X0.payS (ConN.back (W := 0) (con_ck31 H b kb c0 c1 c2 h0 Kb) X0.old X0.hZ (own_k hw 100 rfl) (own_k hw 43 rfl) (by decide) (by decide)) (okN (fun _ _ q => Nat.le_of_eq (congrArg Array.size q.2))) (own_k hw 98 rfl) (own_k hw 99 rfl) (own_k hw 43 rfl) (own_k hw 100 rfl)  (by decide)  (argsL := [(.int (1 : Int32)), (.ref b)]) (rest := []) rfl (lenOf own_pd12 rfl) rfl (by rw [hml]; rfl) (Nat.le_of_eq rfl) (hb hby d_jdk_52_method_83_2) (by decide) (by decide) ?_
  intro v6 T1 h3 Lh3 X2 q7
  replace q7 := q7.1
  obtain ⟨rfl, rfl⟩ := q7
  show OEnds p e below _ T1 (mkF m 5 #[.val (.ref b), .val (.int (1 : Int32))] [])
  refine OEnds.go (fun _ q => XS.aloadN X2.here X2.hx rfl (hb hby d_jdk_52_method_83_5) rfl rfl q) ?_
  refine OEnds.go (fun _ q => XS.iloadN X2.here X2.hx rfl (hb hby d_jdk_52_method_83_6) rfl q) ?_
  show OEnds p e below _ T1 (mkF m 7 #[.val (.ref b), .val (.int (1 : Int32))] [(.int (1 : Int32)), (.ref b)])
  refine X2.payS (ConN.back (W := 0) (con_get31 H b kb c0 c1 c2 hu h0 Kb) X2.old X2.hZ (own_k hw 94 rfl) (own_k hw 43 rfl) (by decide) (by decide)) (okN (fun _ _ q => Nat.le_of_eq (congrArg Array.size q.2))) (own_k hw 92 rfl) (own_k hw 93 rfl) (own_k hw 43 rfl) (own_k hw 94 rfl)  (by decide)  (argsL := [(.ref b), (.int (1 : Int32))]) (rest := []) rfl (lenOf own_pd6 rfl) rfl (by rw [hml]; rfl) (Nat.le_of_eq rfl) (hb hby d_jdk_52_method_83_7) (by decide) (by decide) ?_
  intro v13 T8 h10 Lh10 X9 q14
  replace q14 := q14.1
  obtain ⟨rfl, rfl⟩ := q14
  show OEnds p e below _ T8 (mkF m 10 #[.val (.ref b), .val (.int (1 : Int32))] [(.int c1)])
  exact X9.retCharN hlk hu hret (hb hby d_jdk_52_method_83_10) (by decide) (by decide) ⟨rfl, rfl⟩
theorem con_ch31 {l : Launch} {Z : State} {a0 : Array Value} {cz : Int32} {fm : Value} (H : Ctx Z a0 cz fm) (x : Addr) (c0 c1 c2 : Int32) (hu : ¬ c1 < 0 ∧ ¬ (65535 : Int32) < c1) (h0 : Heap) (Ux : OUtf3 Z h0 x c0 c1 c2) :
    ConN l Z (⟨"java/lang/String", "charAt", "(I)C"⟩ : MethodName) jdk_42_method_56_code 2 (some FieldType.char) [] ({ frames := 4, cells := 0, slots := 0, locals := 53 } : Room) #[(.ref x), (.int (1 : Int32))] h0 (fun r h => r = some (.int c1) ∧ h0 = h) := by
  obtain ⟨hw, hE, S0, hcz, S1, rf, hp0, hp1, hp2⟩ := id H
  refine ConN.of own_pf18 ?_
  intro p e s m below meth c T hby hml hret hlk hnm X0
  have EX0 := ext_refl h0
  refine OEnds.cast (own_ef5 m x (1 : Int32) ) ?_
  show OEnds p e below _ T (mkF m 0 #[.val (.ref x), .val (.int (1 : Int32))] [])
  obtain ⟨Ex, Cx, t, kb, Vx, Kt⟩ := id Ux
  refine OEnds.go (fun _ q => XS.aloadN X0.here X0.hx rfl (hb hby d_jdk_42_method_56_0) rfl rfl q) ?_
  show OEnds p e below _ T (mkF m 1 #[.val (.ref x), .val (.int (1 : Int32))] [(.ref x)])
  refine X0.payV (ConN.back (W := 0) (con_isU H x h0 Cx) X0.old X0.hZ (own_k hw 63 rfl) (own_k hw 6 rfl) (by decide) (by decide)) (okN (fun _ _ q => Nat.le_of_eq (congrArg Array.size q.2))) (own_k hw 59 rfl) (own_k hw 60 rfl) (own_k hw 62 rfl) (own_k hw 61 rfl)  (X0.nf (own_k hw 62 rfl)) (by decide)  Ex (argsL := []) (rest := []) rfl (lenOf own_pd13 rfl) rfl (by rw [hml]; rfl) (Nat.le_of_eq rfl) (hb hby d_jdk_42_method_56_1) (by decide) (by decide) ?_
  intro v6 T1 h3 Lh3 X2 q7
  replace q7 := q7.1
  obtain ⟨rfl, rfl⟩ := q7
  show OEnds p e below _ T1 (mkF m 4 #[.val (.ref x), .val (.int (1 : Int32))] [(.int (0 : Int32))])
  refine OEnds.go (fun _ q => XS.ifYes X2.here X2.hx rfl (pc0 := 4) (pc' := 16) rfl (hb hby d_jdk_42_method_56_4) rfl ((if0 _ _).trans (teq (by decide)).1) (by decide) (by decide) q) ?_
  show OEnds p e below _ T1 (mkF m 16 #[.val (.ref x), .val (.int (1 : Int32))] [])
  refine OEnds.go (fun _ q => XS.aloadN X2.here X2.hx rfl (hb hby d_jdk_42_method_56_16) rfl rfl q) ?_
  show OEnds p e below _ T1 (mkF m 17 #[.val (.ref x), .val (.int (1 : Int32))] [(.ref x)])
  refine X2.getF (own_k hw 24 rfl) Via.refl Vx (hb hby d_jdk_42_method_56_17) ?_
  intro T8 X9
  show OEnds p e below _ T8 (mkF m 20 #[.val (.ref x), .val (.int (1 : Int32))] [(.ref t)])
  refine OEnds.go (fun _ q => XS.iloadN X9.here X9.hx rfl (hb hby d_jdk_42_method_56_20) rfl q) ?_
  show OEnds p e below _ T8 (mkF m 21 #[.val (.ref x), .val (.int (1 : Int32))] [(.int (1 : Int32)), (.ref t)])
  refine X9.payS (ConN.back (W := 0) (con_uc31 H t kb c0 c1 c2 hu h0 Kt) X9.old X9.hZ (own_k hw 97 rfl) (own_k hw 43 rfl) (by decide) (by decide)) (okN (fun _ _ q => Nat.le_of_eq (congrArg Array.size q.2))) (own_k hw 95 rfl) (own_k hw 96 rfl) (own_k hw 43 rfl) (own_k hw 97 rfl)  (by decide)  (argsL := [(.ref t), (.int (1 : Int32))]) (rest := []) rfl (lenOf own_pd6 rfl) rfl (by rw [hml]; rfl) (Nat.le_of_eq rfl) (hb hby d_jdk_42_method_56_21) (by decide) (by decide) ?_
  intro v15 T10 h12 Lh12 X11 q16
  replace q16 := q16.1
  obtain ⟨rfl, rfl⟩ := q16
  show OEnds p e below _ T10 (mkF m 24 #[.val (.ref x), .val (.int (1 : Int32))] [(.int c1)])
  exact X11.retCharN hlk hu hret (hb hby d_jdk_42_method_56_24) (by decide) (by decide) ⟨rfl, rfl⟩
theorem con_ck32 {l : Launch} {Z : State} {a0 : Array Value} {cz : Int32} {fm : Value} (H : Ctx Z a0 cz fm) (b : Addr) (kb : ClassId) (c0 c1 c2 : Int32) (h0 : Heap) (Kb : Arv Z h0 b kb .byte (6 : Int32) [.int (own_lo c0), .int (own_hi c0), .int (own_lo c1), .int (own_hi c1), .int (own_lo c2), .int (own_hi c2)] (.int (0 : Int32))) :
    ConN l Z (⟨"java/lang/StringUTF16", "checkIndex", "(I[B)V"⟩ : MethodName) jdk_52_method_91_code 2 (none : Option FieldType) [] ({ frames := 2, cells := 0, slots := 0, locals := 27 } : Room) #[(.int (2 : Int32)), (.ref b)] h0 (fun r h => r = none ∧ h0 = h) := by
  obtain ⟨hw, hE, S0, hcz, S1, rf, hp0, hp1, hp2⟩ := id H
  refine ConN.of own_pf16 ?_
  intro p e s m below meth c T hby hml hret hlk hnm X0
  have EX0 := ext_refl h0
  refine OEnds.cast (own_ef11 m (2 : Int32) b ) ?_
  show OEnds p e below _ T (mkF m 0 #[.val (.int (2 : Int32)), .val (.ref b)] [])
  refine OEnds.go (fun _ q => XS.iloadN X0.here X0.hx rfl (hb hby d_jdk_52_method_91_0) rfl q) ?_
  refine OEnds.go (fun _ q => XS.aloadN X0.here X0.hx rfl (hb hby d_jdk_52_method_91_1) rfl rfl q) ?_
  show OEnds p e below _ T (mkF m 2 #[.val (.int (2 : Int32)), .val (.ref b)] [(.ref b), (.int (2 : Int32))])
  refine X0.payS (ConN.back (W := 1) (con_ul3 H b kb _ h0 Kb) X0.old X0.hZ (own_k hw 103 rfl) (own_k hw 43 rfl) (by decide) (by decide)) (okN (fun _ _ q => Nat.le_of_eq (congrArg Array.size q.2))) (own_k hw 101 rfl) (own_k hw 102 rfl) (own_k hw 43 rfl) (own_k hw 103 rfl)  (by decide)  (argsL := [(.ref b)]) (rest := [(.int (2 : Int32))]) rfl (lenOf own_pd10 rfl) rfl (by rw [hml]; rfl) (Nat.le_of_eq rfl) (hb hby d_jdk_52_method_91_2) (by decide) (by decide) ?_
  intro v6 T1 h3 Lh3 X2 q7
  replace q7 := q7.1
  obtain ⟨rfl, rfl⟩ := q7
  show OEnds p e below _ T1 (mkF m 5 #[.val (.int (2 : Int32)), .val (.ref b)] [(.int (3 : Int32)), (.int (2 : Int32))])
  refine X2.payS (ConN.back (W := 0) (con_ckS H (2 : Int32) (3 : Int32) (by decide) (by decide) h0) X2.old X2.hZ (own_k hw 70 rfl) (own_k hw 6 rfl) (by decide) (by decide)) (okN (fun _ _ q => Nat.le_of_eq (congrArg Array.size q.2))) (own_k hw 104 rfl) (own_k hw 69 rfl) (own_k hw 6 rfl) (own_k hw 70 rfl)  (by decide)  (argsL := [(.int (2 : Int32)), (.int (3 : Int32))]) (rest := []) rfl (lenOf own_pd11 rfl) rfl (by rw [hml]; rfl) (Nat.le_of_eq rfl) (hb hby d_jdk_52_method_91_5) (by decide) (by decide) ?_
  intro v13 T8 h10 Lh10 X9 q14
  replace q14 := q14.1
  obtain ⟨rfl, rfl⟩ := q14
  show OEnds p e below _ T8 (mkF m 8 #[.val (.int (2 : Int32)), .val (.ref b)] [])
  exact X9.ret0N hlk  hret (hb hby d_jdk_52_method_91_8) (by decide) (by decide) ⟨rfl, rfl⟩
theorem con_uc32 {l : Launch} {Z : State} {a0 : Array Value} {cz : Int32} {fm : Value} (H : Ctx Z a0 cz fm) (b : Addr) (kb : ClassId) (c0 c1 c2 : Int32) (hu : ¬ c2 < 0 ∧ ¬ (65535 : Int32) < c2) (h0 : Heap) (Kb : Arv Z h0 b kb .byte (6 : Int32) [.int (own_lo c0), .int (own_hi c0), .int (own_lo c1), .int (own_hi c1), .int (own_lo c2), .int (own_hi c2)] (.int (0 : Int32))) :
    ConN l Z (⟨"java/lang/StringUTF16", "charAt", "([BI)C"⟩ : MethodName) jdk_52_method_83_code 2 (some FieldType.char) [] ({ frames := 3, cells := 0, slots := 0, locals := 40 } : Room) #[(.ref b), (.int (2 : Int32))] h0 (fun r h => r = some (.int c2) ∧ h0 = h) := by
  obtain ⟨hw, hE, S0, hcz, S1, rf, hp0, hp1, hp2⟩ := id H
  refine ConN.of own_pf17 ?_
  intro p e s m below meth c T hby hml hret hlk hnm X0
  have EX0 := ext_refl h0
  refine OEnds.cast (own_ef5 m b (2 : Int32) ) ?_
  show OEnds p e below _ T (mkF m 0 #[.val (.ref b), .val (.int (2 : Int32))] [])
  refine OEnds.go (fun _ q => XS.iloadN X0.here X0.hx rfl (hb hby d_jdk_52_method_83_0) rfl q) ?_
  refine OEnds.go (fun _ q => XS.aloadN X0.here X0.hx rfl (hb hby d_jdk_52_method_83_1) rfl rfl q) ?_
  show OEnds p e below _ T (mkF m 2 #[.val (.ref b), .val (.int (2 : Int32))] [(.ref b), (.int (2 : Int32))])
  refine X0.payS (ConN.back (W := 0) (con_ck32 H b kb c0 c1 c2 h0 Kb) X0.old X0.hZ (own_k hw 100 rfl) (own_k hw 43 rfl) (by decide) (by decide)) (okN (fun _ _ q => Nat.le_of_eq (congrArg Array.size q.2))) (own_k hw 98 rfl) (own_k hw 99 rfl) (own_k hw 43 rfl) (own_k hw 100 rfl)  (by decide)  (argsL := [(.int (2 : Int32)), (.ref b)]) (rest := []) rfl (lenOf own_pd12 rfl) rfl (by rw [hml]; rfl) (Nat.le_of_eq rfl) (hb hby d_jdk_52_method_83_2) (by decide) (by decide) ?_
  intro v6 T1 h3 Lh3 X2 q7
  replace q7 := q7.1
  obtain ⟨rfl, rfl⟩ := q7
  show OEnds p e below _ T1 (mkF m 5 #[.val (.ref b), .val (.int (2 : Int32))] [])
  refine OEnds.go (fun _ q => XS.aloadN X2.here X2.hx rfl (hb hby d_jdk_52_method_83_5) rfl rfl q) ?_
  refine OEnds.go (fun _ q => XS.iloadN X2.here X2.hx rfl (hb hby d_jdk_52_method_83_6) rfl q) ?_
  show OEnds p e below _ T1 (mkF m 7 #[.val (.ref b), .val (.int (2 : Int32))] [(.int (2 : Int32)), (.ref b)])
  refine X2.payS (ConN.back (W := 0) (con_get32 H b kb c0 c1 c2 hu h0 Kb) X2.old X2.hZ (own_k hw 94 rfl) (own_k hw 43 rfl) (by decide) (by decide)) (okN (fun _ _ q => Nat.le_of_eq (congrArg Array.size q.2))) (own_k hw 92 rfl) (own_k hw 93 rfl) (own_k hw 43 rfl) (own_k hw 94 rfl)  (by decide)  (argsL := [(.ref b), (.int (2 : Int32))]) (rest := []) rfl (lenOf own_pd6 rfl) rfl (by rw [hml]; rfl) (Nat.le_of_eq rfl) (hb hby d_jdk_52_method_83_7) (by decide) (by decide) ?_
  intro v13 T8 h10 Lh10 X9 q14
  replace q14 := q14.1
  obtain ⟨rfl, rfl⟩ := q14
  show OEnds p e below _ T8 (mkF m 10 #[.val (.ref b), .val (.int (2 : Int32))] [(.int c2)])
  exact X9.retCharN hlk hu hret (hb hby d_jdk_52_method_83_10) (by decide) (by decide) ⟨rfl, rfl⟩
theorem con_ch32 {l : Launch} {Z : State} {a0 : Array Value} {cz : Int32} {fm : Value} (H : Ctx Z a0 cz fm) (x : Addr) (c0 c1 c2 : Int32) (hu : ¬ c2 < 0 ∧ ¬ (65535 : Int32) < c2) (h0 : Heap) (Ux : OUtf3 Z h0 x c0 c1 c2) :
    ConN l Z (⟨"java/lang/String", "charAt", "(I)C"⟩ : MethodName) jdk_42_method_56_code 2 (some FieldType.char) [] ({ frames := 4, cells := 0, slots := 0, locals := 53 } : Room) #[(.ref x), (.int (2 : Int32))] h0 (fun r h => r = some (.int c2) ∧ h0 = h) := by
  obtain ⟨hw, hE, S0, hcz, S1, rf, hp0, hp1, hp2⟩ := id H
  refine ConN.of own_pf18 ?_
  intro p e s m below meth c T hby hml hret hlk hnm X0
  have EX0 := ext_refl h0
  refine OEnds.cast (own_ef5 m x (2 : Int32) ) ?_
  show OEnds p e below _ T (mkF m 0 #[.val (.ref x), .val (.int (2 : Int32))] [])
  obtain ⟨Ex, Cx, t, kb, Vx, Kt⟩ := id Ux
  refine OEnds.go (fun _ q => XS.aloadN X0.here X0.hx rfl (hb hby d_jdk_42_method_56_0) rfl rfl q) ?_
  show OEnds p e below _ T (mkF m 1 #[.val (.ref x), .val (.int (2 : Int32))] [(.ref x)])
  refine X0.payV (ConN.back (W := 0) (con_isU H x h0 Cx) X0.old X0.hZ (own_k hw 63 rfl) (own_k hw 6 rfl) (by decide) (by decide)) (okN (fun _ _ q => Nat.le_of_eq (congrArg Array.size q.2))) (own_k hw 59 rfl) (own_k hw 60 rfl) (own_k hw 62 rfl) (own_k hw 61 rfl)  (X0.nf (own_k hw 62 rfl)) (by decide)  Ex (argsL := []) (rest := []) rfl (lenOf own_pd13 rfl) rfl (by rw [hml]; rfl) (Nat.le_of_eq rfl) (hb hby d_jdk_42_method_56_1) (by decide) (by decide) ?_
  intro v6 T1 h3 Lh3 X2 q7
  replace q7 := q7.1
  obtain ⟨rfl, rfl⟩ := q7
  show OEnds p e below _ T1 (mkF m 4 #[.val (.ref x), .val (.int (2 : Int32))] [(.int (0 : Int32))])
  refine OEnds.go (fun _ q => XS.ifYes X2.here X2.hx rfl (pc0 := 4) (pc' := 16) rfl (hb hby d_jdk_42_method_56_4) rfl ((if0 _ _).trans (teq (by decide)).1) (by decide) (by decide) q) ?_
  show OEnds p e below _ T1 (mkF m 16 #[.val (.ref x), .val (.int (2 : Int32))] [])
  refine OEnds.go (fun _ q => XS.aloadN X2.here X2.hx rfl (hb hby d_jdk_42_method_56_16) rfl rfl q) ?_
  show OEnds p e below _ T1 (mkF m 17 #[.val (.ref x), .val (.int (2 : Int32))] [(.ref x)])
  refine X2.getF (own_k hw 24 rfl) Via.refl Vx (hb hby d_jdk_42_method_56_17) ?_
  intro T8 X9
  show OEnds p e below _ T8 (mkF m 20 #[.val (.ref x), .val (.int (2 : Int32))] [(.ref t)])
  refine OEnds.go (fun _ q => XS.iloadN X9.here X9.hx rfl (hb hby d_jdk_42_method_56_20) rfl q) ?_
  show OEnds p e below _ T8 (mkF m 21 #[.val (.ref x), .val (.int (2 : Int32))] [(.int (2 : Int32)), (.ref t)])
  refine X9.payS (ConN.back (W := 0) (con_uc32 H t kb c0 c1 c2 hu h0 Kt) X9.old X9.hZ (own_k hw 97 rfl) (own_k hw 43 rfl) (by decide) (by decide)) (okN (fun _ _ q => Nat.le_of_eq (congrArg Array.size q.2))) (own_k hw 95 rfl) (own_k hw 96 rfl) (own_k hw 43 rfl) (own_k hw 97 rfl)  (by decide)  (argsL := [(.ref t), (.int (2 : Int32))]) (rest := []) rfl (lenOf own_pd6 rfl) rfl (by rw [hml]; rfl) (Nat.le_of_eq rfl) (hb hby d_jdk_42_method_56_21) (by decide) (by decide) ?_
  intro v15 T10 h12 Lh12 X11 q16
  replace q16 := q16.1
  obtain ⟨rfl, rfl⟩ := q16
  show OEnds p e below _ T10 (mkF m 24 #[.val (.ref x), .val (.int (2 : Int32))] [(.int c2)])
  exact X11.retCharN hlk hu hret (hb hby d_jdk_42_method_56_24) (by decide) (by decide) ⟨rfl, rfl⟩
theorem con_ifvL0 {l : Launch} {Z : State} {a0 : Array Value} {cz : Int32} {fm : Value} (H : Ctx Z a0 cz fm) (x : Addr) (h0 : Heap) (Sx : OStr Z h0 x ([] : List Int32)) :
    ConN l Z (⟨"com/example/gatepost/gatepost/http/HttpSyntax", "isFieldValue", "(Ljava/lang/String;)Z"⟩ : MethodName) prog_53_method_3_code 3 (some FieldType.boolean) [] ({ frames := 2, cells := 0, slots := 0, locals := 26 } : Room) #[(.ref x)] h0 (fun r h => r = some (.int (own_v [])) ∧ h0 = h) := by
  obtain ⟨hw, hE, S0, hcz, S1, rf, hp0, hp1, hp2⟩ := id H
  refine ConN.of own_pf19 ?_
  intro p e s m below meth c T hby hml hret hlk hnm X0
  have EX0 := ext_refl h0
  refine OEnds.cast (own_ef12 m x ) ?_
  show OEnds p e below _ T (mkF m 0 #[.val (.ref x), .unset, .unset] [])
  refine OEnds.go (fun _ q => XS.iconst X0.here X0.hx rfl (hb hby d_prog_53_method_3_0) q) ?_
  refine OEnds.go (fun _ q => XS.istoreN X0.here X0.hx rfl (hb hby d_prog_53_method_3_1) rfl (l' := #[.val (.ref x), .val (.int (0 : Int32)), .unset]) rfl q) ?_
  show OEnds p e below _ T (mkF m 2 #[.val (.ref x), .val (.int (0 : Int32)), .unset] [])
  refine OEnds.go (fun _ q => XS.iloadN X0.here X0.hx rfl (hb hby d_prog_53_method_3_2) rfl q) ?_
  refine OEnds.go (fun _ q => XS.aloadN X0.here X0.hx rfl (hb hby d_prog_53_method_3_3) rfl rfl q) ?_
  show OEnds p e below _ T (mkF m 4 #[.val (.ref x), .val (.int (0 : Int32)), .unset] [(.ref x), (.int (0 : Int32))])
  refine X0.payV (own_len H (W := 1) X0.hZ X0.old Sx (by decide) (by decide)) (okPure X0) (own_k hw 30 rfl) (own_k hw 31 rfl) (own_k hw 33 rfl) (own_k hw 32 rfl) (X0.nf (own_k hw 33 rfl)) (by decide) Sx.exa (argsL := []) (rest := [(.int (0 : Int32))]) rfl (lenOf own_pd14 rfl) rfl (by rw [hml]; rfl) (Nat.le_of_eq rfl) (hb hby d_prog_53_method_3_4) (by decide) (by decide) ?_
  intro v1 T2 h3 L4 X5 q6
  obtain ⟨rfl, -, e7⟩ := q6
  obtain rfl := e7.symm
  show OEnds p e below _ T2 (mkF m 7 #[.val (.ref x), .val (.int (0 : Int32)), .unset] [(.int (0 : Int32)), (.int (0 : Int32))])
  refine OEnds.go (fun _ q => XS.icmpYes X5.here X5.hx rfl (pc0 := 7) (pc' := 49) rfl (hb hby d_prog_53_method_3_7) rfl (flt (by decide)).2.1 (by decide) (by decide) q) ?_
  show OEnds p e below _ T2 (mkF m 49 #[.val (.ref x), .val (.int (0 : Int32)), .unset] [])
  refine OEnds.go (fun _ q => XS.iconst X5.here X5.hx rfl (hb hby d_prog_53_method_3_49) q) ?_
  show OEnds p e below _ T2 (mkF m 50 #[.val (.ref x), .val (.int (0 : Int32)), .unset] [(.int (1 : Int32))])
  exact X5.retBoolN hlk (by first | exact Or.inl rfl | exact Or.inr rfl | assumption) hret (hb hby d_prog_53_method_3_50) (by decide) (by decide) ⟨by rw [show own_v [] = 1 from by simp only [own_v]], rfl⟩
theorem con_ifvL1 {l : Launch} {Z : State} {a0 : Array Value} {cz : Int32} {fm : Value} (H : Ctx Z a0 cz fm) (x : Addr) (c0 : Int32) (h0 : Heap) (Sx : OStr Z h0 x ([c0] : List Int32)) :
    ConN l Z (⟨"com/example/gatepost/gatepost/http/HttpSyntax", "isFieldValue", "(Ljava/lang/String;)Z"⟩ : MethodName) prog_53_method_3_code 3 (some FieldType.boolean) [] ({ frames := 4, cells := 0, slots := 0, locals := 53 } : Room) #[(.ref x)] h0 (fun r h => r = some (.int (own_v [c0])) ∧ h0 = h) := by
  obtain ⟨hw, hE, S0, hcz, S1, rf, hp0, hp1, hp2⟩ := id H
  refine ConN.of own_pf19 ?_
  intro p e s m below meth c T hby hml hret hlk hnm X0
  have EX0 := ext_refl h0
  refine OEnds.cast (own_ef12 m x ) ?_
  show OEnds p e below _ T (mkF m 0 #[.val (.ref x), .unset, .unset] [])
  refine OEnds.go (fun _ q => XS.iconst X0.here X0.hx rfl (hb hby d_prog_53_method_3_0) q) ?_
  refine OEnds.go (fun _ q => XS.istoreN X0.here X0.hx rfl (hb hby d_prog_53_method_3_1) rfl (l' := #[.val (.ref x), .val (.int (0 : Int32)), .unset]) rfl q) ?_
  show OEnds p e below _ T (mkF m 2 #[.val (.ref x), .val (.int (0 : Int32)), .unset] [])
  refine OEnds.go (fun _ q => XS.iloadN X0.here X0.hx rfl (hb hby d_prog_53_method_3_2) rfl q) ?_
  refine OEnds.go (fun _ q => XS.aloadN X0.here X0.hx rfl (hb hby d_prog_53_method_3_3) rfl rfl q) ?_
  show OEnds p e below _ T (mkF m 4 #[.val (.ref x), .val (.int (0 : Int32)), .unset] [(.ref x), (.int (0 : Int32))])
  refine X0.payV (own_len H (W := 1) X0.hZ X0.old Sx (by decide) (by decide)) (okPure X0) (own_k hw 30 rfl) (own_k hw 31 rfl) (own_k hw 33 rfl) (own_k hw 32 rfl) (X0.nf (own_k hw 33 rfl)) (by decide) Sx.exa (argsL := []) (rest := [(.int (0 : Int32))]) rfl (lenOf own_pd14 rfl) rfl (by rw [hml]; rfl) (Nat.le_of_eq rfl) (hb hby d_prog_53_method_3_4) (by decide) (by decide) ?_
  intro v1 T2 h3 L4 X5 q6
  obtain ⟨rfl, -, e7⟩ := q6
  obtain rfl := e7.symm
  show OEnds p e below _ T2 (mkF m 7 #[.val (.ref x), .val (.int (0 : Int32)), .unset] [(.int (1 : Int32)), (.int (0 : Int32))])
  refine OEnds.go (fun _ q => XS.icmpNo X5.here X5.hx rfl (hb hby d_prog_53_method_3_7) rfl (tlt (by decide)).2.1 q) ?_
  show OEnds p e below _ T2 (mkF m 10 #[.val (.ref x), .val (.int (0 : Int32)), .unset] [])
  refine OEnds.go (fun _ q => XS.aloadN X5.here X5.hx rfl (hb hby d_prog_53_method_3_10) rfl rfl q) ?_
  refine OEnds.go (fun _ q => XS.iloadN X5.here X5.hx rfl (hb hby d_prog_53_method_3_11) rfl q) ?_
  show OEnds p e below _ T2 (mkF m 12 #[.val (.ref x), .val (.int (0 : Int32)), .unset] [(.int (0 : Int32)), (.ref x)])
  refine X5.payV (own_chr H (W := 0) X5.hZ X5.old (i := 0) Sx (Nat.le_of_ble_eq_true rfl) rfl (by decide) (by decide)) (okPure X5) (own_k hw 54 rfl) (own_k hw 55 rfl) (own_k hw 57 rfl) (own_k hw 56 rfl) (X5.nf (own_k hw 57 rfl)) (by decide) Sx.exa (argsL := [(.int (0 : Int32))]) (rest := []) rfl (lenOf own_pd15 rfl) rfl (by rw [hml]; rfl) (Nat.le_of_eq rfl) (hb hby d_prog_53_method_3_12) (by decide) (by decide) ?_
  intro v8 T9 h10 L11 X12 q13
  obtain ⟨rfl, -, e14⟩ := q13
  obtain rfl := e14.symm
  show OEnds p e below _ T9 (mkF m 15 #[.val (.ref x), .val (.int (0 : Int32)), .unset] [(.int c0)])
  refine OEnds.go (fun _ q => XS.istoreN X12.here X12.hx rfl (hb hby d_prog_53_method_3_15) rfl (l' := #[.val (.ref x), .val (.int (0 : Int32)), .val (.int c0)]) rfl q) ?_
  refine OEnds.go (fun _ q => XS.iloadN X12.here X12.hx rfl (hb hby d_prog_53_method_3_16) rfl q) ?_
  show OEnds p e below _ T9 (mkF m 17 #[.val (.ref x), .val (.int (0 : Int32)), .val (.int c0)] [(.int c0)])
  refine OEnds.go (fun _ q => XS.bipush X12.here X12.hx rfl (hb hby d_prog_53_method_3_17) q) ?_
  show OEnds p e below _ T9 (mkF m 19 #[.val (.ref x), .val (.int (0 : Int32)), .val (.int c0)] [(.int (32 : Int32)), (.int c0)])
  have J0 : (c0 = 9 ∨ ¬ c0 < 32) → OEnds p e below (GN Z s (fun r h => r = some (.int (own_v [c0])) ∧ h0 = h) ({ frames := 4, cells := 0, slots := 0, locals := 53 } : Room).cells ({ frames := 4, cells := 0, slots := 0, locals := 53 } : Room).slots) T9 (mkF m 28 #[.val (.ref x), .val (.int (0 : Int32)), .val (.int c0)] []) := by
    intro  j0
    refine OEnds.go (fun _ q => XS.iloadN X12.here X12.hx rfl (hb hby d_prog_53_method_3_28) rfl q) ?_
    refine OEnds.go (fun _ q => XS.bipush X12.here X12.hx rfl (hb hby d_prog_53_method_3_29) q) ?_
    show OEnds p e below _ T9 (mkF m 31 #[.val (.ref x), .val (.int (0 : Int32)), .val (.int c0)] [(.int (127 : Int32)), (.int c0)])
    by_cases p0 : c0 = (127 : Int32)
    · skip
      refine OEnds.go (fun _ q => XS.icmpYes X12.here X12.hx rfl (pc0 := 31) (pc' := 41) rfl (hb hby d_prog_53_method_3_31) rfl (teq p0).1 (by decide) (by decide) q) ?_
      show OEnds p e below _ T9 (mkF m 41 #[.val (.ref x), .val (.int (0 : Int32)), .val (.int c0)] [])
      have nok : ¬ own_ok c0 := (fun q => q.elim (fun z => absurd (z.symm.trans p0) (by decide)) (fun z => z.2.1 p0))
      refine OEnds.go (fun _ q => XS.iconst X12.here X12.hx rfl (hb hby d_prog_53_method_3_41) q) ?_
      show OEnds p e below _ T9 (mkF m 42 #[.val (.ref x), .val (.int (0 : Int32)), .val (.int c0)] [(.int (0 : Int32))])
      exact X12.retBoolN hlk (by first | exact Or.inl rfl | exact Or.inr rfl | assumption) hret (hb hby d_prog_53_method_3_42) (by decide) (by decide) ⟨by rw [show own_v [c0] = 0 from by simp only [own_v, if_neg nok]], rfl⟩
    · skip
      refine OEnds.go (fun _ q => XS.icmpNo X12.here X12.hx rfl (hb hby d_prog_53_method_3_31) rfl (feq p0).1 q) ?_
      show OEnds p e below _ T9 (mkF m 34 #[.val (.ref x), .val (.int (0 : Int32)), .val (.int c0)] [])
      refine OEnds.go (fun _ q => XS.iloadN X12.here X12.hx rfl (hb hby d_prog_53_method_3_34) rfl q) ?_
      refine OEnds.go (fun _ q => XS.sipush X12.here X12.hx rfl (hb hby d_prog_53_method_3_35) q) ?_
      show OEnds p e below _ T9 (mkF m 38 #[.val (.ref x), .val (.int (0 : Int32)), .val (.int c0)] [(.int (255 : Int32)), (.int c0)])
      by_cases q0 : (255 : Int32) < c0
      · skip
        refine OEnds.go (fun _ q => XS.icmpNo X12.here X12.hx rfl (hb hby d_prog_53_method_3_38) rfl (tlt q0).2.2.2 q) ?_
        show OEnds p e below _ T9 (mkF m 41 #[.val (.ref x), .val (.int (0 : Int32)), .val (.int c0)] [])
        have nok : ¬ own_ok c0 := (fun q => q.elim (fun z => absurd (z ▸ q0) (by decide)) (fun z => z.2.2 q0))
        refine OEnds.go (fun _ q => XS.iconst X12.here X12.hx rfl (hb hby d_prog_53_method_3_41) q) ?_
        show OEnds p e below _ T9 (mkF m 42 #[.val (.ref x), .val (.int (0 : Int32)), .val (.int c0)] [(.int (0 : Int32))])
        exact X12.retBoolN hlk (by first | exact Or.inl rfl | exact Or.inr rfl | assumption) hret (hb hby d_prog_53_method_3_42) (by decide) (by decide) ⟨by rw [show own_v [c0] = 0 from by simp only [own_v, if_neg nok]], rfl⟩
      · skip
        refine OEnds.go (fun _ q => XS.icmpYes X12.here X12.hx rfl (pc0 := 38) (pc' := 43) rfl (hb hby d_prog_53_method_3_38) rfl (flt q0).2.2.2 (by decide) (by decide) q) ?_
        show OEnds p e below _ T9 (mkF m 43 #[.val (.ref x), .val (.int (0 : Int32)), .val (.int c0)] [])
        have ok0 : own_ok c0 := j0.elim Or.inl (fun z => Or.inr ⟨z, p0, q0⟩)
        refine OEnds.go (fun _ q => XS.iinc X12.here X12.hx rfl (hb hby d_prog_53_method_3_43) rfl (l' := #[.val (.ref x), .val (.int ((0 : Int32) + (1 : Int32))), .val (.int c0)]) rfl q) ?_
        show OEnds p e below _ T9 (mkF m 46 #[.val (.ref x), .val (.int ((0 : Int32) + (1 : Int32))), .val (.int c0)] [])
        rw [show ((0 : Int32) + (1 : Int32)) = (1 : Int32) from by decide]
        show OEnds p e below _ T9 (mkF m 46 #[.val (.ref x), .val (.int (1 : Int32)), .val (.int c0)] [])
        refine OEnds.go (fun _ q => XS.goto X12.here X12.hx rfl (pc0 := 46) (pc' := 2) rfl (hb hby d_prog_53_method_3_46) (by decide) (by decide) q) ?_
        refine OEnds.go (fun _ q => XS.iloadN X12.here X12.hx rfl (hb hby d_prog_53_method_3_2) rfl q) ?_
        show OEnds p e below _ T9 (mkF m 3 #[.val (.ref x), .val (.int (1 : Int32)), .val (.int c0)] [(.int (1 : Int32))])
        refine OEnds.go (fun _ q => XS.aloadN X12.here X12.hx rfl (hb hby d_prog_53_method_3_3) rfl rfl q) ?_
        show OEnds p e below _ T9 (mkF m 4 #[.val (.ref x), .val (.int (1 : Int32)), .val (.int c0)] [(.ref x), (.int (1 : Int32))])
        refine X12.payV (own_len H (W := 1) X12.hZ X12.old Sx (by decide) (by decide)) (okPure X12) (own_k hw 30 rfl) (own_k hw 31 rfl) (own_k hw 33 rfl) (own_k hw 32 rfl) (X12.nf (own_k hw 33 rfl)) (by decide) Sx.exa (argsL := []) (rest := [(.int (1 : Int32))]) rfl (lenOf own_pd14 rfl) rfl (by rw [hml]; rfl) (Nat.le_of_eq rfl) (hb hby d_prog_53_method_3_4) (by decide) (by decide) ?_
        intro v15 T16 h17 L18 X19 q20
        obtain ⟨rfl, -, e21⟩ := q20
        obtain rfl := e21.symm
        show OEnds p e below _ T16 (mkF m 7 #[.val (.ref x), .val (.int (1 : Int32)), .val (.int c0)] [(.int (1 : Int32)), (.int (1 : Int32))])
        refine OEnds.go (fun _ q => XS.icmpYes X19.here X19.hx rfl (pc0 := 7) (pc' := 49) rfl (hb hby d_prog_53_method_3_7) rfl (flt (by decide)).2.1 (by decide) (by decide) q) ?_
        show OEnds p e below _ T16 (mkF m 49 #[.val (.ref x), .val (.int (1 : Int32)), .val (.int c0)] [])
        refine OEnds.go (fun _ q => XS.iconst X19.here X19.hx rfl (hb hby d_prog_53_method_3_49) q) ?_
        show OEnds p e below _ T16 (mkF m 50 #[.val (.ref x), .val (.int (1 : Int32)), .val (.int c0)] [(.int (1 : Int32))])
        exact X19.retBoolN hlk (by first | exact Or.inl rfl | exact Or.inr rfl | assumption) hret (hb hby d_prog_53_method_3_50) (by decide) (by decide) ⟨by rw [show own_v [c0] = 1 from by simp only [own_v, if_pos ok0]], rfl⟩
  by_cases u0 : c0 < (32 : Int32)
  · skip
    refine OEnds.go (fun _ q => XS.icmpNo X12.here X12.hx rfl (hb hby d_prog_53_method_3_19) rfl (tlt u0).2.1 q) ?_
    show OEnds p e below _ T9 (mkF m 22 #[.val (.ref x), .val (.int (0 : Int32)), .val (.int c0)] [])
    refine OEnds.go (fun _ q => XS.iloadN X12.here X12.hx rfl (hb hby d_prog_53_method_3_22) rfl q) ?_
    refine OEnds.go (fun _ q => XS.bipush X12.here X12.hx rfl (hb hby d_prog_53_method_3_23) q) ?_
    show OEnds p e below _ T9 (mkF m 25 #[.val (.ref x), .val (.int (0 : Int32)), .val (.int c0)] [(.int (9 : Int32)), (.int c0)])
    by_cases t0 : c0 = (9 : Int32)
    · skip
      refine OEnds.go (fun _ q => XS.icmpNo X12.here X12.hx rfl (hb hby d_prog_53_method_3_25) rfl (teq t0).2 q) ?_
      show OEnds p e below _ T9 (mkF m 28 #[.val (.ref x), .val (.int (0 : Int32)), .val (.int c0)] [])
      exact J0 (Or.inl t0)
    · skip
      refine OEnds.go (fun _ q => XS.icmpYes X12.here X12.hx rfl (pc0 := 25) (pc' := 41) rfl (hb hby d_prog_53_method_3_25) rfl (feq t0).2 (by decide) (by decide) q) ?_
      show OEnds p e below _ T9 (mkF m 41 #[.val (.ref x), .val (.int (0 : Int32)), .val (.int c0)] [])
      have nok : ¬ own_ok c0 := (fun q => q.elim t0 (fun z => z.1 u0))
      refine OEnds.go (fun _ q => XS.iconst X12.here X12.hx rfl (hb hby d_prog_53_method_3_41) q) ?_
      show OEnds p e below _ T9 (mkF m 42 #[.val (.ref x), .val (.int (0 : Int32)), .val (.int c0)] [(.int (0 : Int32))])
      exact X12.retBoolN hlk (by first | exact Or.inl rfl | exact Or.inr rfl | assumption) hret (hb hby d_prog_53_method_3_42) (by decide) (by decide) ⟨by rw [show own_v [c0] = 0 from by simp only [own_v, if_neg nok]], rfl⟩
  · skip
    refine OEnds.go (fun _ q => XS.icmpYes X12.here X12.hx rfl (pc0 := 19) (pc' := 28) rfl (hb hby d_prog_53_method_3_19) rfl (flt u0).2.1 (by decide) (by decide) q) ?_
    show OEnds p e below _ T9 (mkF m 28 #[.val (.ref x), .val (.int (0 : Int32)), .val (.int c0)] [])
    exact J0 (Or.inr u0)
theorem con_ifvL2 {l : Launch} {Z : State} {a0 : Array Value} {cz : Int32} {fm : Value} (H : Ctx Z a0 cz fm) (x : Addr) (c0 c1 : Int32) (h0 : Heap) (Sx : OStr Z h0 x ([c0, c1] : List Int32)) :
    ConN l Z (⟨"com/example/gatepost/gatepost/http/HttpSyntax", "isFieldValue", "(Ljava/lang/String;)Z"⟩ : MethodName) prog_53_method_3_code 3 (some FieldType.boolean) [] ({ frames := 4, cells := 0, slots := 0, locals := 53 } : Room) #[(.ref x)] h0 (fun r h => r = some (.int (own_v [c0, c1])) ∧ h0 = h) := by
  obtain ⟨hw, hE, S0, hcz, S1, rf, hp0, hp1, hp2⟩ := id H
  refine ConN.of own_pf19 ?_
  intro p e s m below meth c T hby hml hret hlk hnm X0
  have EX0 := ext_refl h0
  refine OEnds.cast (own_ef12 m x ) ?_
  show OEnds p e below _ T (mkF m 0 #[.val (.ref x), .unset, .unset] [])
  refine OEnds.go (fun _ q => XS.iconst X0.here X0.hx rfl (hb hby d_prog_53_method_3_0) q) ?_
  refine OEnds.go (fun _ q => XS.istoreN X0.here X0.hx rfl (hb hby d_prog_53_method_3_1) rfl (l' := #[.val (.ref x), .val (.int (0 : Int32)), .unset]) rfl q) ?_
  show OEnds p e below _ T (mkF m 2 #[.val (.ref x), .val (.int (0 : Int32)), .unset] [])
  refine OEnds.go (fun _ q => XS.iloadN X0.here X0.hx rfl (hb hby d_prog_53_method_3_2) rfl q) ?_
  refine OEnds.go (fun _ q => XS.aloadN X0.here X0.hx rfl (hb hby d_prog_53_method_3_3) rfl rfl q) ?_
  show OEnds p e below _ T (mkF m 4 #[.val (.ref x), .val (.int (0 : Int32)), .unset] [(.ref x), (.int (0 : Int32))])
  refine X0.payV (own_len H (W := 1) X0.hZ X0.old Sx (by decide) (by decide)) (okPure X0) (own_k hw 30 rfl) (own_k hw 31 rfl) (own_k hw 33 rfl) (own_k hw 32 rfl) (X0.nf (own_k hw 33 rfl)) (by decide) Sx.exa (argsL := []) (rest := [(.int (0 : Int32))]) rfl (lenOf own_pd14 rfl) rfl (by rw [hml]; rfl) (Nat.le_of_eq rfl) (hb hby d_prog_53_method_3_4) (by decide) (by decide) ?_
  intro v1 T2 h3 L4 X5 q6
  obtain ⟨rfl, -, e7⟩ := q6
  obtain rfl := e7.symm
  show OEnds p e below _ T2 (mkF m 7 #[.val (.ref x), .val (.int (0 : Int32)), .unset] [(.int (2 : Int32)), (.int (0 : Int32))])
  refine OEnds.go (fun _ q => XS.icmpNo X5.here X5.hx rfl (hb hby d_prog_53_method_3_7) rfl (tlt (by decide)).2.1 q) ?_
  show OEnds p e below _ T2 (mkF m 10 #[.val (.ref x), .val (.int (0 : Int32)), .unset] [])
  refine OEnds.go (fun _ q => XS.aloadN X5.here X5.hx rfl (hb hby d_prog_53_method_3_10) rfl rfl q) ?_
  refine OEnds.go (fun _ q => XS.iloadN X5.here X5.hx rfl (hb hby d_prog_53_method_3_11) rfl q) ?_
  show OEnds p e below _ T2 (mkF m 12 #[.val (.ref x), .val (.int (0 : Int32)), .unset] [(.int (0 : Int32)), (.ref x)])
  refine X5.payV (own_chr H (W := 0) X5.hZ X5.old (i := 0) Sx (Nat.le_of_ble_eq_true rfl) rfl (by decide) (by decide)) (okPure X5) (own_k hw 54 rfl) (own_k hw 55 rfl) (own_k hw 57 rfl) (own_k hw 56 rfl) (X5.nf (own_k hw 57 rfl)) (by decide) Sx.exa (argsL := [(.int (0 : Int32))]) (rest := []) rfl (lenOf own_pd15 rfl) rfl (by rw [hml]; rfl) (Nat.le_of_eq rfl) (hb hby d_prog_53_method_3_12) (by decide) (by decide) ?_
  intro v8 T9 h10 L11 X12 q13
  obtain ⟨rfl, -, e14⟩ := q13
  obtain rfl := e14.symm
  show OEnds p e below _ T9 (mkF m 15 #[.val (.ref x), .val (.int (0 : Int32)), .unset] [(.int c0)])
  refine OEnds.go (fun _ q => XS.istoreN X12.here X12.hx rfl (hb hby d_prog_53_method_3_15) rfl (l' := #[.val (.ref x), .val (.int (0 : Int32)), .val (.int c0)]) rfl q) ?_
  refine OEnds.go (fun _ q => XS.iloadN X12.here X12.hx rfl (hb hby d_prog_53_method_3_16) rfl q) ?_
  show OEnds p e below _ T9 (mkF m 17 #[.val (.ref x), .val (.int (0 : Int32)), .val (.int c0)] [(.int c0)])
  refine OEnds.go (fun _ q => XS.bipush X12.here X12.hx rfl (hb hby d_prog_53_method_3_17) q) ?_
  show OEnds p e below _ T9 (mkF m 19 #[.val (.ref x), .val (.int (0 : Int32)), .val (.int c0)] [(.int (32 : Int32)), (.int c0)])
  have J0 : (c0 = 9 ∨ ¬ c0 < 32) → OEnds p e below (GN Z s (fun r h => r = some (.int (own_v [c0, c1])) ∧ h0 = h) ({ frames := 4, cells := 0, slots := 0, locals := 53 } : Room).cells ({ frames := 4, cells := 0, slots := 0, locals := 53 } : Room).slots) T9 (mkF m 28 #[.val (.ref x), .val (.int (0 : Int32)), .val (.int c0)] []) := by
    intro  j0
    refine OEnds.go (fun _ q => XS.iloadN X12.here X12.hx rfl (hb hby d_prog_53_method_3_28) rfl q) ?_
    refine OEnds.go (fun _ q => XS.bipush X12.here X12.hx rfl (hb hby d_prog_53_method_3_29) q) ?_
    show OEnds p e below _ T9 (mkF m 31 #[.val (.ref x), .val (.int (0 : Int32)), .val (.int c0)] [(.int (127 : Int32)), (.int c0)])
    by_cases p0 : c0 = (127 : Int32)
    · skip
      refine OEnds.go (fun _ q => XS.icmpYes X12.here X12.hx rfl (pc0 := 31) (pc' := 41) rfl (hb hby d_prog_53_method_3_31) rfl (teq p0).1 (by decide) (by decide) q) ?_
      show OEnds p e below _ T9 (mkF m 41 #[.val (.ref x), .val (.int (0 : Int32)), .val (.int c0)] [])
      have nok : ¬ own_ok c0 := (fun q => q.elim (fun z => absurd (z.symm.trans p0) (by decide)) (fun z => z.2.1 p0))
      refine OEnds.go (fun _ q => XS.iconst X12.here X12.hx rfl (hb hby d_prog_53_method_3_41) q) ?_
      show OEnds p e below _ T9 (mkF m 42 #[.val (.ref x), .val (.int (0 : Int32)), .val (.int c0)] [(.int (0 : Int32))])
      exact X12.retBoolN hlk (by first | exact Or.inl rfl | exact Or.inr rfl | assumption) hret (hb hby d_prog_53_method_3_42) (by decide) (by decide) ⟨by rw [show own_v [c0, c1] = 0 from by simp only [own_v, if_neg nok]], rfl⟩
    · skip
      refine OEnds.go (fun _ q => XS.icmpNo X12.here X12.hx rfl (hb hby d_prog_53_method_3_31) rfl (feq p0).1 q) ?_
      show OEnds p e below _ T9 (mkF m 34 #[.val (.ref x), .val (.int (0 : Int32)), .val (.int c0)] [])
      refine OEnds.go (fun _ q => XS.iloadN X12.here X12.hx rfl (hb hby d_prog_53_method_3_34) rfl q) ?_
      refine OEnds.go (fun _ q => XS.sipush X12.here X12.hx rfl (hb hby d_prog_53_method_3_35) q) ?_
      show OEnds p e below _ T9 (mkF m 38 #[.val (.ref x), .val (.int (0 : Int32)), .val (.int c0)] [(.int (255 : Int32)), (.int c0)])
      by_cases q0 : (255 : Int32) < c0
      · skip
        refine OEnds.go (fun _ q => XS.icmpNo X12.here X12.hx rfl (hb hby d_prog_53_method_3_38) rfl (tlt q0).2.2.2 q) ?_
        show OEnds p e below _ T9 (mkF m 41 #[.val (.ref x), .val (.int (0 : Int32)), .val (.int c0)] [])
        have nok : ¬ own_ok c0 := (fun q => q.elim (fun z => absurd (z ▸ q0) (by decide)) (fun z => z.2.2 q0))
        refine OEnds.go (fun _ q => XS.iconst X12.here X12.hx rfl (hb hby d_prog_53_method_3_41) q) ?_
        show OEnds p e below _ T9 (mkF m 42 #[.val (.ref x), .val (.int (0 : Int32)), .val (.int c0)] [(.int (0 : Int32))])
        exact X12.retBoolN hlk (by first | exact Or.inl rfl | exact Or.inr rfl | assumption) hret (hb hby d_prog_53_method_3_42) (by decide) (by decide) ⟨by rw [show own_v [c0, c1] = 0 from by simp only [own_v, if_neg nok]], rfl⟩
      · skip
        refine OEnds.go (fun _ q => XS.icmpYes X12.here X12.hx rfl (pc0 := 38) (pc' := 43) rfl (hb hby d_prog_53_method_3_38) rfl (flt q0).2.2.2 (by decide) (by decide) q) ?_
        show OEnds p e below _ T9 (mkF m 43 #[.val (.ref x), .val (.int (0 : Int32)), .val (.int c0)] [])
        have ok0 : own_ok c0 := j0.elim Or.inl (fun z => Or.inr ⟨z, p0, q0⟩)
        refine OEnds.go (fun _ q => XS.iinc X12.here X12.hx rfl (hb hby d_prog_53_method_3_43) rfl (l' := #[.val (.ref x), .val (.int ((0 : Int32) + (1 : Int32))), .val (.int c0)]) rfl q) ?_
        show OEnds p e below _ T9 (mkF m 46 #[.val (.ref x), .val (.int ((0 : Int32) + (1 : Int32))), .val (.int c0)] [])
        rw [show ((0 : Int32) + (1 : Int32)) = (1 : Int32) from by decide]
        show OEnds p e below _ T9 (mkF m 46 #[.val (.ref x), .val (.int (1 : Int32)), .val (.int c0)] [])
        refine OEnds.go (fun _ q => XS.goto X12.here X12.hx rfl (pc0 := 46) (pc' := 2) rfl (hb hby d_prog_53_method_3_46) (by decide) (by decide) q) ?_
        refine OEnds.go (fun _ q => XS.iloadN X12.here X12.hx rfl (hb hby d_prog_53_method_3_2) rfl q) ?_
        show OEnds p e below _ T9 (mkF m 3 #[.val (.ref x), .val (.int (1 : Int32)), .val (.int c0)] [(.int (1 : Int32))])
        refine OEnds.go (fun _ q => XS.aloadN X12.here X12.hx rfl (hb hby d_prog_53_method_3_3) rfl rfl q) ?_
        show OEnds p e below _ T9 (mkF m 4 #[.val (.ref x), .val (.int (1 : Int32)), .val (.int c0)] [(.ref x), (.int (1 : Int32))])
        refine X12.payV (own_len H (W := 1) X12.hZ X12.old Sx (by decide) (by decide)) (okPure X12) (own_k hw 30 rfl) (own_k hw 31 rfl) (own_k hw 33 rfl) (own_k hw 32 rfl) (X12.nf (own_k hw 33 rfl)) (by decide) Sx.exa (argsL := []) (rest := [(.int (1 : Int32))]) rfl (lenOf own_pd14 rfl) rfl (by rw [hml]; rfl) (Nat.le_of_eq rfl) (hb hby d_prog_53_method_3_4) (by decide) (by decide) ?_
        intro v15 T16 h17 L18 X19 q20
        obtain ⟨rfl, -, e21⟩ := q20
        obtain rfl := e21.symm
        show OEnds p e below _ T16 (mkF m 7 #[.val (.ref x), .val (.int (1 : Int32)), .val (.int c0)] [(.int (2 : Int32)), (.int (1 : Int32))])
        refine OEnds.go (fun _ q => XS.icmpNo X19.here X19.hx rfl (hb hby d_prog_53_method_3_7) rfl (tlt (by decide)).2.1 q) ?_
        show OEnds p e below _ T16 (mkF m 10 #[.val (.ref x), .val (.int (1 : Int32)), .val (.int c0)] [])
        refine OEnds.go (fun _ q => XS.aloadN X19.here X19.hx rfl (hb hby d_prog_53_method_3_10) rfl rfl q) ?_
        refine OEnds.go (fun _ q => XS.iloadN X19.here X19.hx rfl (hb hby d_prog_53_method_3_11) rfl q) ?_
        show OEnds p e below _ T16 (mkF m 12 #[.val (.ref x), .val (.int (1 : Int32)), .val (.int c0)] [(.int (1 : Int32)), (.ref x)])
        refine X19.payV (own_chr H (W := 0) X19.hZ X19.old (i := 1) Sx (Nat.le_of_ble_eq_true rfl) rfl (by decide) (by decide)) (okPure X19) (own_k hw 54 rfl) (own_k hw 55 rfl) (own_k hw 57 rfl) (own_k hw 56 rfl) (X19.nf (own_k hw 57 rfl)) (by decide) Sx.exa (argsL := [(.int (1 : Int32))]) (rest := []) rfl (lenOf own_pd15 rfl) rfl (by rw [hml]; rfl) (Nat.le_of_eq rfl) (hb hby d_prog_53_method_3_12) (by decide) (by decide) ?_
        intro v22 T23 h24 L25 X26 q27
        obtain ⟨rfl, -, e28⟩ := q27
        obtain rfl := e28.symm
        show OEnds p e below _ T23 (mkF m 15 #[.val (.ref x), .val (.int (1 : Int32)), .val (.int c0)] [(.int c1)])
        refine OEnds.go (fun _ q => XS.istoreN X26.here X26.hx rfl (hb hby d_prog_53_method_3_15) rfl (l' := #[.val (.ref x), .val (.int (1 : Int32)), .val (.int c1)]) rfl q) ?_
        refine OEnds.go (fun _ q => XS.iloadN X26.here X26.hx rfl (hb hby d_prog_53_method_3_16) rfl q) ?_
        show OEnds p e below _ T23 (mkF m 17 #[.val (.ref x), .val (.int (1 : Int32)), .val (.int c1)] [(.int c1)])
        refine OEnds.go (fun _ q => XS.bipush X26.here X26.hx rfl (hb hby d_prog_53_method_3_17) q) ?_
        show OEnds p e below _ T23 (mkF m 19 #[.val (.ref x), .val (.int (1 : Int32)), .val (.int c1)] [(.int (32 : Int32)), (.int c1)])
        have J1 : (c1 = 9 ∨ ¬ c1 < 32) → OEnds p e below (GN Z s (fun r h => r = some (.int (own_v [c0, c1])) ∧ h0 = h) ({ frames := 4, cells := 0, slots := 0, locals := 53 } : Room).cells ({ frames := 4, cells := 0, slots := 0, locals := 53 } : Room).slots) T23 (mkF m 28 #[.val (.ref x), .val (.int (1 : Int32)), .val (.int c1)] []) := by
          intro  j1
          refine OEnds.go (fun _ q => XS.iloadN X26.here X26.hx rfl (hb hby d_prog_53_method_3_28) rfl q) ?_
          refine OEnds.go (fun _ q => XS.bipush X26.here X26.hx rfl (hb hby d_prog_53_method_3_29) q) ?_
          show OEnds p e below _ T23 (mkF m 31 #[.val (.ref x), .val (.int (1 : Int32)), .val (.int c1)] [(.int (127 : Int32)), (.int c1)])
          by_cases p1 : c1 = (127 : Int32)
          · skip
            refine OEnds.go (fun _ q => XS.icmpYes X26.here X26.hx rfl (pc0 := 31) (pc' := 41) rfl (hb hby d_prog_53_method_3_31) rfl (teq p1).1 (by decide) (by decide) q) ?_
            show OEnds p e below _ T23 (mkF m 41 #[.val (.ref x), .val (.int (1 : Int32)), .val (.int c1)] [])
            have nok : ¬ own_ok c1 := (fun q => q.elim (fun z => absurd (z.symm.trans p1) (by decide)) (fun z => z.2.1 p1))
            refine OEnds.go (fun _ q => XS.iconst X26.here X26.hx rfl (hb hby d_prog_53_method_3_41) q) ?_
            show OEnds p e below _ T23 (mkF m 42 #[.val (.ref x), .val (.int (1 : Int32)), .val (.int c1)] [(.int (0 : Int32))])
            exact X26.retBoolN hlk (by first | exact Or.inl rfl | exact Or.inr rfl | assumption) hret (hb hby d_prog_53_method_3_42) (by decide) (by decide) ⟨by rw [show own_v [c0, c1] = 0 from by simp only [own_v, if_pos ok0, if_neg nok]], rfl⟩
          · skip
            refine OEnds.go (fun _ q => XS.icmpNo X26.here X26.hx rfl (hb hby d_prog_53_method_3_31) rfl (feq p1).1 q) ?_
            show OEnds p e below _ T23 (mkF m 34 #[.val (.ref x), .val (.int (1 : Int32)), .val (.int c1)] [])
            refine OEnds.go (fun _ q => XS.iloadN X26.here X26.hx rfl (hb hby d_prog_53_method_3_34) rfl q) ?_
            refine OEnds.go (fun _ q => XS.sipush X26.here X26.hx rfl (hb hby d_prog_53_method_3_35) q) ?_
            show OEnds p e below _ T23 (mkF m 38 #[.val (.ref x), .val (.int (1 : Int32)), .val (.int c1)] [(.int (255 : Int32)), (.int c1)])
            by_cases q1 : (255 : Int32) < c1
            · skip
              refine OEnds.go (fun _ q => XS.icmpNo X26.here X26.hx rfl (hb hby d_prog_53_method_3_38) rfl (tlt q1).2.2.2 q) ?_
              show OEnds p e below _ T23 (mkF m 41 #[.val (.ref x), .val (.int (1 : Int32)), .val (.int c1)] [])
              have nok : ¬ own_ok c1 := (fun q => q.elim (fun z => absurd (z ▸ q1) (by decide)) (fun z => z.2.2 q1))
              refine OEnds.go (fun _ q => XS.iconst X26.here X26.hx rfl (hb hby d_prog_53_method_3_41) q) ?_
              show OEnds p e below _ T23 (mkF m 42 #[.val (.ref x), .val (.int (1 : Int32)), .val (.int c1)] [(.int (0 : Int32))])
              exact X26.retBoolN hlk (by first | exact Or.inl rfl | exact Or.inr rfl | assumption) hret (hb hby d_prog_53_method_3_42) (by decide) (by decide) ⟨by rw [show own_v [c0, c1] = 0 from by simp only [own_v, if_pos ok0, if_neg nok]], rfl⟩
            · skip
              refine OEnds.go (fun _ q => XS.icmpYes X26.here X26.hx rfl (pc0 := 38) (pc' := 43) rfl (hb hby d_prog_53_method_3_38) rfl (flt q1).2.2.2 (by decide) (by decide) q) ?_
              show OEnds p e below _ T23 (mkF m 43 #[.val (.ref x), .val (.int (1 : Int32)), .val (.int c1)] [])
              have ok1 : own_ok c1 := j1.elim Or.inl (fun z => Or.inr ⟨z, p1, q1⟩)
              refine OEnds.go (fun _ q => XS.iinc X26.here X26.hx rfl (hb hby d_prog_53_method_3_43) rfl (l' := #[.val (.ref x), .val (.int ((1 : Int32) + (1 : Int32))), .val (.int c1)]) rfl q) ?_
              show OEnds p e below _ T23 (mkF m 46 #[.val (.ref x), .val (.int ((1 : Int32) + (1 : Int32))), .val (.int c1)] [])
              rw [show ((1 : Int32) + (1 : Int32)) = (2 : Int32) from by decide]
              show OEnds p e below _ T23 (mkF m 46 #[.val (.ref x), .val (.int (2 : Int32)), .val (.int c1)] [])
              refine OEnds.go (fun _ q => XS.goto X26.here X26.hx rfl (pc0 := 46) (pc' := 2) rfl (hb hby d_prog_53_method_3_46) (by decide) (by decide) q) ?_
              refine OEnds.go (fun _ q => XS.iloadN X26.here X26.hx rfl (hb hby d_prog_53_method_3_2) rfl q) ?_
              show OEnds p e below _ T23 (mkF m 3 #[.val (.ref x), .val (.int (2 : Int32)), .val (.int c1)] [(.int (2 : Int32))])
              refine OEnds.go (fun _ q => XS.aloadN X26.here X26.hx rfl (hb hby d_prog_53_method_3_3) rfl rfl q) ?_
              show OEnds p e below _ T23 (mkF m 4 #[.val (.ref x), .val (.int (2 : Int32)), .val (.int c1)] [(.ref x), (.int (2 : Int32))])
              refine X26.payV (own_len H (W := 1) X26.hZ X26.old Sx (by decide) (by decide)) (okPure X26) (own_k hw 30 rfl) (own_k hw 31 rfl) (own_k hw 33 rfl) (own_k hw 32 rfl) (X26.nf (own_k hw 33 rfl)) (by decide) Sx.exa (argsL := []) (rest := [(.int (2 : Int32))]) rfl (lenOf own_pd14 rfl) rfl (by rw [hml]; rfl) (Nat.le_of_eq rfl) (hb hby d_prog_53_method_3_4) (by decide) (by decide) ?_
              intro v29 T30 h31 L32 X33 q34
              obtain ⟨rfl, -, e35⟩ := q34
              obtain rfl := e35.symm
              show OEnds p e below _ T30 (mkF m 7 #[.val (.ref x), .val (.int (2 : Int32)), .val (.int c1)] [(.int (2 : Int32)), (.int (2 : Int32))])
              refine OEnds.go (fun _ q => XS.icmpYes X33.here X33.hx rfl (pc0 := 7) (pc' := 49) rfl (hb hby d_prog_53_method_3_7) rfl (flt (by decide)).2.1 (by decide) (by decide) q) ?_
              show OEnds p e below _ T30 (mkF m 49 #[.val (.ref x), .val (.int (2 : Int32)), .val (.int c1)] [])
              refine OEnds.go (fun _ q => XS.iconst X33.here X33.hx rfl (hb hby d_prog_53_method_3_49) q) ?_
              show OEnds p e below _ T30 (mkF m 50 #[.val (.ref x), .val (.int (2 : Int32)), .val (.int c1)] [(.int (1 : Int32))])
              exact X33.retBoolN hlk (by first | exact Or.inl rfl | exact Or.inr rfl | assumption) hret (hb hby d_prog_53_method_3_50) (by decide) (by decide) ⟨by rw [show own_v [c0, c1] = 1 from by simp only [own_v, if_pos ok0, if_pos ok1]], rfl⟩
        by_cases u1 : c1 < (32 : Int32)
        · skip
          refine OEnds.go (fun _ q => XS.icmpNo X26.here X26.hx rfl (hb hby d_prog_53_method_3_19) rfl (tlt u1).2.1 q) ?_
          show OEnds p e below _ T23 (mkF m 22 #[.val (.ref x), .val (.int (1 : Int32)), .val (.int c1)] [])
          refine OEnds.go (fun _ q => XS.iloadN X26.here X26.hx rfl (hb hby d_prog_53_method_3_22) rfl q) ?_
          refine OEnds.go (fun _ q => XS.bipush X26.here X26.hx rfl (hb hby d_prog_53_method_3_23) q) ?_
          show OEnds p e below _ T23 (mkF m 25 #[.val (.ref x), .val (.int (1 : Int32)), .val (.int c1)] [(.int (9 : Int32)), (.int c1)])
          by_cases t1 : c1 = (9 : Int32)
          · skip
            refine OEnds.go (fun _ q => XS.icmpNo X26.here X26.hx rfl (hb hby d_prog_53_method_3_25) rfl (teq t1).2 q) ?_
            show OEnds p e below _ T23 (mkF m 28 #[.val (.ref x), .val (.int (1 : Int32)), .val (.int c1)] [])
            exact J1 (Or.inl t1)
          · skip
            refine OEnds.go (fun _ q => XS.icmpYes X26.here X26.hx rfl (pc0 := 25) (pc' := 41) rfl (hb hby d_prog_53_method_3_25) rfl (feq t1).2 (by decide) (by decide) q) ?_
            show OEnds p e below _ T23 (mkF m 41 #[.val (.ref x), .val (.int (1 : Int32)), .val (.int c1)] [])
            have nok : ¬ own_ok c1 := (fun q => q.elim t1 (fun z => z.1 u1))
            refine OEnds.go (fun _ q => XS.iconst X26.here X26.hx rfl (hb hby d_prog_53_method_3_41) q) ?_
            show OEnds p e below _ T23 (mkF m 42 #[.val (.ref x), .val (.int (1 : Int32)), .val (.int c1)] [(.int (0 : Int32))])
            exact X26.retBoolN hlk (by first | exact Or.inl rfl | exact Or.inr rfl | assumption) hret (hb hby d_prog_53_method_3_42) (by decide) (by decide) ⟨by rw [show own_v [c0, c1] = 0 from by simp only [own_v, if_pos ok0, if_neg nok]], rfl⟩
        · skip
          refine OEnds.go (fun _ q => XS.icmpYes X26.here X26.hx rfl (pc0 := 19) (pc' := 28) rfl (hb hby d_prog_53_method_3_19) rfl (flt u1).2.1 (by decide) (by decide) q) ?_
          show OEnds p e below _ T23 (mkF m 28 #[.val (.ref x), .val (.int (1 : Int32)), .val (.int c1)] [])
          exact J1 (Or.inr u1)
  by_cases u0 : c0 < (32 : Int32)
  · skip
    refine OEnds.go (fun _ q => XS.icmpNo X12.here X12.hx rfl (hb hby d_prog_53_method_3_19) rfl (tlt u0).2.1 q) ?_
    show OEnds p e below _ T9 (mkF m 22 #[.val (.ref x), .val (.int (0 : Int32)), .val (.int c0)] [])
    refine OEnds.go (fun _ q => XS.iloadN X12.here X12.hx rfl (hb hby d_prog_53_method_3_22) rfl q) ?_
    refine OEnds.go (fun _ q => XS.bipush X12.here X12.hx rfl (hb hby d_prog_53_method_3_23) q) ?_
    show OEnds p e below _ T9 (mkF m 25 #[.val (.ref x), .val (.int (0 : Int32)), .val (.int c0)] [(.int (9 : Int32)), (.int c0)])
    by_cases t0 : c0 = (9 : Int32)
    · skip
      refine OEnds.go (fun _ q => XS.icmpNo X12.here X12.hx rfl (hb hby d_prog_53_method_3_25) rfl (teq t0).2 q) ?_
      show OEnds p e below _ T9 (mkF m 28 #[.val (.ref x), .val (.int (0 : Int32)), .val (.int c0)] [])
      exact J0 (Or.inl t0)
    · skip
      refine OEnds.go (fun _ q => XS.icmpYes X12.here X12.hx rfl (pc0 := 25) (pc' := 41) rfl (hb hby d_prog_53_method_3_25) rfl (feq t0).2 (by decide) (by decide) q) ?_
      show OEnds p e below _ T9 (mkF m 41 #[.val (.ref x), .val (.int (0 : Int32)), .val (.int c0)] [])
      have nok : ¬ own_ok c0 := (fun q => q.elim t0 (fun z => z.1 u0))
      refine OEnds.go (fun _ q => XS.iconst X12.here X12.hx rfl (hb hby d_prog_53_method_3_41) q) ?_
      show OEnds p e below _ T9 (mkF m 42 #[.val (.ref x), .val (.int (0 : Int32)), .val (.int c0)] [(.int (0 : Int32))])
      exact X12.retBoolN hlk (by first | exact Or.inl rfl | exact Or.inr rfl | assumption) hret (hb hby d_prog_53_method_3_42) (by decide) (by decide) ⟨by rw [show own_v [c0, c1] = 0 from by simp only [own_v, if_neg nok]], rfl⟩
  · skip
    refine OEnds.go (fun _ q => XS.icmpYes X12.here X12.hx rfl (pc0 := 19) (pc' := 28) rfl (hb hby d_prog_53_method_3_19) rfl (flt u0).2.1 (by decide) (by decide) q) ?_
    show OEnds p e below _ T9 (mkF m 28 #[.val (.ref x), .val (.int (0 : Int32)), .val (.int c0)] [])
    exact J0 (Or.inr u0)
theorem con_ifvL3 {l : Launch} {Z : State} {a0 : Array Value} {cz : Int32} {fm : Value} (H : Ctx Z a0 cz fm) (x : Addr) (c0 c1 c2 : Int32) (h0 : Heap) (Sx : OStr Z h0 x ([c0, c1, c2] : List Int32)) :
    ConN l Z (⟨"com/example/gatepost/gatepost/http/HttpSyntax", "isFieldValue", "(Ljava/lang/String;)Z"⟩ : MethodName) prog_53_method_3_code 3 (some FieldType.boolean) [] ({ frames := 4, cells := 0, slots := 0, locals := 53 } : Room) #[(.ref x)] h0 (fun r h => r = some (.int (own_v [c0, c1, c2])) ∧ h0 = h) := by
  obtain ⟨hw, hE, S0, hcz, S1, rf, hp0, hp1, hp2⟩ := id H
  refine ConN.of own_pf19 ?_
  intro p e s m below meth c T hby hml hret hlk hnm X0
  have EX0 := ext_refl h0
  refine OEnds.cast (own_ef12 m x ) ?_
  show OEnds p e below _ T (mkF m 0 #[.val (.ref x), .unset, .unset] [])
  refine OEnds.go (fun _ q => XS.iconst X0.here X0.hx rfl (hb hby d_prog_53_method_3_0) q) ?_
  refine OEnds.go (fun _ q => XS.istoreN X0.here X0.hx rfl (hb hby d_prog_53_method_3_1) rfl (l' := #[.val (.ref x), .val (.int (0 : Int32)), .unset]) rfl q) ?_
  show OEnds p e below _ T (mkF m 2 #[.val (.ref x), .val (.int (0 : Int32)), .unset] [])
  refine OEnds.go (fun _ q => XS.iloadN X0.here X0.hx rfl (hb hby d_prog_53_method_3_2) rfl q) ?_
  refine OEnds.go (fun _ q => XS.aloadN X0.here X0.hx rfl (hb hby d_prog_53_method_3_3) rfl rfl q) ?_
  show OEnds p e below _ T (mkF m 4 #[.val (.ref x), .val (.int (0 : Int32)), .unset] [(.ref x), (.int (0 : Int32))])
  refine X0.payV (own_len H (W := 1) X0.hZ X0.old Sx (by decide) (by decide)) (okPure X0) (own_k hw 30 rfl) (own_k hw 31 rfl) (own_k hw 33 rfl) (own_k hw 32 rfl) (X0.nf (own_k hw 33 rfl)) (by decide) Sx.exa (argsL := []) (rest := [(.int (0 : Int32))]) rfl (lenOf own_pd14 rfl) rfl (by rw [hml]; rfl) (Nat.le_of_eq rfl) (hb hby d_prog_53_method_3_4) (by decide) (by decide) ?_
  intro v1 T2 h3 L4 X5 q6
  obtain ⟨rfl, -, e7⟩ := q6
  obtain rfl := e7.symm
  show OEnds p e below _ T2 (mkF m 7 #[.val (.ref x), .val (.int (0 : Int32)), .unset] [(.int (3 : Int32)), (.int (0 : Int32))])
  refine OEnds.go (fun _ q => XS.icmpNo X5.here X5.hx rfl (hb hby d_prog_53_method_3_7) rfl (tlt (by decide)).2.1 q) ?_
  show OEnds p e below _ T2 (mkF m 10 #[.val (.ref x), .val (.int (0 : Int32)), .unset] [])
  refine OEnds.go (fun _ q => XS.aloadN X5.here X5.hx rfl (hb hby d_prog_53_method_3_10) rfl rfl q) ?_
  refine OEnds.go (fun _ q => XS.iloadN X5.here X5.hx rfl (hb hby d_prog_53_method_3_11) rfl q) ?_
  show OEnds p e below _ T2 (mkF m 12 #[.val (.ref x), .val (.int (0 : Int32)), .unset] [(.int (0 : Int32)), (.ref x)])
  refine X5.payV (own_chr H (W := 0) X5.hZ X5.old (i := 0) Sx (Nat.le_of_ble_eq_true rfl) rfl (by decide) (by decide)) (okPure X5) (own_k hw 54 rfl) (own_k hw 55 rfl) (own_k hw 57 rfl) (own_k hw 56 rfl) (X5.nf (own_k hw 57 rfl)) (by decide) Sx.exa (argsL := [(.int (0 : Int32))]) (rest := []) rfl (lenOf own_pd15 rfl) rfl (by rw [hml]; rfl) (Nat.le_of_eq rfl) (hb hby d_prog_53_method_3_12) (by decide) (by decide) ?_
  intro v8 T9 h10 L11 X12 q13
  obtain ⟨rfl, -, e14⟩ := q13
  obtain rfl := e14.symm
  show OEnds p e below _ T9 (mkF m 15 #[.val (.ref x), .val (.int (0 : Int32)), .unset] [(.int c0)])
  refine OEnds.go (fun _ q => XS.istoreN X12.here X12.hx rfl (hb hby d_prog_53_method_3_15) rfl (l' := #[.val (.ref x), .val (.int (0 : Int32)), .val (.int c0)]) rfl q) ?_
  refine OEnds.go (fun _ q => XS.iloadN X12.here X12.hx rfl (hb hby d_prog_53_method_3_16) rfl q) ?_
  show OEnds p e below _ T9 (mkF m 17 #[.val (.ref x), .val (.int (0 : Int32)), .val (.int c0)] [(.int c0)])
  refine OEnds.go (fun _ q => XS.bipush X12.here X12.hx rfl (hb hby d_prog_53_method_3_17) q) ?_
  show OEnds p e below _ T9 (mkF m 19 #[.val (.ref x), .val (.int (0 : Int32)), .val (.int c0)] [(.int (32 : Int32)), (.int c0)])
  have J0 : (c0 = 9 ∨ ¬ c0 < 32) → OEnds p e below (GN Z s (fun r h => r = some (.int (own_v [c0, c1, c2])) ∧ h0 = h) ({ frames := 4, cells := 0, slots := 0, locals := 53 } : Room).cells ({ frames := 4, cells := 0, slots := 0, locals := 53 } : Room).slots) T9 (mkF m 28 #[.val (.ref x), .val (.int (0 : Int32)), .val (.int c0)] []) := by
    intro  j0
    refine OEnds.go (fun _ q => XS.iloadN X12.here X12.hx rfl (hb hby d_prog_53_method_3_28) rfl q) ?_
    refine OEnds.go (fun _ q => XS.bipush X12.here X12.hx rfl (hb hby d_prog_53_method_3_29) q) ?_
    show OEnds p e below _ T9 (mkF m 31 #[.val (.ref x), .val (.int (0 : Int32)), .val (.int c0)] [(.int (127 : Int32)), (.int c0)])
    by_cases p0 : c0 = (127 : Int32)
    · skip
      refine OEnds.go (fun _ q => XS.icmpYes X12.here X12.hx rfl (pc0 := 31) (pc' := 41) rfl (hb hby d_prog_53_method_3_31) rfl (teq p0).1 (by decide) (by decide) q) ?_
      show OEnds p e below _ T9 (mkF m 41 #[.val (.ref x), .val (.int (0 : Int32)), .val (.int c0)] [])
      have nok : ¬ own_ok c0 := (fun q => q.elim (fun z => absurd (z.symm.trans p0) (by decide)) (fun z => z.2.1 p0))
      refine OEnds.go (fun _ q => XS.iconst X12.here X12.hx rfl (hb hby d_prog_53_method_3_41) q) ?_
      show OEnds p e below _ T9 (mkF m 42 #[.val (.ref x), .val (.int (0 : Int32)), .val (.int c0)] [(.int (0 : Int32))])
      exact X12.retBoolN hlk (by first | exact Or.inl rfl | exact Or.inr rfl | assumption) hret (hb hby d_prog_53_method_3_42) (by decide) (by decide) ⟨by rw [show own_v [c0, c1, c2] = 0 from by simp only [own_v, if_neg nok]], rfl⟩
    · skip
      refine OEnds.go (fun _ q => XS.icmpNo X12.here X12.hx rfl (hb hby d_prog_53_method_3_31) rfl (feq p0).1 q) ?_
      show OEnds p e below _ T9 (mkF m 34 #[.val (.ref x), .val (.int (0 : Int32)), .val (.int c0)] [])
      refine OEnds.go (fun _ q => XS.iloadN X12.here X12.hx rfl (hb hby d_prog_53_method_3_34) rfl q) ?_
      refine OEnds.go (fun _ q => XS.sipush X12.here X12.hx rfl (hb hby d_prog_53_method_3_35) q) ?_
      show OEnds p e below _ T9 (mkF m 38 #[.val (.ref x), .val (.int (0 : Int32)), .val (.int c0)] [(.int (255 : Int32)), (.int c0)])
      by_cases q0 : (255 : Int32) < c0
      · skip
        refine OEnds.go (fun _ q => XS.icmpNo X12.here X12.hx rfl (hb hby d_prog_53_method_3_38) rfl (tlt q0).2.2.2 q) ?_
        show OEnds p e below _ T9 (mkF m 41 #[.val (.ref x), .val (.int (0 : Int32)), .val (.int c0)] [])
        have nok : ¬ own_ok c0 := (fun q => q.elim (fun z => absurd (z ▸ q0) (by decide)) (fun z => z.2.2 q0))
        refine OEnds.go (fun _ q => XS.iconst X12.here X12.hx rfl (hb hby d_prog_53_method_3_41) q) ?_
        show OEnds p e below _ T9 (mkF m 42 #[.val (.ref x), .val (.int (0 : Int32)), .val (.int c0)] [(.int (0 : Int32))])
        exact X12.retBoolN hlk (by first | exact Or.inl rfl | exact Or.inr rfl | assumption) hret (hb hby d_prog_53_method_3_42) (by decide) (by decide) ⟨by rw [show own_v [c0, c1, c2] = 0 from by simp only [own_v, if_neg nok]], rfl⟩
      · skip
        refine OEnds.go (fun _ q => XS.icmpYes X12.here X12.hx rfl (pc0 := 38) (pc' := 43) rfl (hb hby d_prog_53_method_3_38) rfl (flt q0).2.2.2 (by decide) (by decide) q) ?_
        show OEnds p e below _ T9 (mkF m 43 #[.val (.ref x), .val (.int (0 : Int32)), .val (.int c0)] [])
        have ok0 : own_ok c0 := j0.elim Or.inl (fun z => Or.inr ⟨z, p0, q0⟩)
        refine OEnds.go (fun _ q => XS.iinc X12.here X12.hx rfl (hb hby d_prog_53_method_3_43) rfl (l' := #[.val (.ref x), .val (.int ((0 : Int32) + (1 : Int32))), .val (.int c0)]) rfl q) ?_
        show OEnds p e below _ T9 (mkF m 46 #[.val (.ref x), .val (.int ((0 : Int32) + (1 : Int32))), .val (.int c0)] [])
        rw [show ((0 : Int32) + (1 : Int32)) = (1 : Int32) from by decide]
        show OEnds p e below _ T9 (mkF m 46 #[.val (.ref x), .val (.int (1 : Int32)), .val (.int c0)] [])
        refine OEnds.go (fun _ q => XS.goto X12.here X12.hx rfl (pc0 := 46) (pc' := 2) rfl (hb hby d_prog_53_method_3_46) (by decide) (by decide) q) ?_
        refine OEnds.go (fun _ q => XS.iloadN X12.here X12.hx rfl (hb hby d_prog_53_method_3_2) rfl q) ?_
        show OEnds p e below _ T9 (mkF m 3 #[.val (.ref x), .val (.int (1 : Int32)), .val (.int c0)] [(.int (1 : Int32))])
        refine OEnds.go (fun _ q => XS.aloadN X12.here X12.hx rfl (hb hby d_prog_53_method_3_3) rfl rfl q) ?_
        show OEnds p e below _ T9 (mkF m 4 #[.val (.ref x), .val (.int (1 : Int32)), .val (.int c0)] [(.ref x), (.int (1 : Int32))])
        refine X12.payV (own_len H (W := 1) X12.hZ X12.old Sx (by decide) (by decide)) (okPure X12) (own_k hw 30 rfl) (own_k hw 31 rfl) (own_k hw 33 rfl) (own_k hw 32 rfl) (X12.nf (own_k hw 33 rfl)) (by decide) Sx.exa (argsL := []) (rest := [(.int (1 : Int32))]) rfl (lenOf own_pd14 rfl) rfl (by rw [hml]; rfl) (Nat.le_of_eq rfl) (hb hby d_prog_53_method_3_4) (by decide) (by decide) ?_
        intro v15 T16 h17 L18 X19 q20
        obtain ⟨rfl, -, e21⟩ := q20
        obtain rfl := e21.symm
        show OEnds p e below _ T16 (mkF m 7 #[.val (.ref x), .val (.int (1 : Int32)), .val (.int c0)] [(.int (3 : Int32)), (.int (1 : Int32))])
        refine OEnds.go (fun _ q => XS.icmpNo X19.here X19.hx rfl (hb hby d_prog_53_method_3_7) rfl (tlt (by decide)).2.1 q) ?_
        show OEnds p e below _ T16 (mkF m 10 #[.val (.ref x), .val (.int (1 : Int32)), .val (.int c0)] [])
        refine OEnds.go (fun _ q => XS.aloadN X19.here X19.hx rfl (hb hby d_prog_53_method_3_10) rfl rfl q) ?_
        refine OEnds.go (fun _ q => XS.iloadN X19.here X19.hx rfl (hb hby d_prog_53_method_3_11) rfl q) ?_
        show OEnds p e below _ T16 (mkF m 12 #[.val (.ref x), .val (.int (1 : Int32)), .val (.int c0)] [(.int (1 : Int32)), (.ref x)])
        refine X19.payV (own_chr H (W := 0) X19.hZ X19.old (i := 1) Sx (Nat.le_of_ble_eq_true rfl) rfl (by decide) (by decide)) (okPure X19) (own_k hw 54 rfl) (own_k hw 55 rfl) (own_k hw 57 rfl) (own_k hw 56 rfl) (X19.nf (own_k hw 57 rfl)) (by decide) Sx.exa (argsL := [(.int (1 : Int32))]) (rest := []) rfl (lenOf own_pd15 rfl) rfl (by rw [hml]; rfl) (Nat.le_of_eq rfl) (hb hby d_prog_53_method_3_12) (by decide) (by decide) ?_
        intro v22 T23 h24 L25 X26 q27
        obtain ⟨rfl, -, e28⟩ := q27
        obtain rfl := e28.symm
        show OEnds p e below _ T23 (mkF m 15 #[.val (.ref x), .val (.int (1 : Int32)), .val (.int c0)] [(.int c1)])
        refine OEnds.go (fun _ q => XS.istoreN X26.here X26.hx rfl (hb hby d_prog_53_method_3_15) rfl (l' := #[.val (.ref x), .val (.int (1 : Int32)), .val (.int c1)]) rfl q) ?_
        refine OEnds.go (fun _ q => XS.iloadN X26.here X26.hx rfl (hb hby d_prog_53_method_3_16) rfl q) ?_
        show OEnds p e below _ T23 (mkF m 17 #[.val (.ref x), .val (.int (1 : Int32)), .val (.int c1)] [(.int c1)])
        refine OEnds.go (fun _ q => XS.bipush X26.here X26.hx rfl (hb hby d_prog_53_method_3_17) q) ?_
        show OEnds p e below _ T23 (mkF m 19 #[.val (.ref x), .val (.int (1 : Int32)), .val (.int c1)] [(.int (32 : Int32)), (.int c1)])
        have J1 : (c1 = 9 ∨ ¬ c1 < 32) → OEnds p e below (GN Z s (fun r h => r = some (.int (own_v [c0, c1, c2])) ∧ h0 = h) ({ frames := 4, cells := 0, slots := 0, locals := 53 } : Room).cells ({ frames := 4, cells := 0, slots := 0, locals := 53 } : Room).slots) T23 (mkF m 28 #[.val (.ref x), .val (.int (1 : Int32)), .val (.int c1)] []) := by
          intro  j1
          refine OEnds.go (fun _ q => XS.iloadN X26.here X26.hx rfl (hb hby d_prog_53_method_3_28) rfl q) ?_
          refine OEnds.go (fun _ q => XS.bipush X26.here X26.hx rfl (hb hby d_prog_53_method_3_29) q) ?_
          show OEnds p e below _ T23 (mkF m 31 #[.val (.ref x), .val (.int (1 : Int32)), .val (.int c1)] [(.int (127 : Int32)), (.int c1)])
          by_cases p1 : c1 = (127 : Int32)
          · skip
            refine OEnds.go (fun _ q => XS.icmpYes X26.here X26.hx rfl (pc0 := 31) (pc' := 41) rfl (hb hby d_prog_53_method_3_31) rfl (teq p1).1 (by decide) (by decide) q) ?_
            show OEnds p e below _ T23 (mkF m 41 #[.val (.ref x), .val (.int (1 : Int32)), .val (.int c1)] [])
            have nok : ¬ own_ok c1 := (fun q => q.elim (fun z => absurd (z.symm.trans p1) (by decide)) (fun z => z.2.1 p1))
            refine OEnds.go (fun _ q => XS.iconst X26.here X26.hx rfl (hb hby d_prog_53_method_3_41) q) ?_
            show OEnds p e below _ T23 (mkF m 42 #[.val (.ref x), .val (.int (1 : Int32)), .val (.int c1)] [(.int (0 : Int32))])
            exact X26.retBoolN hlk (by first | exact Or.inl rfl | exact Or.inr rfl | assumption) hret (hb hby d_prog_53_method_3_42) (by decide) (by decide) ⟨by rw [show own_v [c0, c1, c2] = 0 from by simp only [own_v, if_pos ok0, if_neg nok]], rfl⟩
          · skip
            refine OEnds.go (fun _ q => XS.icmpNo X26.here X26.hx rfl (hb hby d_prog_53_method_3_31) rfl (feq p1).1 q) ?_
            show OEnds p e below _ T23 (mkF m 34 #[.val (.ref x), .val (.int (1 : Int32)), .val (.int c1)] [])
            refine OEnds.go (fun _ q => XS.iloadN X26.here X26.hx rfl (hb hby d_prog_53_method_3_34) rfl q) ?_
            refine OEnds.go (fun _ q => XS.sipush X26.here X26.hx rfl (hb hby d_prog_53_method_3_35) q) ?_
            show OEnds p e below _ T23 (mkF m 38 #[.val (.ref x), .val (.int (1 : Int32)), .val (.int c1)] [(.int (255 : Int32)), (.int c1)])
            by_cases q1 : (255 : Int32) < c1
            · skip
              refine OEnds.go (fun _ q => XS.icmpNo X26.here X26.hx rfl (hb hby d_prog_53_method_3_38) rfl (tlt q1).2.2.2 q) ?_
              show OEnds p e below _ T23 (mkF m 41 #[.val (.ref x), .val (.int (1 : Int32)), .val (.int c1)] [])
              have nok : ¬ own_ok c1 := (fun q => q.elim (fun z => absurd (z ▸ q1) (by decide)) (fun z => z.2.2 q1))
              refine OEnds.go (fun _ q => XS.iconst X26.here X26.hx rfl (hb hby d_prog_53_method_3_41) q) ?_
              show OEnds p e below _ T23 (mkF m 42 #[.val (.ref x), .val (.int (1 : Int32)), .val (.int c1)] [(.int (0 : Int32))])
              exact X26.retBoolN hlk (by first | exact Or.inl rfl | exact Or.inr rfl | assumption) hret (hb hby d_prog_53_method_3_42) (by decide) (by decide) ⟨by rw [show own_v [c0, c1, c2] = 0 from by simp only [own_v, if_pos ok0, if_neg nok]], rfl⟩
            · skip
              refine OEnds.go (fun _ q => XS.icmpYes X26.here X26.hx rfl (pc0 := 38) (pc' := 43) rfl (hb hby d_prog_53_method_3_38) rfl (flt q1).2.2.2 (by decide) (by decide) q) ?_
              show OEnds p e below _ T23 (mkF m 43 #[.val (.ref x), .val (.int (1 : Int32)), .val (.int c1)] [])
              have ok1 : own_ok c1 := j1.elim Or.inl (fun z => Or.inr ⟨z, p1, q1⟩)
              refine OEnds.go (fun _ q => XS.iinc X26.here X26.hx rfl (hb hby d_prog_53_method_3_43) rfl (l' := #[.val (.ref x), .val (.int ((1 : Int32) + (1 : Int32))), .val (.int c1)]) rfl q) ?_
              show OEnds p e below _ T23 (mkF m 46 #[.val (.ref x), .val (.int ((1 : Int32) + (1 : Int32))), .val (.int c1)] [])
              rw [show ((1 : Int32) + (1 : Int32)) = (2 : Int32) from by decide]
              show OEnds p e below _ T23 (mkF m 46 #[.val (.ref x), .val (.int (2 : Int32)), .val (.int c1)] [])
              refine OEnds.go (fun _ q => XS.goto X26.here X26.hx rfl (pc0 := 46) (pc' := 2) rfl (hb hby d_prog_53_method_3_46) (by decide) (by decide) q) ?_
              refine OEnds.go (fun _ q => XS.iloadN X26.here X26.hx rfl (hb hby d_prog_53_method_3_2) rfl q) ?_
              show OEnds p e below _ T23 (mkF m 3 #[.val (.ref x), .val (.int (2 : Int32)), .val (.int c1)] [(.int (2 : Int32))])
              refine OEnds.go (fun _ q => XS.aloadN X26.here X26.hx rfl (hb hby d_prog_53_method_3_3) rfl rfl q) ?_
              show OEnds p e below _ T23 (mkF m 4 #[.val (.ref x), .val (.int (2 : Int32)), .val (.int c1)] [(.ref x), (.int (2 : Int32))])
              refine X26.payV (own_len H (W := 1) X26.hZ X26.old Sx (by decide) (by decide)) (okPure X26) (own_k hw 30 rfl) (own_k hw 31 rfl) (own_k hw 33 rfl) (own_k hw 32 rfl) (X26.nf (own_k hw 33 rfl)) (by decide) Sx.exa (argsL := []) (rest := [(.int (2 : Int32))]) rfl (lenOf own_pd14 rfl) rfl (by rw [hml]; rfl) (Nat.le_of_eq rfl) (hb hby d_prog_53_method_3_4) (by decide) (by decide) ?_
              intro v29 T30 h31 L32 X33 q34
              obtain ⟨rfl, -, e35⟩ := q34
              obtain rfl := e35.symm
              show OEnds p e below _ T30 (mkF m 7 #[.val (.ref x), .val (.int (2 : Int32)), .val (.int c1)] [(.int (3 : Int32)), (.int (2 : Int32))])
              refine OEnds.go (fun _ q => XS.icmpNo X33.here X33.hx rfl (hb hby d_prog_53_method_3_7) rfl (tlt (by decide)).2.1 q) ?_
              show OEnds p e below _ T30 (mkF m 10 #[.val (.ref x), .val (.int (2 : Int32)), .val (.int c1)] [])
              refine OEnds.go (fun _ q => XS.aloadN X33.here X33.hx rfl (hb hby d_prog_53_method_3_10) rfl rfl q) ?_
              refine OEnds.go (fun _ q => XS.iloadN X33.here X33.hx rfl (hb hby d_prog_53_method_3_11) rfl q) ?_
              show OEnds p e below _ T30 (mkF m 12 #[.val (.ref x), .val (.int (2 : Int32)), .val (.int c1)] [(.int (2 : Int32)), (.ref x)])
              refine X33.payV (own_chr H (W := 0) X33.hZ X33.old (i := 2) Sx (Nat.le_of_ble_eq_true rfl) rfl (by decide) (by decide)) (okPure X33) (own_k hw 54 rfl) (own_k hw 55 rfl) (own_k hw 57 rfl) (own_k hw 56 rfl) (X33.nf (own_k hw 57 rfl)) (by decide) Sx.exa (argsL := [(.int (2 : Int32))]) (rest := []) rfl (lenOf own_pd15 rfl) rfl (by rw [hml]; rfl) (Nat.le_of_eq rfl) (hb hby d_prog_53_method_3_12) (by decide) (by decide) ?_
              intro v36 T37 h38 L39 X40 q41
              obtain ⟨rfl, -, e42⟩ := q41
              obtain rfl := e42.symm
              show OEnds p e below _ T37 (mkF m 15 #[.val (.ref x), .val (.int (2 : Int32)), .val (.int c1)] [(.int c2)])
              refine OEnds.go (fun _ q => XS.istoreN X40.here X40.hx rfl (hb hby d_prog_53_method_3_15) rfl (l' := #[.val (.ref x), .val (.int (2 : Int32)), .val (.int c2)]) rfl q) ?_
              refine OEnds.go (fun _ q => XS.iloadN X40.here X40.hx rfl (hb hby d_prog_53_method_3_16) rfl q) ?_
              show OEnds p e below _ T37 (mkF m 17 #[.val (.ref x), .val (.int (2 : Int32)), .val (.int c2)] [(.int c2)])
              refine OEnds.go (fun _ q => XS.bipush X40.here X40.hx rfl (hb hby d_prog_53_method_3_17) q) ?_
              show OEnds p e below _ T37 (mkF m 19 #[.val (.ref x), .val (.int (2 : Int32)), .val (.int c2)] [(.int (32 : Int32)), (.int c2)])
              have J2 : (c2 = 9 ∨ ¬ c2 < 32) → OEnds p e below (GN Z s (fun r h => r = some (.int (own_v [c0, c1, c2])) ∧ h0 = h) ({ frames := 4, cells := 0, slots := 0, locals := 53 } : Room).cells ({ frames := 4, cells := 0, slots := 0, locals := 53 } : Room).slots) T37 (mkF m 28 #[.val (.ref x), .val (.int (2 : Int32)), .val (.int c2)] []) := by
                intro  j2
                refine OEnds.go (fun _ q => XS.iloadN X40.here X40.hx rfl (hb hby d_prog_53_method_3_28) rfl q) ?_
                refine OEnds.go (fun _ q => XS.bipush X40.here X40.hx rfl (hb hby d_prog_53_method_3_29) q) ?_
                show OEnds p e below _ T37 (mkF m 31 #[.val (.ref x), .val (.int (2 : Int32)), .val (.int c2)] [(.int (127 : Int32)), (.int c2)])
                by_cases p2 : c2 = (127 : Int32)
                · skip
                  refine OEnds.go (fun _ q => XS.icmpYes X40.here X40.hx rfl (pc0 := 31) (pc' := 41) rfl (hb hby d_prog_53_method_3_31) rfl (teq p2).1 (by decide) (by decide) q) ?_
                  show OEnds p e below _ T37 (mkF m 41 #[.val (.ref x), .val (.int (2 : Int32)), .val (.int c2)] [])
                  have nok : ¬ own_ok c2 := (fun q => q.elim (fun z => absurd (z.symm.trans p2) (by decide)) (fun z => z.2.1 p2))
                  refine OEnds.go (fun _ q => XS.iconst X40.here X40.hx rfl (hb hby d_prog_53_method_3_41) q) ?_
                  show OEnds p e below _ T37 (mkF m 42 #[.val (.ref x), .val (.int (2 : Int32)), .val (.int c2)] [(.int (0 : Int32))])
                  exact X40.retBoolN hlk (by first | exact Or.inl rfl | exact Or.inr rfl | assumption) hret (hb hby d_prog_53_method_3_42) (by decide) (by decide) ⟨by rw [show own_v [c0, c1, c2] = 0 from by simp only [own_v, if_pos ok0, if_pos ok1, if_neg nok]], rfl⟩
                · skip
                  refine OEnds.go (fun _ q => XS.icmpNo X40.here X40.hx rfl (hb hby d_prog_53_method_3_31) rfl (feq p2).1 q) ?_
                  show OEnds p e below _ T37 (mkF m 34 #[.val (.ref x), .val (.int (2 : Int32)), .val (.int c2)] [])
                  refine OEnds.go (fun _ q => XS.iloadN X40.here X40.hx rfl (hb hby d_prog_53_method_3_34) rfl q) ?_
                  refine OEnds.go (fun _ q => XS.sipush X40.here X40.hx rfl (hb hby d_prog_53_method_3_35) q) ?_
                  show OEnds p e below _ T37 (mkF m 38 #[.val (.ref x), .val (.int (2 : Int32)), .val (.int c2)] [(.int (255 : Int32)), (.int c2)])
                  by_cases q2 : (255 : Int32) < c2
                  · skip
                    refine OEnds.go (fun _ q => XS.icmpNo X40.here X40.hx rfl (hb hby d_prog_53_method_3_38) rfl (tlt q2).2.2.2 q) ?_
                    show OEnds p e below _ T37 (mkF m 41 #[.val (.ref x), .val (.int (2 : Int32)), .val (.int c2)] [])
                    have nok : ¬ own_ok c2 := (fun q => q.elim (fun z => absurd (z ▸ q2) (by decide)) (fun z => z.2.2 q2))
                    refine OEnds.go (fun _ q => XS.iconst X40.here X40.hx rfl (hb hby d_prog_53_method_3_41) q) ?_
                    show OEnds p e below _ T37 (mkF m 42 #[.val (.ref x), .val (.int (2 : Int32)), .val (.int c2)] [(.int (0 : Int32))])
                    exact X40.retBoolN hlk (by first | exact Or.inl rfl | exact Or.inr rfl | assumption) hret (hb hby d_prog_53_method_3_42) (by decide) (by decide) ⟨by rw [show own_v [c0, c1, c2] = 0 from by simp only [own_v, if_pos ok0, if_pos ok1, if_neg nok]], rfl⟩
                  · skip
                    refine OEnds.go (fun _ q => XS.icmpYes X40.here X40.hx rfl (pc0 := 38) (pc' := 43) rfl (hb hby d_prog_53_method_3_38) rfl (flt q2).2.2.2 (by decide) (by decide) q) ?_
                    show OEnds p e below _ T37 (mkF m 43 #[.val (.ref x), .val (.int (2 : Int32)), .val (.int c2)] [])
                    have ok2 : own_ok c2 := j2.elim Or.inl (fun z => Or.inr ⟨z, p2, q2⟩)
                    refine OEnds.go (fun _ q => XS.iinc X40.here X40.hx rfl (hb hby d_prog_53_method_3_43) rfl (l' := #[.val (.ref x), .val (.int ((2 : Int32) + (1 : Int32))), .val (.int c2)]) rfl q) ?_
                    show OEnds p e below _ T37 (mkF m 46 #[.val (.ref x), .val (.int ((2 : Int32) + (1 : Int32))), .val (.int c2)] [])
                    rw [show ((2 : Int32) + (1 : Int32)) = (3 : Int32) from by decide]
                    show OEnds p e below _ T37 (mkF m 46 #[.val (.ref x), .val (.int (3 : Int32)), .val (.int c2)] [])
                    refine OEnds.go (fun _ q => XS.goto X40.here X40.hx rfl (pc0 := 46) (pc' := 2) rfl (hb hby d_prog_53_method_3_46) (by decide) (by decide) q) ?_
                    refine OEnds.go (fun _ q => XS.iloadN X40.here X40.hx rfl (hb hby d_prog_53_method_3_2) rfl q) ?_
                    show OEnds p e below _ T37 (mkF m 3 #[.val (.ref x), .val (.int (3 : Int32)), .val (.int c2)] [(.int (3 : Int32))])
                    refine OEnds.go (fun _ q => XS.aloadN X40.here X40.hx rfl (hb hby d_prog_53_method_3_3) rfl rfl q) ?_
                    show OEnds p e below _ T37 (mkF m 4 #[.val (.ref x), .val (.int (3 : Int32)), .val (.int c2)] [(.ref x), (.int (3 : Int32))])
                    refine X40.payV (own_len H (W := 1) X40.hZ X40.old Sx (by decide) (by decide)) (okPure X40) (own_k hw 30 rfl) (own_k hw 31 rfl) (own_k hw 33 rfl) (own_k hw 32 rfl) (X40.nf (own_k hw 33 rfl)) (by decide) Sx.exa (argsL := []) (rest := [(.int (3 : Int32))]) rfl (lenOf own_pd14 rfl) rfl (by rw [hml]; rfl) (Nat.le_of_eq rfl) (hb hby d_prog_53_method_3_4) (by decide) (by decide) ?_
                    intro v43 T44 h45 L46 X47 q48
                    obtain ⟨rfl, -, e49⟩ := q48
                    obtain rfl := e49.symm
                    show OEnds p e below _ T44 (mkF m 7 #[.val (.ref x), .val (.int (3 : Int32)), .val (.int c2)] [(.int (3 : Int32)), (.int (3 : Int32))])
                    refine OEnds.go (fun _ q => XS.icmpYes X47.here X47.hx rfl (pc0 := 7) (pc' := 49) rfl (hb hby d_prog_53_method_3_7) rfl (flt (by decide)).2.1 (by decide) (by decide) q) ?_
                    show OEnds p e below _ T44 (mkF m 49 #[.val (.ref x), .val (.int (3 : Int32)), .val (.int c2)] [])
                    refine OEnds.go (fun _ q => XS.iconst X47.here X47.hx rfl (hb hby d_prog_53_method_3_49) q) ?_
                    show OEnds p e below _ T44 (mkF m 50 #[.val (.ref x), .val (.int (3 : Int32)), .val (.int c2)] [(.int (1 : Int32))])
                    exact X47.retBoolN hlk (by first | exact Or.inl rfl | exact Or.inr rfl | assumption) hret (hb hby d_prog_53_method_3_50) (by decide) (by decide) ⟨by rw [show own_v [c0, c1, c2] = 1 from by simp only [own_v, if_pos ok0, if_pos ok1, if_pos ok2]], rfl⟩
              by_cases u2 : c2 < (32 : Int32)
              · skip
                refine OEnds.go (fun _ q => XS.icmpNo X40.here X40.hx rfl (hb hby d_prog_53_method_3_19) rfl (tlt u2).2.1 q) ?_
                show OEnds p e below _ T37 (mkF m 22 #[.val (.ref x), .val (.int (2 : Int32)), .val (.int c2)] [])
                refine OEnds.go (fun _ q => XS.iloadN X40.here X40.hx rfl (hb hby d_prog_53_method_3_22) rfl q) ?_
                refine OEnds.go (fun _ q => XS.bipush X40.here X40.hx rfl (hb hby d_prog_53_method_3_23) q) ?_
                show OEnds p e below _ T37 (mkF m 25 #[.val (.ref x), .val (.int (2 : Int32)), .val (.int c2)] [(.int (9 : Int32)), (.int c2)])
                by_cases t2 : c2 = (9 : Int32)
                · skip
                  refine OEnds.go (fun _ q => XS.icmpNo X40.here X40.hx rfl (hb hby d_prog_53_method_3_25) rfl (teq t2).2 q) ?_
                  show OEnds p e below _ T37 (mkF m 28 #[.val (.ref x), .val (.int (2 : Int32)), .val (.int c2)] [])
                  exact J2 (Or.inl t2)
                · skip
                  refine OEnds.go (fun _ q => XS.icmpYes X40.here X40.hx rfl (pc0 := 25) (pc' := 41) rfl (hb hby d_prog_53_method_3_25) rfl (feq t2).2 (by decide) (by decide) q) ?_
                  show OEnds p e below _ T37 (mkF m 41 #[.val (.ref x), .val (.int (2 : Int32)), .val (.int c2)] [])
                  have nok : ¬ own_ok c2 := (fun q => q.elim t2 (fun z => z.1 u2))
                  refine OEnds.go (fun _ q => XS.iconst X40.here X40.hx rfl (hb hby d_prog_53_method_3_41) q) ?_
                  show OEnds p e below _ T37 (mkF m 42 #[.val (.ref x), .val (.int (2 : Int32)), .val (.int c2)] [(.int (0 : Int32))])
                  exact X40.retBoolN hlk (by first | exact Or.inl rfl | exact Or.inr rfl | assumption) hret (hb hby d_prog_53_method_3_42) (by decide) (by decide) ⟨by rw [show own_v [c0, c1, c2] = 0 from by simp only [own_v, if_pos ok0, if_pos ok1, if_neg nok]], rfl⟩
              · skip
                refine OEnds.go (fun _ q => XS.icmpYes X40.here X40.hx rfl (pc0 := 19) (pc' := 28) rfl (hb hby d_prog_53_method_3_19) rfl (flt u2).2.1 (by decide) (by decide) q) ?_
                show OEnds p e below _ T37 (mkF m 28 #[.val (.ref x), .val (.int (2 : Int32)), .val (.int c2)] [])
                exact J2 (Or.inr u2)
        by_cases u1 : c1 < (32 : Int32)
        · skip
          refine OEnds.go (fun _ q => XS.icmpNo X26.here X26.hx rfl (hb hby d_prog_53_method_3_19) rfl (tlt u1).2.1 q) ?_
          show OEnds p e below _ T23 (mkF m 22 #[.val (.ref x), .val (.int (1 : Int32)), .val (.int c1)] [])
          refine OEnds.go (fun _ q => XS.iloadN X26.here X26.hx rfl (hb hby d_prog_53_method_3_22) rfl q) ?_
          refine OEnds.go (fun _ q => XS.bipush X26.here X26.hx rfl (hb hby d_prog_53_method_3_23) q) ?_
          show OEnds p e below _ T23 (mkF m 25 #[.val (.ref x), .val (.int (1 : Int32)), .val (.int c1)] [(.int (9 : Int32)), (.int c1)])
          by_cases t1 : c1 = (9 : Int32)
          · skip
            refine OEnds.go (fun _ q => XS.icmpNo X26.here X26.hx rfl (hb hby d_prog_53_method_3_25) rfl (teq t1).2 q) ?_
            show OEnds p e below _ T23 (mkF m 28 #[.val (.ref x), .val (.int (1 : Int32)), .val (.int c1)] [])
            exact J1 (Or.inl t1)
          · skip
            refine OEnds.go (fun _ q => XS.icmpYes X26.here X26.hx rfl (pc0 := 25) (pc' := 41) rfl (hb hby d_prog_53_method_3_25) rfl (feq t1).2 (by decide) (by decide) q) ?_
            show OEnds p e below _ T23 (mkF m 41 #[.val (.ref x), .val (.int (1 : Int32)), .val (.int c1)] [])
            have nok : ¬ own_ok c1 := (fun q => q.elim t1 (fun z => z.1 u1))
            refine OEnds.go (fun _ q => XS.iconst X26.here X26.hx rfl (hb hby d_prog_53_method_3_41) q) ?_
            show OEnds p e below _ T23 (mkF m 42 #[.val (.ref x), .val (.int (1 : Int32)), .val (.int c1)] [(.int (0 : Int32))])
            exact X26.retBoolN hlk (by first | exact Or.inl rfl | exact Or.inr rfl | assumption) hret (hb hby d_prog_53_method_3_42) (by decide) (by decide) ⟨by rw [show own_v [c0, c1, c2] = 0 from by simp only [own_v, if_pos ok0, if_neg nok]], rfl⟩
        · skip
          refine OEnds.go (fun _ q => XS.icmpYes X26.here X26.hx rfl (pc0 := 19) (pc' := 28) rfl (hb hby d_prog_53_method_3_19) rfl (flt u1).2.1 (by decide) (by decide) q) ?_
          show OEnds p e below _ T23 (mkF m 28 #[.val (.ref x), .val (.int (1 : Int32)), .val (.int c1)] [])
          exact J1 (Or.inr u1)
  by_cases u0 : c0 < (32 : Int32)
  · skip
    refine OEnds.go (fun _ q => XS.icmpNo X12.here X12.hx rfl (hb hby d_prog_53_method_3_19) rfl (tlt u0).2.1 q) ?_
    show OEnds p e below _ T9 (mkF m 22 #[.val (.ref x), .val (.int (0 : Int32)), .val (.int c0)] [])
    refine OEnds.go (fun _ q => XS.iloadN X12.here X12.hx rfl (hb hby d_prog_53_method_3_22) rfl q) ?_
    refine OEnds.go (fun _ q => XS.bipush X12.here X12.hx rfl (hb hby d_prog_53_method_3_23) q) ?_
    show OEnds p e below _ T9 (mkF m 25 #[.val (.ref x), .val (.int (0 : Int32)), .val (.int c0)] [(.int (9 : Int32)), (.int c0)])
    by_cases t0 : c0 = (9 : Int32)
    · skip
      refine OEnds.go (fun _ q => XS.icmpNo X12.here X12.hx rfl (hb hby d_prog_53_method_3_25) rfl (teq t0).2 q) ?_
      show OEnds p e below _ T9 (mkF m 28 #[.val (.ref x), .val (.int (0 : Int32)), .val (.int c0)] [])
      exact J0 (Or.inl t0)
    · skip
      refine OEnds.go (fun _ q => XS.icmpYes X12.here X12.hx rfl (pc0 := 25) (pc' := 41) rfl (hb hby d_prog_53_method_3_25) rfl (feq t0).2 (by decide) (by decide) q) ?_
      show OEnds p e below _ T9 (mkF m 41 #[.val (.ref x), .val (.int (0 : Int32)), .val (.int c0)] [])
      have nok : ¬ own_ok c0 := (fun q => q.elim t0 (fun z => z.1 u0))
      refine OEnds.go (fun _ q => XS.iconst X12.here X12.hx rfl (hb hby d_prog_53_method_3_41) q) ?_
      show OEnds p e below _ T9 (mkF m 42 #[.val (.ref x), .val (.int (0 : Int32)), .val (.int c0)] [(.int (0 : Int32))])
      exact X12.retBoolN hlk (by first | exact Or.inl rfl | exact Or.inr rfl | assumption) hret (hb hby d_prog_53_method_3_42) (by decide) (by decide) ⟨by rw [show own_v [c0, c1, c2] = 0 from by simp only [own_v, if_neg nok]], rfl⟩
  · skip
    refine OEnds.go (fun _ q => XS.icmpYes X12.here X12.hx rfl (pc0 := 19) (pc' := 28) rfl (hb hby d_prog_53_method_3_19) rfl (flt u0).2.1 (by decide) (by decide) q) ?_
    show OEnds p e below _ T9 (mkF m 28 #[.val (.ref x), .val (.int (0 : Int32)), .val (.int c0)] [])
    exact J0 (Or.inr u0)
theorem con_ifvU1 {l : Launch} {Z : State} {a0 : Array Value} {cz : Int32} {fm : Value} (H : Ctx Z a0 cz fm) (x : Addr) (c0 : Int32) (hu0 : ¬ c0 < 0 ∧ ¬ (65535 : Int32) < c0) (h0 : Heap) (Ux : OUtf1 Z h0 x c0) :
    ConN l Z (⟨"com/example/gatepost/gatepost/http/HttpSyntax", "isFieldValue", "(Ljava/lang/String;)Z"⟩ : MethodName) prog_53_method_3_code 3 (some FieldType.boolean) [] ({ frames := 5, cells := 0, slots := 0, locals := 66 } : Room) #[(.ref x)] h0 (fun r h => r = some (.int (own_v [c0])) ∧ h0 = h) := by
  obtain ⟨hw, hE, S0, hcz, S1, rf, hp0, hp1, hp2⟩ := id H
  refine ConN.of own_pf19 ?_
  intro p e s m below meth c T hby hml hret hlk hnm X0
  have EX0 := ext_refl h0
  refine OEnds.cast (own_ef12 m x ) ?_
  show OEnds p e below _ T (mkF m 0 #[.val (.ref x), .unset, .unset] [])
  refine OEnds.go (fun _ q => XS.iconst X0.here X0.hx rfl (hb hby d_prog_53_method_3_0) q) ?_
  refine OEnds.go (fun _ q => XS.istoreN X0.here X0.hx rfl (hb hby d_prog_53_method_3_1) rfl (l' := #[.val (.ref x), .val (.int (0 : Int32)), .unset]) rfl q) ?_
  show OEnds p e below _ T (mkF m 2 #[.val (.ref x), .val (.int (0 : Int32)), .unset] [])
  refine OEnds.go (fun _ q => XS.iloadN X0.here X0.hx rfl (hb hby d_prog_53_method_3_2) rfl q) ?_
  refine OEnds.go (fun _ q => XS.aloadN X0.here X0.hx rfl (hb hby d_prog_53_method_3_3) rfl rfl q) ?_
  show OEnds p e below _ T (mkF m 4 #[.val (.ref x), .val (.int (0 : Int32)), .unset] [(.ref x), (.int (0 : Int32))])
  refine X0.payV (ConN.back (W := 1) (con_ln1 H x c0 h0 Ux) X0.old X0.hZ (own_k hw 34 rfl) (own_k hw 6 rfl) (by decide) (by decide)) (okN (fun _ _ q => Nat.le_of_eq (congrArg Array.size q.2))) (own_k hw 30 rfl) (own_k hw 31 rfl) (own_k hw 33 rfl) (own_k hw 32 rfl)  (X0.nf (own_k hw 33 rfl)) (by decide)  Ux.1 (argsL := []) (rest := [(.int (0 : Int32))]) rfl (lenOf own_pd14 rfl) rfl (by rw [hml]; rfl) (Nat.le_of_eq rfl) (hb hby d_prog_53_method_3_4) (by decide) (by decide) ?_
  intro v6 T1 h3 Lh3 X2 q7
  replace q7 := q7.1
  obtain ⟨rfl, rfl⟩ := q7
  show OEnds p e below _ T1 (mkF m 7 #[.val (.ref x), .val (.int (0 : Int32)), .unset] [(.int (1 : Int32)), (.int (0 : Int32))])
  refine OEnds.go (fun _ q => XS.icmpNo X2.here X2.hx rfl (hb hby d_prog_53_method_3_7) rfl (tlt (by decide)).2.1 q) ?_
  show OEnds p e below _ T1 (mkF m 10 #[.val (.ref x), .val (.int (0 : Int32)), .unset] [])
  refine OEnds.go (fun _ q => XS.aloadN X2.here X2.hx rfl (hb hby d_prog_53_method_3_10) rfl rfl q) ?_
  refine OEnds.go (fun _ q => XS.iloadN X2.here X2.hx rfl (hb hby d_prog_53_method_3_11) rfl q) ?_
  show OEnds p e below _ T1 (mkF m 12 #[.val (.ref x), .val (.int (0 : Int32)), .unset] [(.int (0 : Int32)), (.ref x)])
  refine X2.payV (ConN.back (W := 0) (con_ch10 H x c0 hu0 h0 Ux) X2.old X2.hZ (own_k hw 58 rfl) (own_k hw 6 rfl) (by decide) (by decide)) (okN (fun _ _ q => Nat.le_of_eq (congrArg Array.size q.2))) (own_k hw 54 rfl) (own_k hw 55 rfl) (own_k hw 57 rfl) (own_k hw 56 rfl)  (X2.nf (own_k hw 57 rfl)) (by decide)  Ux.1 (argsL := [(.int (0 : Int32))]) (rest := []) rfl (lenOf own_pd15 rfl) rfl (by rw [hml]; rfl) (Nat.le_of_eq rfl) (hb hby d_prog_53_method_3_12) (by decide) (by decide) ?_
  intro v13 T8 h10 Lh10 X9 q14
  replace q14 := q14.1
  obtain ⟨rfl, rfl⟩ := q14
  show OEnds p e below _ T8 (mkF m 15 #[.val (.ref x), .val (.int (0 : Int32)), .unset] [(.int c0)])
  refine OEnds.go (fun _ q => XS.istoreN X9.here X9.hx rfl (hb hby d_prog_53_method_3_15) rfl (l' := #[.val (.ref x), .val (.int (0 : Int32)), .val (.int c0)]) rfl q) ?_
  refine OEnds.go (fun _ q => XS.iloadN X9.here X9.hx rfl (hb hby d_prog_53_method_3_16) rfl q) ?_
  show OEnds p e below _ T8 (mkF m 17 #[.val (.ref x), .val (.int (0 : Int32)), .val (.int c0)] [(.int c0)])
  refine OEnds.go (fun _ q => XS.bipush X9.here X9.hx rfl (hb hby d_prog_53_method_3_17) q) ?_
  show OEnds p e below _ T8 (mkF m 19 #[.val (.ref x), .val (.int (0 : Int32)), .val (.int c0)] [(.int (32 : Int32)), (.int c0)])
  have J0 : (c0 = 9 ∨ ¬ c0 < 32) → OEnds p e below (GN Z s (fun r h => r = some (.int (own_v [c0])) ∧ h0 = h) ({ frames := 5, cells := 0, slots := 0, locals := 66 } : Room).cells ({ frames := 5, cells := 0, slots := 0, locals := 66 } : Room).slots) T8 (mkF m 28 #[.val (.ref x), .val (.int (0 : Int32)), .val (.int c0)] []) := by
    intro  j0
    refine OEnds.go (fun _ q => XS.iloadN X9.here X9.hx rfl (hb hby d_prog_53_method_3_28) rfl q) ?_
    refine OEnds.go (fun _ q => XS.bipush X9.here X9.hx rfl (hb hby d_prog_53_method_3_29) q) ?_
    show OEnds p e below _ T8 (mkF m 31 #[.val (.ref x), .val (.int (0 : Int32)), .val (.int c0)] [(.int (127 : Int32)), (.int c0)])
    by_cases p0 : c0 = (127 : Int32)
    · skip
      refine OEnds.go (fun _ q => XS.icmpYes X9.here X9.hx rfl (pc0 := 31) (pc' := 41) rfl (hb hby d_prog_53_method_3_31) rfl (teq p0).1 (by decide) (by decide) q) ?_
      show OEnds p e below _ T8 (mkF m 41 #[.val (.ref x), .val (.int (0 : Int32)), .val (.int c0)] [])
      have nok : ¬ own_ok c0 := (fun q => q.elim (fun z => absurd (z.symm.trans p0) (by decide)) (fun z => z.2.1 p0))
      refine OEnds.go (fun _ q => XS.iconst X9.here X9.hx rfl (hb hby d_prog_53_method_3_41) q) ?_
      show OEnds p e below _ T8 (mkF m 42 #[.val (.ref x), .val (.int (0 : Int32)), .val (.int c0)] [(.int (0 : Int32))])
      exact X9.retBoolN hlk (by first | exact Or.inl rfl | exact Or.inr rfl | assumption) hret (hb hby d_prog_53_method_3_42) (by decide) (by decide) ⟨by rw [show own_v [c0] = 0 from by simp only [own_v, if_neg nok]], rfl⟩
    · skip
      refine OEnds.go (fun _ q => XS.icmpNo X9.here X9.hx rfl (hb hby d_prog_53_method_3_31) rfl (feq p0).1 q) ?_
      show OEnds p e below _ T8 (mkF m 34 #[.val (.ref x), .val (.int (0 : Int32)), .val (.int c0)] [])
      refine OEnds.go (fun _ q => XS.iloadN X9.here X9.hx rfl (hb hby d_prog_53_method_3_34) rfl q) ?_
      refine OEnds.go (fun _ q => XS.sipush X9.here X9.hx rfl (hb hby d_prog_53_method_3_35) q) ?_
      show OEnds p e below _ T8 (mkF m 38 #[.val (.ref x), .val (.int (0 : Int32)), .val (.int c0)] [(.int (255 : Int32)), (.int c0)])
      by_cases q0 : (255 : Int32) < c0
      · skip
        refine OEnds.go (fun _ q => XS.icmpNo X9.here X9.hx rfl (hb hby d_prog_53_method_3_38) rfl (tlt q0).2.2.2 q) ?_
        show OEnds p e below _ T8 (mkF m 41 #[.val (.ref x), .val (.int (0 : Int32)), .val (.int c0)] [])
        have nok : ¬ own_ok c0 := (fun q => q.elim (fun z => absurd (z ▸ q0) (by decide)) (fun z => z.2.2 q0))
        refine OEnds.go (fun _ q => XS.iconst X9.here X9.hx rfl (hb hby d_prog_53_method_3_41) q) ?_
        show OEnds p e below _ T8 (mkF m 42 #[.val (.ref x), .val (.int (0 : Int32)), .val (.int c0)] [(.int (0 : Int32))])
        exact X9.retBoolN hlk (by first | exact Or.inl rfl | exact Or.inr rfl | assumption) hret (hb hby d_prog_53_method_3_42) (by decide) (by decide) ⟨by rw [show own_v [c0] = 0 from by simp only [own_v, if_neg nok]], rfl⟩
      · skip
        refine OEnds.go (fun _ q => XS.icmpYes X9.here X9.hx rfl (pc0 := 38) (pc' := 43) rfl (hb hby d_prog_53_method_3_38) rfl (flt q0).2.2.2 (by decide) (by decide) q) ?_
        show OEnds p e below _ T8 (mkF m 43 #[.val (.ref x), .val (.int (0 : Int32)), .val (.int c0)] [])
        have ok0 : own_ok c0 := j0.elim Or.inl (fun z => Or.inr ⟨z, p0, q0⟩)
        refine OEnds.go (fun _ q => XS.iinc X9.here X9.hx rfl (hb hby d_prog_53_method_3_43) rfl (l' := #[.val (.ref x), .val (.int ((0 : Int32) + (1 : Int32))), .val (.int c0)]) rfl q) ?_
        show OEnds p e below _ T8 (mkF m 46 #[.val (.ref x), .val (.int ((0 : Int32) + (1 : Int32))), .val (.int c0)] [])
        rw [show ((0 : Int32) + (1 : Int32)) = (1 : Int32) from by decide]
        show OEnds p e below _ T8 (mkF m 46 #[.val (.ref x), .val (.int (1 : Int32)), .val (.int c0)] [])
        refine OEnds.go (fun _ q => XS.goto X9.here X9.hx rfl (pc0 := 46) (pc' := 2) rfl (hb hby d_prog_53_method_3_46) (by decide) (by decide) q) ?_
        refine OEnds.go (fun _ q => XS.iloadN X9.here X9.hx rfl (hb hby d_prog_53_method_3_2) rfl q) ?_
        show OEnds p e below _ T8 (mkF m 3 #[.val (.ref x), .val (.int (1 : Int32)), .val (.int c0)] [(.int (1 : Int32))])
        refine OEnds.go (fun _ q => XS.aloadN X9.here X9.hx rfl (hb hby d_prog_53_method_3_3) rfl rfl q) ?_
        show OEnds p e below _ T8 (mkF m 4 #[.val (.ref x), .val (.int (1 : Int32)), .val (.int c0)] [(.ref x), (.int (1 : Int32))])
        refine X9.payV (ConN.back (W := 1) (con_ln1 H x c0 h0 Ux) X9.old X9.hZ (own_k hw 34 rfl) (own_k hw 6 rfl) (by decide) (by decide)) (okN (fun _ _ q => Nat.le_of_eq (congrArg Array.size q.2))) (own_k hw 30 rfl) (own_k hw 31 rfl) (own_k hw 33 rfl) (own_k hw 32 rfl)  (X9.nf (own_k hw 33 rfl)) (by decide)  Ux.1 (argsL := []) (rest := [(.int (1 : Int32))]) rfl (lenOf own_pd14 rfl) rfl (by rw [hml]; rfl) (Nat.le_of_eq rfl) (hb hby d_prog_53_method_3_4) (by decide) (by decide) ?_
        intro v20 T15 h17 Lh17 X16 q21
        replace q21 := q21.1
        obtain ⟨rfl, rfl⟩ := q21
        show OEnds p e below _ T15 (mkF m 7 #[.val (.ref x), .val (.int (1 : Int32)), .val (.int c0)] [(.int (1 : Int32)), (.int (1 : Int32))])
        refine OEnds.go (fun _ q => XS.icmpYes X16.here X16.hx rfl (pc0 := 7) (pc' := 49) rfl (hb hby d_prog_53_method_3_7) rfl (flt (by decide)).2.1 (by decide) (by decide) q) ?_
        show OEnds p e below _ T15 (mkF m 49 #[.val (.ref x), .val (.int (1 : Int32)), .val (.int c0)] [])
        refine OEnds.go (fun _ q => XS.iconst X16.here X16.hx rfl (hb hby d_prog_53_method_3_49) q) ?_
        show OEnds p e below _ T15 (mkF m 50 #[.val (.ref x), .val (.int (1 : Int32)), .val (.int c0)] [(.int (1 : Int32))])
        exact X16.retBoolN hlk (by first | exact Or.inl rfl | exact Or.inr rfl | assumption) hret (hb hby d_prog_53_method_3_50) (by decide) (by decide) ⟨by rw [show own_v [c0] = 1 from by simp only [own_v, if_pos ok0]], rfl⟩
  by_cases u0 : c0 < (32 : Int32)
  · skip
    refine OEnds.go (fun _ q => XS.icmpNo X9.here X9.hx rfl (hb hby d_prog_53_method_3_19) rfl (tlt u0).2.1 q) ?_
    show OEnds p e below _ T8 (mkF m 22 #[.val (.ref x), .val (.int (0 : Int32)), .val (.int c0)] [])
    refine OEnds.go (fun _ q => XS.iloadN X9.here X9.hx rfl (hb hby d_prog_53_method_3_22) rfl q) ?_
    refine OEnds.go (fun _ q => XS.bipush X9.here X9.hx rfl (hb hby d_prog_53_method_3_23) q) ?_
    show OEnds p e below _ T8 (mkF m 25 #[.val (.ref x), .val (.int (0 : Int32)), .val (.int c0)] [(.int (9 : Int32)), (.int c0)])
    by_cases t0 : c0 = (9 : Int32)
    · skip
      refine OEnds.go (fun _ q => XS.icmpNo X9.here X9.hx rfl (hb hby d_prog_53_method_3_25) rfl (teq t0).2 q) ?_
      show OEnds p e below _ T8 (mkF m 28 #[.val (.ref x), .val (.int (0 : Int32)), .val (.int c0)] [])
      exact J0 (Or.inl t0)
    · skip
      refine OEnds.go (fun _ q => XS.icmpYes X9.here X9.hx rfl (pc0 := 25) (pc' := 41) rfl (hb hby d_prog_53_method_3_25) rfl (feq t0).2 (by decide) (by decide) q) ?_
      show OEnds p e below _ T8 (mkF m 41 #[.val (.ref x), .val (.int (0 : Int32)), .val (.int c0)] [])
      have nok : ¬ own_ok c0 := (fun q => q.elim t0 (fun z => z.1 u0))
      refine OEnds.go (fun _ q => XS.iconst X9.here X9.hx rfl (hb hby d_prog_53_method_3_41) q) ?_
      show OEnds p e below _ T8 (mkF m 42 #[.val (.ref x), .val (.int (0 : Int32)), .val (.int c0)] [(.int (0 : Int32))])
      exact X9.retBoolN hlk (by first | exact Or.inl rfl | exact Or.inr rfl | assumption) hret (hb hby d_prog_53_method_3_42) (by decide) (by decide) ⟨by rw [show own_v [c0] = 0 from by simp only [own_v, if_neg nok]], rfl⟩
  · skip
    refine OEnds.go (fun _ q => XS.icmpYes X9.here X9.hx rfl (pc0 := 19) (pc' := 28) rfl (hb hby d_prog_53_method_3_19) rfl (flt u0).2.1 (by decide) (by decide) q) ?_
    show OEnds p e below _ T8 (mkF m 28 #[.val (.ref x), .val (.int (0 : Int32)), .val (.int c0)] [])
    exact J0 (Or.inr u0)
theorem con_ifvU2 {l : Launch} {Z : State} {a0 : Array Value} {cz : Int32} {fm : Value} (H : Ctx Z a0 cz fm) (x : Addr) (c0 c1 : Int32) (hu0 : ¬ c0 < 0 ∧ ¬ (65535 : Int32) < c0) (hu1 : ¬ c1 < 0 ∧ ¬ (65535 : Int32) < c1) (h0 : Heap) (Ux : OUtf2 Z h0 x c0 c1) :
    ConN l Z (⟨"com/example/gatepost/gatepost/http/HttpSyntax", "isFieldValue", "(Ljava/lang/String;)Z"⟩ : MethodName) prog_53_method_3_code 3 (some FieldType.boolean) [] ({ frames := 5, cells := 0, slots := 0, locals := 66 } : Room) #[(.ref x)] h0 (fun r h => r = some (.int (own_v [c0, c1])) ∧ h0 = h) := by
  obtain ⟨hw, hE, S0, hcz, S1, rf, hp0, hp1, hp2⟩ := id H
  refine ConN.of own_pf19 ?_
  intro p e s m below meth c T hby hml hret hlk hnm X0
  have EX0 := ext_refl h0
  refine OEnds.cast (own_ef12 m x ) ?_
  show OEnds p e below _ T (mkF m 0 #[.val (.ref x), .unset, .unset] [])
  refine OEnds.go (fun _ q => XS.iconst X0.here X0.hx rfl (hb hby d_prog_53_method_3_0) q) ?_
  refine OEnds.go (fun _ q => XS.istoreN X0.here X0.hx rfl (hb hby d_prog_53_method_3_1) rfl (l' := #[.val (.ref x), .val (.int (0 : Int32)), .unset]) rfl q) ?_
  show OEnds p e below _ T (mkF m 2 #[.val (.ref x), .val (.int (0 : Int32)), .unset] [])
  refine OEnds.go (fun _ q => XS.iloadN X0.here X0.hx rfl (hb hby d_prog_53_method_3_2) rfl q) ?_
  refine OEnds.go (fun _ q => XS.aloadN X0.here X0.hx rfl (hb hby d_prog_53_method_3_3) rfl rfl q) ?_
  show OEnds p e below _ T (mkF m 4 #[.val (.ref x), .val (.int (0 : Int32)), .unset] [(.ref x), (.int (0 : Int32))])
  refine X0.payV (ConN.back (W := 1) (con_ln2 H x c0 c1 h0 Ux) X0.old X0.hZ (own_k hw 34 rfl) (own_k hw 6 rfl) (by decide) (by decide)) (okN (fun _ _ q => Nat.le_of_eq (congrArg Array.size q.2))) (own_k hw 30 rfl) (own_k hw 31 rfl) (own_k hw 33 rfl) (own_k hw 32 rfl)  (X0.nf (own_k hw 33 rfl)) (by decide)  Ux.1 (argsL := []) (rest := [(.int (0 : Int32))]) rfl (lenOf own_pd14 rfl) rfl (by rw [hml]; rfl) (Nat.le_of_eq rfl) (hb hby d_prog_53_method_3_4) (by decide) (by decide) ?_
  intro v6 T1 h3 Lh3 X2 q7
  replace q7 := q7.1
  obtain ⟨rfl, rfl⟩ := q7
  show OEnds p e below _ T1 (mkF m 7 #[.val (.ref x), .val (.int (0 : Int32)), .unset] [(.int (2 : Int32)), (.int (0 : Int32))])
  refine OEnds.go (fun _ q => XS.icmpNo X2.here X2.hx rfl (hb hby d_prog_53_method_3_7) rfl (tlt (by decide)).2.1 q) ?_
  show OEnds p e below _ T1 (mkF m 10 #[.val (.ref x), .val (.int (0 : Int32)), .unset] [])
  refine OEnds.go (fun _ q => XS.aloadN X2.here X2.hx rfl (hb hby d_prog_53_method_3_10) rfl rfl q) ?_
  refine OEnds.go (fun _ q => XS.iloadN X2.here X2.hx rfl (hb hby d_prog_53_method_3_11) rfl q) ?_
  show OEnds p e below _ T1 (mkF m 12 #[.val (.ref x), .val (.int (0 : Int32)), .unset] [(.int (0 : Int32)), (.ref x)])
  refine X2.payV (ConN.back (W := 0) (con_ch20 H x c0 c1 hu0 h0 Ux) X2.old X2.hZ (own_k hw 58 rfl) (own_k hw 6 rfl) (by decide) (by decide)) (okN (fun _ _ q => Nat.le_of_eq (congrArg Array.size q.2))) (own_k hw 54 rfl) (own_k hw 55 rfl) (own_k hw 57 rfl) (own_k hw 56 rfl)  (X2.nf (own_k hw 57 rfl)) (by decide)  Ux.1 (argsL := [(.int (0 : Int32))]) (rest := []) rfl (lenOf own_pd15 rfl) rfl (by rw [hml]; rfl) (Nat.le_of_eq rfl) (hb hby d_prog_53_method_3_12) (by decide) (by decide) ?_
  intro v13 T8 h10 Lh10 X9 q14
  replace q14 := q14.1
  obtain ⟨rfl, rfl⟩ := q14
  show OEnds p e below _ T8 (mkF m 15 #[.val (.ref x), .val (.int (0 : Int32)), .unset] [(.int c0)])
  refine OEnds.go (fun _ q => XS.istoreN X9.here X9.hx rfl (hb hby d_prog_53_method_3_15) rfl (l' := #[.val (.ref x), .val (.int (0 : Int32)), .val (.int c0)]) rfl q) ?_
  refine OEnds.go (fun _ q => XS.iloadN X9.here X9.hx rfl (hb hby d_prog_53_method_3_16) rfl q) ?_
  show OEnds p e below _ T8 (mkF m 17 #[.val (.ref x), .val (.int (0 : Int32)), .val (.int c0)] [(.int c0)])
  refine OEnds.go (fun _ q => XS.bipush X9.here X9.hx rfl (hb hby d_prog_53_method_3_17) q) ?_
  show OEnds p e below _ T8 (mkF m 19 #[.val (.ref x), .val (.int (0 : Int32)), .val (.int c0)] [(.int (32 : Int32)), (.int c0)])
  have J0 : (c0 = 9 ∨ ¬ c0 < 32) → OEnds p e below (GN Z s (fun r h => r = some (.int (own_v [c0, c1])) ∧ h0 = h) ({ frames := 5, cells := 0, slots := 0, locals := 66 } : Room).cells ({ frames := 5, cells := 0, slots := 0, locals := 66 } : Room).slots) T8 (mkF m 28 #[.val (.ref x), .val (.int (0 : Int32)), .val (.int c0)] []) := by
    intro  j0
    refine OEnds.go (fun _ q => XS.iloadN X9.here X9.hx rfl (hb hby d_prog_53_method_3_28) rfl q) ?_
    refine OEnds.go (fun _ q => XS.bipush X9.here X9.hx rfl (hb hby d_prog_53_method_3_29) q) ?_
    show OEnds p e below _ T8 (mkF m 31 #[.val (.ref x), .val (.int (0 : Int32)), .val (.int c0)] [(.int (127 : Int32)), (.int c0)])
    by_cases p0 : c0 = (127 : Int32)
    · skip
      refine OEnds.go (fun _ q => XS.icmpYes X9.here X9.hx rfl (pc0 := 31) (pc' := 41) rfl (hb hby d_prog_53_method_3_31) rfl (teq p0).1 (by decide) (by decide) q) ?_
      show OEnds p e below _ T8 (mkF m 41 #[.val (.ref x), .val (.int (0 : Int32)), .val (.int c0)] [])
      have nok : ¬ own_ok c0 := (fun q => q.elim (fun z => absurd (z.symm.trans p0) (by decide)) (fun z => z.2.1 p0))
      refine OEnds.go (fun _ q => XS.iconst X9.here X9.hx rfl (hb hby d_prog_53_method_3_41) q) ?_
      show OEnds p e below _ T8 (mkF m 42 #[.val (.ref x), .val (.int (0 : Int32)), .val (.int c0)] [(.int (0 : Int32))])
      exact X9.retBoolN hlk (by first | exact Or.inl rfl | exact Or.inr rfl | assumption) hret (hb hby d_prog_53_method_3_42) (by decide) (by decide) ⟨by rw [show own_v [c0, c1] = 0 from by simp only [own_v, if_neg nok]], rfl⟩
    · skip
      refine OEnds.go (fun _ q => XS.icmpNo X9.here X9.hx rfl (hb hby d_prog_53_method_3_31) rfl (feq p0).1 q) ?_
      show OEnds p e below _ T8 (mkF m 34 #[.val (.ref x), .val (.int (0 : Int32)), .val (.int c0)] [])
      refine OEnds.go (fun _ q => XS.iloadN X9.here X9.hx rfl (hb hby d_prog_53_method_3_34) rfl q) ?_
      refine OEnds.go (fun _ q => XS.sipush X9.here X9.hx rfl (hb hby d_prog_53_method_3_35) q) ?_
      show OEnds p e below _ T8 (mkF m 38 #[.val (.ref x), .val (.int (0 : Int32)), .val (.int c0)] [(.int (255 : Int32)), (.int c0)])
      by_cases q0 : (255 : Int32) < c0
      · skip
        refine OEnds.go (fun _ q => XS.icmpNo X9.here X9.hx rfl (hb hby d_prog_53_method_3_38) rfl (tlt q0).2.2.2 q) ?_
        show OEnds p e below _ T8 (mkF m 41 #[.val (.ref x), .val (.int (0 : Int32)), .val (.int c0)] [])
        have nok : ¬ own_ok c0 := (fun q => q.elim (fun z => absurd (z ▸ q0) (by decide)) (fun z => z.2.2 q0))
        refine OEnds.go (fun _ q => XS.iconst X9.here X9.hx rfl (hb hby d_prog_53_method_3_41) q) ?_
        show OEnds p e below _ T8 (mkF m 42 #[.val (.ref x), .val (.int (0 : Int32)), .val (.int c0)] [(.int (0 : Int32))])
        exact X9.retBoolN hlk (by first | exact Or.inl rfl | exact Or.inr rfl | assumption) hret (hb hby d_prog_53_method_3_42) (by decide) (by decide) ⟨by rw [show own_v [c0, c1] = 0 from by simp only [own_v, if_neg nok]], rfl⟩
      · skip
        refine OEnds.go (fun _ q => XS.icmpYes X9.here X9.hx rfl (pc0 := 38) (pc' := 43) rfl (hb hby d_prog_53_method_3_38) rfl (flt q0).2.2.2 (by decide) (by decide) q) ?_
        show OEnds p e below _ T8 (mkF m 43 #[.val (.ref x), .val (.int (0 : Int32)), .val (.int c0)] [])
        have ok0 : own_ok c0 := j0.elim Or.inl (fun z => Or.inr ⟨z, p0, q0⟩)
        refine OEnds.go (fun _ q => XS.iinc X9.here X9.hx rfl (hb hby d_prog_53_method_3_43) rfl (l' := #[.val (.ref x), .val (.int ((0 : Int32) + (1 : Int32))), .val (.int c0)]) rfl q) ?_
        show OEnds p e below _ T8 (mkF m 46 #[.val (.ref x), .val (.int ((0 : Int32) + (1 : Int32))), .val (.int c0)] [])
        rw [show ((0 : Int32) + (1 : Int32)) = (1 : Int32) from by decide]
        show OEnds p e below _ T8 (mkF m 46 #[.val (.ref x), .val (.int (1 : Int32)), .val (.int c0)] [])
        refine OEnds.go (fun _ q => XS.goto X9.here X9.hx rfl (pc0 := 46) (pc' := 2) rfl (hb hby d_prog_53_method_3_46) (by decide) (by decide) q) ?_
        refine OEnds.go (fun _ q => XS.iloadN X9.here X9.hx rfl (hb hby d_prog_53_method_3_2) rfl q) ?_
        show OEnds p e below _ T8 (mkF m 3 #[.val (.ref x), .val (.int (1 : Int32)), .val (.int c0)] [(.int (1 : Int32))])
        refine OEnds.go (fun _ q => XS.aloadN X9.here X9.hx rfl (hb hby d_prog_53_method_3_3) rfl rfl q) ?_
        show OEnds p e below _ T8 (mkF m 4 #[.val (.ref x), .val (.int (1 : Int32)), .val (.int c0)] [(.ref x), (.int (1 : Int32))])
        refine X9.payV (ConN.back (W := 1) (con_ln2 H x c0 c1 h0 Ux) X9.old X9.hZ (own_k hw 34 rfl) (own_k hw 6 rfl) (by decide) (by decide)) (okN (fun _ _ q => Nat.le_of_eq (congrArg Array.size q.2))) (own_k hw 30 rfl) (own_k hw 31 rfl) (own_k hw 33 rfl) (own_k hw 32 rfl)  (X9.nf (own_k hw 33 rfl)) (by decide)  Ux.1 (argsL := []) (rest := [(.int (1 : Int32))]) rfl (lenOf own_pd14 rfl) rfl (by rw [hml]; rfl) (Nat.le_of_eq rfl) (hb hby d_prog_53_method_3_4) (by decide) (by decide) ?_
        intro v20 T15 h17 Lh17 X16 q21
        replace q21 := q21.1
        obtain ⟨rfl, rfl⟩ := q21
        show OEnds p e below _ T15 (mkF m 7 #[.val (.ref x), .val (.int (1 : Int32)), .val (.int c0)] [(.int (2 : Int32)), (.int (1 : Int32))])
        refine OEnds.go (fun _ q => XS.icmpNo X16.here X16.hx rfl (hb hby d_prog_53_method_3_7) rfl (tlt (by decide)).2.1 q) ?_
        show OEnds p e below _ T15 (mkF m 10 #[.val (.ref x), .val (.int (1 : Int32)), .val (.int c0)] [])
        refine OEnds.go (fun _ q => XS.aloadN X16.here X16.hx rfl (hb hby d_prog_53_method_3_10) rfl rfl q) ?_
        refine OEnds.go (fun _ q => XS.iloadN X16.here X16.hx rfl (hb hby d_prog_53_method_3_11) rfl q) ?_
        show OEnds p e below _ T15 (mkF m 12 #[.val (.ref x), .val (.int (1 : Int32)), .val (.int c0)] [(.int (1 : Int32)), (.ref x)])
        refine X16.payV (ConN.back (W := 0) (con_ch21 H x c0 c1 hu1 h0 Ux) X16.old X16.hZ (own_k hw 58 rfl) (own_k hw 6 rfl) (by decide) (by decide)) (okN (fun _ _ q => Nat.le_of_eq (congrArg Array.size q.2))) (own_k hw 54 rfl) (own_k hw 55 rfl) (own_k hw 57 rfl) (own_k hw 56 rfl)  (X16.nf (own_k hw 57 rfl)) (by decide)  Ux.1 (argsL := [(.int (1 : Int32))]) (rest := []) rfl (lenOf own_pd15 rfl) rfl (by rw [hml]; rfl) (Nat.le_of_eq rfl) (hb hby d_prog_53_method_3_12) (by decide) (by decide) ?_
        intro v27 T22 h24 Lh24 X23 q28
        replace q28 := q28.1
        obtain ⟨rfl, rfl⟩ := q28
        show OEnds p e below _ T22 (mkF m 15 #[.val (.ref x), .val (.int (1 : Int32)), .val (.int c0)] [(.int c1)])
        refine OEnds.go (fun _ q => XS.istoreN X23.here X23.hx rfl (hb hby d_prog_53_method_3_15) rfl (l' := #[.val (.ref x), .val (.int (1 : Int32)), .val (.int c1)]) rfl q) ?_
        refine OEnds.go (fun _ q => XS.iloadN X23.here X23.hx rfl (hb hby d_prog_53_method_3_16) rfl q) ?_
        show OEnds p e below _ T22 (mkF m 17 #[.val (.ref x), .val (.int (1 : Int32)), .val (.int c1)] [(.int c1)])
        refine OEnds.go (fun _ q => XS.bipush X23.here X23.hx rfl (hb hby d_prog_53_method_3_17) q) ?_
        show OEnds p e below _ T22 (mkF m 19 #[.val (.ref x), .val (.int (1 : Int32)), .val (.int c1)] [(.int (32 : Int32)), (.int c1)])
        have J1 : (c1 = 9 ∨ ¬ c1 < 32) → OEnds p e below (GN Z s (fun r h => r = some (.int (own_v [c0, c1])) ∧ h0 = h) ({ frames := 5, cells := 0, slots := 0, locals := 66 } : Room).cells ({ frames := 5, cells := 0, slots := 0, locals := 66 } : Room).slots) T22 (mkF m 28 #[.val (.ref x), .val (.int (1 : Int32)), .val (.int c1)] []) := by
          intro  j1
          refine OEnds.go (fun _ q => XS.iloadN X23.here X23.hx rfl (hb hby d_prog_53_method_3_28) rfl q) ?_
          refine OEnds.go (fun _ q => XS.bipush X23.here X23.hx rfl (hb hby d_prog_53_method_3_29) q) ?_
          show OEnds p e below _ T22 (mkF m 31 #[.val (.ref x), .val (.int (1 : Int32)), .val (.int c1)] [(.int (127 : Int32)), (.int c1)])
          by_cases p1 : c1 = (127 : Int32)
          · skip
            refine OEnds.go (fun _ q => XS.icmpYes X23.here X23.hx rfl (pc0 := 31) (pc' := 41) rfl (hb hby d_prog_53_method_3_31) rfl (teq p1).1 (by decide) (by decide) q) ?_
            show OEnds p e below _ T22 (mkF m 41 #[.val (.ref x), .val (.int (1 : Int32)), .val (.int c1)] [])
            have nok : ¬ own_ok c1 := (fun q => q.elim (fun z => absurd (z.symm.trans p1) (by decide)) (fun z => z.2.1 p1))
            refine OEnds.go (fun _ q => XS.iconst X23.here X23.hx rfl (hb hby d_prog_53_method_3_41) q) ?_
            show OEnds p e below _ T22 (mkF m 42 #[.val (.ref x), .val (.int (1 : Int32)), .val (.int c1)] [(.int (0 : Int32))])
            exact X23.retBoolN hlk (by first | exact Or.inl rfl | exact Or.inr rfl | assumption) hret (hb hby d_prog_53_method_3_42) (by decide) (by decide) ⟨by rw [show own_v [c0, c1] = 0 from by simp only [own_v, if_pos ok0, if_neg nok]], rfl⟩
          · skip
            refine OEnds.go (fun _ q => XS.icmpNo X23.here X23.hx rfl (hb hby d_prog_53_method_3_31) rfl (feq p1).1 q) ?_
            show OEnds p e below _ T22 (mkF m 34 #[.val (.ref x), .val (.int (1 : Int32)), .val (.int c1)] [])
            refine OEnds.go (fun _ q => XS.iloadN X23.here X23.hx rfl (hb hby d_prog_53_method_3_34) rfl q) ?_
            refine OEnds.go (fun _ q => XS.sipush X23.here X23.hx rfl (hb hby d_prog_53_method_3_35) q) ?_
            show OEnds p e below _ T22 (mkF m 38 #[.val (.ref x), .val (.int (1 : Int32)), .val (.int c1)] [(.int (255 : Int32)), (.int c1)])
            by_cases q1 : (255 : Int32) < c1
            · skip
              refine OEnds.go (fun _ q => XS.icmpNo X23.here X23.hx rfl (hb hby d_prog_53_method_3_38) rfl (tlt q1).2.2.2 q) ?_
              show OEnds p e below _ T22 (mkF m 41 #[.val (.ref x), .val (.int (1 : Int32)), .val (.int c1)] [])
              have nok : ¬ own_ok c1 := (fun q => q.elim (fun z => absurd (z ▸ q1) (by decide)) (fun z => z.2.2 q1))
              refine OEnds.go (fun _ q => XS.iconst X23.here X23.hx rfl (hb hby d_prog_53_method_3_41) q) ?_
              show OEnds p e below _ T22 (mkF m 42 #[.val (.ref x), .val (.int (1 : Int32)), .val (.int c1)] [(.int (0 : Int32))])
              exact X23.retBoolN hlk (by first | exact Or.inl rfl | exact Or.inr rfl | assumption) hret (hb hby d_prog_53_method_3_42) (by decide) (by decide) ⟨by rw [show own_v [c0, c1] = 0 from by simp only [own_v, if_pos ok0, if_neg nok]], rfl⟩
            · skip
              refine OEnds.go (fun _ q => XS.icmpYes X23.here X23.hx rfl (pc0 := 38) (pc' := 43) rfl (hb hby d_prog_53_method_3_38) rfl (flt q1).2.2.2 (by decide) (by decide) q) ?_
              show OEnds p e below _ T22 (mkF m 43 #[.val (.ref x), .val (.int (1 : Int32)), .val (.int c1)] [])
              have ok1 : own_ok c1 := j1.elim Or.inl (fun z => Or.inr ⟨z, p1, q1⟩)
              refine OEnds.go (fun _ q => XS.iinc X23.here X23.hx rfl (hb hby d_prog_53_method_3_43) rfl (l' := #[.val (.ref x), .val (.int ((1 : Int32) + (1 : Int32))), .val (.int c1)]) rfl q) ?_
              show OEnds p e below _ T22 (mkF m 46 #[.val (.ref x), .val (.int ((1 : Int32) + (1 : Int32))), .val (.int c1)] [])
              rw [show ((1 : Int32) + (1 : Int32)) = (2 : Int32) from by decide]
              show OEnds p e below _ T22 (mkF m 46 #[.val (.ref x), .val (.int (2 : Int32)), .val (.int c1)] [])
              refine OEnds.go (fun _ q => XS.goto X23.here X23.hx rfl (pc0 := 46) (pc' := 2) rfl (hb hby d_prog_53_method_3_46) (by decide) (by decide) q) ?_
              refine OEnds.go (fun _ q => XS.iloadN X23.here X23.hx rfl (hb hby d_prog_53_method_3_2) rfl q) ?_
              show OEnds p e below _ T22 (mkF m 3 #[.val (.ref x), .val (.int (2 : Int32)), .val (.int c1)] [(.int (2 : Int32))])
              refine OEnds.go (fun _ q => XS.aloadN X23.here X23.hx rfl (hb hby d_prog_53_method_3_3) rfl rfl q) ?_
              show OEnds p e below _ T22 (mkF m 4 #[.val (.ref x), .val (.int (2 : Int32)), .val (.int c1)] [(.ref x), (.int (2 : Int32))])
              refine X23.payV (ConN.back (W := 1) (con_ln2 H x c0 c1 h0 Ux) X23.old X23.hZ (own_k hw 34 rfl) (own_k hw 6 rfl) (by decide) (by decide)) (okN (fun _ _ q => Nat.le_of_eq (congrArg Array.size q.2))) (own_k hw 30 rfl) (own_k hw 31 rfl) (own_k hw 33 rfl) (own_k hw 32 rfl)  (X23.nf (own_k hw 33 rfl)) (by decide)  Ux.1 (argsL := []) (rest := [(.int (2 : Int32))]) rfl (lenOf own_pd14 rfl) rfl (by rw [hml]; rfl) (Nat.le_of_eq rfl) (hb hby d_prog_53_method_3_4) (by decide) (by decide) ?_
              intro v34 T29 h31 Lh31 X30 q35
              replace q35 := q35.1
              obtain ⟨rfl, rfl⟩ := q35
              show OEnds p e below _ T29 (mkF m 7 #[.val (.ref x), .val (.int (2 : Int32)), .val (.int c1)] [(.int (2 : Int32)), (.int (2 : Int32))])
              refine OEnds.go (fun _ q => XS.icmpYes X30.here X30.hx rfl (pc0 := 7) (pc' := 49) rfl (hb hby d_prog_53_method_3_7) rfl (flt (by decide)).2.1 (by decide) (by decide) q) ?_
              show OEnds p e below _ T29 (mkF m 49 #[.val (.ref x), .val (.int (2 : Int32)), .val (.int c1)] [])
              refine OEnds.go (fun _ q => XS.iconst X30.here X30.hx rfl (hb hby d_prog_53_method_3_49) q) ?_
              show OEnds p e below _ T29 (mkF m 50 #[.val (.ref x), .val (.int (2 : Int32)), .val (.int c1)] [(.int (1 : Int32))])
              exact X30.retBoolN hlk (by first | exact Or.inl rfl | exact Or.inr rfl | assumption) hret (hb hby d_prog_53_method_3_50) (by decide) (by decide) ⟨by rw [show own_v [c0, c1] = 1 from by simp only [own_v, if_pos ok0, if_pos ok1]], rfl⟩
        by_cases u1 : c1 < (32 : Int32)
        · skip
          refine OEnds.go (fun _ q => XS.icmpNo X23.here X23.hx rfl (hb hby d_prog_53_method_3_19) rfl (tlt u1).2.1 q) ?_
          show OEnds p e below _ T22 (mkF m 22 #[.val (.ref x), .val (.int (1 : Int32)), .val (.int c1)] [])
          refine OEnds.go (fun _ q => XS.iloadN X23.here X23.hx rfl (hb hby d_prog_53_method_3_22) rfl q) ?_
          refine OEnds.go (fun _ q => XS.bipush X23.here X23.hx rfl (hb hby d_prog_53_method_3_23) q) ?_
          show OEnds p e below _ T22 (mkF m 25 #[.val (.ref x), .val (.int (1 : Int32)), .val (.int c1)] [(.int (9 : Int32)), (.int c1)])
          by_cases t1 : c1 = (9 : Int32)
          · skip
            refine OEnds.go (fun _ q => XS.icmpNo X23.here X23.hx rfl (hb hby d_prog_53_method_3_25) rfl (teq t1).2 q) ?_
            show OEnds p e below _ T22 (mkF m 28 #[.val (.ref x), .val (.int (1 : Int32)), .val (.int c1)] [])
            exact J1 (Or.inl t1)
          · skip
            refine OEnds.go (fun _ q => XS.icmpYes X23.here X23.hx rfl (pc0 := 25) (pc' := 41) rfl (hb hby d_prog_53_method_3_25) rfl (feq t1).2 (by decide) (by decide) q) ?_
            show OEnds p e below _ T22 (mkF m 41 #[.val (.ref x), .val (.int (1 : Int32)), .val (.int c1)] [])
            have nok : ¬ own_ok c1 := (fun q => q.elim t1 (fun z => z.1 u1))
            refine OEnds.go (fun _ q => XS.iconst X23.here X23.hx rfl (hb hby d_prog_53_method_3_41) q) ?_
            show OEnds p e below _ T22 (mkF m 42 #[.val (.ref x), .val (.int (1 : Int32)), .val (.int c1)] [(.int (0 : Int32))])
            exact X23.retBoolN hlk (by first | exact Or.inl rfl | exact Or.inr rfl | assumption) hret (hb hby d_prog_53_method_3_42) (by decide) (by decide) ⟨by rw [show own_v [c0, c1] = 0 from by simp only [own_v, if_pos ok0, if_neg nok]], rfl⟩
        · skip
          refine OEnds.go (fun _ q => XS.icmpYes X23.here X23.hx rfl (pc0 := 19) (pc' := 28) rfl (hb hby d_prog_53_method_3_19) rfl (flt u1).2.1 (by decide) (by decide) q) ?_
          show OEnds p e below _ T22 (mkF m 28 #[.val (.ref x), .val (.int (1 : Int32)), .val (.int c1)] [])
          exact J1 (Or.inr u1)
  by_cases u0 : c0 < (32 : Int32)
  · skip
    refine OEnds.go (fun _ q => XS.icmpNo X9.here X9.hx rfl (hb hby d_prog_53_method_3_19) rfl (tlt u0).2.1 q) ?_
    show OEnds p e below _ T8 (mkF m 22 #[.val (.ref x), .val (.int (0 : Int32)), .val (.int c0)] [])
    refine OEnds.go (fun _ q => XS.iloadN X9.here X9.hx rfl (hb hby d_prog_53_method_3_22) rfl q) ?_
    refine OEnds.go (fun _ q => XS.bipush X9.here X9.hx rfl (hb hby d_prog_53_method_3_23) q) ?_
    show OEnds p e below _ T8 (mkF m 25 #[.val (.ref x), .val (.int (0 : Int32)), .val (.int c0)] [(.int (9 : Int32)), (.int c0)])
    by_cases t0 : c0 = (9 : Int32)
    · skip
      refine OEnds.go (fun _ q => XS.icmpNo X9.here X9.hx rfl (hb hby d_prog_53_method_3_25) rfl (teq t0).2 q) ?_
      show OEnds p e below _ T8 (mkF m 28 #[.val (.ref x), .val (.int (0 : Int32)), .val (.int c0)] [])
      exact J0 (Or.inl t0)
    · skip
      refine OEnds.go (fun _ q => XS.icmpYes X9.here X9.hx rfl (pc0 := 25) (pc' := 41) rfl (hb hby d_prog_53_method_3_25) rfl (feq t0).2 (by decide) (by decide) q) ?_
      show OEnds p e below _ T8 (mkF m 41 #[.val (.ref x), .val (.int (0 : Int32)), .val (.int c0)] [])
      have nok : ¬ own_ok c0 := (fun q => q.elim t0 (fun z => z.1 u0))
      refine OEnds.go (fun _ q => XS.iconst X9.here X9.hx rfl (hb hby d_prog_53_method_3_41) q) ?_
      show OEnds p e below _ T8 (mkF m 42 #[.val (.ref x), .val (.int (0 : Int32)), .val (.int c0)] [(.int (0 : Int32))])
      exact X9.retBoolN hlk (by first | exact Or.inl rfl | exact Or.inr rfl | assumption) hret (hb hby d_prog_53_method_3_42) (by decide) (by decide) ⟨by rw [show own_v [c0, c1] = 0 from by simp only [own_v, if_neg nok]], rfl⟩
  · skip
    refine OEnds.go (fun _ q => XS.icmpYes X9.here X9.hx rfl (pc0 := 19) (pc' := 28) rfl (hb hby d_prog_53_method_3_19) rfl (flt u0).2.1 (by decide) (by decide) q) ?_
    show OEnds p e below _ T8 (mkF m 28 #[.val (.ref x), .val (.int (0 : Int32)), .val (.int c0)] [])
    exact J0 (Or.inr u0)
theorem con_ifvU3 {l : Launch} {Z : State} {a0 : Array Value} {cz : Int32} {fm : Value} (H : Ctx Z a0 cz fm) (x : Addr) (c0 c1 c2 : Int32) (hu0 : ¬ c0 < 0 ∧ ¬ (65535 : Int32) < c0) (hu1 : ¬ c1 < 0 ∧ ¬ (65535 : Int32) < c1) (hu2 : ¬ c2 < 0 ∧ ¬ (65535 : Int32) < c2) (h0 : Heap) (Ux : OUtf3 Z h0 x c0 c1 c2) :
    ConN l Z (⟨"com/example/gatepost/gatepost/http/HttpSyntax", "isFieldValue", "(Ljava/lang/String;)Z"⟩ : MethodName) prog_53_method_3_code 3 (some FieldType.boolean) [] ({ frames := 5, cells := 0, slots := 0, locals := 66 } : Room) #[(.ref x)] h0 (fun r h => r = some (.int (own_v [c0, c1, c2])) ∧ h0 = h) := by
  obtain ⟨hw, hE, S0, hcz, S1, rf, hp0, hp1, hp2⟩ := id H
  refine ConN.of own_pf19 ?_
  intro p e s m below meth c T hby hml hret hlk hnm X0
  have EX0 := ext_refl h0
  refine OEnds.cast (own_ef12 m x ) ?_
  show OEnds p e below _ T (mkF m 0 #[.val (.ref x), .unset, .unset] [])
  refine OEnds.go (fun _ q => XS.iconst X0.here X0.hx rfl (hb hby d_prog_53_method_3_0) q) ?_
  refine OEnds.go (fun _ q => XS.istoreN X0.here X0.hx rfl (hb hby d_prog_53_method_3_1) rfl (l' := #[.val (.ref x), .val (.int (0 : Int32)), .unset]) rfl q) ?_
  show OEnds p e below _ T (mkF m 2 #[.val (.ref x), .val (.int (0 : Int32)), .unset] [])
  refine OEnds.go (fun _ q => XS.iloadN X0.here X0.hx rfl (hb hby d_prog_53_method_3_2) rfl q) ?_
  refine OEnds.go (fun _ q => XS.aloadN X0.here X0.hx rfl (hb hby d_prog_53_method_3_3) rfl rfl q) ?_
  show OEnds p e below _ T (mkF m 4 #[.val (.ref x), .val (.int (0 : Int32)), .unset] [(.ref x), (.int (0 : Int32))])
  refine X0.payV (ConN.back (W := 1) (con_ln3 H x c0 c1 c2 h0 Ux) X0.old X0.hZ (own_k hw 34 rfl) (own_k hw 6 rfl) (by decide) (by decide)) (okN (fun _ _ q => Nat.le_of_eq (congrArg Array.size q.2))) (own_k hw 30 rfl) (own_k hw 31 rfl) (own_k hw 33 rfl) (own_k hw 32 rfl)  (X0.nf (own_k hw 33 rfl)) (by decide)  Ux.1 (argsL := []) (rest := [(.int (0 : Int32))]) rfl (lenOf own_pd14 rfl) rfl (by rw [hml]; rfl) (Nat.le_of_eq rfl) (hb hby d_prog_53_method_3_4) (by decide) (by decide) ?_
  intro v6 T1 h3 Lh3 X2 q7
  replace q7 := q7.1
  obtain ⟨rfl, rfl⟩ := q7
  show OEnds p e below _ T1 (mkF m 7 #[.val (.ref x), .val (.int (0 : Int32)), .unset] [(.int (3 : Int32)), (.int (0 : Int32))])
  refine OEnds.go (fun _ q => XS.icmpNo X2.here X2.hx rfl (hb hby d_prog_53_method_3_7) rfl (tlt (by decide)).2.1 q) ?_
  show OEnds p e below _ T1 (mkF m 10 #[.val (.ref x), .val (.int (0 : Int32)), .unset] [])
  refine OEnds.go (fun _ q => XS.aloadN X2.here X2.hx rfl (hb hby d_prog_53_method_3_10) rfl rfl q) ?_
  refine OEnds.go (fun _ q => XS.iloadN X2.here X2.hx rfl (hb hby d_prog_53_method_3_11) rfl q) ?_
  show OEnds p e below _ T1 (mkF m 12 #[.val (.ref x), .val (.int (0 : Int32)), .unset] [(.int (0 : Int32)), (.ref x)])
  refine X2.payV (ConN.back (W := 0) (con_ch30 H x c0 c1 c2 hu0 h0 Ux) X2.old X2.hZ (own_k hw 58 rfl) (own_k hw 6 rfl) (by decide) (by decide)) (okN (fun _ _ q => Nat.le_of_eq (congrArg Array.size q.2))) (own_k hw 54 rfl) (own_k hw 55 rfl) (own_k hw 57 rfl) (own_k hw 56 rfl)  (X2.nf (own_k hw 57 rfl)) (by decide)  Ux.1 (argsL := [(.int (0 : Int32))]) (rest := []) rfl (lenOf own_pd15 rfl) rfl (by rw [hml]; rfl) (Nat.le_of_eq rfl) (hb hby d_prog_53_method_3_12) (by decide) (by decide) ?_
  intro v13 T8 h10 Lh10 X9 q14
  replace q14 := q14.1
  obtain ⟨rfl, rfl⟩ := q14
  show OEnds p e below _ T8 (mkF m 15 #[.val (.ref x), .val (.int (0 : Int32)), .unset] [(.int c0)])
  refine OEnds.go (fun _ q => XS.istoreN X9.here X9.hx rfl (hb hby d_prog_53_method_3_15) rfl (l' := #[.val (.ref x), .val (.int (0 : Int32)), .val (.int c0)]) rfl q) ?_
  refine OEnds.go (fun _ q => XS.iloadN X9.here X9.hx rfl (hb hby d_prog_53_method_3_16) rfl q) ?_
  show OEnds p e below _ T8 (mkF m 17 #[.val (.ref x), .val (.int (0 : Int32)), .val (.int c0)] [(.int c0)])
  refine OEnds.go (fun _ q => XS.bipush X9.here X9.hx rfl (hb hby d_prog_53_method_3_17) q) ?_
  show OEnds p e below _ T8 (mkF m 19 #[.val (.ref x), .val (.int (0 : Int32)), .val (.int c0)] [(.int (32 : Int32)), (.int c0)])
  have J0 : (c0 = 9 ∨ ¬ c0 < 32) → OEnds p e below (GN Z s (fun r h => r = some (.int (own_v [c0, c1, c2])) ∧ h0 = h) ({ frames := 5, cells := 0, slots := 0, locals := 66 } : Room).cells ({ frames := 5, cells := 0, slots := 0, locals := 66 } : Room).slots) T8 (mkF m 28 #[.val (.ref x), .val (.int (0 : Int32)), .val (.int c0)] []) := by
    intro  j0
    refine OEnds.go (fun _ q => XS.iloadN X9.here X9.hx rfl (hb hby d_prog_53_method_3_28) rfl q) ?_
    refine OEnds.go (fun _ q => XS.bipush X9.here X9.hx rfl (hb hby d_prog_53_method_3_29) q) ?_
    show OEnds p e below _ T8 (mkF m 31 #[.val (.ref x), .val (.int (0 : Int32)), .val (.int c0)] [(.int (127 : Int32)), (.int c0)])
    by_cases p0 : c0 = (127 : Int32)
    · skip
      refine OEnds.go (fun _ q => XS.icmpYes X9.here X9.hx rfl (pc0 := 31) (pc' := 41) rfl (hb hby d_prog_53_method_3_31) rfl (teq p0).1 (by decide) (by decide) q) ?_
      show OEnds p e below _ T8 (mkF m 41 #[.val (.ref x), .val (.int (0 : Int32)), .val (.int c0)] [])
      have nok : ¬ own_ok c0 := (fun q => q.elim (fun z => absurd (z.symm.trans p0) (by decide)) (fun z => z.2.1 p0))
      refine OEnds.go (fun _ q => XS.iconst X9.here X9.hx rfl (hb hby d_prog_53_method_3_41) q) ?_
      show OEnds p e below _ T8 (mkF m 42 #[.val (.ref x), .val (.int (0 : Int32)), .val (.int c0)] [(.int (0 : Int32))])
      exact X9.retBoolN hlk (by first | exact Or.inl rfl | exact Or.inr rfl | assumption) hret (hb hby d_prog_53_method_3_42) (by decide) (by decide) ⟨by rw [show own_v [c0, c1, c2] = 0 from by simp only [own_v, if_neg nok]], rfl⟩
    · skip
      refine OEnds.go (fun _ q => XS.icmpNo X9.here X9.hx rfl (hb hby d_prog_53_method_3_31) rfl (feq p0).1 q) ?_
      show OEnds p e below _ T8 (mkF m 34 #[.val (.ref x), .val (.int (0 : Int32)), .val (.int c0)] [])
      refine OEnds.go (fun _ q => XS.iloadN X9.here X9.hx rfl (hb hby d_prog_53_method_3_34) rfl q) ?_
      refine OEnds.go (fun _ q => XS.sipush X9.here X9.hx rfl (hb hby d_prog_53_method_3_35) q) ?_
      show OEnds p e below _ T8 (mkF m 38 #[.val (.ref x), .val (.int (0 : Int32)), .val (.int c0)] [(.int (255 : Int32)), (.int c0)])
      by_cases q0 : (255 : Int32) < c0
      · skip
        refine OEnds.go (fun _ q => XS.icmpNo X9.here X9.hx rfl (hb hby d_prog_53_method_3_38) rfl (tlt q0).2.2.2 q) ?_
        show OEnds p e below _ T8 (mkF m 41 #[.val (.ref x), .val (.int (0 : Int32)), .val (.int c0)] [])
        have nok : ¬ own_ok c0 := (fun q => q.elim (fun z => absurd (z ▸ q0) (by decide)) (fun z => z.2.2 q0))
        refine OEnds.go (fun _ q => XS.iconst X9.here X9.hx rfl (hb hby d_prog_53_method_3_41) q) ?_
        show OEnds p e below _ T8 (mkF m 42 #[.val (.ref x), .val (.int (0 : Int32)), .val (.int c0)] [(.int (0 : Int32))])
        exact X9.retBoolN hlk (by first | exact Or.inl rfl | exact Or.inr rfl | assumption) hret (hb hby d_prog_53_method_3_42) (by decide) (by decide) ⟨by rw [show own_v [c0, c1, c2] = 0 from by simp only [own_v, if_neg nok]], rfl⟩
      · skip
        refine OEnds.go (fun _ q => XS.icmpYes X9.here X9.hx rfl (pc0 := 38) (pc' := 43) rfl (hb hby d_prog_53_method_3_38) rfl (flt q0).2.2.2 (by decide) (by decide) q) ?_
        show OEnds p e below _ T8 (mkF m 43 #[.val (.ref x), .val (.int (0 : Int32)), .val (.int c0)] [])
        have ok0 : own_ok c0 := j0.elim Or.inl (fun z => Or.inr ⟨z, p0, q0⟩)
        refine OEnds.go (fun _ q => XS.iinc X9.here X9.hx rfl (hb hby d_prog_53_method_3_43) rfl (l' := #[.val (.ref x), .val (.int ((0 : Int32) + (1 : Int32))), .val (.int c0)]) rfl q) ?_
        show OEnds p e below _ T8 (mkF m 46 #[.val (.ref x), .val (.int ((0 : Int32) + (1 : Int32))), .val (.int c0)] [])
        rw [show ((0 : Int32) + (1 : Int32)) = (1 : Int32) from by decide]
        show OEnds p e below _ T8 (mkF m 46 #[.val (.ref x), .val (.int (1 : Int32)), .val (.int c0)] [])
        refine OEnds.go (fun _ q => XS.goto X9.here X9.hx rfl (pc0 := 46) (pc' := 2) rfl (hb hby d_prog_53_method_3_46) (by decide) (by decide) q) ?_
        refine OEnds.go (fun _ q => XS.iloadN X9.here X9.hx rfl (hb hby d_prog_53_method_3_2) rfl q) ?_
        show OEnds p e below _ T8 (mkF m 3 #[.val (.ref x), .val (.int (1 : Int32)), .val (.int c0)] [(.int (1 : Int32))])
        refine OEnds.go (fun _ q => XS.aloadN X9.here X9.hx rfl (hb hby d_prog_53_method_3_3) rfl rfl q) ?_
        show OEnds p e below _ T8 (mkF m 4 #[.val (.ref x), .val (.int (1 : Int32)), .val (.int c0)] [(.ref x), (.int (1 : Int32))])
        refine X9.payV (ConN.back (W := 1) (con_ln3 H x c0 c1 c2 h0 Ux) X9.old X9.hZ (own_k hw 34 rfl) (own_k hw 6 rfl) (by decide) (by decide)) (okN (fun _ _ q => Nat.le_of_eq (congrArg Array.size q.2))) (own_k hw 30 rfl) (own_k hw 31 rfl) (own_k hw 33 rfl) (own_k hw 32 rfl)  (X9.nf (own_k hw 33 rfl)) (by decide)  Ux.1 (argsL := []) (rest := [(.int (1 : Int32))]) rfl (lenOf own_pd14 rfl) rfl (by rw [hml]; rfl) (Nat.le_of_eq rfl) (hb hby d_prog_53_method_3_4) (by decide) (by decide) ?_
        intro v20 T15 h17 Lh17 X16 q21
        replace q21 := q21.1
        obtain ⟨rfl, rfl⟩ := q21
        show OEnds p e below _ T15 (mkF m 7 #[.val (.ref x), .val (.int (1 : Int32)), .val (.int c0)] [(.int (3 : Int32)), (.int (1 : Int32))])
        refine OEnds.go (fun _ q => XS.icmpNo X16.here X16.hx rfl (hb hby d_prog_53_method_3_7) rfl (tlt (by decide)).2.1 q) ?_
        show OEnds p e below _ T15 (mkF m 10 #[.val (.ref x), .val (.int (1 : Int32)), .val (.int c0)] [])
        refine OEnds.go (fun _ q => XS.aloadN X16.here X16.hx rfl (hb hby d_prog_53_method_3_10) rfl rfl q) ?_
        refine OEnds.go (fun _ q => XS.iloadN X16.here X16.hx rfl (hb hby d_prog_53_method_3_11) rfl q) ?_
        show OEnds p e below _ T15 (mkF m 12 #[.val (.ref x), .val (.int (1 : Int32)), .val (.int c0)] [(.int (1 : Int32)), (.ref x)])
        refine X16.payV (ConN.back (W := 0) (con_ch31 H x c0 c1 c2 hu1 h0 Ux) X16.old X16.hZ (own_k hw 58 rfl) (own_k hw 6 rfl) (by decide) (by decide)) (okN (fun _ _ q => Nat.le_of_eq (congrArg Array.size q.2))) (own_k hw 54 rfl) (own_k hw 55 rfl) (own_k hw 57 rfl) (own_k hw 56 rfl)  (X16.nf (own_k hw 57 rfl)) (by decide)  Ux.1 (argsL := [(.int (1 : Int32))]) (rest := []) rfl (lenOf own_pd15 rfl) rfl (by rw [hml]; rfl) (Nat.le_of_eq rfl) (hb hby d_prog_53_method_3_12) (by decide) (by decide) ?_
        intro v27 T22 h24 Lh24 X23 q28
        replace q28 := q28.1
        obtain ⟨rfl, rfl⟩ := q28
        show OEnds p e below _ T22 (mkF m 15 #[.val (.ref x), .val (.int (1 : Int32)), .val (.int c0)] [(.int c1)])
        refine OEnds.go (fun _ q => XS.istoreN X23.here X23.hx rfl (hb hby d_prog_53_method_3_15) rfl (l' := #[.val (.ref x), .val (.int (1 : Int32)), .val (.int c1)]) rfl q) ?_
        refine OEnds.go (fun _ q => XS.iloadN X23.here X23.hx rfl (hb hby d_prog_53_method_3_16) rfl q) ?_
        show OEnds p e below _ T22 (mkF m 17 #[.val (.ref x), .val (.int (1 : Int32)), .val (.int c1)] [(.int c1)])
        refine OEnds.go (fun _ q => XS.bipush X23.here X23.hx rfl (hb hby d_prog_53_method_3_17) q) ?_
        show OEnds p e below _ T22 (mkF m 19 #[.val (.ref x), .val (.int (1 : Int32)), .val (.int c1)] [(.int (32 : Int32)), (.int c1)])
        have J1 : (c1 = 9 ∨ ¬ c1 < 32) → OEnds p e below (GN Z s (fun r h => r = some (.int (own_v [c0, c1, c2])) ∧ h0 = h) ({ frames := 5, cells := 0, slots := 0, locals := 66 } : Room).cells ({ frames := 5, cells := 0, slots := 0, locals := 66 } : Room).slots) T22 (mkF m 28 #[.val (.ref x), .val (.int (1 : Int32)), .val (.int c1)] []) := by
          intro  j1
          refine OEnds.go (fun _ q => XS.iloadN X23.here X23.hx rfl (hb hby d_prog_53_method_3_28) rfl q) ?_
          refine OEnds.go (fun _ q => XS.bipush X23.here X23.hx rfl (hb hby d_prog_53_method_3_29) q) ?_
          show OEnds p e below _ T22 (mkF m 31 #[.val (.ref x), .val (.int (1 : Int32)), .val (.int c1)] [(.int (127 : Int32)), (.int c1)])
          by_cases p1 : c1 = (127 : Int32)
          · skip
            refine OEnds.go (fun _ q => XS.icmpYes X23.here X23.hx rfl (pc0 := 31) (pc' := 41) rfl (hb hby d_prog_53_method_3_31) rfl (teq p1).1 (by decide) (by decide) q) ?_
            show OEnds p e below _ T22 (mkF m 41 #[.val (.ref x), .val (.int (1 : Int32)), .val (.int c1)] [])
            have nok : ¬ own_ok c1 := (fun q => q.elim (fun z => absurd (z.symm.trans p1) (by decide)) (fun z => z.2.1 p1))
            refine OEnds.go (fun _ q => XS.iconst X23.here X23.hx rfl (hb hby d_prog_53_method_3_41) q) ?_
            show OEnds p e below _ T22 (mkF m 42 #[.val (.ref x), .val (.int (1 : Int32)), .val (.int c1)] [(.int (0 : Int32))])
            exact X23.retBoolN hlk (by first | exact Or.inl rfl | exact Or.inr rfl | assumption) hret (hb hby d_prog_53_method_3_42) (by decide) (by decide) ⟨by rw [show own_v [c0, c1, c2] = 0 from by simp only [own_v, if_pos ok0, if_neg nok]], rfl⟩
          · skip
            refine OEnds.go (fun _ q => XS.icmpNo X23.here X23.hx rfl (hb hby d_prog_53_method_3_31) rfl (feq p1).1 q) ?_
            show OEnds p e below _ T22 (mkF m 34 #[.val (.ref x), .val (.int (1 : Int32)), .val (.int c1)] [])
            refine OEnds.go (fun _ q => XS.iloadN X23.here X23.hx rfl (hb hby d_prog_53_method_3_34) rfl q) ?_
            refine OEnds.go (fun _ q => XS.sipush X23.here X23.hx rfl (hb hby d_prog_53_method_3_35) q) ?_
            show OEnds p e below _ T22 (mkF m 38 #[.val (.ref x), .val (.int (1 : Int32)), .val (.int c1)] [(.int (255 : Int32)), (.int c1)])
            by_cases q1 : (255 : Int32) < c1
            · skip
              refine OEnds.go (fun _ q => XS.icmpNo X23.here X23.hx rfl (hb hby d_prog_53_method_3_38) rfl (tlt q1).2.2.2 q) ?_
              show OEnds p e below _ T22 (mkF m 41 #[.val (.ref x), .val (.int (1 : Int32)), .val (.int c1)] [])
              have nok : ¬ own_ok c1 := (fun q => q.elim (fun z => absurd (z ▸ q1) (by decide)) (fun z => z.2.2 q1))
              refine OEnds.go (fun _ q => XS.iconst X23.here X23.hx rfl (hb hby d_prog_53_method_3_41) q) ?_
              show OEnds p e below _ T22 (mkF m 42 #[.val (.ref x), .val (.int (1 : Int32)), .val (.int c1)] [(.int (0 : Int32))])
              exact X23.retBoolN hlk (by first | exact Or.inl rfl | exact Or.inr rfl | assumption) hret (hb hby d_prog_53_method_3_42) (by decide) (by decide) ⟨by rw [show own_v [c0, c1, c2] = 0 from by simp only [own_v, if_pos ok0, if_neg nok]], rfl⟩
            · skip
              refine OEnds.go (fun _ q => XS.icmpYes X23.here X23.hx rfl (pc0 := 38) (pc' := 43) rfl (hb hby d_prog_53_method_3_38) rfl (flt q1).2.2.2 (by decide) (by decide) q) ?_
              show OEnds p e below _ T22 (mkF m 43 #[.val (.ref x), .val (.int (1 : Int32)), .val (.int c1)] [])
              have ok1 : own_ok c1 := j1.elim Or.inl (fun z => Or.inr ⟨z, p1, q1⟩)
              refine OEnds.go (fun _ q => XS.iinc X23.here X23.hx rfl (hb hby d_prog_53_method_3_43) rfl (l' := #[.val (.ref x), .val (.int ((1 : Int32) + (1 : Int32))), .val (.int c1)]) rfl q) ?_
              show OEnds p e below _ T22 (mkF m 46 #[.val (.ref x), .val (.int ((1 : Int32) + (1 : Int32))), .val (.int c1)] [])
              rw [show ((1 : Int32) + (1 : Int32)) = (2 : Int32) from by decide]
              show OEnds p e below _ T22 (mkF m 46 #[.val (.ref x), .val (.int (2 : Int32)), .val (.int c1)] [])
              refine OEnds.go (fun _ q => XS.goto X23.here X23.hx rfl (pc0 := 46) (pc' := 2) rfl (hb hby d_prog_53_method_3_46) (by decide) (by decide) q) ?_
              refine OEnds.go (fun _ q => XS.iloadN X23.here X23.hx rfl (hb hby d_prog_53_method_3_2) rfl q) ?_
              show OEnds p e below _ T22 (mkF m 3 #[.val (.ref x), .val (.int (2 : Int32)), .val (.int c1)] [(.int (2 : Int32))])
              refine OEnds.go (fun _ q => XS.aloadN X23.here X23.hx rfl (hb hby d_prog_53_method_3_3) rfl rfl q) ?_
              show OEnds p e below _ T22 (mkF m 4 #[.val (.ref x), .val (.int (2 : Int32)), .val (.int c1)] [(.ref x), (.int (2 : Int32))])
              refine X23.payV (ConN.back (W := 1) (con_ln3 H x c0 c1 c2 h0 Ux) X23.old X23.hZ (own_k hw 34 rfl) (own_k hw 6 rfl) (by decide) (by decide)) (okN (fun _ _ q => Nat.le_of_eq (congrArg Array.size q.2))) (own_k hw 30 rfl) (own_k hw 31 rfl) (own_k hw 33 rfl) (own_k hw 32 rfl)  (X23.nf (own_k hw 33 rfl)) (by decide)  Ux.1 (argsL := []) (rest := [(.int (2 : Int32))]) rfl (lenOf own_pd14 rfl) rfl (by rw [hml]; rfl) (Nat.le_of_eq rfl) (hb hby d_prog_53_method_3_4) (by decide) (by decide) ?_
              intro v34 T29 h31 Lh31 X30 q35
              replace q35 := q35.1
              obtain ⟨rfl, rfl⟩ := q35
              show OEnds p e below _ T29 (mkF m 7 #[.val (.ref x), .val (.int (2 : Int32)), .val (.int c1)] [(.int (3 : Int32)), (.int (2 : Int32))])
              refine OEnds.go (fun _ q => XS.icmpNo X30.here X30.hx rfl (hb hby d_prog_53_method_3_7) rfl (tlt (by decide)).2.1 q) ?_
              show OEnds p e below _ T29 (mkF m 10 #[.val (.ref x), .val (.int (2 : Int32)), .val (.int c1)] [])
              refine OEnds.go (fun _ q => XS.aloadN X30.here X30.hx rfl (hb hby d_prog_53_method_3_10) rfl rfl q) ?_
              refine OEnds.go (fun _ q => XS.iloadN X30.here X30.hx rfl (hb hby d_prog_53_method_3_11) rfl q) ?_
              show OEnds p e below _ T29 (mkF m 12 #[.val (.ref x), .val (.int (2 : Int32)), .val (.int c1)] [(.int (2 : Int32)), (.ref x)])
              refine X30.payV (ConN.back (W := 0) (con_ch32 H x c0 c1 c2 hu2 h0 Ux) X30.old X30.hZ (own_k hw 58 rfl) (own_k hw 6 rfl) (by decide) (by decide)) (okN (fun _ _ q => Nat.le_of_eq (congrArg Array.size q.2))) (own_k hw 54 rfl) (own_k hw 55 rfl) (own_k hw 57 rfl) (own_k hw 56 rfl)  (X30.nf (own_k hw 57 rfl)) (by decide)  Ux.1 (argsL := [(.int (2 : Int32))]) (rest := []) rfl (lenOf own_pd15 rfl) rfl (by rw [hml]; rfl) (Nat.le_of_eq rfl) (hb hby d_prog_53_method_3_12) (by decide) (by decide) ?_
              intro v41 T36 h38 Lh38 X37 q42
              replace q42 := q42.1
              obtain ⟨rfl, rfl⟩ := q42
              show OEnds p e below _ T36 (mkF m 15 #[.val (.ref x), .val (.int (2 : Int32)), .val (.int c1)] [(.int c2)])
              refine OEnds.go (fun _ q => XS.istoreN X37.here X37.hx rfl (hb hby d_prog_53_method_3_15) rfl (l' := #[.val (.ref x), .val (.int (2 : Int32)), .val (.int c2)]) rfl q) ?_
              refine OEnds.go (fun _ q => XS.iloadN X37.here X37.hx rfl (hb hby d_prog_53_method_3_16) rfl q) ?_
              show OEnds p e below _ T36 (mkF m 17 #[.val (.ref x), .val (.int (2 : Int32)), .val (.int c2)] [(.int c2)])
              refine OEnds.go (fun _ q => XS.bipush X37.here X37.hx rfl (hb hby d_prog_53_method_3_17) q) ?_
              show OEnds p e below _ T36 (mkF m 19 #[.val (.ref x), .val (.int (2 : Int32)), .val (.int c2)] [(.int (32 : Int32)), (.int c2)])
              have J2 : (c2 = 9 ∨ ¬ c2 < 32) → OEnds p e below (GN Z s (fun r h => r = some (.int (own_v [c0, c1, c2])) ∧ h0 = h) ({ frames := 5, cells := 0, slots := 0, locals := 66 } : Room).cells ({ frames := 5, cells := 0, slots := 0, locals := 66 } : Room).slots) T36 (mkF m 28 #[.val (.ref x), .val (.int (2 : Int32)), .val (.int c2)] []) := by
                intro  j2
                refine OEnds.go (fun _ q => XS.iloadN X37.here X37.hx rfl (hb hby d_prog_53_method_3_28) rfl q) ?_
                refine OEnds.go (fun _ q => XS.bipush X37.here X37.hx rfl (hb hby d_prog_53_method_3_29) q) ?_
                show OEnds p e below _ T36 (mkF m 31 #[.val (.ref x), .val (.int (2 : Int32)), .val (.int c2)] [(.int (127 : Int32)), (.int c2)])
                by_cases p2 : c2 = (127 : Int32)
                · skip
                  refine OEnds.go (fun _ q => XS.icmpYes X37.here X37.hx rfl (pc0 := 31) (pc' := 41) rfl (hb hby d_prog_53_method_3_31) rfl (teq p2).1 (by decide) (by decide) q) ?_
                  show OEnds p e below _ T36 (mkF m 41 #[.val (.ref x), .val (.int (2 : Int32)), .val (.int c2)] [])
                  have nok : ¬ own_ok c2 := (fun q => q.elim (fun z => absurd (z.symm.trans p2) (by decide)) (fun z => z.2.1 p2))
                  refine OEnds.go (fun _ q => XS.iconst X37.here X37.hx rfl (hb hby d_prog_53_method_3_41) q) ?_
                  show OEnds p e below _ T36 (mkF m 42 #[.val (.ref x), .val (.int (2 : Int32)), .val (.int c2)] [(.int (0 : Int32))])
                  exact X37.retBoolN hlk (by first | exact Or.inl rfl | exact Or.inr rfl | assumption) hret (hb hby d_prog_53_method_3_42) (by decide) (by decide) ⟨by rw [show own_v [c0, c1, c2] = 0 from by simp only [own_v, if_pos ok0, if_pos ok1, if_neg nok]], rfl⟩
                · skip
                  refine OEnds.go (fun _ q => XS.icmpNo X37.here X37.hx rfl (hb hby d_prog_53_method_3_31) rfl (feq p2).1 q) ?_
                  show OEnds p e below _ T36 (mkF m 34 #[.val (.ref x), .val (.int (2 : Int32)), .val (.int c2)] [])
                  refine OEnds.go (fun _ q => XS.iloadN X37.here X37.hx rfl (hb hby d_prog_53_method_3_34) rfl q) ?_
                  refine OEnds.go (fun _ q => XS.sipush X37.here X37.hx rfl (hb hby d_prog_53_method_3_35) q) ?_
                  show OEnds p e below _ T36 (mkF m 38 #[.val (.ref x), .val (.int (2 : Int32)), .val (.int c2)] [(.int (255 : Int32)), (.int c2)])
                  by_cases q2 : (255 : Int32) < c2
                  · skip
                    refine OEnds.go (fun _ q => XS.icmpNo X37.here X37.hx rfl (hb hby d_prog_53_method_3_38) rfl (tlt q2).2.2.2 q) ?_
                    show OEnds p e below _ T36 (mkF m 41 #[.val (.ref x), .val (.int (2 : Int32)), .val (.int c2)] [])
                    have nok : ¬ own_ok c2 := (fun q => q.elim (fun z => absurd (z ▸ q2) (by decide)) (fun z => z.2.2 q2))
                    refine OEnds.go (fun _ q => XS.iconst X37.here X37.hx rfl (hb hby d_prog_53_method_3_41) q) ?_
                    show OEnds p e below _ T36 (mkF m 42 #[.val (.ref x), .val (.int (2 : Int32)), .val (.int c2)] [(.int (0 : Int32))])
                    exact X37.retBoolN hlk (by first | exact Or.inl rfl | exact Or.inr rfl | assumption) hret (hb hby d_prog_53_method_3_42) (by decide) (by decide) ⟨by rw [show own_v [c0, c1, c2] = 0 from by simp only [own_v, if_pos ok0, if_pos ok1, if_neg nok]], rfl⟩
                  · skip
                    refine OEnds.go (fun _ q => XS.icmpYes X37.here X37.hx rfl (pc0 := 38) (pc' := 43) rfl (hb hby d_prog_53_method_3_38) rfl (flt q2).2.2.2 (by decide) (by decide) q) ?_
                    show OEnds p e below _ T36 (mkF m 43 #[.val (.ref x), .val (.int (2 : Int32)), .val (.int c2)] [])
                    have ok2 : own_ok c2 := j2.elim Or.inl (fun z => Or.inr ⟨z, p2, q2⟩)
                    refine OEnds.go (fun _ q => XS.iinc X37.here X37.hx rfl (hb hby d_prog_53_method_3_43) rfl (l' := #[.val (.ref x), .val (.int ((2 : Int32) + (1 : Int32))), .val (.int c2)]) rfl q) ?_
                    show OEnds p e below _ T36 (mkF m 46 #[.val (.ref x), .val (.int ((2 : Int32) + (1 : Int32))), .val (.int c2)] [])
                    rw [show ((2 : Int32) + (1 : Int32)) = (3 : Int32) from by decide]
                    show OEnds p e below _ T36 (mkF m 46 #[.val (.ref x), .val (.int (3 : Int32)), .val (.int c2)] [])
                    refine OEnds.go (fun _ q => XS.goto X37.here X37.hx rfl (pc0 := 46) (pc' := 2) rfl (hb hby d_prog_53_method_3_46) (by decide) (by decide) q) ?_
                    refine OEnds.go (fun _ q => XS.iloadN X37.here X37.hx rfl (hb hby d_prog_53_method_3_2) rfl q) ?_
                    show OEnds p e below _ T36 (mkF m 3 #[.val (.ref x), .val (.int (3 : Int32)), .val (.int c2)] [(.int (3 : Int32))])
                    refine OEnds.go (fun _ q => XS.aloadN X37.here X37.hx rfl (hb hby d_prog_53_method_3_3) rfl rfl q) ?_
                    show OEnds p e below _ T36 (mkF m 4 #[.val (.ref x), .val (.int (3 : Int32)), .val (.int c2)] [(.ref x), (.int (3 : Int32))])
                    refine X37.payV (ConN.back (W := 1) (con_ln3 H x c0 c1 c2 h0 Ux) X37.old X37.hZ (own_k hw 34 rfl) (own_k hw 6 rfl) (by decide) (by decide)) (okN (fun _ _ q => Nat.le_of_eq (congrArg Array.size q.2))) (own_k hw 30 rfl) (own_k hw 31 rfl) (own_k hw 33 rfl) (own_k hw 32 rfl)  (X37.nf (own_k hw 33 rfl)) (by decide)  Ux.1 (argsL := []) (rest := [(.int (3 : Int32))]) rfl (lenOf own_pd14 rfl) rfl (by rw [hml]; rfl) (Nat.le_of_eq rfl) (hb hby d_prog_53_method_3_4) (by decide) (by decide) ?_
                    intro v48 T43 h45 Lh45 X44 q49
                    replace q49 := q49.1
                    obtain ⟨rfl, rfl⟩ := q49
                    show OEnds p e below _ T43 (mkF m 7 #[.val (.ref x), .val (.int (3 : Int32)), .val (.int c2)] [(.int (3 : Int32)), (.int (3 : Int32))])
                    refine OEnds.go (fun _ q => XS.icmpYes X44.here X44.hx rfl (pc0 := 7) (pc' := 49) rfl (hb hby d_prog_53_method_3_7) rfl (flt (by decide)).2.1 (by decide) (by decide) q) ?_
                    show OEnds p e below _ T43 (mkF m 49 #[.val (.ref x), .val (.int (3 : Int32)), .val (.int c2)] [])
                    refine OEnds.go (fun _ q => XS.iconst X44.here X44.hx rfl (hb hby d_prog_53_method_3_49) q) ?_
                    show OEnds p e below _ T43 (mkF m 50 #[.val (.ref x), .val (.int (3 : Int32)), .val (.int c2)] [(.int (1 : Int32))])
                    exact X44.retBoolN hlk (by first | exact Or.inl rfl | exact Or.inr rfl | assumption) hret (hb hby d_prog_53_method_3_50) (by decide) (by decide) ⟨by rw [show own_v [c0, c1, c2] = 1 from by simp only [own_v, if_pos ok0, if_pos ok1, if_pos ok2]], rfl⟩
              by_cases u2 : c2 < (32 : Int32)
              · skip
                refine OEnds.go (fun _ q => XS.icmpNo X37.here X37.hx rfl (hb hby d_prog_53_method_3_19) rfl (tlt u2).2.1 q) ?_
                show OEnds p e below _ T36 (mkF m 22 #[.val (.ref x), .val (.int (2 : Int32)), .val (.int c2)] [])
                refine OEnds.go (fun _ q => XS.iloadN X37.here X37.hx rfl (hb hby d_prog_53_method_3_22) rfl q) ?_
                refine OEnds.go (fun _ q => XS.bipush X37.here X37.hx rfl (hb hby d_prog_53_method_3_23) q) ?_
                show OEnds p e below _ T36 (mkF m 25 #[.val (.ref x), .val (.int (2 : Int32)), .val (.int c2)] [(.int (9 : Int32)), (.int c2)])
                by_cases t2 : c2 = (9 : Int32)
                · skip
                  refine OEnds.go (fun _ q => XS.icmpNo X37.here X37.hx rfl (hb hby d_prog_53_method_3_25) rfl (teq t2).2 q) ?_
                  show OEnds p e below _ T36 (mkF m 28 #[.val (.ref x), .val (.int (2 : Int32)), .val (.int c2)] [])
                  exact J2 (Or.inl t2)
                · skip
                  refine OEnds.go (fun _ q => XS.icmpYes X37.here X37.hx rfl (pc0 := 25) (pc' := 41) rfl (hb hby d_prog_53_method_3_25) rfl (feq t2).2 (by decide) (by decide) q) ?_
                  show OEnds p e below _ T36 (mkF m 41 #[.val (.ref x), .val (.int (2 : Int32)), .val (.int c2)] [])
                  have nok : ¬ own_ok c2 := (fun q => q.elim t2 (fun z => z.1 u2))
                  refine OEnds.go (fun _ q => XS.iconst X37.here X37.hx rfl (hb hby d_prog_53_method_3_41) q) ?_
                  show OEnds p e below _ T36 (mkF m 42 #[.val (.ref x), .val (.int (2 : Int32)), .val (.int c2)] [(.int (0 : Int32))])
                  exact X37.retBoolN hlk (by first | exact Or.inl rfl | exact Or.inr rfl | assumption) hret (hb hby d_prog_53_method_3_42) (by decide) (by decide) ⟨by rw [show own_v [c0, c1, c2] = 0 from by simp only [own_v, if_pos ok0, if_pos ok1, if_neg nok]], rfl⟩
              · skip
                refine OEnds.go (fun _ q => XS.icmpYes X37.here X37.hx rfl (pc0 := 19) (pc' := 28) rfl (hb hby d_prog_53_method_3_19) rfl (flt u2).2.1 (by decide) (by decide) q) ?_
                show OEnds p e below _ T36 (mkF m 28 #[.val (.ref x), .val (.int (2 : Int32)), .val (.int c2)] [])
                exact J2 (Or.inr u2)
        by_cases u1 : c1 < (32 : Int32)
        · skip
          refine OEnds.go (fun _ q => XS.icmpNo X23.here X23.hx rfl (hb hby d_prog_53_method_3_19) rfl (tlt u1).2.1 q) ?_
          show OEnds p e below _ T22 (mkF m 22 #[.val (.ref x), .val (.int (1 : Int32)), .val (.int c1)] [])
          refine OEnds.go (fun _ q => XS.iloadN X23.here X23.hx rfl (hb hby d_prog_53_method_3_22) rfl q) ?_
          refine OEnds.go (fun _ q => XS.bipush X23.here X23.hx rfl (hb hby d_prog_53_method_3_23) q) ?_
          show OEnds p e below _ T22 (mkF m 25 #[.val (.ref x), .val (.int (1 : Int32)), .val (.int c1)] [(.int (9 : Int32)), (.int c1)])
          by_cases t1 : c1 = (9 : Int32)
          · skip
            refine OEnds.go (fun _ q => XS.icmpNo X23.here X23.hx rfl (hb hby d_prog_53_method_3_25) rfl (teq t1).2 q) ?_
            show OEnds p e below _ T22 (mkF m 28 #[.val (.ref x), .val (.int (1 : Int32)), .val (.int c1)] [])
            exact J1 (Or.inl t1)
          · skip
            refine OEnds.go (fun _ q => XS.icmpYes X23.here X23.hx rfl (pc0 := 25) (pc' := 41) rfl (hb hby d_prog_53_method_3_25) rfl (feq t1).2 (by decide) (by decide) q) ?_
            show OEnds p e below _ T22 (mkF m 41 #[.val (.ref x), .val (.int (1 : Int32)), .val (.int c1)] [])
            have nok : ¬ own_ok c1 := (fun q => q.elim t1 (fun z => z.1 u1))
            refine OEnds.go (fun _ q => XS.iconst X23.here X23.hx rfl (hb hby d_prog_53_method_3_41) q) ?_
            show OEnds p e below _ T22 (mkF m 42 #[.val (.ref x), .val (.int (1 : Int32)), .val (.int c1)] [(.int (0 : Int32))])
            exact X23.retBoolN hlk (by first | exact Or.inl rfl | exact Or.inr rfl | assumption) hret (hb hby d_prog_53_method_3_42) (by decide) (by decide) ⟨by rw [show own_v [c0, c1, c2] = 0 from by simp only [own_v, if_pos ok0, if_neg nok]], rfl⟩
        · skip
          refine OEnds.go (fun _ q => XS.icmpYes X23.here X23.hx rfl (pc0 := 19) (pc' := 28) rfl (hb hby d_prog_53_method_3_19) rfl (flt u1).2.1 (by decide) (by decide) q) ?_
          show OEnds p e below _ T22 (mkF m 28 #[.val (.ref x), .val (.int (1 : Int32)), .val (.int c1)] [])
          exact J1 (Or.inr u1)
  by_cases u0 : c0 < (32 : Int32)
  · skip
    refine OEnds.go (fun _ q => XS.icmpNo X9.here X9.hx rfl (hb hby d_prog_53_method_3_19) rfl (tlt u0).2.1 q) ?_
    show OEnds p e below _ T8 (mkF m 22 #[.val (.ref x), .val (.int (0 : Int32)), .val (.int c0)] [])
    refine OEnds.go (fun _ q => XS.iloadN X9.here X9.hx rfl (hb hby d_prog_53_method_3_22) rfl q) ?_
    refine OEnds.go (fun _ q => XS.bipush X9.here X9.hx rfl (hb hby d_prog_53_method_3_23) q) ?_
    show OEnds p e below _ T8 (mkF m 25 #[.val (.ref x), .val (.int (0 : Int32)), .val (.int c0)] [(.int (9 : Int32)), (.int c0)])
    by_cases t0 : c0 = (9 : Int32)
    · skip
      refine OEnds.go (fun _ q => XS.icmpNo X9.here X9.hx rfl (hb hby d_prog_53_method_3_25) rfl (teq t0).2 q) ?_
      show OEnds p e below _ T8 (mkF m 28 #[.val (.ref x), .val (.int (0 : Int32)), .val (.int c0)] [])
      exact J0 (Or.inl t0)
    · skip
      refine OEnds.go (fun _ q => XS.icmpYes X9.here X9.hx rfl (pc0 := 25) (pc' := 41) rfl (hb hby d_prog_53_method_3_25) rfl (feq t0).2 (by decide) (by decide) q) ?_
      show OEnds p e below _ T8 (mkF m 41 #[.val (.ref x), .val (.int (0 : Int32)), .val (.int c0)] [])
      have nok : ¬ own_ok c0 := (fun q => q.elim t0 (fun z => z.1 u0))
      refine OEnds.go (fun _ q => XS.iconst X9.here X9.hx rfl (hb hby d_prog_53_method_3_41) q) ?_
      show OEnds p e below _ T8 (mkF m 42 #[.val (.ref x), .val (.int (0 : Int32)), .val (.int c0)] [(.int (0 : Int32))])
      exact X9.retBoolN hlk (by first | exact Or.inl rfl | exact Or.inr rfl | assumption) hret (hb hby d_prog_53_method_3_42) (by decide) (by decide) ⟨by rw [show own_v [c0, c1, c2] = 0 from by simp only [own_v, if_neg nok]], rfl⟩
  · skip
    refine OEnds.go (fun _ q => XS.icmpYes X9.here X9.hx rfl (pc0 := 19) (pc' := 28) rfl (hb hby d_prog_53_method_3_19) rfl (flt u0).2.1 (by decide) (by decide) q) ?_
    show OEnds p e below _ T8 (mkF m 28 #[.val (.ref x), .val (.int (0 : Int32)), .val (.int c0)] [])
    exact J0 (Or.inr u0)
theorem con_draw {l : Launch} {Z : State} {a0 : Array Value} {cz : Int32} {fm : Value} (H : Ctx Z a0 cz fm) (u : Int32) (h0 : Heap)  :
    ConX l Z consts_1 (⟨"com/example/gatepost/gatepost/http/HttpSyntaxIsFieldValuePinLaw", "draw", "(I)C"⟩ : MethodName) method_2_code 1 (some FieldType.char) [] ({ frames := 0, cells := 0, slots := 0, locals := 0 } : Room) #[(.int u)] h0 (fun r h => ∃ v : Int32, r = some (.int v) ∧ h0 = h ∧ (¬ v < 0 ∧ ¬ (65535 : Int32) < v)) := by
  obtain ⟨hw, hE, S0, hcz, S1, rf, hp0, hp1, hp2⟩ := id H
  refine ConX.of own_pf20 ?_
  intro p e s m below meth c T hby hml hret hlk hnm X0
  have EX0 := ext_refl h0
  refine OEnds.cast (own_ef2 m u ) ?_
  show OEnds p e below _ T (mkF m 0 #[.val (.int u)] [])
  refine OEnds.go (fun _ q => XS.iloadN X0.here X0.hx rfl (hb hby d_method_2_0) rfl q) ?_
  refine OEnds.go (fun _ q => XS.bipush X0.here X0.hx rfl (hb hby d_method_2_1) q) ?_
  show OEnds p e below _ T (mkF m 3 #[.val (.int u)] [(.int (16 : Int32)), (.int u)])
  refine OEnds.go (fun _ q => XS.iushr X0.here X0.hx rfl (hb hby d_method_2_3) rfl q) ?_
  refine OEnds.go (fun _ q => XS.iconst X0.here X0.hx rfl (hb hby d_method_2_4) q) ?_
  show OEnds p e below _ T (mkF m 5 #[.val (.int u)] [(.int (1 : Int32)), (.int (u.toUInt32 >>> ((16 : Int32) &&& 31).toUInt32).toInt32)])
  refine OEnds.go (fun _ q => XS.iand X0.here X0.hx rfl (hb hby d_method_2_5) rfl q) ?_
  show OEnds p e below _ T (mkF m 6 #[.val (.int u)] [(.int ((u.toUInt32 >>> ((16 : Int32) &&& 31).toUInt32).toInt32 &&& (1 : Int32)))])
  by_cases hc : ((u.toUInt32 >>> ((16 : Int32) &&& 31).toUInt32).toInt32 &&& (1 : Int32)) = (0 : Int32)
  · skip
    refine OEnds.go (fun _ q => XS.ifYes X0.here X0.hx rfl (pc0 := 6) (pc' := 12) rfl (hb hby d_method_2_6) rfl ((if0 _ _).trans (teq hc).1) (by decide) (by decide) q) ?_
    show OEnds p e below _ T (mkF m 12 #[.val (.int u)] [])
    refine OEnds.go (fun _ q => XS.iloadN X0.here X0.hx rfl (hb hby d_method_2_12) rfl q) ?_
    refine OEnds.go (fun _ q => XS.sipush X0.here X0.hx rfl (hb hby d_method_2_13) q) ?_
    show OEnds p e below _ T (mkF m 16 #[.val (.int u)] [(.int (255 : Int32)), (.int u)])
    refine OEnds.go (fun _ q => XS.iand X0.here X0.hx rfl (hb hby d_method_2_16) rfl q) ?_
    refine OEnds.go (fun _ q => XS.i2c X0.here X0.hx rfl (hb hby d_method_2_17) rfl q) ?_
    show OEnds p e below _ T (mkF m 18 #[.val (.int u)] [(.int ((u &&& (255 : Int32)).toUInt32.toUInt16.toUInt32.toInt32))])
    obtain ⟨cv, hcv⟩ : ∃ z : Int32, z = ((u &&& (255 : Int32)).toUInt32.toUInt16.toUInt32.toInt32) := ⟨_, rfl⟩
    rw [← hcv]
    show OEnds p e below _ T (mkF m 18 #[.val (.int u)] [(.int cv)])
    have hcb := own_i2c hcv
    exact X0.retChar hE hlk hcb hret (hb hby d_method_2_18) (by decide) (by decide) ⟨_, rfl, rfl, hcb⟩
  · skip
    refine OEnds.go (fun _ q => XS.ifNo X0.here X0.hx rfl (hb hby d_method_2_6) rfl ((if0 _ _).trans (feq hc).1) q) ?_
    show OEnds p e below _ T (mkF m 9 #[.val (.int u)] [])
    refine OEnds.go (fun _ q => XS.iloadN X0.here X0.hx rfl (hb hby d_method_2_9) rfl q) ?_
    refine OEnds.go (fun _ q => XS.i2c X0.here X0.hx rfl (hb hby d_method_2_10) rfl q) ?_
    show OEnds p e below _ T (mkF m 11 #[.val (.int u)] [(.int (u.toUInt32.toUInt16.toUInt32.toInt32))])
    obtain ⟨cv, hcv⟩ : ∃ z : Int32, z = (u.toUInt32.toUInt16.toUInt32.toInt32) := ⟨_, rfl⟩
    rw [← hcv]
    show OEnds p e below _ T (mkF m 11 #[.val (.int u)] [(.int cv)])
    have hcb := own_i2c hcv
    exact X0.retChar hE hlk hcb hret (hb hby d_method_2_11) (by decide) (by decide) ⟨_, rfl, rfl, hcb⟩
theorem con_ok {l : Launch} {Z : State} {a0 : Array Value} {cz : Int32} {fm : Value} (H : Ctx Z a0 cz fm) (v : Int32) (h0 : Heap)  :
    ConX l Z consts_1 (⟨"com/example/gatepost/gatepost/http/HttpSyntaxIsFieldValuePinLaw", "ok", "(C)Z"⟩ : MethodName) method_3_code 1 (some FieldType.boolean) [] ({ frames := 0, cells := 0, slots := 0, locals := 0 } : Room) #[(.int v)] h0 (fun r h => r = some (.int (if own_ok v then 1 else 0)) ∧ h0 = h) := by
  obtain ⟨hw, hE, S0, hcz, S1, rf, hp0, hp1, hp2⟩ := id H
  refine ConX.of own_pf21 ?_
  intro p e s m below meth c T hby hml hret hlk hnm X0
  have EX0 := ext_refl h0
  refine OEnds.cast (own_ef2 m v ) ?_
  show OEnds p e below _ T (mkF m 0 #[.val (.int v)] [])
  refine OEnds.go (fun _ q => XS.iloadN X0.here X0.hx rfl (hb hby d_method_3_0) rfl q) ?_
  refine OEnds.go (fun _ q => XS.bipush X0.here X0.hx rfl (hb hby d_method_3_1) q) ?_
  show OEnds p e below _ T (mkF m 3 #[.val (.int v)] [(.int (9 : Int32)), (.int v)])
  by_cases h1 : v = (9 : Int32)
  · skip
    refine OEnds.go (fun _ q => XS.icmpNo X0.here X0.hx rfl (hb hby d_method_3_3) rfl (teq h1).2 q) ?_
    show OEnds p e below _ T (mkF m 6 #[.val (.int v)] [])
    refine OEnds.go (fun _ q => XS.iconst X0.here X0.hx rfl (hb hby d_method_3_6) q) ?_
    show OEnds p e below _ T (mkF m 7 #[.val (.int v)] [(.int (1 : Int32))])
    exact X0.retBool hE hlk (by first | exact Or.inl rfl | exact Or.inr rfl | assumption) hret (hb hby d_method_3_7) (by decide) (by decide) ⟨by rw [if_pos (show own_ok v from Or.inl h1)], rfl⟩
  · skip
    refine OEnds.go (fun _ q => XS.icmpYes X0.here X0.hx rfl (pc0 := 3) (pc' := 8) rfl (hb hby d_method_3_3) rfl (feq h1).2 (by decide) (by decide) q) ?_
    show OEnds p e below _ T (mkF m 8 #[.val (.int v)] [])
    refine OEnds.go (fun _ q => XS.iloadN X0.here X0.hx rfl (hb hby d_method_3_8) rfl q) ?_
    refine OEnds.go (fun _ q => XS.bipush X0.here X0.hx rfl (hb hby d_method_3_9) q) ?_
    show OEnds p e below _ T (mkF m 11 #[.val (.int v)] [(.int (32 : Int32)), (.int v)])
    by_cases h2 : v < (32 : Int32)
    · skip
      refine OEnds.go (fun _ q => XS.icmpNo X0.here X0.hx rfl (hb hby d_method_3_11) rfl (tlt h2).2.1 q) ?_
      show OEnds p e below _ T (mkF m 14 #[.val (.int v)] [])
      refine OEnds.go (fun _ q => XS.iconst X0.here X0.hx rfl (hb hby d_method_3_14) q) ?_
      show OEnds p e below _ T (mkF m 15 #[.val (.int v)] [(.int (0 : Int32))])
      exact X0.retBool hE hlk (by first | exact Or.inl rfl | exact Or.inr rfl | assumption) hret (hb hby d_method_3_15) (by decide) (by decide) ⟨by rw [if_neg (show ¬ own_ok v from fun q => q.elim h1 (fun z => z.1 h2))], rfl⟩
    · skip
      refine OEnds.go (fun _ q => XS.icmpYes X0.here X0.hx rfl (pc0 := 11) (pc' := 16) rfl (hb hby d_method_3_11) rfl (flt h2).2.1 (by decide) (by decide) q) ?_
      show OEnds p e below _ T (mkF m 16 #[.val (.int v)] [])
      refine OEnds.go (fun _ q => XS.iloadN X0.here X0.hx rfl (hb hby d_method_3_16) rfl q) ?_
      refine OEnds.go (fun _ q => XS.bipush X0.here X0.hx rfl (hb hby d_method_3_17) q) ?_
      show OEnds p e below _ T (mkF m 19 #[.val (.int v)] [(.int (127 : Int32)), (.int v)])
      by_cases h3 : v = (127 : Int32)
      · skip
        refine OEnds.go (fun _ q => XS.icmpNo X0.here X0.hx rfl (hb hby d_method_3_19) rfl (teq h3).2 q) ?_
        show OEnds p e below _ T (mkF m 22 #[.val (.int v)] [])
        refine OEnds.go (fun _ q => XS.iconst X0.here X0.hx rfl (hb hby d_method_3_22) q) ?_
        show OEnds p e below _ T (mkF m 23 #[.val (.int v)] [(.int (0 : Int32))])
        exact X0.retBool hE hlk (by first | exact Or.inl rfl | exact Or.inr rfl | assumption) hret (hb hby d_method_3_23) (by decide) (by decide) ⟨by rw [if_neg (show ¬ own_ok v from fun q => q.elim h1 (fun z => z.2.1 h3))], rfl⟩
      · skip
        refine OEnds.go (fun _ q => XS.icmpYes X0.here X0.hx rfl (pc0 := 19) (pc' := 24) rfl (hb hby d_method_3_19) rfl (feq h3).2 (by decide) (by decide) q) ?_
        show OEnds p e below _ T (mkF m 24 #[.val (.int v)] [])
        refine OEnds.go (fun _ q => XS.iloadN X0.here X0.hx rfl (hb hby d_method_3_24) rfl q) ?_
        refine OEnds.go (fun _ q => XS.sipush X0.here X0.hx rfl (hb hby d_method_3_25) q) ?_
        show OEnds p e below _ T (mkF m 28 #[.val (.int v)] [(.int (255 : Int32)), (.int v)])
        by_cases h4 : (255 : Int32) < v
        · skip
          refine OEnds.go (fun _ q => XS.icmpYes X0.here X0.hx rfl (pc0 := 28) (pc' := 35) rfl (hb hby d_method_3_28) rfl (tlt h4).2.2.1 (by decide) (by decide) q) ?_
          show OEnds p e below _ T (mkF m 35 #[.val (.int v)] [])
          refine OEnds.go (fun _ q => XS.iconst X0.here X0.hx rfl (hb hby d_method_3_35) q) ?_
          show OEnds p e below _ T (mkF m 36 #[.val (.int v)] [(.int (0 : Int32))])
          exact X0.retBool hE hlk (by first | exact Or.inl rfl | exact Or.inr rfl | assumption) hret (hb hby d_method_3_36) (by decide) (by decide) ⟨by rw [if_neg (show ¬ own_ok v from fun q => q.elim h1 (fun z => z.2.2 h4))], rfl⟩
        · skip
          refine OEnds.go (fun _ q => XS.icmpNo X0.here X0.hx rfl (hb hby d_method_3_28) rfl (flt h4).2.2.1 q) ?_
          show OEnds p e below _ T (mkF m 31 #[.val (.int v)] [])
          refine OEnds.go (fun _ q => XS.iconst X0.here X0.hx rfl (hb hby d_method_3_31) q) ?_
          refine OEnds.go (fun _ q => XS.goto X0.here X0.hx rfl (pc0 := 32) (pc' := 36) rfl (hb hby d_method_3_32) (by decide) (by decide) q) ?_
          show OEnds p e below _ T (mkF m 36 #[.val (.int v)] [(.int (1 : Int32))])
          exact X0.retBool hE hlk (by first | exact Or.inl rfl | exact Or.inr rfl | assumption) hret (hb hby d_method_3_36) (by decide) (by decide) ⟨by rw [if_pos (show own_ok v from Or.inr ⟨h2, h3, h4⟩)], rfl⟩
theorem con_law {l : Launch} {Z : State} {a0 : Array Value} {cz : Int32} {fm : Value} (H : Ctx Z a0 cz fm) (x0 x1 x2 x3 : Int32) (h0 : Heap)  :
    ConX l Z consts_1 x code maxLocals ret tables_1 room_1 #[(.int x0), (.int x1), (.int x2), (.int x3)] h0 (fun r h => r = some (.int 1)) := by
  obtain ⟨hw, hE, S0, hcz, S1, rf, hp0, hp1, hp2⟩ := id H
  refine ConX.of own_pf22 ?_
  intro p e s m below meth c T hby hml hret hlk hnm X0
  have EX0 := ext_refl h0
  refine OEnds.cast (own_ef13 m x0 x1 x2 x3 ) ?_
  show OEnds p e below _ T (mkF m 0 #[.val (.int x0), .val (.int x1), .val (.int x2), .val (.int x3), .unset, .unset, .unset, .unset, .unset, .unset] [])
  refine OEnds.go (fun _ q => XS.iloadN X0.here X0.hx rfl (hb hby at_0) rfl q) ?_
  show OEnds p e below _ T (mkF m 1 #[.val (.int x0), .val (.int x1), .val (.int x2), .val (.int x3), .unset, .unset, .unset, .unset, .unset, .unset] [(.int x0)])
  refine OEnds.go (fun _ q => XS.iconst X0.here X0.hx rfl (hb hby at_1) q) ?_
  show OEnds p e below _ T (mkF m 2 #[.val (.int x0), .val (.int x1), .val (.int x2), .val (.int x3), .unset, .unset, .unset, .unset, .unset, .unset] [(.int (3 : Int32)), (.int x0)])
  refine OEnds.go (fun _ q => XS.iand X0.here X0.hx rfl (hb hby at_2) rfl q) ?_
  show OEnds p e below _ T (mkF m 3 #[.val (.int x0), .val (.int x1), .val (.int x2), .val (.int x3), .unset, .unset, .unset, .unset, .unset, .unset] [(.int (x0 &&& (3 : Int32)))])
  obtain ⟨nn, hnn⟩ : ∃ z : Int32, z = (x0 &&& (3 : Int32)) := ⟨_, rfl⟩
  rw [← hnn]
  show OEnds p e below _ T (mkF m 3 #[.val (.int x0), .val (.int x1), .val (.int x2), .val (.int x3), .unset, .unset, .unset, .unset, .unset, .unset] [(.int nn)])
  refine OEnds.go (fun _ q => XS.istore X0.here X0.hx rfl (hb hby at_3) rfl (l' := #[.val (.int x0), .val (.int x1), .val (.int x2), .val (.int x3), .val (.int nn), .unset, .unset, .unset, .unset, .unset]) rfl q) ?_
  refine OEnds.go (fun _ q => XS.iloadN X0.here X0.hx rfl (hb hby at_5) rfl q) ?_
  show OEnds p e below _ T (mkF m 6 #[.val (.int x0), .val (.int x1), .val (.int x2), .val (.int x3), .val (.int nn), .unset, .unset, .unset, .unset, .unset] [(.int x1)])
  refine X0.callS hE (con_draw H x1 h0) (own_k hw 0 rfl) (own_k hw 1 rfl) (own_k hw 2 rfl) (own_k hw 3 rfl)  (by decide) (W := 0) (by decide) (by decide) (argsL := [(.int x1)]) (rest := []) rfl (lenOf own_pd15 rfl) rfl (by rw [hml]; rfl) (Nat.le_of_eq rfl) (hb hby at_6) (by decide) (by decide) ?_
  intro v6 vm4 T1 h3 X2 C5 q7
  obtain ⟨c0, rfl, rfl, hc0⟩ := q7
  show OEnds p e below _ T1 (mkF m 9 #[.val (.int x0), .val (.int x1), .val (.int x2), .val (.int x3), .val (.int nn), .unset, .unset, .unset, .unset, .unset] [(.int c0)])
  refine OEnds.go (fun _ q => XS.istore X2.here X2.hx rfl (hb hby at_9) rfl (l' := #[.val (.int x0), .val (.int x1), .val (.int x2), .val (.int x3), .val (.int nn), .val (.int c0), .unset, .unset, .unset, .unset]) rfl q) ?_
  refine OEnds.go (fun _ q => XS.iloadN X2.here X2.hx rfl (hb hby at_11) rfl q) ?_
  show OEnds p e below _ T1 (mkF m 12 #[.val (.int x0), .val (.int x1), .val (.int x2), .val (.int x3), .val (.int nn), .val (.int c0), .unset, .unset, .unset, .unset] [(.int x2)])
  refine X2.callS hE (con_draw H x2 h0) (own_k hw 0 rfl) (own_k hw 1 rfl) (own_k hw 2 rfl) (own_k hw 3 rfl)  (by decide) (W := 0) (by decide) (by decide) (argsL := [(.int x2)]) (rest := []) rfl (lenOf own_pd15 rfl) rfl (by rw [hml]; rfl) (Nat.le_of_eq rfl) (hb hby at_12) (by decide) (by decide) ?_
  intro v13 vm11 T8 h10 X9 C12 q14
  obtain ⟨c1, rfl, rfl, hc1⟩ := q14
  show OEnds p e below _ T8 (mkF m 15 #[.val (.int x0), .val (.int x1), .val (.int x2), .val (.int x3), .val (.int nn), .val (.int c0), .unset, .unset, .unset, .unset] [(.int c1)])
  refine OEnds.go (fun _ q => XS.istore X9.here X9.hx rfl (hb hby at_15) rfl (l' := #[.val (.int x0), .val (.int x1), .val (.int x2), .val (.int x3), .val (.int nn), .val (.int c0), .val (.int c1), .unset, .unset, .unset]) rfl q) ?_
  refine OEnds.go (fun _ q => XS.iloadN X9.here X9.hx rfl (hb hby at_17) rfl q) ?_
  show OEnds p e below _ T8 (mkF m 18 #[.val (.int x0), .val (.int x1), .val (.int x2), .val (.int x3), .val (.int nn), .val (.int c0), .val (.int c1), .unset, .unset, .unset] [(.int x3)])
  refine X9.callS hE (con_draw H x3 h0) (own_k hw 0 rfl) (own_k hw 1 rfl) (own_k hw 2 rfl) (own_k hw 3 rfl)  (by decide) (W := 0) (by decide) (by decide) (argsL := [(.int x3)]) (rest := []) rfl (lenOf own_pd15 rfl) rfl (by rw [hml]; rfl) (Nat.le_of_eq rfl) (hb hby at_18) (by decide) (by decide) ?_
  intro v20 vm18 T15 h17 X16 C19 q21
  obtain ⟨c2, rfl, rfl, hc2⟩ := q21
  show OEnds p e below _ T15 (mkF m 21 #[.val (.int x0), .val (.int x1), .val (.int x2), .val (.int x3), .val (.int nn), .val (.int c0), .val (.int c1), .unset, .unset, .unset] [(.int c2)])
  refine OEnds.go (fun _ q => XS.istore X16.here X16.hx rfl (hb hby at_21) rfl (l' := #[.val (.int x0), .val (.int x1), .val (.int x2), .val (.int x3), .val (.int nn), .val (.int c0), .val (.int c1), .val (.int c2), .unset, .unset]) rfl q) ?_
  refine OEnds.go (fun _ q => XS.iload X16.here X16.hx rfl (hb hby at_23) rfl q) ?_
  show OEnds p e below _ T15 (mkF m 25 #[.val (.int x0), .val (.int x1), .val (.int x2), .val (.int x3), .val (.int nn), .val (.int c0), .val (.int c1), .val (.int c2), .unset, .unset] [(.int nn)])
  by_cases hn0 : nn = (0 : Int32)
  · skip
    refine OEnds.go (fun _ q => XS.ifNo X16.here X16.hx rfl (hb hby at_25) rfl ((if0 _ _).trans (teq hn0).2) q) ?_
    show OEnds p e below _ T15 (mkF m 28 #[.val (.int x0), .val (.int x1), .val (.int x2), .val (.int x3), .val (.int nn), .val (.int c0), .val (.int c1), .val (.int c2), .unset, .unset] [])
    refine X16.newO (own_k hw 4 rfl) (own_k hw 5 rfl) (own_k hw 6 rfl) (hb hby at_28) (by decide) (by decide) ?_
    intro T22 h24 a26 ga26 X23 E25 Aa26 Da26 Ua26
    have gza26 : Z.heap.size ≤ a26 := ga26 ▸ X16.old.1
    have EX_h24 := ext_trans EX0 E25
    have Fa26_value : Fld Z h24 a26 "java/lang/String" "value" "[B" .null := Da26 (Or.inr (own_k hw 20 rfl)) (ty := (FieldType.array FieldType.byte)) (by decide)
    have Fa26_coder : Fld Z h24 a26 "java/lang/String" "coder" "B" (.int (0 : Int32)) := Da26 (Or.inr (own_k hw 21 rfl)) (ty := FieldType.byte) (by decide)
    show OEnds p e below _ T22 (mkF m 31 #[.val (.int x0), .val (.int x1), .val (.int x2), .val (.int x3), .val (.int nn), .val (.int c0), .val (.int c1), .val (.int c2), .unset, .unset] [(.ref a26)])
    refine OEnds.go (fun _ q => XS.dup X23.here X23.hx rfl (hb hby at_31) rfl rfl q) ?_
    refine OEnds.go (fun _ q => XS.iconst X23.here X23.hx rfl (hb hby at_32) q) ?_
    show OEnds p e below _ T22 (mkF m 33 #[.val (.int x0), .val (.int x1), .val (.int x2), .val (.int x3), .val (.int nn), .val (.int c0), .val (.int c1), .val (.int c2), .unset, .unset] [(.int (0 : Int32)), (.ref a26), (.ref a26)])
    refine X23.newP (own_k hw 7 rfl) (hb hby at_33) (by decide) (cap := 0) (by decide) (by decide) (by decide) (by decide) ?_
    intro T27 h29 a31 ka31 ga31 X28 E30 Ka31
    have gza31 : Z.heap.size ≤ a31 := ga31 ▸ X23.old.1
    have Aa26_h29 := Aa26.ext E30
    have Fa26_value_h29 := Fa26_value.ext E30
    have Fa26_coder_h29 := Fa26_coder.ext E30
    have EBa26_h29 := ext_trans E25 E30
    have EX_h29 := ext_trans EX_h24 E30
    have Ka31_0 : Arv Z h29 a31 ka31 .char (0 : Int32) [] (.int (0 : Int32)) := Ka31.pad (pad_rep [] (.int (0 : Int32)) 0)
    show OEnds p e below _ T27 (mkF m 35 #[.val (.int x0), .val (.int x1), .val (.int x2), .val (.int x3), .val (.int nn), .val (.int c0), .val (.int c1), .val (.int c2), .unset, .unset] [(.ref a31), (.ref a26), (.ref a26)])
    refine X28.callI hE (con_strE H a26 a31 ka31 (.int (0 : Int32)) gza26 h29 Aa26_h29 Fa26_value_h29 Fa26_coder_h29 Ka31_0) (own_k hw 8 rfl) (own_k hw 9 rfl) (own_k hw 6 rfl) (own_k hw 10 rfl) rfl (by decide) (W := 1) (by decide) (by decide) (a := a26) (argsL := [(.ref a31)]) (rest := [(.ref a26)]) rfl (lenOf own_pd16 rfl) rfl (by rw [hml]; rfl) (Nat.le_of_eq rfl) (hb hby at_35) (by decide) (by decide) ?_
    intro v39 vm37 T34 h36 X35 C38 q40
    obtain ⟨rfl, K32, Str33⟩ := q40
    have EBa26_h36 := ext_keep EBa26_h29 K32 (allS (Nat.le_of_eq ga26) all0)
    have EX_h36 := ext_keep EX_h29 K32 (allS (Nat.le_trans EX0.1 (Nat.le_of_eq ga26)) all0)
    show OEnds p e below _ T34 (mkF m 38 #[.val (.int x0), .val (.int x1), .val (.int x2), .val (.int x3), .val (.int nn), .val (.int c0), .val (.int c1), .val (.int c2), .unset, .unset] [(.ref a26)])
    refine OEnds.go (fun _ q => XS.astore X35.here X35.hx rfl (hb hby at_38) rfl rfl (l' := #[.val (.int x0), .val (.int x1), .val (.int x2), .val (.int x3), .val (.int nn), .val (.int c0), .val (.int c1), .val (.int c2), .val (.ref a26), .unset]) rfl q) ?_
    refine OEnds.go (fun _ q => XS.iconst X35.here X35.hx rfl (hb hby at_40) q) ?_
    show OEnds p e below _ T34 (mkF m 41 #[.val (.int x0), .val (.int x1), .val (.int x2), .val (.int x3), .val (.int nn), .val (.int c0), .val (.int c1), .val (.int c2), .val (.ref a26), .unset] [(.int (1 : Int32))])
    refine OEnds.go (fun _ q => XS.istore X35.here X35.hx rfl (hb hby at_41) rfl (l' := #[.val (.int x0), .val (.int x1), .val (.int x2), .val (.int x3), .val (.int nn), .val (.int c0), .val (.int c1), .val (.int c2), .val (.ref a26), .val (.int (1 : Int32))]) rfl q) ?_
    refine OEnds.go (fun _ q => XS.goto X35.here X35.hx rfl (pc0 := 43) (pc' := 191) rfl (hb hby at_43) (by decide) (by decide) q) ?_
    show OEnds p e below _ T34 (mkF m 191 #[.val (.int x0), .val (.int x1), .val (.int x2), .val (.int x3), .val (.int nn), .val (.int c0), .val (.int c1), .val (.int c2), .val (.ref a26), .val (.int (1 : Int32))] [])
    refine OEnds.go (fun _ q => XS.aload X35.here X35.hx rfl (hb hby at_191) rfl rfl q) ?_
    show OEnds p e below _ T34 (mkF m 193 #[.val (.int x0), .val (.int x1), .val (.int x2), .val (.int x3), .val (.int nn), .val (.int c0), .val (.int c1), .val (.int c2), .val (.ref a26), .val (.int (1 : Int32))] [(.ref a26)])
    refine X35.payS (ConN.back (W := 0) (con_ifvL0 H a26   h36 Str33) X35.old X35.hZ  (own_k hw 29 rfl) (own_k hw 28 rfl) (by decide) (by decide)) (okV X35) (own_k hw 26 rfl) (own_k hw 27 rfl) (own_k hw 28 rfl) (own_k hw 29 rfl) (by decide) (argsL := [(.ref a26)]) (rest := []) rfl (lenOf own_pd17 rfl) rfl (by rw [hml]; rfl) (Nat.le_of_eq rfl) (hb hby at_193) (by decide) (by decide) ?_
    intro v41 T42 h43 L44 X45 q46
    obtain ⟨⟨rfl, rfl⟩, -⟩ := q46
    show OEnds p e below _ T42 (mkF m 196 #[.val (.int x0), .val (.int x1), .val (.int x2), .val (.int x3), .val (.int nn), .val (.int c0), .val (.int c1), .val (.int c2), .val (.ref a26), .val (.int (1 : Int32))] [(.int (own_v []))])
    refine OEnds.go (fun _ q => XS.iload X45.here X45.hx rfl (hb hby at_196) rfl q) ?_
    show OEnds p e below _ T42 (mkF m 198 #[.val (.int x0), .val (.int x1), .val (.int x2), .val (.int x3), .val (.int nn), .val (.int c0), .val (.int c1), .val (.int c2), .val (.ref a26), .val (.int (1 : Int32))] [(.int (1 : Int32)), (.int (own_v []))])
    refine OEnds.go (fun _ q => XS.icmpNo X45.here X45.hx rfl (hb hby at_198) rfl (teq (by simp only [own_v])).2 q) ?_
    show OEnds p e below _ T42 (mkF m 201 #[.val (.int x0), .val (.int x1), .val (.int x2), .val (.int x3), .val (.int nn), .val (.int c0), .val (.int c1), .val (.int c2), .val (.ref a26), .val (.int (1 : Int32))] [])
    refine OEnds.go (fun _ q => XS.iconst X45.here X45.hx rfl (hb hby at_201) q) ?_
    refine OEnds.go (fun _ q => XS.goto X45.here X45.hx rfl (pc0 := 202) (pc' := 206) rfl (hb hby at_202) (by decide) (by decide) q) ?_
    show OEnds p e below _ T42 (mkF m 206 #[.val (.int x0), .val (.int x1), .val (.int x2), .val (.int x3), .val (.int nn), .val (.int c0), .val (.int c1), .val (.int c2), .val (.ref a26), .val (.int (1 : Int32))] [(.int (1 : Int32))])
    exact X45.retBool hE hlk (by first | exact Or.inl rfl | exact Or.inr rfl | assumption) hret (hb hby at_206) (by decide) (by decide) rfl
  · skip
    refine OEnds.go (fun _ q => XS.ifYes X16.here X16.hx rfl (pc0 := 25) (pc' := 46) rfl (hb hby at_25) rfl ((if0 _ _).trans (feq hn0).2) (by decide) (by decide) q) ?_
    show OEnds p e below _ T15 (mkF m 46 #[.val (.int x0), .val (.int x1), .val (.int x2), .val (.int x3), .val (.int nn), .val (.int c0), .val (.int c1), .val (.int c2), .unset, .unset] [])
    refine OEnds.go (fun _ q => XS.iload X16.here X16.hx rfl (hb hby at_46) rfl q) ?_
    refine OEnds.go (fun _ q => XS.iconst X16.here X16.hx rfl (hb hby at_48) q) ?_
    show OEnds p e below _ T15 (mkF m 49 #[.val (.int x0), .val (.int x1), .val (.int x2), .val (.int x3), .val (.int nn), .val (.int c0), .val (.int c1), .val (.int c2), .unset, .unset] [(.int (1 : Int32)), (.int nn)])
    by_cases hn1 : nn = (1 : Int32)
    · skip
      refine OEnds.go (fun _ q => XS.icmpNo X16.here X16.hx rfl (hb hby at_49) rfl (teq hn1).2 q) ?_
      show OEnds p e below _ T15 (mkF m 52 #[.val (.int x0), .val (.int x1), .val (.int x2), .val (.int x3), .val (.int nn), .val (.int c0), .val (.int c1), .val (.int c2), .unset, .unset] [])
      refine X16.newO (own_k hw 4 rfl) (own_k hw 5 rfl) (own_k hw 6 rfl) (hb hby at_52) (by decide) (by decide) ?_
      intro T47 h49 a51 ga51 X48 E50 Aa51 Da51 Ua51
      have gza51 : Z.heap.size ≤ a51 := ga51 ▸ X16.old.1
      have EX_h49 := ext_trans EX0 E50
      have Fa51_value : Fld Z h49 a51 "java/lang/String" "value" "[B" .null := Da51 (Or.inr (own_k hw 20 rfl)) (ty := (FieldType.array FieldType.byte)) (by decide)
      have Fa51_coder : Fld Z h49 a51 "java/lang/String" "coder" "B" (.int (0 : Int32)) := Da51 (Or.inr (own_k hw 21 rfl)) (ty := FieldType.byte) (by decide)
      show OEnds p e below _ T47 (mkF m 55 #[.val (.int x0), .val (.int x1), .val (.int x2), .val (.int x3), .val (.int nn), .val (.int c0), .val (.int c1), .val (.int c2), .unset, .unset] [(.ref a51)])
      refine OEnds.go (fun _ q => XS.dup X48.here X48.hx rfl (hb hby at_55) rfl rfl q) ?_
      refine OEnds.go (fun _ q => XS.iconst X48.here X48.hx rfl (hb hby at_56) q) ?_
      show OEnds p e below _ T47 (mkF m 57 #[.val (.int x0), .val (.int x1), .val (.int x2), .val (.int x3), .val (.int nn), .val (.int c0), .val (.int c1), .val (.int c2), .unset, .unset] [(.int (1 : Int32)), (.ref a51), (.ref a51)])
      refine X48.newP (own_k hw 7 rfl) (hb hby at_57) (by decide) (cap := 1) (by decide) (by decide) (by decide) (by decide) ?_
      intro T52 h54 a56 ka56 ga56 X53 E55 Ka56
      have gza56 : Z.heap.size ≤ a56 := ga56 ▸ X48.old.1
      have Aa51_h54 := Aa51.ext E55
      have Fa51_value_h54 := Fa51_value.ext E55
      have Fa51_coder_h54 := Fa51_coder.ext E55
      have EBa51_h54 := ext_trans E50 E55
      have EX_h54 := ext_trans EX_h49 E55
      have Ka56_0 : Arv Z h54 a56 ka56 .char (1 : Int32) [.int (0 : Int32)] (.int (0 : Int32)) := Ka56.pad (pad_rep [] (.int (0 : Int32)) 1)
      show OEnds p e below _ T52 (mkF m 59 #[.val (.int x0), .val (.int x1), .val (.int x2), .val (.int x3), .val (.int nn), .val (.int c0), .val (.int c1), .val (.int c2), .unset, .unset] [(.ref a56), (.ref a51), (.ref a51)])
      refine OEnds.go (fun _ q => XS.dup X53.here X53.hx rfl (hb hby at_59) rfl rfl q) ?_
      refine OEnds.go (fun _ q => XS.iconst X53.here X53.hx rfl (hb hby at_60) q) ?_
      show OEnds p e below _ T52 (mkF m 61 #[.val (.int x0), .val (.int x1), .val (.int x2), .val (.int x3), .val (.int nn), .val (.int c0), .val (.int c1), .val (.int c2), .unset, .unset] [(.int (0 : Int32)), (.ref a56), (.ref a56), (.ref a51), (.ref a51)])
      refine OEnds.go (fun _ q => XS.iload X53.here X53.hx rfl (hb hby at_61) rfl q) ?_
      show OEnds p e below _ T52 (mkF m 63 #[.val (.int x0), .val (.int x1), .val (.int x2), .val (.int x3), .val (.int nn), .val (.int c0), .val (.int c1), .val (.int c2), .unset, .unset] [(.int c0), (.int (0 : Int32)), (.ref a56), (.ref a56), (.ref a51), (.ref a51)])
      refine X53.stC Ka56_0 (by decide) hc0 (i := 0) rfl (Nat.le_of_ble_eq_true rfl) gza56 (hb hby at_63) ?_
      intro T57 h59 X58 W60 Ka56_h59x
      have Ka56_h59 : Arv Z h59 a56 ka56 .char (1 : Int32) [.int c0] (.int (0 : Int32)) := Ka56_h59x
      have EBa56_h59 := ext_wr E55 W60 (Nat.le_of_eq ga56)
      have Aa51_h59 := Aa51.ext EBa56_h59
      have Fa51_value_h59 := Fa51_value.ext EBa56_h59
      have Fa51_coder_h59 := Fa51_coder.ext EBa56_h59
      have EX_h59 := ext_wr EX_h54 W60 (Nat.le_trans EX_h49.1 (Nat.le_of_eq ga56))
      have EBa51_h59 := ext_wr EBa51_h54 W60 (Nat.le_trans E50.1 (Nat.le_of_eq ga56))
      show OEnds p e below _ T57 (mkF m 64 #[.val (.int x0), .val (.int x1), .val (.int x2), .val (.int x3), .val (.int nn), .val (.int c0), .val (.int c1), .val (.int c2), .unset, .unset] [(.ref a56), (.ref a51), (.ref a51)])
      by_cases b0 : (255 : Int32) < c0
      · skip
        refine X58.payI (ConN.back (W := 1) (con_nu10 H a51 a56 ka56 c0 b0 hc0 gza51 h59 Aa51_h59 Fa51_value_h59 Fa51_coder_h59 Ka56_h59) X58.old X58.hZ (own_k hw 10 rfl) (own_k hw 6 rfl) (by decide) (by decide)) ?_ (own_k hw 8 rfl) (own_k hw 9 rfl) (own_k hw 10 rfl) rfl (by decide) (a := a51) (argsL := [.ref a56]) (rest := [(.ref a51)]) rfl (lenOf own_pdC rfl) rfl (by rw [hml]; rfl) (Nat.le_of_eq rfl) (hb hby at_64) (by decide) (by decide) ?_
        · rintro v hh L ⟨⟨-, q3, -⟩, q2, -⟩
          exact ⟨q2, ext_keep X58.old q3 (allS gza51 all0), CHr.keep q3 (sfS (safe_blank X58.al Aa51_h59 Fa51_value_h59) sf0) X58.chv⟩
        intro v61 T62 h63 L64 X65 q66
        obtain ⟨⟨rfl, K67, U68⟩, -⟩ := q66
        show OEnds p e below _ T62 (mkF m 67 #[.val (.int x0), .val (.int x1), .val (.int x2), .val (.int x3), .val (.int nn), .val (.int c0), .val (.int c1), .val (.int c2), .unset, .unset] [(.ref a51)])
        refine OEnds.go (fun _ q => XS.astore X65.here X65.hx rfl (hb hby at_67) rfl rfl (l' := #[.val (.int x0), .val (.int x1), .val (.int x2), .val (.int x3), .val (.int nn), .val (.int c0), .val (.int c1), .val (.int c2), .val (.ref a51), .unset]) rfl q) ?_
        refine OEnds.go (fun _ q => XS.iload X65.here X65.hx rfl (hb hby at_69) rfl q) ?_
        show OEnds p e below _ T62 (mkF m 71 #[.val (.int x0), .val (.int x1), .val (.int x2), .val (.int x3), .val (.int nn), .val (.int c0), .val (.int c1), .val (.int c2), .val (.ref a51), .unset] [(.int c0)])
        refine X65.callS hE (con_ok H c0 h63) (own_k hw 51 rfl) (own_k hw 52 rfl) (own_k hw 2 rfl) (own_k hw 53 rfl)  (by decide) (W := 0) (by decide) (by decide) (argsL := [(.int c0)]) (rest := []) rfl (lenOf own_pd18 rfl) rfl (by rw [hml]; rfl) (Nat.le_of_eq rfl) (hb hby at_71) (by decide) (by decide) ?_
        intro v74 vm72 T69 h71 X70 C73 q75
        obtain ⟨rfl, rfl⟩ := q75
        show OEnds p e below _ T69 (mkF m 74 #[.val (.int x0), .val (.int x1), .val (.int x2), .val (.int x3), .val (.int nn), .val (.int c0), .val (.int c1), .val (.int c2), .val (.ref a51), .unset] [(.int (if own_ok c0 then 1 else 0))])
        refine OEnds.go (fun _ q => XS.istore X70.here X70.hx rfl (hb hby at_74) rfl (l' := #[.val (.int x0), .val (.int x1), .val (.int x2), .val (.int x3), .val (.int nn), .val (.int c0), .val (.int c1), .val (.int c2), .val (.ref a51), .val (.int (if own_ok c0 then 1 else 0))]) rfl q) ?_
        refine OEnds.go (fun _ q => XS.goto X70.here X70.hx rfl (pc0 := 76) (pc' := 191) rfl (hb hby at_76) (by decide) (by decide) q) ?_
        show OEnds p e below _ T69 (mkF m 191 #[.val (.int x0), .val (.int x1), .val (.int x2), .val (.int x3), .val (.int nn), .val (.int c0), .val (.int c1), .val (.int c2), .val (.ref a51), .val (.int (if own_ok c0 then 1 else 0))] [])
        refine OEnds.go (fun _ q => XS.aload X70.here X70.hx rfl (hb hby at_191) rfl rfl q) ?_
        show OEnds p e below _ T69 (mkF m 193 #[.val (.int x0), .val (.int x1), .val (.int x2), .val (.int x3), .val (.int nn), .val (.int c0), .val (.int c1), .val (.int c2), .val (.ref a51), .val (.int (if own_ok c0 then 1 else 0))] [(.ref a51)])
        refine X70.payS (ConN.back (W := 0) (con_ifvU1 H a51 c0 hc0 h63 U68) X70.old X70.hZ  (own_k hw 29 rfl) (own_k hw 28 rfl) (by decide) (by decide)) (okV X70) (own_k hw 26 rfl) (own_k hw 27 rfl) (own_k hw 28 rfl) (own_k hw 29 rfl) (by decide) (argsL := [(.ref a51)]) (rest := []) rfl (lenOf own_pd17 rfl) rfl (by rw [hml]; rfl) (Nat.le_of_eq rfl) (hb hby at_193) (by decide) (by decide) ?_
        intro v76 T77 h78 L79 X80 q81
        obtain ⟨⟨rfl, rfl⟩, -⟩ := q81
        show OEnds p e below _ T77 (mkF m 196 #[.val (.int x0), .val (.int x1), .val (.int x2), .val (.int x3), .val (.int nn), .val (.int c0), .val (.int c1), .val (.int c2), .val (.ref a51), .val (.int (if own_ok c0 then 1 else 0))] [(.int (own_v [c0]))])
        refine OEnds.go (fun _ q => XS.iload X80.here X80.hx rfl (hb hby at_196) rfl q) ?_
        show OEnds p e below _ T77 (mkF m 198 #[.val (.int x0), .val (.int x1), .val (.int x2), .val (.int x3), .val (.int nn), .val (.int c0), .val (.int c1), .val (.int c2), .val (.ref a51), .val (.int (if own_ok c0 then 1 else 0))] [(.int (if own_ok c0 then 1 else 0)), (.int (own_v [c0]))])
        refine OEnds.go (fun _ q => XS.icmpNo X80.here X80.hx rfl (hb hby at_198) rfl (teq (by simp only [own_v])).2 q) ?_
        show OEnds p e below _ T77 (mkF m 201 #[.val (.int x0), .val (.int x1), .val (.int x2), .val (.int x3), .val (.int nn), .val (.int c0), .val (.int c1), .val (.int c2), .val (.ref a51), .val (.int (if own_ok c0 then 1 else 0))] [])
        refine OEnds.go (fun _ q => XS.iconst X80.here X80.hx rfl (hb hby at_201) q) ?_
        refine OEnds.go (fun _ q => XS.goto X80.here X80.hx rfl (pc0 := 202) (pc' := 206) rfl (hb hby at_202) (by decide) (by decide) q) ?_
        show OEnds p e below _ T77 (mkF m 206 #[.val (.int x0), .val (.int x1), .val (.int x2), .val (.int x3), .val (.int nn), .val (.int c0), .val (.int c1), .val (.int c2), .val (.ref a51), .val (.int (if own_ok c0 then 1 else 0))] [(.int (1 : Int32))])
        exact X80.retBool hE hlk (by first | exact Or.inl rfl | exact Or.inr rfl | assumption) hret (hb hby at_206) (by decide) (by decide) rfl
      · skip
        refine own_newStr H X58 (cs := [c0]) (j := 1) gza51 Aa51_h59 Fa51_value_h59 Fa51_coder_h59 Ka56_h59 rfl rfl (by decide) (by decide) (all_cons ⟨hc0.1, b0⟩ all_nil) (own_k hw 8 rfl) (W := 1) (by decide) (by decide) (by rw [hml]; rfl) (Nat.le_of_eq rfl) (hb hby at_64) (by decide) (by decide) ?_
        intro T82 h84 X83 K85 Str86
        have EBa51_h84 := ext_keep EBa51_h59 K85 (allS (Nat.le_of_eq ga51) all0)
        have EX_h84 := ext_keep EX_h59 K85 (allS (Nat.le_trans EX0.1 (Nat.le_of_eq ga51)) all0)
        show OEnds p e below _ T82 (mkF m 67 #[.val (.int x0), .val (.int x1), .val (.int x2), .val (.int x3), .val (.int nn), .val (.int c0), .val (.int c1), .val (.int c2), .unset, .unset] [(.ref a51)])
        refine OEnds.go (fun _ q => XS.astore X83.here X83.hx rfl (hb hby at_67) rfl rfl (l' := #[.val (.int x0), .val (.int x1), .val (.int x2), .val (.int x3), .val (.int nn), .val (.int c0), .val (.int c1), .val (.int c2), .val (.ref a51), .unset]) rfl q) ?_
        refine OEnds.go (fun _ q => XS.iload X83.here X83.hx rfl (hb hby at_69) rfl q) ?_
        show OEnds p e below _ T82 (mkF m 71 #[.val (.int x0), .val (.int x1), .val (.int x2), .val (.int x3), .val (.int nn), .val (.int c0), .val (.int c1), .val (.int c2), .val (.ref a51), .unset] [(.int c0)])
        refine X83.callS hE (con_ok H c0 h84) (own_k hw 51 rfl) (own_k hw 52 rfl) (own_k hw 2 rfl) (own_k hw 53 rfl)  (by decide) (W := 0) (by decide) (by decide) (argsL := [(.int c0)]) (rest := []) rfl (lenOf own_pd18 rfl) rfl (by rw [hml]; rfl) (Nat.le_of_eq rfl) (hb hby at_71) (by decide) (by decide) ?_
        intro v92 vm90 T87 h89 X88 C91 q93
        obtain ⟨rfl, rfl⟩ := q93
        show OEnds p e below _ T87 (mkF m 74 #[.val (.int x0), .val (.int x1), .val (.int x2), .val (.int x3), .val (.int nn), .val (.int c0), .val (.int c1), .val (.int c2), .val (.ref a51), .unset] [(.int (if own_ok c0 then 1 else 0))])
        refine OEnds.go (fun _ q => XS.istore X88.here X88.hx rfl (hb hby at_74) rfl (l' := #[.val (.int x0), .val (.int x1), .val (.int x2), .val (.int x3), .val (.int nn), .val (.int c0), .val (.int c1), .val (.int c2), .val (.ref a51), .val (.int (if own_ok c0 then 1 else 0))]) rfl q) ?_
        refine OEnds.go (fun _ q => XS.goto X88.here X88.hx rfl (pc0 := 76) (pc' := 191) rfl (hb hby at_76) (by decide) (by decide) q) ?_
        show OEnds p e below _ T87 (mkF m 191 #[.val (.int x0), .val (.int x1), .val (.int x2), .val (.int x3), .val (.int nn), .val (.int c0), .val (.int c1), .val (.int c2), .val (.ref a51), .val (.int (if own_ok c0 then 1 else 0))] [])
        refine OEnds.go (fun _ q => XS.aload X88.here X88.hx rfl (hb hby at_191) rfl rfl q) ?_
        show OEnds p e below _ T87 (mkF m 193 #[.val (.int x0), .val (.int x1), .val (.int x2), .val (.int x3), .val (.int nn), .val (.int c0), .val (.int c1), .val (.int c2), .val (.ref a51), .val (.int (if own_ok c0 then 1 else 0))] [(.ref a51)])
        refine X88.payS (ConN.back (W := 0) (con_ifvL1 H a51 c0  h84 Str86) X88.old X88.hZ  (own_k hw 29 rfl) (own_k hw 28 rfl) (by decide) (by decide)) (okV X88) (own_k hw 26 rfl) (own_k hw 27 rfl) (own_k hw 28 rfl) (own_k hw 29 rfl) (by decide) (argsL := [(.ref a51)]) (rest := []) rfl (lenOf own_pd17 rfl) rfl (by rw [hml]; rfl) (Nat.le_of_eq rfl) (hb hby at_193) (by decide) (by decide) ?_
        intro v94 T95 h96 L97 X98 q99
        obtain ⟨⟨rfl, rfl⟩, -⟩ := q99
        show OEnds p e below _ T95 (mkF m 196 #[.val (.int x0), .val (.int x1), .val (.int x2), .val (.int x3), .val (.int nn), .val (.int c0), .val (.int c1), .val (.int c2), .val (.ref a51), .val (.int (if own_ok c0 then 1 else 0))] [(.int (own_v [c0]))])
        refine OEnds.go (fun _ q => XS.iload X98.here X98.hx rfl (hb hby at_196) rfl q) ?_
        show OEnds p e below _ T95 (mkF m 198 #[.val (.int x0), .val (.int x1), .val (.int x2), .val (.int x3), .val (.int nn), .val (.int c0), .val (.int c1), .val (.int c2), .val (.ref a51), .val (.int (if own_ok c0 then 1 else 0))] [(.int (if own_ok c0 then 1 else 0)), (.int (own_v [c0]))])
        refine OEnds.go (fun _ q => XS.icmpNo X98.here X98.hx rfl (hb hby at_198) rfl (teq (by simp only [own_v])).2 q) ?_
        show OEnds p e below _ T95 (mkF m 201 #[.val (.int x0), .val (.int x1), .val (.int x2), .val (.int x3), .val (.int nn), .val (.int c0), .val (.int c1), .val (.int c2), .val (.ref a51), .val (.int (if own_ok c0 then 1 else 0))] [])
        refine OEnds.go (fun _ q => XS.iconst X98.here X98.hx rfl (hb hby at_201) q) ?_
        refine OEnds.go (fun _ q => XS.goto X98.here X98.hx rfl (pc0 := 202) (pc' := 206) rfl (hb hby at_202) (by decide) (by decide) q) ?_
        show OEnds p e below _ T95 (mkF m 206 #[.val (.int x0), .val (.int x1), .val (.int x2), .val (.int x3), .val (.int nn), .val (.int c0), .val (.int c1), .val (.int c2), .val (.ref a51), .val (.int (if own_ok c0 then 1 else 0))] [(.int (1 : Int32))])
        exact X98.retBool hE hlk (by first | exact Or.inl rfl | exact Or.inr rfl | assumption) hret (hb hby at_206) (by decide) (by decide) rfl
    · skip
      refine OEnds.go (fun _ q => XS.icmpYes X16.here X16.hx rfl (pc0 := 49) (pc' := 79) rfl (hb hby at_49) rfl (feq hn1).2 (by decide) (by decide) q) ?_
      show OEnds p e below _ T15 (mkF m 79 #[.val (.int x0), .val (.int x1), .val (.int x2), .val (.int x3), .val (.int nn), .val (.int c0), .val (.int c1), .val (.int c2), .unset, .unset] [])
      refine OEnds.go (fun _ q => XS.iload X16.here X16.hx rfl (hb hby at_79) rfl q) ?_
      refine OEnds.go (fun _ q => XS.iconst X16.here X16.hx rfl (hb hby at_81) q) ?_
      show OEnds p e below _ T15 (mkF m 82 #[.val (.int x0), .val (.int x1), .val (.int x2), .val (.int x3), .val (.int nn), .val (.int c0), .val (.int c1), .val (.int c2), .unset, .unset] [(.int (2 : Int32)), (.int nn)])
      by_cases hn2 : nn = (2 : Int32)
      · skip
        refine OEnds.go (fun _ q => XS.icmpNo X16.here X16.hx rfl (hb hby at_82) rfl (teq hn2).2 q) ?_
        show OEnds p e below _ T15 (mkF m 85 #[.val (.int x0), .val (.int x1), .val (.int x2), .val (.int x3), .val (.int nn), .val (.int c0), .val (.int c1), .val (.int c2), .unset, .unset] [])
        refine X16.newO (own_k hw 4 rfl) (own_k hw 5 rfl) (own_k hw 6 rfl) (hb hby at_85) (by decide) (by decide) ?_
        intro T100 h102 a104 ga104 X101 E103 Aa104 Da104 Ua104
        have gza104 : Z.heap.size ≤ a104 := ga104 ▸ X16.old.1
        have EX_h102 := ext_trans EX0 E103
        have Fa104_value : Fld Z h102 a104 "java/lang/String" "value" "[B" .null := Da104 (Or.inr (own_k hw 20 rfl)) (ty := (FieldType.array FieldType.byte)) (by decide)
        have Fa104_coder : Fld Z h102 a104 "java/lang/String" "coder" "B" (.int (0 : Int32)) := Da104 (Or.inr (own_k hw 21 rfl)) (ty := FieldType.byte) (by decide)
        show OEnds p e below _ T100 (mkF m 88 #[.val (.int x0), .val (.int x1), .val (.int x2), .val (.int x3), .val (.int nn), .val (.int c0), .val (.int c1), .val (.int c2), .unset, .unset] [(.ref a104)])
        refine OEnds.go (fun _ q => XS.dup X101.here X101.hx rfl (hb hby at_88) rfl rfl q) ?_
        refine OEnds.go (fun _ q => XS.iconst X101.here X101.hx rfl (hb hby at_89) q) ?_
        show OEnds p e below _ T100 (mkF m 90 #[.val (.int x0), .val (.int x1), .val (.int x2), .val (.int x3), .val (.int nn), .val (.int c0), .val (.int c1), .val (.int c2), .unset, .unset] [(.int (2 : Int32)), (.ref a104), (.ref a104)])
        refine X101.newP (own_k hw 7 rfl) (hb hby at_90) (by decide) (cap := 2) (by decide) (by decide) (by decide) (by decide) ?_
        intro T105 h107 a109 ka109 ga109 X106 E108 Ka109
        have gza109 : Z.heap.size ≤ a109 := ga109 ▸ X101.old.1
        have Aa104_h107 := Aa104.ext E108
        have Fa104_value_h107 := Fa104_value.ext E108
        have Fa104_coder_h107 := Fa104_coder.ext E108
        have EBa104_h107 := ext_trans E103 E108
        have EX_h107 := ext_trans EX_h102 E108
        have Ka109_0 : Arv Z h107 a109 ka109 .char (2 : Int32) [.int (0 : Int32), .int (0 : Int32)] (.int (0 : Int32)) := Ka109.pad (pad_rep [] (.int (0 : Int32)) 2)
        show OEnds p e below _ T105 (mkF m 92 #[.val (.int x0), .val (.int x1), .val (.int x2), .val (.int x3), .val (.int nn), .val (.int c0), .val (.int c1), .val (.int c2), .unset, .unset] [(.ref a109), (.ref a104), (.ref a104)])
        refine OEnds.go (fun _ q => XS.dup X106.here X106.hx rfl (hb hby at_92) rfl rfl q) ?_
        refine OEnds.go (fun _ q => XS.iconst X106.here X106.hx rfl (hb hby at_93) q) ?_
        show OEnds p e below _ T105 (mkF m 94 #[.val (.int x0), .val (.int x1), .val (.int x2), .val (.int x3), .val (.int nn), .val (.int c0), .val (.int c1), .val (.int c2), .unset, .unset] [(.int (0 : Int32)), (.ref a109), (.ref a109), (.ref a104), (.ref a104)])
        refine OEnds.go (fun _ q => XS.iload X106.here X106.hx rfl (hb hby at_94) rfl q) ?_
        show OEnds p e below _ T105 (mkF m 96 #[.val (.int x0), .val (.int x1), .val (.int x2), .val (.int x3), .val (.int nn), .val (.int c0), .val (.int c1), .val (.int c2), .unset, .unset] [(.int c0), (.int (0 : Int32)), (.ref a109), (.ref a109), (.ref a104), (.ref a104)])
        refine X106.stC Ka109_0 (by decide) hc0 (i := 0) rfl (Nat.le_of_ble_eq_true rfl) gza109 (hb hby at_96) ?_
        intro T110 h112 X111 W113 Ka109_h112x
        have Ka109_h112 : Arv Z h112 a109 ka109 .char (2 : Int32) [.int c0, .int (0 : Int32)] (.int (0 : Int32)) := Ka109_h112x
        have EBa109_h112 := ext_wr E108 W113 (Nat.le_of_eq ga109)
        have Aa104_h112 := Aa104.ext EBa109_h112
        have Fa104_value_h112 := Fa104_value.ext EBa109_h112
        have Fa104_coder_h112 := Fa104_coder.ext EBa109_h112
        have EX_h112 := ext_wr EX_h107 W113 (Nat.le_trans EX_h102.1 (Nat.le_of_eq ga109))
        have EBa104_h112 := ext_wr EBa104_h107 W113 (Nat.le_trans E103.1 (Nat.le_of_eq ga109))
        show OEnds p e below _ T110 (mkF m 97 #[.val (.int x0), .val (.int x1), .val (.int x2), .val (.int x3), .val (.int nn), .val (.int c0), .val (.int c1), .val (.int c2), .unset, .unset] [(.ref a109), (.ref a104), (.ref a104)])
        refine OEnds.go (fun _ q => XS.dup X111.here X111.hx rfl (hb hby at_97) rfl rfl q) ?_
        refine OEnds.go (fun _ q => XS.iconst X111.here X111.hx rfl (hb hby at_98) q) ?_
        show OEnds p e below _ T110 (mkF m 99 #[.val (.int x0), .val (.int x1), .val (.int x2), .val (.int x3), .val (.int nn), .val (.int c0), .val (.int c1), .val (.int c2), .unset, .unset] [(.int (1 : Int32)), (.ref a109), (.ref a109), (.ref a104), (.ref a104)])
        refine OEnds.go (fun _ q => XS.iload X111.here X111.hx rfl (hb hby at_99) rfl q) ?_
        show OEnds p e below _ T110 (mkF m 101 #[.val (.int x0), .val (.int x1), .val (.int x2), .val (.int x3), .val (.int nn), .val (.int c0), .val (.int c1), .val (.int c2), .unset, .unset] [(.int c1), (.int (1 : Int32)), (.ref a109), (.ref a109), (.ref a104), (.ref a104)])
        refine X111.stC Ka109_h112 (by decide) hc1 (i := 1) rfl (Nat.le_of_ble_eq_true rfl) gza109 (hb hby at_101) ?_
        intro T114 h116 X115 W117 Ka109_h116x
        have Ka109_h116 : Arv Z h116 a109 ka109 .char (2 : Int32) [.int c0, .int c1] (.int (0 : Int32)) := Ka109_h116x
        have EBa109_h116 := ext_wr EBa109_h112 W117 (Nat.le_of_eq ga109)
        have Aa104_h116 := Aa104.ext EBa109_h116
        have Fa104_value_h116 := Fa104_value.ext EBa109_h116
        have Fa104_coder_h116 := Fa104_coder.ext EBa109_h116
        have EX_h116 := ext_wr EX_h112 W117 (Nat.le_trans EX_h102.1 (Nat.le_of_eq ga109))
        have EBa104_h116 := ext_wr EBa104_h112 W117 (Nat.le_trans E103.1 (Nat.le_of_eq ga109))
        show OEnds p e below _ T114 (mkF m 102 #[.val (.int x0), .val (.int x1), .val (.int x2), .val (.int x3), .val (.int nn), .val (.int c0), .val (.int c1), .val (.int c2), .unset, .unset] [(.ref a109), (.ref a104), (.ref a104)])
        by_cases b0 : (255 : Int32) < c0
        · skip
          refine X115.payI (ConN.back (W := 1) (con_nu20 H a104 a109 ka109 c0 c1 b0 hc0 gza104 h116 Aa104_h116 Fa104_value_h116 Fa104_coder_h116 Ka109_h116) X115.old X115.hZ (own_k hw 10 rfl) (own_k hw 6 rfl) (by decide) (by decide)) ?_ (own_k hw 8 rfl) (own_k hw 9 rfl) (own_k hw 10 rfl) rfl (by decide) (a := a104) (argsL := [.ref a109]) (rest := [(.ref a104)]) rfl (lenOf own_pdC rfl) rfl (by rw [hml]; rfl) (Nat.le_of_eq rfl) (hb hby at_102) (by decide) (by decide) ?_
          · rintro v hh L ⟨⟨-, q3, -⟩, q2, -⟩
            exact ⟨q2, ext_keep X115.old q3 (allS gza104 all0), CHr.keep q3 (sfS (safe_blank X115.al Aa104_h116 Fa104_value_h116) sf0) X115.chv⟩
          intro v118 T119 h120 L121 X122 q123
          obtain ⟨⟨rfl, K124, U125⟩, -⟩ := q123
          show OEnds p e below _ T119 (mkF m 105 #[.val (.int x0), .val (.int x1), .val (.int x2), .val (.int x3), .val (.int nn), .val (.int c0), .val (.int c1), .val (.int c2), .unset, .unset] [(.ref a104)])
          refine OEnds.go (fun _ q => XS.astore X122.here X122.hx rfl (hb hby at_105) rfl rfl (l' := #[.val (.int x0), .val (.int x1), .val (.int x2), .val (.int x3), .val (.int nn), .val (.int c0), .val (.int c1), .val (.int c2), .val (.ref a104), .unset]) rfl q) ?_
          refine OEnds.go (fun _ q => XS.iload X122.here X122.hx rfl (hb hby at_107) rfl q) ?_
          show OEnds p e below _ T119 (mkF m 109 #[.val (.int x0), .val (.int x1), .val (.int x2), .val (.int x3), .val (.int nn), .val (.int c0), .val (.int c1), .val (.int c2), .val (.ref a104), .unset] [(.int c0)])
          have JE : ∀ (vmj127 : Vm) (Tj127 : State) (hj127 : Heap) (ev : Int32), OSt p l e room_1 s m #[(.int x0), (.int x1), (.int x2), (.int x3)] below meth c "com/example/gatepost/gatepost/http/HttpSyntaxIsFieldValuePinLaw" Z consts_1 vmj127 Tj127 hj127 4 12 → OUtf2 Z hj127 a104 c0 c1 → ev = own_v [c0, c1] → OEnds p e below (GW Z consts_1 s (fun r h => r = some (.int 1)) room_1.cells room_1.slots) Tj127 (mkF m 128 #[.val (.int x0), .val (.int x1), .val (.int x2), .val (.int x3), .val (.int nn), .val (.int c0), .val (.int c1), .val (.int c2), .val (.ref a104), .unset] [(.int ev)]) := by
            intro vmj127 Tj127 hj127 ev Xj127 hS hev
            refine OEnds.go (fun _ q => XS.istore Xj127.here Xj127.hx rfl (hb hby at_128) rfl (l' := #[.val (.int x0), .val (.int x1), .val (.int x2), .val (.int x3), .val (.int nn), .val (.int c0), .val (.int c1), .val (.int c2), .val (.ref a104), .val (.int ev)]) rfl q) ?_
            refine OEnds.go (fun _ q => XS.goto Xj127.here Xj127.hx rfl (pc0 := 130) (pc' := 191) rfl (hb hby at_130) (by decide) (by decide) q) ?_
            show OEnds p e below _ Tj127 (mkF m 191 #[.val (.int x0), .val (.int x1), .val (.int x2), .val (.int x3), .val (.int nn), .val (.int c0), .val (.int c1), .val (.int c2), .val (.ref a104), .val (.int ev)] [])
            refine OEnds.go (fun _ q => XS.aload Xj127.here Xj127.hx rfl (hb hby at_191) rfl rfl q) ?_
            show OEnds p e below _ Tj127 (mkF m 193 #[.val (.int x0), .val (.int x1), .val (.int x2), .val (.int x3), .val (.int nn), .val (.int c0), .val (.int c1), .val (.int c2), .val (.ref a104), .val (.int ev)] [(.ref a104)])
            refine Xj127.payS (ConN.back (W := 0) (con_ifvU2 H a104 c0 c1 hc0 hc1 hj127 hS) Xj127.old Xj127.hZ  (own_k hw 29 rfl) (own_k hw 28 rfl) (by decide) (by decide)) (okV Xj127) (own_k hw 26 rfl) (own_k hw 27 rfl) (own_k hw 28 rfl) (own_k hw 29 rfl) (by decide) (argsL := [(.ref a104)]) (rest := []) rfl (lenOf own_pd17 rfl) rfl (by rw [hml]; rfl) (Nat.le_of_eq rfl) (hb hby at_193) (by decide) (by decide) ?_
            intro v128 T129 h130 L131 X132 q133
            obtain ⟨⟨rfl, rfl⟩, -⟩ := q133
            show OEnds p e below _ T129 (mkF m 196 #[.val (.int x0), .val (.int x1), .val (.int x2), .val (.int x3), .val (.int nn), .val (.int c0), .val (.int c1), .val (.int c2), .val (.ref a104), .val (.int ev)] [(.int (own_v [c0, c1]))])
            refine OEnds.go (fun _ q => XS.iload X132.here X132.hx rfl (hb hby at_196) rfl q) ?_
            show OEnds p e below _ T129 (mkF m 198 #[.val (.int x0), .val (.int x1), .val (.int x2), .val (.int x3), .val (.int nn), .val (.int c0), .val (.int c1), .val (.int c2), .val (.ref a104), .val (.int ev)] [(.int ev), (.int (own_v [c0, c1]))])
            refine OEnds.go (fun _ q => XS.icmpNo X132.here X132.hx rfl (hb hby at_198) rfl (teq hev.symm).2 q) ?_
            show OEnds p e below _ T129 (mkF m 201 #[.val (.int x0), .val (.int x1), .val (.int x2), .val (.int x3), .val (.int nn), .val (.int c0), .val (.int c1), .val (.int c2), .val (.ref a104), .val (.int ev)] [])
            refine OEnds.go (fun _ q => XS.iconst X132.here X132.hx rfl (hb hby at_201) q) ?_
            refine OEnds.go (fun _ q => XS.goto X132.here X132.hx rfl (pc0 := 202) (pc' := 206) rfl (hb hby at_202) (by decide) (by decide) q) ?_
            show OEnds p e below _ T129 (mkF m 206 #[.val (.int x0), .val (.int x1), .val (.int x2), .val (.int x3), .val (.int nn), .val (.int c0), .val (.int c1), .val (.int c2), .val (.ref a104), .val (.int ev)] [(.int (1 : Int32))])
            exact X132.retBool hE hlk (by first | exact Or.inl rfl | exact Or.inr rfl | assumption) hret (hb hby at_206) (by decide) (by decide) rfl
          refine X122.callS hE (con_ok H c0 h120) (own_k hw 51 rfl) (own_k hw 52 rfl) (own_k hw 2 rfl) (own_k hw 53 rfl)  (by decide) (W := 0) (by decide) (by decide) (argsL := [(.int c0)]) (rest := []) rfl (lenOf own_pd18 rfl) rfl (by rw [hml]; rfl) (Nat.le_of_eq rfl) (hb hby at_109) (by decide) (by decide) ?_
          intro v139 vm137 T134 h136 X135 C138 q140
          obtain ⟨rfl, rfl⟩ := q140
          show OEnds p e below _ T134 (mkF m 112 #[.val (.int x0), .val (.int x1), .val (.int x2), .val (.int x3), .val (.int nn), .val (.int c0), .val (.int c1), .val (.int c2), .val (.ref a104), .unset] [(.int (if own_ok c0 then 1 else 0))])
          by_cases e0 : (if own_ok c0 then 1 else 0) = (0 : Int32)
          · skip
            refine OEnds.go (fun _ q => XS.ifYes X135.here X135.hx rfl (pc0 := 112) (pc' := 127) rfl (hb hby at_112) rfl ((if0 _ _).trans (teq e0).1) (by decide) (by decide) q) ?_
            show OEnds p e below _ T134 (mkF m 127 #[.val (.int x0), .val (.int x1), .val (.int x2), .val (.int x3), .val (.int nn), .val (.int c0), .val (.int c1), .val (.int c2), .val (.ref a104), .unset] [])
            refine OEnds.go (fun _ q => XS.iconst X135.here X135.hx rfl (hb hby at_127) q) ?_
            show OEnds p e below _ T134 (mkF m 128 #[.val (.int x0), .val (.int x1), .val (.int x2), .val (.int x3), .val (.int nn), .val (.int c0), .val (.int c1), .val (.int c2), .val (.ref a104), .unset] [(.int (0 : Int32))])
            exact JE _ _ _ _ (X135.mono (by decide) (by decide))  U125 (by simp only [own_v, if_neg (own_no e0)]) 
          · skip
            refine OEnds.go (fun _ q => XS.ifNo X135.here X135.hx rfl (hb hby at_112) rfl ((if0 _ _).trans (feq e0).1) q) ?_
            show OEnds p e below _ T134 (mkF m 115 #[.val (.int x0), .val (.int x1), .val (.int x2), .val (.int x3), .val (.int nn), .val (.int c0), .val (.int c1), .val (.int c2), .val (.ref a104), .unset] [])
            refine OEnds.go (fun _ q => XS.iload X135.here X135.hx rfl (hb hby at_115) rfl q) ?_
            show OEnds p e below _ T134 (mkF m 117 #[.val (.int x0), .val (.int x1), .val (.int x2), .val (.int x3), .val (.int nn), .val (.int c0), .val (.int c1), .val (.int c2), .val (.ref a104), .unset] [(.int c1)])
            refine X135.callS hE (con_ok H c1 h120) (own_k hw 51 rfl) (own_k hw 52 rfl) (own_k hw 2 rfl) (own_k hw 53 rfl)  (by decide) (W := 0) (by decide) (by decide) (argsL := [(.int c1)]) (rest := []) rfl (lenOf own_pd18 rfl) rfl (by rw [hml]; rfl) (Nat.le_of_eq rfl) (hb hby at_117) (by decide) (by decide) ?_
            intro v146 vm144 T141 h143 X142 C145 q147
            obtain ⟨rfl, rfl⟩ := q147
            show OEnds p e below _ T141 (mkF m 120 #[.val (.int x0), .val (.int x1), .val (.int x2), .val (.int x3), .val (.int nn), .val (.int c0), .val (.int c1), .val (.int c2), .val (.ref a104), .unset] [(.int (if own_ok c1 then 1 else 0))])
            by_cases e1 : (if own_ok c1 then 1 else 0) = (0 : Int32)
            · skip
              refine OEnds.go (fun _ q => XS.ifYes X142.here X142.hx rfl (pc0 := 120) (pc' := 127) rfl (hb hby at_120) rfl ((if0 _ _).trans (teq e1).1) (by decide) (by decide) q) ?_
              show OEnds p e below _ T141 (mkF m 127 #[.val (.int x0), .val (.int x1), .val (.int x2), .val (.int x3), .val (.int nn), .val (.int c0), .val (.int c1), .val (.int c2), .val (.ref a104), .unset] [])
              refine OEnds.go (fun _ q => XS.iconst X142.here X142.hx rfl (hb hby at_127) q) ?_
              show OEnds p e below _ T141 (mkF m 128 #[.val (.int x0), .val (.int x1), .val (.int x2), .val (.int x3), .val (.int nn), .val (.int c0), .val (.int c1), .val (.int c2), .val (.ref a104), .unset] [(.int (0 : Int32))])
              exact JE _ _ _ _ (X142.mono (by decide) (by decide))  U125 (by simp only [own_v, if_pos (own_yes e0), if_neg (own_no e1)]) 
            · skip
              refine OEnds.go (fun _ q => XS.ifNo X142.here X142.hx rfl (hb hby at_120) rfl ((if0 _ _).trans (feq e1).1) q) ?_
              show OEnds p e below _ T141 (mkF m 123 #[.val (.int x0), .val (.int x1), .val (.int x2), .val (.int x3), .val (.int nn), .val (.int c0), .val (.int c1), .val (.int c2), .val (.ref a104), .unset] [])
              refine OEnds.go (fun _ q => XS.iconst X142.here X142.hx rfl (hb hby at_123) q) ?_
              refine OEnds.go (fun _ q => XS.goto X142.here X142.hx rfl (pc0 := 124) (pc' := 128) rfl (hb hby at_124) (by decide) (by decide) q) ?_
              show OEnds p e below _ T141 (mkF m 128 #[.val (.int x0), .val (.int x1), .val (.int x2), .val (.int x3), .val (.int nn), .val (.int c0), .val (.int c1), .val (.int c2), .val (.ref a104), .unset] [(.int (1 : Int32))])
              exact JE _ _ _ _ (X142.mono (by decide) (by decide))  U125 (by simp only [own_v, if_pos (own_yes e0), if_pos (own_yes e1)]) 
        · skip
          by_cases b1 : (255 : Int32) < c1
          · skip
            refine X115.payI (ConN.back (W := 1) (con_nu21 H a104 a109 ka109 c0 c1 b0 b1 hc1 gza104 h116 Aa104_h116 Fa104_value_h116 Fa104_coder_h116 Ka109_h116) X115.old X115.hZ (own_k hw 10 rfl) (own_k hw 6 rfl) (by decide) (by decide)) ?_ (own_k hw 8 rfl) (own_k hw 9 rfl) (own_k hw 10 rfl) rfl (by decide) (a := a104) (argsL := [.ref a109]) (rest := [(.ref a104)]) rfl (lenOf own_pdC rfl) rfl (by rw [hml]; rfl) (Nat.le_of_eq rfl) (hb hby at_102) (by decide) (by decide) ?_
            · rintro v hh L ⟨⟨-, q3, -⟩, q2, -⟩
              exact ⟨q2, ext_keep X115.old q3 (allS gza104 all0), CHr.keep q3 (sfS (safe_blank X115.al Aa104_h116 Fa104_value_h116) sf0) X115.chv⟩
            intro v148 T149 h150 L151 X152 q153
            obtain ⟨⟨rfl, K154, U155⟩, -⟩ := q153
            show OEnds p e below _ T149 (mkF m 105 #[.val (.int x0), .val (.int x1), .val (.int x2), .val (.int x3), .val (.int nn), .val (.int c0), .val (.int c1), .val (.int c2), .unset, .unset] [(.ref a104)])
            refine OEnds.go (fun _ q => XS.astore X152.here X152.hx rfl (hb hby at_105) rfl rfl (l' := #[.val (.int x0), .val (.int x1), .val (.int x2), .val (.int x3), .val (.int nn), .val (.int c0), .val (.int c1), .val (.int c2), .val (.ref a104), .unset]) rfl q) ?_
            refine OEnds.go (fun _ q => XS.iload X152.here X152.hx rfl (hb hby at_107) rfl q) ?_
            show OEnds p e below _ T149 (mkF m 109 #[.val (.int x0), .val (.int x1), .val (.int x2), .val (.int x3), .val (.int nn), .val (.int c0), .val (.int c1), .val (.int c2), .val (.ref a104), .unset] [(.int c0)])
            have JE : ∀ (vmj157 : Vm) (Tj157 : State) (hj157 : Heap) (ev : Int32), OSt p l e room_1 s m #[(.int x0), (.int x1), (.int x2), (.int x3)] below meth c "com/example/gatepost/gatepost/http/HttpSyntaxIsFieldValuePinLaw" Z consts_1 vmj157 Tj157 hj157 4 12 → OUtf2 Z hj157 a104 c0 c1 → ev = own_v [c0, c1] → OEnds p e below (GW Z consts_1 s (fun r h => r = some (.int 1)) room_1.cells room_1.slots) Tj157 (mkF m 128 #[.val (.int x0), .val (.int x1), .val (.int x2), .val (.int x3), .val (.int nn), .val (.int c0), .val (.int c1), .val (.int c2), .val (.ref a104), .unset] [(.int ev)]) := by
              intro vmj157 Tj157 hj157 ev Xj157 hS hev
              refine OEnds.go (fun _ q => XS.istore Xj157.here Xj157.hx rfl (hb hby at_128) rfl (l' := #[.val (.int x0), .val (.int x1), .val (.int x2), .val (.int x3), .val (.int nn), .val (.int c0), .val (.int c1), .val (.int c2), .val (.ref a104), .val (.int ev)]) rfl q) ?_
              refine OEnds.go (fun _ q => XS.goto Xj157.here Xj157.hx rfl (pc0 := 130) (pc' := 191) rfl (hb hby at_130) (by decide) (by decide) q) ?_
              show OEnds p e below _ Tj157 (mkF m 191 #[.val (.int x0), .val (.int x1), .val (.int x2), .val (.int x3), .val (.int nn), .val (.int c0), .val (.int c1), .val (.int c2), .val (.ref a104), .val (.int ev)] [])
              refine OEnds.go (fun _ q => XS.aload Xj157.here Xj157.hx rfl (hb hby at_191) rfl rfl q) ?_
              show OEnds p e below _ Tj157 (mkF m 193 #[.val (.int x0), .val (.int x1), .val (.int x2), .val (.int x3), .val (.int nn), .val (.int c0), .val (.int c1), .val (.int c2), .val (.ref a104), .val (.int ev)] [(.ref a104)])
              refine Xj157.payS (ConN.back (W := 0) (con_ifvU2 H a104 c0 c1 hc0 hc1 hj157 hS) Xj157.old Xj157.hZ  (own_k hw 29 rfl) (own_k hw 28 rfl) (by decide) (by decide)) (okV Xj157) (own_k hw 26 rfl) (own_k hw 27 rfl) (own_k hw 28 rfl) (own_k hw 29 rfl) (by decide) (argsL := [(.ref a104)]) (rest := []) rfl (lenOf own_pd17 rfl) rfl (by rw [hml]; rfl) (Nat.le_of_eq rfl) (hb hby at_193) (by decide) (by decide) ?_
              intro v158 T159 h160 L161 X162 q163
              obtain ⟨⟨rfl, rfl⟩, -⟩ := q163
              show OEnds p e below _ T159 (mkF m 196 #[.val (.int x0), .val (.int x1), .val (.int x2), .val (.int x3), .val (.int nn), .val (.int c0), .val (.int c1), .val (.int c2), .val (.ref a104), .val (.int ev)] [(.int (own_v [c0, c1]))])
              refine OEnds.go (fun _ q => XS.iload X162.here X162.hx rfl (hb hby at_196) rfl q) ?_
              show OEnds p e below _ T159 (mkF m 198 #[.val (.int x0), .val (.int x1), .val (.int x2), .val (.int x3), .val (.int nn), .val (.int c0), .val (.int c1), .val (.int c2), .val (.ref a104), .val (.int ev)] [(.int ev), (.int (own_v [c0, c1]))])
              refine OEnds.go (fun _ q => XS.icmpNo X162.here X162.hx rfl (hb hby at_198) rfl (teq hev.symm).2 q) ?_
              show OEnds p e below _ T159 (mkF m 201 #[.val (.int x0), .val (.int x1), .val (.int x2), .val (.int x3), .val (.int nn), .val (.int c0), .val (.int c1), .val (.int c2), .val (.ref a104), .val (.int ev)] [])
              refine OEnds.go (fun _ q => XS.iconst X162.here X162.hx rfl (hb hby at_201) q) ?_
              refine OEnds.go (fun _ q => XS.goto X162.here X162.hx rfl (pc0 := 202) (pc' := 206) rfl (hb hby at_202) (by decide) (by decide) q) ?_
              show OEnds p e below _ T159 (mkF m 206 #[.val (.int x0), .val (.int x1), .val (.int x2), .val (.int x3), .val (.int nn), .val (.int c0), .val (.int c1), .val (.int c2), .val (.ref a104), .val (.int ev)] [(.int (1 : Int32))])
              exact X162.retBool hE hlk (by first | exact Or.inl rfl | exact Or.inr rfl | assumption) hret (hb hby at_206) (by decide) (by decide) rfl
            refine X152.callS hE (con_ok H c0 h150) (own_k hw 51 rfl) (own_k hw 52 rfl) (own_k hw 2 rfl) (own_k hw 53 rfl)  (by decide) (W := 0) (by decide) (by decide) (argsL := [(.int c0)]) (rest := []) rfl (lenOf own_pd18 rfl) rfl (by rw [hml]; rfl) (Nat.le_of_eq rfl) (hb hby at_109) (by decide) (by decide) ?_
            intro v169 vm167 T164 h166 X165 C168 q170
            obtain ⟨rfl, rfl⟩ := q170
            show OEnds p e below _ T164 (mkF m 112 #[.val (.int x0), .val (.int x1), .val (.int x2), .val (.int x3), .val (.int nn), .val (.int c0), .val (.int c1), .val (.int c2), .val (.ref a104), .unset] [(.int (if own_ok c0 then 1 else 0))])
            by_cases e0 : (if own_ok c0 then 1 else 0) = (0 : Int32)
            · skip
              refine OEnds.go (fun _ q => XS.ifYes X165.here X165.hx rfl (pc0 := 112) (pc' := 127) rfl (hb hby at_112) rfl ((if0 _ _).trans (teq e0).1) (by decide) (by decide) q) ?_
              show OEnds p e below _ T164 (mkF m 127 #[.val (.int x0), .val (.int x1), .val (.int x2), .val (.int x3), .val (.int nn), .val (.int c0), .val (.int c1), .val (.int c2), .val (.ref a104), .unset] [])
              refine OEnds.go (fun _ q => XS.iconst X165.here X165.hx rfl (hb hby at_127) q) ?_
              show OEnds p e below _ T164 (mkF m 128 #[.val (.int x0), .val (.int x1), .val (.int x2), .val (.int x3), .val (.int nn), .val (.int c0), .val (.int c1), .val (.int c2), .val (.ref a104), .unset] [(.int (0 : Int32))])
              exact JE _ _ _ _ (X165.mono (by decide) (by decide))  U155 (by simp only [own_v, if_neg (own_no e0)]) 
            · skip
              refine OEnds.go (fun _ q => XS.ifNo X165.here X165.hx rfl (hb hby at_112) rfl ((if0 _ _).trans (feq e0).1) q) ?_
              show OEnds p e below _ T164 (mkF m 115 #[.val (.int x0), .val (.int x1), .val (.int x2), .val (.int x3), .val (.int nn), .val (.int c0), .val (.int c1), .val (.int c2), .val (.ref a104), .unset] [])
              refine OEnds.go (fun _ q => XS.iload X165.here X165.hx rfl (hb hby at_115) rfl q) ?_
              show OEnds p e below _ T164 (mkF m 117 #[.val (.int x0), .val (.int x1), .val (.int x2), .val (.int x3), .val (.int nn), .val (.int c0), .val (.int c1), .val (.int c2), .val (.ref a104), .unset] [(.int c1)])
              refine X165.callS hE (con_ok H c1 h150) (own_k hw 51 rfl) (own_k hw 52 rfl) (own_k hw 2 rfl) (own_k hw 53 rfl)  (by decide) (W := 0) (by decide) (by decide) (argsL := [(.int c1)]) (rest := []) rfl (lenOf own_pd18 rfl) rfl (by rw [hml]; rfl) (Nat.le_of_eq rfl) (hb hby at_117) (by decide) (by decide) ?_
              intro v176 vm174 T171 h173 X172 C175 q177
              obtain ⟨rfl, rfl⟩ := q177
              show OEnds p e below _ T171 (mkF m 120 #[.val (.int x0), .val (.int x1), .val (.int x2), .val (.int x3), .val (.int nn), .val (.int c0), .val (.int c1), .val (.int c2), .val (.ref a104), .unset] [(.int (if own_ok c1 then 1 else 0))])
              by_cases e1 : (if own_ok c1 then 1 else 0) = (0 : Int32)
              · skip
                refine OEnds.go (fun _ q => XS.ifYes X172.here X172.hx rfl (pc0 := 120) (pc' := 127) rfl (hb hby at_120) rfl ((if0 _ _).trans (teq e1).1) (by decide) (by decide) q) ?_
                show OEnds p e below _ T171 (mkF m 127 #[.val (.int x0), .val (.int x1), .val (.int x2), .val (.int x3), .val (.int nn), .val (.int c0), .val (.int c1), .val (.int c2), .val (.ref a104), .unset] [])
                refine OEnds.go (fun _ q => XS.iconst X172.here X172.hx rfl (hb hby at_127) q) ?_
                show OEnds p e below _ T171 (mkF m 128 #[.val (.int x0), .val (.int x1), .val (.int x2), .val (.int x3), .val (.int nn), .val (.int c0), .val (.int c1), .val (.int c2), .val (.ref a104), .unset] [(.int (0 : Int32))])
                exact JE _ _ _ _ (X172.mono (by decide) (by decide))  U155 (by simp only [own_v, if_pos (own_yes e0), if_neg (own_no e1)]) 
              · skip
                refine OEnds.go (fun _ q => XS.ifNo X172.here X172.hx rfl (hb hby at_120) rfl ((if0 _ _).trans (feq e1).1) q) ?_
                show OEnds p e below _ T171 (mkF m 123 #[.val (.int x0), .val (.int x1), .val (.int x2), .val (.int x3), .val (.int nn), .val (.int c0), .val (.int c1), .val (.int c2), .val (.ref a104), .unset] [])
                refine OEnds.go (fun _ q => XS.iconst X172.here X172.hx rfl (hb hby at_123) q) ?_
                refine OEnds.go (fun _ q => XS.goto X172.here X172.hx rfl (pc0 := 124) (pc' := 128) rfl (hb hby at_124) (by decide) (by decide) q) ?_
                show OEnds p e below _ T171 (mkF m 128 #[.val (.int x0), .val (.int x1), .val (.int x2), .val (.int x3), .val (.int nn), .val (.int c0), .val (.int c1), .val (.int c2), .val (.ref a104), .unset] [(.int (1 : Int32))])
                exact JE _ _ _ _ (X172.mono (by decide) (by decide))  U155 (by simp only [own_v, if_pos (own_yes e0), if_pos (own_yes e1)]) 
          · skip
            refine own_newStr H X115 (cs := [c0, c1]) (j := 2) gza104 Aa104_h116 Fa104_value_h116 Fa104_coder_h116 Ka109_h116 rfl rfl (by decide) (by decide) (all_cons ⟨hc0.1, b0⟩ (all_cons ⟨hc1.1, b1⟩ all_nil)) (own_k hw 8 rfl) (W := 1) (by decide) (by decide) (by rw [hml]; rfl) (Nat.le_of_eq rfl) (hb hby at_102) (by decide) (by decide) ?_
            intro T178 h180 X179 K181 Str182
            have EBa104_h180 := ext_keep EBa104_h116 K181 (allS (Nat.le_of_eq ga104) all0)
            have EX_h180 := ext_keep EX_h116 K181 (allS (Nat.le_trans EX0.1 (Nat.le_of_eq ga104)) all0)
            show OEnds p e below _ T178 (mkF m 105 #[.val (.int x0), .val (.int x1), .val (.int x2), .val (.int x3), .val (.int nn), .val (.int c0), .val (.int c1), .val (.int c2), .unset, .unset] [(.ref a104)])
            refine OEnds.go (fun _ q => XS.astore X179.here X179.hx rfl (hb hby at_105) rfl rfl (l' := #[.val (.int x0), .val (.int x1), .val (.int x2), .val (.int x3), .val (.int nn), .val (.int c0), .val (.int c1), .val (.int c2), .val (.ref a104), .unset]) rfl q) ?_
            refine OEnds.go (fun _ q => XS.iload X179.here X179.hx rfl (hb hby at_107) rfl q) ?_
            show OEnds p e below _ T178 (mkF m 109 #[.val (.int x0), .val (.int x1), .val (.int x2), .val (.int x3), .val (.int nn), .val (.int c0), .val (.int c1), .val (.int c2), .val (.ref a104), .unset] [(.int c0)])
            have JE : ∀ (vmj184 : Vm) (Tj184 : State) (hj184 : Heap) (ev : Int32), OSt p l e room_1 s m #[(.int x0), (.int x1), (.int x2), (.int x3)] below meth c "com/example/gatepost/gatepost/http/HttpSyntaxIsFieldValuePinLaw" Z consts_1 vmj184 Tj184 hj184 3 8 → OStr Z hj184 a104 [c0, c1] → ev = own_v [c0, c1] → OEnds p e below (GW Z consts_1 s (fun r h => r = some (.int 1)) room_1.cells room_1.slots) Tj184 (mkF m 128 #[.val (.int x0), .val (.int x1), .val (.int x2), .val (.int x3), .val (.int nn), .val (.int c0), .val (.int c1), .val (.int c2), .val (.ref a104), .unset] [(.int ev)]) := by
              intro vmj184 Tj184 hj184 ev Xj184 hS hev
              refine OEnds.go (fun _ q => XS.istore Xj184.here Xj184.hx rfl (hb hby at_128) rfl (l' := #[.val (.int x0), .val (.int x1), .val (.int x2), .val (.int x3), .val (.int nn), .val (.int c0), .val (.int c1), .val (.int c2), .val (.ref a104), .val (.int ev)]) rfl q) ?_
              refine OEnds.go (fun _ q => XS.goto Xj184.here Xj184.hx rfl (pc0 := 130) (pc' := 191) rfl (hb hby at_130) (by decide) (by decide) q) ?_
              show OEnds p e below _ Tj184 (mkF m 191 #[.val (.int x0), .val (.int x1), .val (.int x2), .val (.int x3), .val (.int nn), .val (.int c0), .val (.int c1), .val (.int c2), .val (.ref a104), .val (.int ev)] [])
              refine OEnds.go (fun _ q => XS.aload Xj184.here Xj184.hx rfl (hb hby at_191) rfl rfl q) ?_
              show OEnds p e below _ Tj184 (mkF m 193 #[.val (.int x0), .val (.int x1), .val (.int x2), .val (.int x3), .val (.int nn), .val (.int c0), .val (.int c1), .val (.int c2), .val (.ref a104), .val (.int ev)] [(.ref a104)])
              refine Xj184.payS (ConN.back (W := 0) (con_ifvL2 H a104 c0 c1  hj184 hS) Xj184.old Xj184.hZ  (own_k hw 29 rfl) (own_k hw 28 rfl) (by decide) (by decide)) (okV Xj184) (own_k hw 26 rfl) (own_k hw 27 rfl) (own_k hw 28 rfl) (own_k hw 29 rfl) (by decide) (argsL := [(.ref a104)]) (rest := []) rfl (lenOf own_pd17 rfl) rfl (by rw [hml]; rfl) (Nat.le_of_eq rfl) (hb hby at_193) (by decide) (by decide) ?_
              intro v185 T186 h187 L188 X189 q190
              obtain ⟨⟨rfl, rfl⟩, -⟩ := q190
              show OEnds p e below _ T186 (mkF m 196 #[.val (.int x0), .val (.int x1), .val (.int x2), .val (.int x3), .val (.int nn), .val (.int c0), .val (.int c1), .val (.int c2), .val (.ref a104), .val (.int ev)] [(.int (own_v [c0, c1]))])
              refine OEnds.go (fun _ q => XS.iload X189.here X189.hx rfl (hb hby at_196) rfl q) ?_
              show OEnds p e below _ T186 (mkF m 198 #[.val (.int x0), .val (.int x1), .val (.int x2), .val (.int x3), .val (.int nn), .val (.int c0), .val (.int c1), .val (.int c2), .val (.ref a104), .val (.int ev)] [(.int ev), (.int (own_v [c0, c1]))])
              refine OEnds.go (fun _ q => XS.icmpNo X189.here X189.hx rfl (hb hby at_198) rfl (teq hev.symm).2 q) ?_
              show OEnds p e below _ T186 (mkF m 201 #[.val (.int x0), .val (.int x1), .val (.int x2), .val (.int x3), .val (.int nn), .val (.int c0), .val (.int c1), .val (.int c2), .val (.ref a104), .val (.int ev)] [])
              refine OEnds.go (fun _ q => XS.iconst X189.here X189.hx rfl (hb hby at_201) q) ?_
              refine OEnds.go (fun _ q => XS.goto X189.here X189.hx rfl (pc0 := 202) (pc' := 206) rfl (hb hby at_202) (by decide) (by decide) q) ?_
              show OEnds p e below _ T186 (mkF m 206 #[.val (.int x0), .val (.int x1), .val (.int x2), .val (.int x3), .val (.int nn), .val (.int c0), .val (.int c1), .val (.int c2), .val (.ref a104), .val (.int ev)] [(.int (1 : Int32))])
              exact X189.retBool hE hlk (by first | exact Or.inl rfl | exact Or.inr rfl | assumption) hret (hb hby at_206) (by decide) (by decide) rfl
            refine X179.callS hE (con_ok H c0 h180) (own_k hw 51 rfl) (own_k hw 52 rfl) (own_k hw 2 rfl) (own_k hw 53 rfl)  (by decide) (W := 0) (by decide) (by decide) (argsL := [(.int c0)]) (rest := []) rfl (lenOf own_pd18 rfl) rfl (by rw [hml]; rfl) (Nat.le_of_eq rfl) (hb hby at_109) (by decide) (by decide) ?_
            intro v196 vm194 T191 h193 X192 C195 q197
            obtain ⟨rfl, rfl⟩ := q197
            show OEnds p e below _ T191 (mkF m 112 #[.val (.int x0), .val (.int x1), .val (.int x2), .val (.int x3), .val (.int nn), .val (.int c0), .val (.int c1), .val (.int c2), .val (.ref a104), .unset] [(.int (if own_ok c0 then 1 else 0))])
            by_cases e0 : (if own_ok c0 then 1 else 0) = (0 : Int32)
            · skip
              refine OEnds.go (fun _ q => XS.ifYes X192.here X192.hx rfl (pc0 := 112) (pc' := 127) rfl (hb hby at_112) rfl ((if0 _ _).trans (teq e0).1) (by decide) (by decide) q) ?_
              show OEnds p e below _ T191 (mkF m 127 #[.val (.int x0), .val (.int x1), .val (.int x2), .val (.int x3), .val (.int nn), .val (.int c0), .val (.int c1), .val (.int c2), .val (.ref a104), .unset] [])
              refine OEnds.go (fun _ q => XS.iconst X192.here X192.hx rfl (hb hby at_127) q) ?_
              show OEnds p e below _ T191 (mkF m 128 #[.val (.int x0), .val (.int x1), .val (.int x2), .val (.int x3), .val (.int nn), .val (.int c0), .val (.int c1), .val (.int c2), .val (.ref a104), .unset] [(.int (0 : Int32))])
              exact JE _ _ _ _ (X192.mono (by decide) (by decide))  Str182 (by simp only [own_v, if_neg (own_no e0)]) 
            · skip
              refine OEnds.go (fun _ q => XS.ifNo X192.here X192.hx rfl (hb hby at_112) rfl ((if0 _ _).trans (feq e0).1) q) ?_
              show OEnds p e below _ T191 (mkF m 115 #[.val (.int x0), .val (.int x1), .val (.int x2), .val (.int x3), .val (.int nn), .val (.int c0), .val (.int c1), .val (.int c2), .val (.ref a104), .unset] [])
              refine OEnds.go (fun _ q => XS.iload X192.here X192.hx rfl (hb hby at_115) rfl q) ?_
              show OEnds p e below _ T191 (mkF m 117 #[.val (.int x0), .val (.int x1), .val (.int x2), .val (.int x3), .val (.int nn), .val (.int c0), .val (.int c1), .val (.int c2), .val (.ref a104), .unset] [(.int c1)])
              refine X192.callS hE (con_ok H c1 h180) (own_k hw 51 rfl) (own_k hw 52 rfl) (own_k hw 2 rfl) (own_k hw 53 rfl)  (by decide) (W := 0) (by decide) (by decide) (argsL := [(.int c1)]) (rest := []) rfl (lenOf own_pd18 rfl) rfl (by rw [hml]; rfl) (Nat.le_of_eq rfl) (hb hby at_117) (by decide) (by decide) ?_
              intro v203 vm201 T198 h200 X199 C202 q204
              obtain ⟨rfl, rfl⟩ := q204
              show OEnds p e below _ T198 (mkF m 120 #[.val (.int x0), .val (.int x1), .val (.int x2), .val (.int x3), .val (.int nn), .val (.int c0), .val (.int c1), .val (.int c2), .val (.ref a104), .unset] [(.int (if own_ok c1 then 1 else 0))])
              by_cases e1 : (if own_ok c1 then 1 else 0) = (0 : Int32)
              · skip
                refine OEnds.go (fun _ q => XS.ifYes X199.here X199.hx rfl (pc0 := 120) (pc' := 127) rfl (hb hby at_120) rfl ((if0 _ _).trans (teq e1).1) (by decide) (by decide) q) ?_
                show OEnds p e below _ T198 (mkF m 127 #[.val (.int x0), .val (.int x1), .val (.int x2), .val (.int x3), .val (.int nn), .val (.int c0), .val (.int c1), .val (.int c2), .val (.ref a104), .unset] [])
                refine OEnds.go (fun _ q => XS.iconst X199.here X199.hx rfl (hb hby at_127) q) ?_
                show OEnds p e below _ T198 (mkF m 128 #[.val (.int x0), .val (.int x1), .val (.int x2), .val (.int x3), .val (.int nn), .val (.int c0), .val (.int c1), .val (.int c2), .val (.ref a104), .unset] [(.int (0 : Int32))])
                exact JE _ _ _ _ (X199.mono (by decide) (by decide))  Str182 (by simp only [own_v, if_pos (own_yes e0), if_neg (own_no e1)]) 
              · skip
                refine OEnds.go (fun _ q => XS.ifNo X199.here X199.hx rfl (hb hby at_120) rfl ((if0 _ _).trans (feq e1).1) q) ?_
                show OEnds p e below _ T198 (mkF m 123 #[.val (.int x0), .val (.int x1), .val (.int x2), .val (.int x3), .val (.int nn), .val (.int c0), .val (.int c1), .val (.int c2), .val (.ref a104), .unset] [])
                refine OEnds.go (fun _ q => XS.iconst X199.here X199.hx rfl (hb hby at_123) q) ?_
                refine OEnds.go (fun _ q => XS.goto X199.here X199.hx rfl (pc0 := 124) (pc' := 128) rfl (hb hby at_124) (by decide) (by decide) q) ?_
                show OEnds p e below _ T198 (mkF m 128 #[.val (.int x0), .val (.int x1), .val (.int x2), .val (.int x3), .val (.int nn), .val (.int c0), .val (.int c1), .val (.int c2), .val (.ref a104), .unset] [(.int (1 : Int32))])
                exact JE _ _ _ _ (X199.mono (by decide) (by decide))  Str182 (by simp only [own_v, if_pos (own_yes e0), if_pos (own_yes e1)]) 
      · skip
        refine OEnds.go (fun _ q => XS.icmpYes X16.here X16.hx rfl (pc0 := 82) (pc' := 133) rfl (hb hby at_82) rfl (feq hn2).2 (by decide) (by decide) q) ?_
        show OEnds p e below _ T15 (mkF m 133 #[.val (.int x0), .val (.int x1), .val (.int x2), .val (.int x3), .val (.int nn), .val (.int c0), .val (.int c1), .val (.int c2), .unset, .unset] [])
        refine X16.newO (own_k hw 4 rfl) (own_k hw 5 rfl) (own_k hw 6 rfl) (hb hby at_133) (by decide) (by decide) ?_
        intro T205 h207 a209 ga209 X206 E208 Aa209 Da209 Ua209
        have gza209 : Z.heap.size ≤ a209 := ga209 ▸ X16.old.1
        have EX_h207 := ext_trans EX0 E208
        have Fa209_value : Fld Z h207 a209 "java/lang/String" "value" "[B" .null := Da209 (Or.inr (own_k hw 20 rfl)) (ty := (FieldType.array FieldType.byte)) (by decide)
        have Fa209_coder : Fld Z h207 a209 "java/lang/String" "coder" "B" (.int (0 : Int32)) := Da209 (Or.inr (own_k hw 21 rfl)) (ty := FieldType.byte) (by decide)
        show OEnds p e below _ T205 (mkF m 136 #[.val (.int x0), .val (.int x1), .val (.int x2), .val (.int x3), .val (.int nn), .val (.int c0), .val (.int c1), .val (.int c2), .unset, .unset] [(.ref a209)])
        refine OEnds.go (fun _ q => XS.dup X206.here X206.hx rfl (hb hby at_136) rfl rfl q) ?_
        refine OEnds.go (fun _ q => XS.iconst X206.here X206.hx rfl (hb hby at_137) q) ?_
        show OEnds p e below _ T205 (mkF m 138 #[.val (.int x0), .val (.int x1), .val (.int x2), .val (.int x3), .val (.int nn), .val (.int c0), .val (.int c1), .val (.int c2), .unset, .unset] [(.int (3 : Int32)), (.ref a209), (.ref a209)])
        refine X206.newP (own_k hw 7 rfl) (hb hby at_138) (by decide) (cap := 3) (by decide) (by decide) (by decide) (by decide) ?_
        intro T210 h212 a214 ka214 ga214 X211 E213 Ka214
        have gza214 : Z.heap.size ≤ a214 := ga214 ▸ X206.old.1
        have Aa209_h212 := Aa209.ext E213
        have Fa209_value_h212 := Fa209_value.ext E213
        have Fa209_coder_h212 := Fa209_coder.ext E213
        have EBa209_h212 := ext_trans E208 E213
        have EX_h212 := ext_trans EX_h207 E213
        have Ka214_0 : Arv Z h212 a214 ka214 .char (3 : Int32) [.int (0 : Int32), .int (0 : Int32), .int (0 : Int32)] (.int (0 : Int32)) := Ka214.pad (pad_rep [] (.int (0 : Int32)) 3)
        show OEnds p e below _ T210 (mkF m 140 #[.val (.int x0), .val (.int x1), .val (.int x2), .val (.int x3), .val (.int nn), .val (.int c0), .val (.int c1), .val (.int c2), .unset, .unset] [(.ref a214), (.ref a209), (.ref a209)])
        refine OEnds.go (fun _ q => XS.dup X211.here X211.hx rfl (hb hby at_140) rfl rfl q) ?_
        refine OEnds.go (fun _ q => XS.iconst X211.here X211.hx rfl (hb hby at_141) q) ?_
        show OEnds p e below _ T210 (mkF m 142 #[.val (.int x0), .val (.int x1), .val (.int x2), .val (.int x3), .val (.int nn), .val (.int c0), .val (.int c1), .val (.int c2), .unset, .unset] [(.int (0 : Int32)), (.ref a214), (.ref a214), (.ref a209), (.ref a209)])
        refine OEnds.go (fun _ q => XS.iload X211.here X211.hx rfl (hb hby at_142) rfl q) ?_
        show OEnds p e below _ T210 (mkF m 144 #[.val (.int x0), .val (.int x1), .val (.int x2), .val (.int x3), .val (.int nn), .val (.int c0), .val (.int c1), .val (.int c2), .unset, .unset] [(.int c0), (.int (0 : Int32)), (.ref a214), (.ref a214), (.ref a209), (.ref a209)])
        refine X211.stC Ka214_0 (by decide) hc0 (i := 0) rfl (Nat.le_of_ble_eq_true rfl) gza214 (hb hby at_144) ?_
        intro T215 h217 X216 W218 Ka214_h217x
        have Ka214_h217 : Arv Z h217 a214 ka214 .char (3 : Int32) [.int c0, .int (0 : Int32), .int (0 : Int32)] (.int (0 : Int32)) := Ka214_h217x
        have EBa214_h217 := ext_wr E213 W218 (Nat.le_of_eq ga214)
        have Aa209_h217 := Aa209.ext EBa214_h217
        have Fa209_value_h217 := Fa209_value.ext EBa214_h217
        have Fa209_coder_h217 := Fa209_coder.ext EBa214_h217
        have EX_h217 := ext_wr EX_h212 W218 (Nat.le_trans EX_h207.1 (Nat.le_of_eq ga214))
        have EBa209_h217 := ext_wr EBa209_h212 W218 (Nat.le_trans E208.1 (Nat.le_of_eq ga214))
        show OEnds p e below _ T215 (mkF m 145 #[.val (.int x0), .val (.int x1), .val (.int x2), .val (.int x3), .val (.int nn), .val (.int c0), .val (.int c1), .val (.int c2), .unset, .unset] [(.ref a214), (.ref a209), (.ref a209)])
        refine OEnds.go (fun _ q => XS.dup X216.here X216.hx rfl (hb hby at_145) rfl rfl q) ?_
        refine OEnds.go (fun _ q => XS.iconst X216.here X216.hx rfl (hb hby at_146) q) ?_
        show OEnds p e below _ T215 (mkF m 147 #[.val (.int x0), .val (.int x1), .val (.int x2), .val (.int x3), .val (.int nn), .val (.int c0), .val (.int c1), .val (.int c2), .unset, .unset] [(.int (1 : Int32)), (.ref a214), (.ref a214), (.ref a209), (.ref a209)])
        refine OEnds.go (fun _ q => XS.iload X216.here X216.hx rfl (hb hby at_147) rfl q) ?_
        show OEnds p e below _ T215 (mkF m 149 #[.val (.int x0), .val (.int x1), .val (.int x2), .val (.int x3), .val (.int nn), .val (.int c0), .val (.int c1), .val (.int c2), .unset, .unset] [(.int c1), (.int (1 : Int32)), (.ref a214), (.ref a214), (.ref a209), (.ref a209)])
        refine X216.stC Ka214_h217 (by decide) hc1 (i := 1) rfl (Nat.le_of_ble_eq_true rfl) gza214 (hb hby at_149) ?_
        intro T219 h221 X220 W222 Ka214_h221x
        have Ka214_h221 : Arv Z h221 a214 ka214 .char (3 : Int32) [.int c0, .int c1, .int (0 : Int32)] (.int (0 : Int32)) := Ka214_h221x
        have EBa214_h221 := ext_wr EBa214_h217 W222 (Nat.le_of_eq ga214)
        have Aa209_h221 := Aa209.ext EBa214_h221
        have Fa209_value_h221 := Fa209_value.ext EBa214_h221
        have Fa209_coder_h221 := Fa209_coder.ext EBa214_h221
        have EX_h221 := ext_wr EX_h217 W222 (Nat.le_trans EX_h207.1 (Nat.le_of_eq ga214))
        have EBa209_h221 := ext_wr EBa209_h217 W222 (Nat.le_trans E208.1 (Nat.le_of_eq ga214))
        show OEnds p e below _ T219 (mkF m 150 #[.val (.int x0), .val (.int x1), .val (.int x2), .val (.int x3), .val (.int nn), .val (.int c0), .val (.int c1), .val (.int c2), .unset, .unset] [(.ref a214), (.ref a209), (.ref a209)])
        refine OEnds.go (fun _ q => XS.dup X220.here X220.hx rfl (hb hby at_150) rfl rfl q) ?_
        refine OEnds.go (fun _ q => XS.iconst X220.here X220.hx rfl (hb hby at_151) q) ?_
        show OEnds p e below _ T219 (mkF m 152 #[.val (.int x0), .val (.int x1), .val (.int x2), .val (.int x3), .val (.int nn), .val (.int c0), .val (.int c1), .val (.int c2), .unset, .unset] [(.int (2 : Int32)), (.ref a214), (.ref a214), (.ref a209), (.ref a209)])
        refine OEnds.go (fun _ q => XS.iload X220.here X220.hx rfl (hb hby at_152) rfl q) ?_
        show OEnds p e below _ T219 (mkF m 154 #[.val (.int x0), .val (.int x1), .val (.int x2), .val (.int x3), .val (.int nn), .val (.int c0), .val (.int c1), .val (.int c2), .unset, .unset] [(.int c2), (.int (2 : Int32)), (.ref a214), (.ref a214), (.ref a209), (.ref a209)])
        refine X220.stC Ka214_h221 (by decide) hc2 (i := 2) rfl (Nat.le_of_ble_eq_true rfl) gza214 (hb hby at_154) ?_
        intro T223 h225 X224 W226 Ka214_h225x
        have Ka214_h225 : Arv Z h225 a214 ka214 .char (3 : Int32) [.int c0, .int c1, .int c2] (.int (0 : Int32)) := Ka214_h225x
        have EBa214_h225 := ext_wr EBa214_h221 W226 (Nat.le_of_eq ga214)
        have Aa209_h225 := Aa209.ext EBa214_h225
        have Fa209_value_h225 := Fa209_value.ext EBa214_h225
        have Fa209_coder_h225 := Fa209_coder.ext EBa214_h225
        have EX_h225 := ext_wr EX_h221 W226 (Nat.le_trans EX_h207.1 (Nat.le_of_eq ga214))
        have EBa209_h225 := ext_wr EBa209_h221 W226 (Nat.le_trans E208.1 (Nat.le_of_eq ga214))
        show OEnds p e below _ T223 (mkF m 155 #[.val (.int x0), .val (.int x1), .val (.int x2), .val (.int x3), .val (.int nn), .val (.int c0), .val (.int c1), .val (.int c2), .unset, .unset] [(.ref a214), (.ref a209), (.ref a209)])
        by_cases b0 : (255 : Int32) < c0
        · skip
          refine X224.payI (ConN.back (W := 1) (con_nu30 H a209 a214 ka214 c0 c1 c2 b0 hc0 gza209 h225 Aa209_h225 Fa209_value_h225 Fa209_coder_h225 Ka214_h225) X224.old X224.hZ (own_k hw 10 rfl) (own_k hw 6 rfl) (by decide) (by decide)) ?_ (own_k hw 8 rfl) (own_k hw 9 rfl) (own_k hw 10 rfl) rfl (by decide) (a := a209) (argsL := [.ref a214]) (rest := [(.ref a209)]) rfl (lenOf own_pdC rfl) rfl (by rw [hml]; rfl) (Nat.le_of_eq rfl) (hb hby at_155) (by decide) (by decide) ?_
          · rintro v hh L ⟨⟨-, q3, -⟩, q2, -⟩
            exact ⟨q2, ext_keep X224.old q3 (allS gza209 all0), CHr.keep q3 (sfS (safe_blank X224.al Aa209_h225 Fa209_value_h225) sf0) X224.chv⟩
          intro v227 T228 h229 L230 X231 q232
          obtain ⟨⟨rfl, K233, U234⟩, -⟩ := q232
          show OEnds p e below _ T228 (mkF m 158 #[.val (.int x0), .val (.int x1), .val (.int x2), .val (.int x3), .val (.int nn), .val (.int c0), .val (.int c1), .val (.int c2), .unset, .unset] [(.ref a209)])
          refine OEnds.go (fun _ q => XS.astore X231.here X231.hx rfl (hb hby at_158) rfl rfl (l' := #[.val (.int x0), .val (.int x1), .val (.int x2), .val (.int x3), .val (.int nn), .val (.int c0), .val (.int c1), .val (.int c2), .val (.ref a209), .unset]) rfl q) ?_
          refine OEnds.go (fun _ q => XS.iload X231.here X231.hx rfl (hb hby at_160) rfl q) ?_
          show OEnds p e below _ T228 (mkF m 162 #[.val (.int x0), .val (.int x1), .val (.int x2), .val (.int x3), .val (.int nn), .val (.int c0), .val (.int c1), .val (.int c2), .val (.ref a209), .unset] [(.int c0)])
          have JE : ∀ (vmj236 : Vm) (Tj236 : State) (hj236 : Heap) (ev : Int32), OSt p l e room_1 s m #[(.int x0), (.int x1), (.int x2), (.int x3)] below meth c "com/example/gatepost/gatepost/http/HttpSyntaxIsFieldValuePinLaw" Z consts_1 vmj236 Tj236 hj236 4 16 → OUtf3 Z hj236 a209 c0 c1 c2 → ev = own_v [c0, c1, c2] → OEnds p e below (GW Z consts_1 s (fun r h => r = some (.int 1)) room_1.cells room_1.slots) Tj236 (mkF m 189 #[.val (.int x0), .val (.int x1), .val (.int x2), .val (.int x3), .val (.int nn), .val (.int c0), .val (.int c1), .val (.int c2), .val (.ref a209), .unset] [(.int ev)]) := by
            intro vmj236 Tj236 hj236 ev Xj236 hS hev
            refine OEnds.go (fun _ q => XS.istore Xj236.here Xj236.hx rfl (hb hby at_189) rfl (l' := #[.val (.int x0), .val (.int x1), .val (.int x2), .val (.int x3), .val (.int nn), .val (.int c0), .val (.int c1), .val (.int c2), .val (.ref a209), .val (.int ev)]) rfl q) ?_
            refine OEnds.go (fun _ q => XS.aload Xj236.here Xj236.hx rfl (hb hby at_191) rfl rfl q) ?_
            show OEnds p e below _ Tj236 (mkF m 193 #[.val (.int x0), .val (.int x1), .val (.int x2), .val (.int x3), .val (.int nn), .val (.int c0), .val (.int c1), .val (.int c2), .val (.ref a209), .val (.int ev)] [(.ref a209)])
            refine Xj236.payS (ConN.back (W := 0) (con_ifvU3 H a209 c0 c1 c2 hc0 hc1 hc2 hj236 hS) Xj236.old Xj236.hZ  (own_k hw 29 rfl) (own_k hw 28 rfl) (by decide) (by decide)) (okV Xj236) (own_k hw 26 rfl) (own_k hw 27 rfl) (own_k hw 28 rfl) (own_k hw 29 rfl) (by decide) (argsL := [(.ref a209)]) (rest := []) rfl (lenOf own_pd17 rfl) rfl (by rw [hml]; rfl) (Nat.le_of_eq rfl) (hb hby at_193) (by decide) (by decide) ?_
            intro v237 T238 h239 L240 X241 q242
            obtain ⟨⟨rfl, rfl⟩, -⟩ := q242
            show OEnds p e below _ T238 (mkF m 196 #[.val (.int x0), .val (.int x1), .val (.int x2), .val (.int x3), .val (.int nn), .val (.int c0), .val (.int c1), .val (.int c2), .val (.ref a209), .val (.int ev)] [(.int (own_v [c0, c1, c2]))])
            refine OEnds.go (fun _ q => XS.iload X241.here X241.hx rfl (hb hby at_196) rfl q) ?_
            show OEnds p e below _ T238 (mkF m 198 #[.val (.int x0), .val (.int x1), .val (.int x2), .val (.int x3), .val (.int nn), .val (.int c0), .val (.int c1), .val (.int c2), .val (.ref a209), .val (.int ev)] [(.int ev), (.int (own_v [c0, c1, c2]))])
            refine OEnds.go (fun _ q => XS.icmpNo X241.here X241.hx rfl (hb hby at_198) rfl (teq hev.symm).2 q) ?_
            show OEnds p e below _ T238 (mkF m 201 #[.val (.int x0), .val (.int x1), .val (.int x2), .val (.int x3), .val (.int nn), .val (.int c0), .val (.int c1), .val (.int c2), .val (.ref a209), .val (.int ev)] [])
            refine OEnds.go (fun _ q => XS.iconst X241.here X241.hx rfl (hb hby at_201) q) ?_
            refine OEnds.go (fun _ q => XS.goto X241.here X241.hx rfl (pc0 := 202) (pc' := 206) rfl (hb hby at_202) (by decide) (by decide) q) ?_
            show OEnds p e below _ T238 (mkF m 206 #[.val (.int x0), .val (.int x1), .val (.int x2), .val (.int x3), .val (.int nn), .val (.int c0), .val (.int c1), .val (.int c2), .val (.ref a209), .val (.int ev)] [(.int (1 : Int32))])
            exact X241.retBool hE hlk (by first | exact Or.inl rfl | exact Or.inr rfl | assumption) hret (hb hby at_206) (by decide) (by decide) rfl
          refine X231.callS hE (con_ok H c0 h229) (own_k hw 51 rfl) (own_k hw 52 rfl) (own_k hw 2 rfl) (own_k hw 53 rfl)  (by decide) (W := 0) (by decide) (by decide) (argsL := [(.int c0)]) (rest := []) rfl (lenOf own_pd18 rfl) rfl (by rw [hml]; rfl) (Nat.le_of_eq rfl) (hb hby at_162) (by decide) (by decide) ?_
          intro v248 vm246 T243 h245 X244 C247 q249
          obtain ⟨rfl, rfl⟩ := q249
          show OEnds p e below _ T243 (mkF m 165 #[.val (.int x0), .val (.int x1), .val (.int x2), .val (.int x3), .val (.int nn), .val (.int c0), .val (.int c1), .val (.int c2), .val (.ref a209), .unset] [(.int (if own_ok c0 then 1 else 0))])
          by_cases e0 : (if own_ok c0 then 1 else 0) = (0 : Int32)
          · skip
            refine OEnds.go (fun _ q => XS.ifYes X244.here X244.hx rfl (pc0 := 165) (pc' := 188) rfl (hb hby at_165) rfl ((if0 _ _).trans (teq e0).1) (by decide) (by decide) q) ?_
            show OEnds p e below _ T243 (mkF m 188 #[.val (.int x0), .val (.int x1), .val (.int x2), .val (.int x3), .val (.int nn), .val (.int c0), .val (.int c1), .val (.int c2), .val (.ref a209), .unset] [])
            refine OEnds.go (fun _ q => XS.iconst X244.here X244.hx rfl (hb hby at_188) q) ?_
            show OEnds p e below _ T243 (mkF m 189 #[.val (.int x0), .val (.int x1), .val (.int x2), .val (.int x3), .val (.int nn), .val (.int c0), .val (.int c1), .val (.int c2), .val (.ref a209), .unset] [(.int (0 : Int32))])
            exact JE _ _ _ _ (X244.mono (by decide) (by decide))  U234 (by simp only [own_v, if_neg (own_no e0)]) 
          · skip
            refine OEnds.go (fun _ q => XS.ifNo X244.here X244.hx rfl (hb hby at_165) rfl ((if0 _ _).trans (feq e0).1) q) ?_
            show OEnds p e below _ T243 (mkF m 168 #[.val (.int x0), .val (.int x1), .val (.int x2), .val (.int x3), .val (.int nn), .val (.int c0), .val (.int c1), .val (.int c2), .val (.ref a209), .unset] [])
            refine OEnds.go (fun _ q => XS.iload X244.here X244.hx rfl (hb hby at_168) rfl q) ?_
            show OEnds p e below _ T243 (mkF m 170 #[.val (.int x0), .val (.int x1), .val (.int x2), .val (.int x3), .val (.int nn), .val (.int c0), .val (.int c1), .val (.int c2), .val (.ref a209), .unset] [(.int c1)])
            refine X244.callS hE (con_ok H c1 h229) (own_k hw 51 rfl) (own_k hw 52 rfl) (own_k hw 2 rfl) (own_k hw 53 rfl)  (by decide) (W := 0) (by decide) (by decide) (argsL := [(.int c1)]) (rest := []) rfl (lenOf own_pd18 rfl) rfl (by rw [hml]; rfl) (Nat.le_of_eq rfl) (hb hby at_170) (by decide) (by decide) ?_
            intro v255 vm253 T250 h252 X251 C254 q256
            obtain ⟨rfl, rfl⟩ := q256
            show OEnds p e below _ T250 (mkF m 173 #[.val (.int x0), .val (.int x1), .val (.int x2), .val (.int x3), .val (.int nn), .val (.int c0), .val (.int c1), .val (.int c2), .val (.ref a209), .unset] [(.int (if own_ok c1 then 1 else 0))])
            by_cases e1 : (if own_ok c1 then 1 else 0) = (0 : Int32)
            · skip
              refine OEnds.go (fun _ q => XS.ifYes X251.here X251.hx rfl (pc0 := 173) (pc' := 188) rfl (hb hby at_173) rfl ((if0 _ _).trans (teq e1).1) (by decide) (by decide) q) ?_
              show OEnds p e below _ T250 (mkF m 188 #[.val (.int x0), .val (.int x1), .val (.int x2), .val (.int x3), .val (.int nn), .val (.int c0), .val (.int c1), .val (.int c2), .val (.ref a209), .unset] [])
              refine OEnds.go (fun _ q => XS.iconst X251.here X251.hx rfl (hb hby at_188) q) ?_
              show OEnds p e below _ T250 (mkF m 189 #[.val (.int x0), .val (.int x1), .val (.int x2), .val (.int x3), .val (.int nn), .val (.int c0), .val (.int c1), .val (.int c2), .val (.ref a209), .unset] [(.int (0 : Int32))])
              exact JE _ _ _ _ (X251.mono (by decide) (by decide))  U234 (by simp only [own_v, if_pos (own_yes e0), if_neg (own_no e1)]) 
            · skip
              refine OEnds.go (fun _ q => XS.ifNo X251.here X251.hx rfl (hb hby at_173) rfl ((if0 _ _).trans (feq e1).1) q) ?_
              show OEnds p e below _ T250 (mkF m 176 #[.val (.int x0), .val (.int x1), .val (.int x2), .val (.int x3), .val (.int nn), .val (.int c0), .val (.int c1), .val (.int c2), .val (.ref a209), .unset] [])
              refine OEnds.go (fun _ q => XS.iload X251.here X251.hx rfl (hb hby at_176) rfl q) ?_
              show OEnds p e below _ T250 (mkF m 178 #[.val (.int x0), .val (.int x1), .val (.int x2), .val (.int x3), .val (.int nn), .val (.int c0), .val (.int c1), .val (.int c2), .val (.ref a209), .unset] [(.int c2)])
              refine X251.callS hE (con_ok H c2 h229) (own_k hw 51 rfl) (own_k hw 52 rfl) (own_k hw 2 rfl) (own_k hw 53 rfl)  (by decide) (W := 0) (by decide) (by decide) (argsL := [(.int c2)]) (rest := []) rfl (lenOf own_pd18 rfl) rfl (by rw [hml]; rfl) (Nat.le_of_eq rfl) (hb hby at_178) (by decide) (by decide) ?_
              intro v262 vm260 T257 h259 X258 C261 q263
              obtain ⟨rfl, rfl⟩ := q263
              show OEnds p e below _ T257 (mkF m 181 #[.val (.int x0), .val (.int x1), .val (.int x2), .val (.int x3), .val (.int nn), .val (.int c0), .val (.int c1), .val (.int c2), .val (.ref a209), .unset] [(.int (if own_ok c2 then 1 else 0))])
              by_cases e2 : (if own_ok c2 then 1 else 0) = (0 : Int32)
              · skip
                refine OEnds.go (fun _ q => XS.ifYes X258.here X258.hx rfl (pc0 := 181) (pc' := 188) rfl (hb hby at_181) rfl ((if0 _ _).trans (teq e2).1) (by decide) (by decide) q) ?_
                show OEnds p e below _ T257 (mkF m 188 #[.val (.int x0), .val (.int x1), .val (.int x2), .val (.int x3), .val (.int nn), .val (.int c0), .val (.int c1), .val (.int c2), .val (.ref a209), .unset] [])
                refine OEnds.go (fun _ q => XS.iconst X258.here X258.hx rfl (hb hby at_188) q) ?_
                show OEnds p e below _ T257 (mkF m 189 #[.val (.int x0), .val (.int x1), .val (.int x2), .val (.int x3), .val (.int nn), .val (.int c0), .val (.int c1), .val (.int c2), .val (.ref a209), .unset] [(.int (0 : Int32))])
                exact JE _ _ _ _ (X258.mono (by decide) (by decide))  U234 (by simp only [own_v, if_pos (own_yes e0), if_pos (own_yes e1), if_neg (own_no e2)]) 
              · skip
                refine OEnds.go (fun _ q => XS.ifNo X258.here X258.hx rfl (hb hby at_181) rfl ((if0 _ _).trans (feq e2).1) q) ?_
                show OEnds p e below _ T257 (mkF m 184 #[.val (.int x0), .val (.int x1), .val (.int x2), .val (.int x3), .val (.int nn), .val (.int c0), .val (.int c1), .val (.int c2), .val (.ref a209), .unset] [])
                refine OEnds.go (fun _ q => XS.iconst X258.here X258.hx rfl (hb hby at_184) q) ?_
                refine OEnds.go (fun _ q => XS.goto X258.here X258.hx rfl (pc0 := 185) (pc' := 189) rfl (hb hby at_185) (by decide) (by decide) q) ?_
                show OEnds p e below _ T257 (mkF m 189 #[.val (.int x0), .val (.int x1), .val (.int x2), .val (.int x3), .val (.int nn), .val (.int c0), .val (.int c1), .val (.int c2), .val (.ref a209), .unset] [(.int (1 : Int32))])
                exact JE _ _ _ _ (X258.mono (by decide) (by decide))  U234 (by simp only [own_v, if_pos (own_yes e0), if_pos (own_yes e1), if_pos (own_yes e2)]) 
        · skip
          by_cases b1 : (255 : Int32) < c1
          · skip
            refine X224.payI (ConN.back (W := 1) (con_nu31 H a209 a214 ka214 c0 c1 c2 b0 b1 hc1 gza209 h225 Aa209_h225 Fa209_value_h225 Fa209_coder_h225 Ka214_h225) X224.old X224.hZ (own_k hw 10 rfl) (own_k hw 6 rfl) (by decide) (by decide)) ?_ (own_k hw 8 rfl) (own_k hw 9 rfl) (own_k hw 10 rfl) rfl (by decide) (a := a209) (argsL := [.ref a214]) (rest := [(.ref a209)]) rfl (lenOf own_pdC rfl) rfl (by rw [hml]; rfl) (Nat.le_of_eq rfl) (hb hby at_155) (by decide) (by decide) ?_
            · rintro v hh L ⟨⟨-, q3, -⟩, q2, -⟩
              exact ⟨q2, ext_keep X224.old q3 (allS gza209 all0), CHr.keep q3 (sfS (safe_blank X224.al Aa209_h225 Fa209_value_h225) sf0) X224.chv⟩
            intro v264 T265 h266 L267 X268 q269
            obtain ⟨⟨rfl, K270, U271⟩, -⟩ := q269
            show OEnds p e below _ T265 (mkF m 158 #[.val (.int x0), .val (.int x1), .val (.int x2), .val (.int x3), .val (.int nn), .val (.int c0), .val (.int c1), .val (.int c2), .unset, .unset] [(.ref a209)])
            refine OEnds.go (fun _ q => XS.astore X268.here X268.hx rfl (hb hby at_158) rfl rfl (l' := #[.val (.int x0), .val (.int x1), .val (.int x2), .val (.int x3), .val (.int nn), .val (.int c0), .val (.int c1), .val (.int c2), .val (.ref a209), .unset]) rfl q) ?_
            refine OEnds.go (fun _ q => XS.iload X268.here X268.hx rfl (hb hby at_160) rfl q) ?_
            show OEnds p e below _ T265 (mkF m 162 #[.val (.int x0), .val (.int x1), .val (.int x2), .val (.int x3), .val (.int nn), .val (.int c0), .val (.int c1), .val (.int c2), .val (.ref a209), .unset] [(.int c0)])
            have JE : ∀ (vmj273 : Vm) (Tj273 : State) (hj273 : Heap) (ev : Int32), OSt p l e room_1 s m #[(.int x0), (.int x1), (.int x2), (.int x3)] below meth c "com/example/gatepost/gatepost/http/HttpSyntaxIsFieldValuePinLaw" Z consts_1 vmj273 Tj273 hj273 4 16 → OUtf3 Z hj273 a209 c0 c1 c2 → ev = own_v [c0, c1, c2] → OEnds p e below (GW Z consts_1 s (fun r h => r = some (.int 1)) room_1.cells room_1.slots) Tj273 (mkF m 189 #[.val (.int x0), .val (.int x1), .val (.int x2), .val (.int x3), .val (.int nn), .val (.int c0), .val (.int c1), .val (.int c2), .val (.ref a209), .unset] [(.int ev)]) := by
              intro vmj273 Tj273 hj273 ev Xj273 hS hev
              refine OEnds.go (fun _ q => XS.istore Xj273.here Xj273.hx rfl (hb hby at_189) rfl (l' := #[.val (.int x0), .val (.int x1), .val (.int x2), .val (.int x3), .val (.int nn), .val (.int c0), .val (.int c1), .val (.int c2), .val (.ref a209), .val (.int ev)]) rfl q) ?_
              refine OEnds.go (fun _ q => XS.aload Xj273.here Xj273.hx rfl (hb hby at_191) rfl rfl q) ?_
              show OEnds p e below _ Tj273 (mkF m 193 #[.val (.int x0), .val (.int x1), .val (.int x2), .val (.int x3), .val (.int nn), .val (.int c0), .val (.int c1), .val (.int c2), .val (.ref a209), .val (.int ev)] [(.ref a209)])
              refine Xj273.payS (ConN.back (W := 0) (con_ifvU3 H a209 c0 c1 c2 hc0 hc1 hc2 hj273 hS) Xj273.old Xj273.hZ  (own_k hw 29 rfl) (own_k hw 28 rfl) (by decide) (by decide)) (okV Xj273) (own_k hw 26 rfl) (own_k hw 27 rfl) (own_k hw 28 rfl) (own_k hw 29 rfl) (by decide) (argsL := [(.ref a209)]) (rest := []) rfl (lenOf own_pd17 rfl) rfl (by rw [hml]; rfl) (Nat.le_of_eq rfl) (hb hby at_193) (by decide) (by decide) ?_
              intro v274 T275 h276 L277 X278 q279
              obtain ⟨⟨rfl, rfl⟩, -⟩ := q279
              show OEnds p e below _ T275 (mkF m 196 #[.val (.int x0), .val (.int x1), .val (.int x2), .val (.int x3), .val (.int nn), .val (.int c0), .val (.int c1), .val (.int c2), .val (.ref a209), .val (.int ev)] [(.int (own_v [c0, c1, c2]))])
              refine OEnds.go (fun _ q => XS.iload X278.here X278.hx rfl (hb hby at_196) rfl q) ?_
              show OEnds p e below _ T275 (mkF m 198 #[.val (.int x0), .val (.int x1), .val (.int x2), .val (.int x3), .val (.int nn), .val (.int c0), .val (.int c1), .val (.int c2), .val (.ref a209), .val (.int ev)] [(.int ev), (.int (own_v [c0, c1, c2]))])
              refine OEnds.go (fun _ q => XS.icmpNo X278.here X278.hx rfl (hb hby at_198) rfl (teq hev.symm).2 q) ?_
              show OEnds p e below _ T275 (mkF m 201 #[.val (.int x0), .val (.int x1), .val (.int x2), .val (.int x3), .val (.int nn), .val (.int c0), .val (.int c1), .val (.int c2), .val (.ref a209), .val (.int ev)] [])
              refine OEnds.go (fun _ q => XS.iconst X278.here X278.hx rfl (hb hby at_201) q) ?_
              refine OEnds.go (fun _ q => XS.goto X278.here X278.hx rfl (pc0 := 202) (pc' := 206) rfl (hb hby at_202) (by decide) (by decide) q) ?_
              show OEnds p e below _ T275 (mkF m 206 #[.val (.int x0), .val (.int x1), .val (.int x2), .val (.int x3), .val (.int nn), .val (.int c0), .val (.int c1), .val (.int c2), .val (.ref a209), .val (.int ev)] [(.int (1 : Int32))])
              exact X278.retBool hE hlk (by first | exact Or.inl rfl | exact Or.inr rfl | assumption) hret (hb hby at_206) (by decide) (by decide) rfl
            refine X268.callS hE (con_ok H c0 h266) (own_k hw 51 rfl) (own_k hw 52 rfl) (own_k hw 2 rfl) (own_k hw 53 rfl)  (by decide) (W := 0) (by decide) (by decide) (argsL := [(.int c0)]) (rest := []) rfl (lenOf own_pd18 rfl) rfl (by rw [hml]; rfl) (Nat.le_of_eq rfl) (hb hby at_162) (by decide) (by decide) ?_
            intro v285 vm283 T280 h282 X281 C284 q286
            obtain ⟨rfl, rfl⟩ := q286
            show OEnds p e below _ T280 (mkF m 165 #[.val (.int x0), .val (.int x1), .val (.int x2), .val (.int x3), .val (.int nn), .val (.int c0), .val (.int c1), .val (.int c2), .val (.ref a209), .unset] [(.int (if own_ok c0 then 1 else 0))])
            by_cases e0 : (if own_ok c0 then 1 else 0) = (0 : Int32)
            · skip
              refine OEnds.go (fun _ q => XS.ifYes X281.here X281.hx rfl (pc0 := 165) (pc' := 188) rfl (hb hby at_165) rfl ((if0 _ _).trans (teq e0).1) (by decide) (by decide) q) ?_
              show OEnds p e below _ T280 (mkF m 188 #[.val (.int x0), .val (.int x1), .val (.int x2), .val (.int x3), .val (.int nn), .val (.int c0), .val (.int c1), .val (.int c2), .val (.ref a209), .unset] [])
              refine OEnds.go (fun _ q => XS.iconst X281.here X281.hx rfl (hb hby at_188) q) ?_
              show OEnds p e below _ T280 (mkF m 189 #[.val (.int x0), .val (.int x1), .val (.int x2), .val (.int x3), .val (.int nn), .val (.int c0), .val (.int c1), .val (.int c2), .val (.ref a209), .unset] [(.int (0 : Int32))])
              exact JE _ _ _ _ (X281.mono (by decide) (by decide))  U271 (by simp only [own_v, if_neg (own_no e0)]) 
            · skip
              refine OEnds.go (fun _ q => XS.ifNo X281.here X281.hx rfl (hb hby at_165) rfl ((if0 _ _).trans (feq e0).1) q) ?_
              show OEnds p e below _ T280 (mkF m 168 #[.val (.int x0), .val (.int x1), .val (.int x2), .val (.int x3), .val (.int nn), .val (.int c0), .val (.int c1), .val (.int c2), .val (.ref a209), .unset] [])
              refine OEnds.go (fun _ q => XS.iload X281.here X281.hx rfl (hb hby at_168) rfl q) ?_
              show OEnds p e below _ T280 (mkF m 170 #[.val (.int x0), .val (.int x1), .val (.int x2), .val (.int x3), .val (.int nn), .val (.int c0), .val (.int c1), .val (.int c2), .val (.ref a209), .unset] [(.int c1)])
              refine X281.callS hE (con_ok H c1 h266) (own_k hw 51 rfl) (own_k hw 52 rfl) (own_k hw 2 rfl) (own_k hw 53 rfl)  (by decide) (W := 0) (by decide) (by decide) (argsL := [(.int c1)]) (rest := []) rfl (lenOf own_pd18 rfl) rfl (by rw [hml]; rfl) (Nat.le_of_eq rfl) (hb hby at_170) (by decide) (by decide) ?_
              intro v292 vm290 T287 h289 X288 C291 q293
              obtain ⟨rfl, rfl⟩ := q293
              show OEnds p e below _ T287 (mkF m 173 #[.val (.int x0), .val (.int x1), .val (.int x2), .val (.int x3), .val (.int nn), .val (.int c0), .val (.int c1), .val (.int c2), .val (.ref a209), .unset] [(.int (if own_ok c1 then 1 else 0))])
              by_cases e1 : (if own_ok c1 then 1 else 0) = (0 : Int32)
              · skip
                refine OEnds.go (fun _ q => XS.ifYes X288.here X288.hx rfl (pc0 := 173) (pc' := 188) rfl (hb hby at_173) rfl ((if0 _ _).trans (teq e1).1) (by decide) (by decide) q) ?_
                show OEnds p e below _ T287 (mkF m 188 #[.val (.int x0), .val (.int x1), .val (.int x2), .val (.int x3), .val (.int nn), .val (.int c0), .val (.int c1), .val (.int c2), .val (.ref a209), .unset] [])
                refine OEnds.go (fun _ q => XS.iconst X288.here X288.hx rfl (hb hby at_188) q) ?_
                show OEnds p e below _ T287 (mkF m 189 #[.val (.int x0), .val (.int x1), .val (.int x2), .val (.int x3), .val (.int nn), .val (.int c0), .val (.int c1), .val (.int c2), .val (.ref a209), .unset] [(.int (0 : Int32))])
                exact JE _ _ _ _ (X288.mono (by decide) (by decide))  U271 (by simp only [own_v, if_pos (own_yes e0), if_neg (own_no e1)]) 
              · skip
                refine OEnds.go (fun _ q => XS.ifNo X288.here X288.hx rfl (hb hby at_173) rfl ((if0 _ _).trans (feq e1).1) q) ?_
                show OEnds p e below _ T287 (mkF m 176 #[.val (.int x0), .val (.int x1), .val (.int x2), .val (.int x3), .val (.int nn), .val (.int c0), .val (.int c1), .val (.int c2), .val (.ref a209), .unset] [])
                refine OEnds.go (fun _ q => XS.iload X288.here X288.hx rfl (hb hby at_176) rfl q) ?_
                show OEnds p e below _ T287 (mkF m 178 #[.val (.int x0), .val (.int x1), .val (.int x2), .val (.int x3), .val (.int nn), .val (.int c0), .val (.int c1), .val (.int c2), .val (.ref a209), .unset] [(.int c2)])
                refine X288.callS hE (con_ok H c2 h266) (own_k hw 51 rfl) (own_k hw 52 rfl) (own_k hw 2 rfl) (own_k hw 53 rfl)  (by decide) (W := 0) (by decide) (by decide) (argsL := [(.int c2)]) (rest := []) rfl (lenOf own_pd18 rfl) rfl (by rw [hml]; rfl) (Nat.le_of_eq rfl) (hb hby at_178) (by decide) (by decide) ?_
                intro v299 vm297 T294 h296 X295 C298 q300
                obtain ⟨rfl, rfl⟩ := q300
                show OEnds p e below _ T294 (mkF m 181 #[.val (.int x0), .val (.int x1), .val (.int x2), .val (.int x3), .val (.int nn), .val (.int c0), .val (.int c1), .val (.int c2), .val (.ref a209), .unset] [(.int (if own_ok c2 then 1 else 0))])
                by_cases e2 : (if own_ok c2 then 1 else 0) = (0 : Int32)
                · skip
                  refine OEnds.go (fun _ q => XS.ifYes X295.here X295.hx rfl (pc0 := 181) (pc' := 188) rfl (hb hby at_181) rfl ((if0 _ _).trans (teq e2).1) (by decide) (by decide) q) ?_
                  show OEnds p e below _ T294 (mkF m 188 #[.val (.int x0), .val (.int x1), .val (.int x2), .val (.int x3), .val (.int nn), .val (.int c0), .val (.int c1), .val (.int c2), .val (.ref a209), .unset] [])
                  refine OEnds.go (fun _ q => XS.iconst X295.here X295.hx rfl (hb hby at_188) q) ?_
                  show OEnds p e below _ T294 (mkF m 189 #[.val (.int x0), .val (.int x1), .val (.int x2), .val (.int x3), .val (.int nn), .val (.int c0), .val (.int c1), .val (.int c2), .val (.ref a209), .unset] [(.int (0 : Int32))])
                  exact JE _ _ _ _ (X295.mono (by decide) (by decide))  U271 (by simp only [own_v, if_pos (own_yes e0), if_pos (own_yes e1), if_neg (own_no e2)]) 
                · skip
                  refine OEnds.go (fun _ q => XS.ifNo X295.here X295.hx rfl (hb hby at_181) rfl ((if0 _ _).trans (feq e2).1) q) ?_
                  show OEnds p e below _ T294 (mkF m 184 #[.val (.int x0), .val (.int x1), .val (.int x2), .val (.int x3), .val (.int nn), .val (.int c0), .val (.int c1), .val (.int c2), .val (.ref a209), .unset] [])
                  refine OEnds.go (fun _ q => XS.iconst X295.here X295.hx rfl (hb hby at_184) q) ?_
                  refine OEnds.go (fun _ q => XS.goto X295.here X295.hx rfl (pc0 := 185) (pc' := 189) rfl (hb hby at_185) (by decide) (by decide) q) ?_
                  show OEnds p e below _ T294 (mkF m 189 #[.val (.int x0), .val (.int x1), .val (.int x2), .val (.int x3), .val (.int nn), .val (.int c0), .val (.int c1), .val (.int c2), .val (.ref a209), .unset] [(.int (1 : Int32))])
                  exact JE _ _ _ _ (X295.mono (by decide) (by decide))  U271 (by simp only [own_v, if_pos (own_yes e0), if_pos (own_yes e1), if_pos (own_yes e2)]) 
          · skip
            by_cases b2 : (255 : Int32) < c2
            · skip
              refine X224.payI (ConN.back (W := 1) (con_nu32 H a209 a214 ka214 c0 c1 c2 b0 b1 b2 hc2 gza209 h225 Aa209_h225 Fa209_value_h225 Fa209_coder_h225 Ka214_h225) X224.old X224.hZ (own_k hw 10 rfl) (own_k hw 6 rfl) (by decide) (by decide)) ?_ (own_k hw 8 rfl) (own_k hw 9 rfl) (own_k hw 10 rfl) rfl (by decide) (a := a209) (argsL := [.ref a214]) (rest := [(.ref a209)]) rfl (lenOf own_pdC rfl) rfl (by rw [hml]; rfl) (Nat.le_of_eq rfl) (hb hby at_155) (by decide) (by decide) ?_
              · rintro v hh L ⟨⟨-, q3, -⟩, q2, -⟩
                exact ⟨q2, ext_keep X224.old q3 (allS gza209 all0), CHr.keep q3 (sfS (safe_blank X224.al Aa209_h225 Fa209_value_h225) sf0) X224.chv⟩
              intro v301 T302 h303 L304 X305 q306
              obtain ⟨⟨rfl, K307, U308⟩, -⟩ := q306
              show OEnds p e below _ T302 (mkF m 158 #[.val (.int x0), .val (.int x1), .val (.int x2), .val (.int x3), .val (.int nn), .val (.int c0), .val (.int c1), .val (.int c2), .unset, .unset] [(.ref a209)])
              refine OEnds.go (fun _ q => XS.astore X305.here X305.hx rfl (hb hby at_158) rfl rfl (l' := #[.val (.int x0), .val (.int x1), .val (.int x2), .val (.int x3), .val (.int nn), .val (.int c0), .val (.int c1), .val (.int c2), .val (.ref a209), .unset]) rfl q) ?_
              refine OEnds.go (fun _ q => XS.iload X305.here X305.hx rfl (hb hby at_160) rfl q) ?_
              show OEnds p e below _ T302 (mkF m 162 #[.val (.int x0), .val (.int x1), .val (.int x2), .val (.int x3), .val (.int nn), .val (.int c0), .val (.int c1), .val (.int c2), .val (.ref a209), .unset] [(.int c0)])
              have JE : ∀ (vmj310 : Vm) (Tj310 : State) (hj310 : Heap) (ev : Int32), OSt p l e room_1 s m #[(.int x0), (.int x1), (.int x2), (.int x3)] below meth c "com/example/gatepost/gatepost/http/HttpSyntaxIsFieldValuePinLaw" Z consts_1 vmj310 Tj310 hj310 4 16 → OUtf3 Z hj310 a209 c0 c1 c2 → ev = own_v [c0, c1, c2] → OEnds p e below (GW Z consts_1 s (fun r h => r = some (.int 1)) room_1.cells room_1.slots) Tj310 (mkF m 189 #[.val (.int x0), .val (.int x1), .val (.int x2), .val (.int x3), .val (.int nn), .val (.int c0), .val (.int c1), .val (.int c2), .val (.ref a209), .unset] [(.int ev)]) := by
                intro vmj310 Tj310 hj310 ev Xj310 hS hev
                refine OEnds.go (fun _ q => XS.istore Xj310.here Xj310.hx rfl (hb hby at_189) rfl (l' := #[.val (.int x0), .val (.int x1), .val (.int x2), .val (.int x3), .val (.int nn), .val (.int c0), .val (.int c1), .val (.int c2), .val (.ref a209), .val (.int ev)]) rfl q) ?_
                refine OEnds.go (fun _ q => XS.aload Xj310.here Xj310.hx rfl (hb hby at_191) rfl rfl q) ?_
                show OEnds p e below _ Tj310 (mkF m 193 #[.val (.int x0), .val (.int x1), .val (.int x2), .val (.int x3), .val (.int nn), .val (.int c0), .val (.int c1), .val (.int c2), .val (.ref a209), .val (.int ev)] [(.ref a209)])
                refine Xj310.payS (ConN.back (W := 0) (con_ifvU3 H a209 c0 c1 c2 hc0 hc1 hc2 hj310 hS) Xj310.old Xj310.hZ  (own_k hw 29 rfl) (own_k hw 28 rfl) (by decide) (by decide)) (okV Xj310) (own_k hw 26 rfl) (own_k hw 27 rfl) (own_k hw 28 rfl) (own_k hw 29 rfl) (by decide) (argsL := [(.ref a209)]) (rest := []) rfl (lenOf own_pd17 rfl) rfl (by rw [hml]; rfl) (Nat.le_of_eq rfl) (hb hby at_193) (by decide) (by decide) ?_
                intro v311 T312 h313 L314 X315 q316
                obtain ⟨⟨rfl, rfl⟩, -⟩ := q316
                show OEnds p e below _ T312 (mkF m 196 #[.val (.int x0), .val (.int x1), .val (.int x2), .val (.int x3), .val (.int nn), .val (.int c0), .val (.int c1), .val (.int c2), .val (.ref a209), .val (.int ev)] [(.int (own_v [c0, c1, c2]))])
                refine OEnds.go (fun _ q => XS.iload X315.here X315.hx rfl (hb hby at_196) rfl q) ?_
                show OEnds p e below _ T312 (mkF m 198 #[.val (.int x0), .val (.int x1), .val (.int x2), .val (.int x3), .val (.int nn), .val (.int c0), .val (.int c1), .val (.int c2), .val (.ref a209), .val (.int ev)] [(.int ev), (.int (own_v [c0, c1, c2]))])
                refine OEnds.go (fun _ q => XS.icmpNo X315.here X315.hx rfl (hb hby at_198) rfl (teq hev.symm).2 q) ?_
                show OEnds p e below _ T312 (mkF m 201 #[.val (.int x0), .val (.int x1), .val (.int x2), .val (.int x3), .val (.int nn), .val (.int c0), .val (.int c1), .val (.int c2), .val (.ref a209), .val (.int ev)] [])
                refine OEnds.go (fun _ q => XS.iconst X315.here X315.hx rfl (hb hby at_201) q) ?_
                refine OEnds.go (fun _ q => XS.goto X315.here X315.hx rfl (pc0 := 202) (pc' := 206) rfl (hb hby at_202) (by decide) (by decide) q) ?_
                show OEnds p e below _ T312 (mkF m 206 #[.val (.int x0), .val (.int x1), .val (.int x2), .val (.int x3), .val (.int nn), .val (.int c0), .val (.int c1), .val (.int c2), .val (.ref a209), .val (.int ev)] [(.int (1 : Int32))])
                exact X315.retBool hE hlk (by first | exact Or.inl rfl | exact Or.inr rfl | assumption) hret (hb hby at_206) (by decide) (by decide) rfl
              refine X305.callS hE (con_ok H c0 h303) (own_k hw 51 rfl) (own_k hw 52 rfl) (own_k hw 2 rfl) (own_k hw 53 rfl)  (by decide) (W := 0) (by decide) (by decide) (argsL := [(.int c0)]) (rest := []) rfl (lenOf own_pd18 rfl) rfl (by rw [hml]; rfl) (Nat.le_of_eq rfl) (hb hby at_162) (by decide) (by decide) ?_
              intro v322 vm320 T317 h319 X318 C321 q323
              obtain ⟨rfl, rfl⟩ := q323
              show OEnds p e below _ T317 (mkF m 165 #[.val (.int x0), .val (.int x1), .val (.int x2), .val (.int x3), .val (.int nn), .val (.int c0), .val (.int c1), .val (.int c2), .val (.ref a209), .unset] [(.int (if own_ok c0 then 1 else 0))])
              by_cases e0 : (if own_ok c0 then 1 else 0) = (0 : Int32)
              · skip
                refine OEnds.go (fun _ q => XS.ifYes X318.here X318.hx rfl (pc0 := 165) (pc' := 188) rfl (hb hby at_165) rfl ((if0 _ _).trans (teq e0).1) (by decide) (by decide) q) ?_
                show OEnds p e below _ T317 (mkF m 188 #[.val (.int x0), .val (.int x1), .val (.int x2), .val (.int x3), .val (.int nn), .val (.int c0), .val (.int c1), .val (.int c2), .val (.ref a209), .unset] [])
                refine OEnds.go (fun _ q => XS.iconst X318.here X318.hx rfl (hb hby at_188) q) ?_
                show OEnds p e below _ T317 (mkF m 189 #[.val (.int x0), .val (.int x1), .val (.int x2), .val (.int x3), .val (.int nn), .val (.int c0), .val (.int c1), .val (.int c2), .val (.ref a209), .unset] [(.int (0 : Int32))])
                exact JE _ _ _ _ (X318.mono (by decide) (by decide))  U308 (by simp only [own_v, if_neg (own_no e0)]) 
              · skip
                refine OEnds.go (fun _ q => XS.ifNo X318.here X318.hx rfl (hb hby at_165) rfl ((if0 _ _).trans (feq e0).1) q) ?_
                show OEnds p e below _ T317 (mkF m 168 #[.val (.int x0), .val (.int x1), .val (.int x2), .val (.int x3), .val (.int nn), .val (.int c0), .val (.int c1), .val (.int c2), .val (.ref a209), .unset] [])
                refine OEnds.go (fun _ q => XS.iload X318.here X318.hx rfl (hb hby at_168) rfl q) ?_
                show OEnds p e below _ T317 (mkF m 170 #[.val (.int x0), .val (.int x1), .val (.int x2), .val (.int x3), .val (.int nn), .val (.int c0), .val (.int c1), .val (.int c2), .val (.ref a209), .unset] [(.int c1)])
                refine X318.callS hE (con_ok H c1 h303) (own_k hw 51 rfl) (own_k hw 52 rfl) (own_k hw 2 rfl) (own_k hw 53 rfl)  (by decide) (W := 0) (by decide) (by decide) (argsL := [(.int c1)]) (rest := []) rfl (lenOf own_pd18 rfl) rfl (by rw [hml]; rfl) (Nat.le_of_eq rfl) (hb hby at_170) (by decide) (by decide) ?_
                intro v329 vm327 T324 h326 X325 C328 q330
                obtain ⟨rfl, rfl⟩ := q330
                show OEnds p e below _ T324 (mkF m 173 #[.val (.int x0), .val (.int x1), .val (.int x2), .val (.int x3), .val (.int nn), .val (.int c0), .val (.int c1), .val (.int c2), .val (.ref a209), .unset] [(.int (if own_ok c1 then 1 else 0))])
                by_cases e1 : (if own_ok c1 then 1 else 0) = (0 : Int32)
                · skip
                  refine OEnds.go (fun _ q => XS.ifYes X325.here X325.hx rfl (pc0 := 173) (pc' := 188) rfl (hb hby at_173) rfl ((if0 _ _).trans (teq e1).1) (by decide) (by decide) q) ?_
                  show OEnds p e below _ T324 (mkF m 188 #[.val (.int x0), .val (.int x1), .val (.int x2), .val (.int x3), .val (.int nn), .val (.int c0), .val (.int c1), .val (.int c2), .val (.ref a209), .unset] [])
                  refine OEnds.go (fun _ q => XS.iconst X325.here X325.hx rfl (hb hby at_188) q) ?_
                  show OEnds p e below _ T324 (mkF m 189 #[.val (.int x0), .val (.int x1), .val (.int x2), .val (.int x3), .val (.int nn), .val (.int c0), .val (.int c1), .val (.int c2), .val (.ref a209), .unset] [(.int (0 : Int32))])
                  exact JE _ _ _ _ (X325.mono (by decide) (by decide))  U308 (by simp only [own_v, if_pos (own_yes e0), if_neg (own_no e1)]) 
                · skip
                  refine OEnds.go (fun _ q => XS.ifNo X325.here X325.hx rfl (hb hby at_173) rfl ((if0 _ _).trans (feq e1).1) q) ?_
                  show OEnds p e below _ T324 (mkF m 176 #[.val (.int x0), .val (.int x1), .val (.int x2), .val (.int x3), .val (.int nn), .val (.int c0), .val (.int c1), .val (.int c2), .val (.ref a209), .unset] [])
                  refine OEnds.go (fun _ q => XS.iload X325.here X325.hx rfl (hb hby at_176) rfl q) ?_
                  show OEnds p e below _ T324 (mkF m 178 #[.val (.int x0), .val (.int x1), .val (.int x2), .val (.int x3), .val (.int nn), .val (.int c0), .val (.int c1), .val (.int c2), .val (.ref a209), .unset] [(.int c2)])
                  refine X325.callS hE (con_ok H c2 h303) (own_k hw 51 rfl) (own_k hw 52 rfl) (own_k hw 2 rfl) (own_k hw 53 rfl)  (by decide) (W := 0) (by decide) (by decide) (argsL := [(.int c2)]) (rest := []) rfl (lenOf own_pd18 rfl) rfl (by rw [hml]; rfl) (Nat.le_of_eq rfl) (hb hby at_178) (by decide) (by decide) ?_
                  intro v336 vm334 T331 h333 X332 C335 q337
                  obtain ⟨rfl, rfl⟩ := q337
                  show OEnds p e below _ T331 (mkF m 181 #[.val (.int x0), .val (.int x1), .val (.int x2), .val (.int x3), .val (.int nn), .val (.int c0), .val (.int c1), .val (.int c2), .val (.ref a209), .unset] [(.int (if own_ok c2 then 1 else 0))])
                  by_cases e2 : (if own_ok c2 then 1 else 0) = (0 : Int32)
                  · skip
                    refine OEnds.go (fun _ q => XS.ifYes X332.here X332.hx rfl (pc0 := 181) (pc' := 188) rfl (hb hby at_181) rfl ((if0 _ _).trans (teq e2).1) (by decide) (by decide) q) ?_
                    show OEnds p e below _ T331 (mkF m 188 #[.val (.int x0), .val (.int x1), .val (.int x2), .val (.int x3), .val (.int nn), .val (.int c0), .val (.int c1), .val (.int c2), .val (.ref a209), .unset] [])
                    refine OEnds.go (fun _ q => XS.iconst X332.here X332.hx rfl (hb hby at_188) q) ?_
                    show OEnds p e below _ T331 (mkF m 189 #[.val (.int x0), .val (.int x1), .val (.int x2), .val (.int x3), .val (.int nn), .val (.int c0), .val (.int c1), .val (.int c2), .val (.ref a209), .unset] [(.int (0 : Int32))])
                    exact JE _ _ _ _ (X332.mono (by decide) (by decide))  U308 (by simp only [own_v, if_pos (own_yes e0), if_pos (own_yes e1), if_neg (own_no e2)]) 
                  · skip
                    refine OEnds.go (fun _ q => XS.ifNo X332.here X332.hx rfl (hb hby at_181) rfl ((if0 _ _).trans (feq e2).1) q) ?_
                    show OEnds p e below _ T331 (mkF m 184 #[.val (.int x0), .val (.int x1), .val (.int x2), .val (.int x3), .val (.int nn), .val (.int c0), .val (.int c1), .val (.int c2), .val (.ref a209), .unset] [])
                    refine OEnds.go (fun _ q => XS.iconst X332.here X332.hx rfl (hb hby at_184) q) ?_
                    refine OEnds.go (fun _ q => XS.goto X332.here X332.hx rfl (pc0 := 185) (pc' := 189) rfl (hb hby at_185) (by decide) (by decide) q) ?_
                    show OEnds p e below _ T331 (mkF m 189 #[.val (.int x0), .val (.int x1), .val (.int x2), .val (.int x3), .val (.int nn), .val (.int c0), .val (.int c1), .val (.int c2), .val (.ref a209), .unset] [(.int (1 : Int32))])
                    exact JE _ _ _ _ (X332.mono (by decide) (by decide))  U308 (by simp only [own_v, if_pos (own_yes e0), if_pos (own_yes e1), if_pos (own_yes e2)]) 
            · skip
              refine own_newStr H X224 (cs := [c0, c1, c2]) (j := 3) gza209 Aa209_h225 Fa209_value_h225 Fa209_coder_h225 Ka214_h225 rfl rfl (by decide) (by decide) (all_cons ⟨hc0.1, b0⟩ (all_cons ⟨hc1.1, b1⟩ (all_cons ⟨hc2.1, b2⟩ all_nil))) (own_k hw 8 rfl) (W := 1) (by decide) (by decide) (by rw [hml]; rfl) (Nat.le_of_eq rfl) (hb hby at_155) (by decide) (by decide) ?_
              intro T338 h340 X339 K341 Str342
              have EBa209_h340 := ext_keep EBa209_h225 K341 (allS (Nat.le_of_eq ga209) all0)
              have EX_h340 := ext_keep EX_h225 K341 (allS (Nat.le_trans EX0.1 (Nat.le_of_eq ga209)) all0)
              show OEnds p e below _ T338 (mkF m 158 #[.val (.int x0), .val (.int x1), .val (.int x2), .val (.int x3), .val (.int nn), .val (.int c0), .val (.int c1), .val (.int c2), .unset, .unset] [(.ref a209)])
              refine OEnds.go (fun _ q => XS.astore X339.here X339.hx rfl (hb hby at_158) rfl rfl (l' := #[.val (.int x0), .val (.int x1), .val (.int x2), .val (.int x3), .val (.int nn), .val (.int c0), .val (.int c1), .val (.int c2), .val (.ref a209), .unset]) rfl q) ?_
              refine OEnds.go (fun _ q => XS.iload X339.here X339.hx rfl (hb hby at_160) rfl q) ?_
              show OEnds p e below _ T338 (mkF m 162 #[.val (.int x0), .val (.int x1), .val (.int x2), .val (.int x3), .val (.int nn), .val (.int c0), .val (.int c1), .val (.int c2), .val (.ref a209), .unset] [(.int c0)])
              have JE : ∀ (vmj344 : Vm) (Tj344 : State) (hj344 : Heap) (ev : Int32), OSt p l e room_1 s m #[(.int x0), (.int x1), (.int x2), (.int x3)] below meth c "com/example/gatepost/gatepost/http/HttpSyntaxIsFieldValuePinLaw" Z consts_1 vmj344 Tj344 hj344 3 10 → OStr Z hj344 a209 [c0, c1, c2] → ev = own_v [c0, c1, c2] → OEnds p e below (GW Z consts_1 s (fun r h => r = some (.int 1)) room_1.cells room_1.slots) Tj344 (mkF m 189 #[.val (.int x0), .val (.int x1), .val (.int x2), .val (.int x3), .val (.int nn), .val (.int c0), .val (.int c1), .val (.int c2), .val (.ref a209), .unset] [(.int ev)]) := by
                intro vmj344 Tj344 hj344 ev Xj344 hS hev
                refine OEnds.go (fun _ q => XS.istore Xj344.here Xj344.hx rfl (hb hby at_189) rfl (l' := #[.val (.int x0), .val (.int x1), .val (.int x2), .val (.int x3), .val (.int nn), .val (.int c0), .val (.int c1), .val (.int c2), .val (.ref a209), .val (.int ev)]) rfl q) ?_
                refine OEnds.go (fun _ q => XS.aload Xj344.here Xj344.hx rfl (hb hby at_191) rfl rfl q) ?_
                show OEnds p e below _ Tj344 (mkF m 193 #[.val (.int x0), .val (.int x1), .val (.int x2), .val (.int x3), .val (.int nn), .val (.int c0), .val (.int c1), .val (.int c2), .val (.ref a209), .val (.int ev)] [(.ref a209)])
                refine Xj344.payS (ConN.back (W := 0) (con_ifvL3 H a209 c0 c1 c2  hj344 hS) Xj344.old Xj344.hZ  (own_k hw 29 rfl) (own_k hw 28 rfl) (by decide) (by decide)) (okV Xj344) (own_k hw 26 rfl) (own_k hw 27 rfl) (own_k hw 28 rfl) (own_k hw 29 rfl) (by decide) (argsL := [(.ref a209)]) (rest := []) rfl (lenOf own_pd17 rfl) rfl (by rw [hml]; rfl) (Nat.le_of_eq rfl) (hb hby at_193) (by decide) (by decide) ?_
                intro v345 T346 h347 L348 X349 q350
                obtain ⟨⟨rfl, rfl⟩, -⟩ := q350
                show OEnds p e below _ T346 (mkF m 196 #[.val (.int x0), .val (.int x1), .val (.int x2), .val (.int x3), .val (.int nn), .val (.int c0), .val (.int c1), .val (.int c2), .val (.ref a209), .val (.int ev)] [(.int (own_v [c0, c1, c2]))])
                refine OEnds.go (fun _ q => XS.iload X349.here X349.hx rfl (hb hby at_196) rfl q) ?_
                show OEnds p e below _ T346 (mkF m 198 #[.val (.int x0), .val (.int x1), .val (.int x2), .val (.int x3), .val (.int nn), .val (.int c0), .val (.int c1), .val (.int c2), .val (.ref a209), .val (.int ev)] [(.int ev), (.int (own_v [c0, c1, c2]))])
                refine OEnds.go (fun _ q => XS.icmpNo X349.here X349.hx rfl (hb hby at_198) rfl (teq hev.symm).2 q) ?_
                show OEnds p e below _ T346 (mkF m 201 #[.val (.int x0), .val (.int x1), .val (.int x2), .val (.int x3), .val (.int nn), .val (.int c0), .val (.int c1), .val (.int c2), .val (.ref a209), .val (.int ev)] [])
                refine OEnds.go (fun _ q => XS.iconst X349.here X349.hx rfl (hb hby at_201) q) ?_
                refine OEnds.go (fun _ q => XS.goto X349.here X349.hx rfl (pc0 := 202) (pc' := 206) rfl (hb hby at_202) (by decide) (by decide) q) ?_
                show OEnds p e below _ T346 (mkF m 206 #[.val (.int x0), .val (.int x1), .val (.int x2), .val (.int x3), .val (.int nn), .val (.int c0), .val (.int c1), .val (.int c2), .val (.ref a209), .val (.int ev)] [(.int (1 : Int32))])
                exact X349.retBool hE hlk (by first | exact Or.inl rfl | exact Or.inr rfl | assumption) hret (hb hby at_206) (by decide) (by decide) rfl
              refine X339.callS hE (con_ok H c0 h340) (own_k hw 51 rfl) (own_k hw 52 rfl) (own_k hw 2 rfl) (own_k hw 53 rfl)  (by decide) (W := 0) (by decide) (by decide) (argsL := [(.int c0)]) (rest := []) rfl (lenOf own_pd18 rfl) rfl (by rw [hml]; rfl) (Nat.le_of_eq rfl) (hb hby at_162) (by decide) (by decide) ?_
              intro v356 vm354 T351 h353 X352 C355 q357
              obtain ⟨rfl, rfl⟩ := q357
              show OEnds p e below _ T351 (mkF m 165 #[.val (.int x0), .val (.int x1), .val (.int x2), .val (.int x3), .val (.int nn), .val (.int c0), .val (.int c1), .val (.int c2), .val (.ref a209), .unset] [(.int (if own_ok c0 then 1 else 0))])
              by_cases e0 : (if own_ok c0 then 1 else 0) = (0 : Int32)
              · skip
                refine OEnds.go (fun _ q => XS.ifYes X352.here X352.hx rfl (pc0 := 165) (pc' := 188) rfl (hb hby at_165) rfl ((if0 _ _).trans (teq e0).1) (by decide) (by decide) q) ?_
                show OEnds p e below _ T351 (mkF m 188 #[.val (.int x0), .val (.int x1), .val (.int x2), .val (.int x3), .val (.int nn), .val (.int c0), .val (.int c1), .val (.int c2), .val (.ref a209), .unset] [])
                refine OEnds.go (fun _ q => XS.iconst X352.here X352.hx rfl (hb hby at_188) q) ?_
                show OEnds p e below _ T351 (mkF m 189 #[.val (.int x0), .val (.int x1), .val (.int x2), .val (.int x3), .val (.int nn), .val (.int c0), .val (.int c1), .val (.int c2), .val (.ref a209), .unset] [(.int (0 : Int32))])
                exact JE _ _ _ _ (X352.mono (by decide) (by decide))  Str342 (by simp only [own_v, if_neg (own_no e0)]) 
              · skip
                refine OEnds.go (fun _ q => XS.ifNo X352.here X352.hx rfl (hb hby at_165) rfl ((if0 _ _).trans (feq e0).1) q) ?_
                show OEnds p e below _ T351 (mkF m 168 #[.val (.int x0), .val (.int x1), .val (.int x2), .val (.int x3), .val (.int nn), .val (.int c0), .val (.int c1), .val (.int c2), .val (.ref a209), .unset] [])
                refine OEnds.go (fun _ q => XS.iload X352.here X352.hx rfl (hb hby at_168) rfl q) ?_
                show OEnds p e below _ T351 (mkF m 170 #[.val (.int x0), .val (.int x1), .val (.int x2), .val (.int x3), .val (.int nn), .val (.int c0), .val (.int c1), .val (.int c2), .val (.ref a209), .unset] [(.int c1)])
                refine X352.callS hE (con_ok H c1 h340) (own_k hw 51 rfl) (own_k hw 52 rfl) (own_k hw 2 rfl) (own_k hw 53 rfl)  (by decide) (W := 0) (by decide) (by decide) (argsL := [(.int c1)]) (rest := []) rfl (lenOf own_pd18 rfl) rfl (by rw [hml]; rfl) (Nat.le_of_eq rfl) (hb hby at_170) (by decide) (by decide) ?_
                intro v363 vm361 T358 h360 X359 C362 q364
                obtain ⟨rfl, rfl⟩ := q364
                show OEnds p e below _ T358 (mkF m 173 #[.val (.int x0), .val (.int x1), .val (.int x2), .val (.int x3), .val (.int nn), .val (.int c0), .val (.int c1), .val (.int c2), .val (.ref a209), .unset] [(.int (if own_ok c1 then 1 else 0))])
                by_cases e1 : (if own_ok c1 then 1 else 0) = (0 : Int32)
                · skip
                  refine OEnds.go (fun _ q => XS.ifYes X359.here X359.hx rfl (pc0 := 173) (pc' := 188) rfl (hb hby at_173) rfl ((if0 _ _).trans (teq e1).1) (by decide) (by decide) q) ?_
                  show OEnds p e below _ T358 (mkF m 188 #[.val (.int x0), .val (.int x1), .val (.int x2), .val (.int x3), .val (.int nn), .val (.int c0), .val (.int c1), .val (.int c2), .val (.ref a209), .unset] [])
                  refine OEnds.go (fun _ q => XS.iconst X359.here X359.hx rfl (hb hby at_188) q) ?_
                  show OEnds p e below _ T358 (mkF m 189 #[.val (.int x0), .val (.int x1), .val (.int x2), .val (.int x3), .val (.int nn), .val (.int c0), .val (.int c1), .val (.int c2), .val (.ref a209), .unset] [(.int (0 : Int32))])
                  exact JE _ _ _ _ (X359.mono (by decide) (by decide))  Str342 (by simp only [own_v, if_pos (own_yes e0), if_neg (own_no e1)]) 
                · skip
                  refine OEnds.go (fun _ q => XS.ifNo X359.here X359.hx rfl (hb hby at_173) rfl ((if0 _ _).trans (feq e1).1) q) ?_
                  show OEnds p e below _ T358 (mkF m 176 #[.val (.int x0), .val (.int x1), .val (.int x2), .val (.int x3), .val (.int nn), .val (.int c0), .val (.int c1), .val (.int c2), .val (.ref a209), .unset] [])
                  refine OEnds.go (fun _ q => XS.iload X359.here X359.hx rfl (hb hby at_176) rfl q) ?_
                  show OEnds p e below _ T358 (mkF m 178 #[.val (.int x0), .val (.int x1), .val (.int x2), .val (.int x3), .val (.int nn), .val (.int c0), .val (.int c1), .val (.int c2), .val (.ref a209), .unset] [(.int c2)])
                  refine X359.callS hE (con_ok H c2 h340) (own_k hw 51 rfl) (own_k hw 52 rfl) (own_k hw 2 rfl) (own_k hw 53 rfl)  (by decide) (W := 0) (by decide) (by decide) (argsL := [(.int c2)]) (rest := []) rfl (lenOf own_pd18 rfl) rfl (by rw [hml]; rfl) (Nat.le_of_eq rfl) (hb hby at_178) (by decide) (by decide) ?_
                  intro v370 vm368 T365 h367 X366 C369 q371
                  obtain ⟨rfl, rfl⟩ := q371
                  show OEnds p e below _ T365 (mkF m 181 #[.val (.int x0), .val (.int x1), .val (.int x2), .val (.int x3), .val (.int nn), .val (.int c0), .val (.int c1), .val (.int c2), .val (.ref a209), .unset] [(.int (if own_ok c2 then 1 else 0))])
                  by_cases e2 : (if own_ok c2 then 1 else 0) = (0 : Int32)
                  · skip
                    refine OEnds.go (fun _ q => XS.ifYes X366.here X366.hx rfl (pc0 := 181) (pc' := 188) rfl (hb hby at_181) rfl ((if0 _ _).trans (teq e2).1) (by decide) (by decide) q) ?_
                    show OEnds p e below _ T365 (mkF m 188 #[.val (.int x0), .val (.int x1), .val (.int x2), .val (.int x3), .val (.int nn), .val (.int c0), .val (.int c1), .val (.int c2), .val (.ref a209), .unset] [])
                    refine OEnds.go (fun _ q => XS.iconst X366.here X366.hx rfl (hb hby at_188) q) ?_
                    show OEnds p e below _ T365 (mkF m 189 #[.val (.int x0), .val (.int x1), .val (.int x2), .val (.int x3), .val (.int nn), .val (.int c0), .val (.int c1), .val (.int c2), .val (.ref a209), .unset] [(.int (0 : Int32))])
                    exact JE _ _ _ _ (X366.mono (by decide) (by decide))  Str342 (by simp only [own_v, if_pos (own_yes e0), if_pos (own_yes e1), if_neg (own_no e2)]) 
                  · skip
                    refine OEnds.go (fun _ q => XS.ifNo X366.here X366.hx rfl (hb hby at_181) rfl ((if0 _ _).trans (feq e2).1) q) ?_
                    show OEnds p e below _ T365 (mkF m 184 #[.val (.int x0), .val (.int x1), .val (.int x2), .val (.int x3), .val (.int nn), .val (.int c0), .val (.int c1), .val (.int c2), .val (.ref a209), .unset] [])
                    refine OEnds.go (fun _ q => XS.iconst X366.here X366.hx rfl (hb hby at_184) q) ?_
                    refine OEnds.go (fun _ q => XS.goto X366.here X366.hx rfl (pc0 := 185) (pc' := 189) rfl (hb hby at_185) (by decide) (by decide) q) ?_
                    show OEnds p e below _ T365 (mkF m 189 #[.val (.int x0), .val (.int x1), .val (.int x2), .val (.int x3), .val (.int nn), .val (.int c0), .val (.int c1), .val (.int c2), .val (.ref a209), .unset] [(.int (1 : Int32))])
                    exact JE _ _ _ _ (X366.mono (by decide) (by decide))  Str342 (by simp only [own_v, if_pos (own_yes e0), if_pos (own_yes e1), if_pos (own_yes e2)]) 
theorem comes_1 {Post : Tables → Env → Array Value → State → Outcome → State → Prop} (hpost : ∀ tb e args s v u, (limb_1_1.after args s (.returned v) u = true ∧ limb_1_2.after args s (.returned v) u = true ∧ True) → ReturnedEndW s (.returned v) u (Jvm.fieldLocs frame_1_writes args s ++ Jvm.arrayLocs frame_1_arrays args s ++ Jvm.staticLocs frame_1_statics s) 24 1152 → Post tb e args s (.returned v) u) :
    ArmFor flags0 classFile x code maxLocals ret World_1 tables_1 room_1 Calls_1 rest_1 Pre_1 Post := by
  intro l hfl _ _ p e ha hc hk s m args below hf hA hF happ hP
  obtain ⟨hcalls, hrest, hpre⟩ := hP
  obtain ⟨-, -, -, hnamed, -, -, -, hat⟩ := (Spec.applies_iff hf).mp happ
  obtain ⟨hg, hn⟩ := and_e (Cond.before_iff.mp (show (Jvm.Cond.and given_1 narrow_1).before args s = true from hpre))
  obtain ⟨g0, gr⟩ := and_e hg
  obtain ⟨ga0, gr⟩ := and_e gr
  obtain ⟨ga1, gr⟩ := and_e gr
  obtain ⟨ga2, gr⟩ := and_e gr
  obtain ⟨w0, w1, w2, w3, rfl⟩ : ∃ w0 w1 w2 w3 : Value, args = #[w0, w1, w2, w3] := by
    have hs : args.size = 4 := by simpa [Cond.value, given_1] using g0
    obtain ⟨L⟩ := args
    match L, hs with
    | [w0, w1, w2, w3], _ => exact ⟨w0, w1, w2, w3, rfl⟩
  have hw := fun d (hd : d ∈ tables_1) => atoms_spec (ws := Jvm.Cond.code x code maxLocals ret :: tables_1) hat d (List.mem_cons_of_mem _ hd)
  obtain ⟨hsets, hown0⟩ := atoms_of _ (rest_1_c_eq ▸ (show rest_1_c.before _ s = true from hrest))
  have hfit : Fit s := fun {y c} hc i hi => by
    obtain ⟨ha, rfl⟩ := Array.getElem?_eq_some_iff.mp hc
    have q := List.all_eq_true.mp ((Array.all_eq_true_iff_forall_mem.mp hF) _ (Array.getElem_mem ha)) i (List.mem_range.mpr hi)
    simpa [Array.getElem?_eq_getElem hi] using q
  obtain ⟨i0, e0⟩ := is_v ga0
  obtain rfl : w0 = (.int i0) := Option.some.inj e0
  obtain ⟨i1, e1⟩ := is_v ga1
  obtain rfl : w1 = (.int i1) := Option.some.inj e1
  obtain ⟨i2, e2⟩ := is_v ga2
  obtain rfl : w2 = (.int i2) := Option.some.inj e2
  obtain ⟨i3, e3⟩ := is_v gr
  obtain rfl : w3 = (.int i3) := Option.some.inj e3
  obtain ⟨cz, ecz⟩ := is_v (Cond.before_iff.mp (hsets _ (List.mem_of_getElem? (i := 1) rfl)))
  have S0 : Sta s s.heap "java/lang/String" "COMPACT_STRINGS" "Z" (.int cz) := Sta.start ecz (Or.inl (hsets _ (List.mem_of_getElem? (i := 0) rfl)))
  have hcz : ¬ (cz = (0 : Int32)) := gotF (Cond.eq_ints ecz (Term.int_eval (0))) (not_v (Cond.before_iff.mp (hsets _ (List.mem_of_getElem? (i := 2) rfl))))
  obtain ⟨fm, efm, rf⟩ := isR_v (Cond.before_iff.mp (hsets _ (List.mem_of_getElem? (i := 8) rfl)))
  have S1 : Sta s s.heap "jdk/internal/util/Preconditions" "SIOOBE_FORMATTER" "Ljava/util/function/BiFunction;" fm := Sta.start efm (Or.inl (hsets _ (List.mem_of_getElem? (i := 7) rfl)))
  have hp0 : Sta s s.heap "java/lang/StringUTF16" "$assertionsDisabled" "Z" (.int (1 : Int32)) := Sta.start (own_eqI (hsets _ (List.mem_of_getElem? (i := 12) rfl))) (Or.inl (hsets _ (List.mem_of_getElem? (i := 11) rfl)))
  have hp1 : Sta s s.heap "java/lang/StringUTF16" "HI_BYTE_SHIFT" "I" (.int (0 : Int32)) := Sta.start (own_eqI (hsets _ (List.mem_of_getElem? (i := 15) rfl))) (Or.inl (hsets _ (List.mem_of_getElem? (i := 14) rfl)))
  have hp2 : Sta s s.heap "java/lang/StringUTF16" "LO_BYTE_SHIFT" "I" (.int (8 : Int32)) := Sta.start (own_eqI (hsets _ (List.mem_of_getElem? (i := 18) rfl))) (Or.inl (hsets _ (List.mem_of_getElem? (i := 17) rfl)))
  have hE : EW s #[.int i0, .int i1, .int i2, .int i3] consts_1 := EW.cons (own_k hw 18 rfl) (by decide) (EW.nil)
  have hCH : CHv s consts_1 s.vm s.heap := CHv.start hE hcalls.1 (hsets _ (List.mem_of_getElem? (i := 2) rfl)) (own_k hw 19 rfl) (own_k hw 5 rfl)
  obtain ⟨n, o, h1, h2, h3, v, L, rfl, ⟨rfl, N, -⟩, hq⟩ := con_law (l := l) (Z := s) (a0 := _) ⟨hw, hE, S0, hcz, S1, rf, hp0, hp1, hp2⟩ i0 i1 i2 i3 s.heap (ext_refl _) p e ha hc hk s m _ below hf ((Spec.applies_iff_loose hf).mp happ).1 ⟨rfl, State.Warmed39.refl s, rfl, hCH⟩ trivial
  refine ⟨n, _, h1, h2, h3, hpost _ _ _ _ _ _ ⟨Cond.after_iff.mpr rfl, Cond.after_iff.mpr (eq_i res_at (Term.int_eval (1)) rfl), trivial⟩ ⟨hq.2.1, hq.2.2.1, hq.2.2.2.1, (hq.2.2.2.2.sift fun y hy => Or.inr (N y hy)).mono (by decide) (by decide)⟩⟩
theorem main_1_1 : Claimed_1_1 := comes_1 fun _ _ _ _ _ _ h hF => ⟨h.1, hF⟩
theorem main_1_2 : Claimed_1_2 := comes_1 fun _ _ _ _ _ _ h hF => ⟨h.2.1, hF⟩
end Jvm.Pilot.@@N@@
namespace Jvm.Pilot.@@N@@
open Jvm Jvm.ClassFile Sem Op Lib Jvm.Free Jvm.Stand Jvm.Pilot.@@N@@.Jvm.D
/-! MADE BY PROGRAM (witnessworld.py) out of the Statement's table words and the real class files: 20 classes; the members and pool entries that the words name. The judged class is class 1, her method 3. -/
namespace start1
open Jvm.ClassFile
def u (s : String) : CpInfo := .utf8 (stringToUtf16 s)
/-- a pool by its gaps: so many unusable entries, then the entry; so many at the end -/
def gap : Nat → List CpInfo → List CpInfo
  | 0, r => r
  | n + 1, r => .unusable :: gap n r
def poolList (es : List (Nat × CpInfo)) (last : Nat) : List CpInfo := es.foldr (fun e r => gap e.1 (e.2 :: r)) (gap last [])
def pool (es : List (Nat × CpInfo)) (last : Nat) : Array CpInfo := ⟨poolList es last⟩
def fileOf (pool : Array CpInfo) (this : Nat) (attrs : Array Attribute := #[]) (ms : Array MethodInfo := #[]) (fl : Nat := 33) (sup : Nat := 0) (ifs : Array Nat := #[]) (fds : Array FieldInfo := #[]) : ClassFile where
  minorVersion := 0
  majorVersion := 65
  constantPool := pool
  accessFlags := fl
  thisClass := this
  superClass := sup
  interfaces := ifs
  fields := fds
  methods := ms
  attributes := attrs
def plain (name : String) (sup : Option ClassId) : Class where
  name := name
  kind := .ordinary
  loader := none
  accessFlags := 33
  super := sup
  interfaces := #[]
  cf := none
  fields := #[]
  methods := #[]
  instanceTypes := #[]
  staticTypes := #[]
  resolved := #[]
  callSites := []
  init := .initialized
  statics := none
  mirror := none

def pool0 : Array CpInfo := pool [(5, u "<init>"), (0, u "()V"), (1, .class_ 10), (1, u "java/lang/Object")] 113

def k0c0 : Code := { maxStack := 0, maxLocals := 1, code := object_method_1_code, exceptionTable := #[], attributes := #[] }
def k0m0 : Method := { name := "<init>", desc := "()V", sig := { parameters := [], returnType := none }, accessFlags := 1, code := some k0c0 }
/-- java/lang/Object -/
def k0 : Class := { plain "java/lang/Object" none with
  accessFlags := 33
  interfaces := #[]
  cf := some (fileOf pool0 8 #[] #[{ accessFlags := 1, nameIndex := 5, descriptorIndex := 6, attributes := #[] }] 33 0 #[] #[])
  fields := #[]
  methods := #[k0m0]
  instanceTypes := #[]
  staticTypes := #[]
  resolved := Array.replicate 124 none
  statics := none }

def pool1 : Array CpInfo := pool [(2, .class_ 4), (1, u "java/lang/Object"), (0, u "<init>"), (0, u "()V"), (0, .methodref 8 9), (0, .class_ 10), (0, .nameAndType 11 12), (0, u "com/example/gatepost/gatepost/http/HttpSyntaxIsFieldValuePinLaw"), (0, u "draw"), (0, u "(I)C"), (0, .class_ 14), (0, u "java/lang/String"), (0, .methodref 13 16), (0, .nameAndType 5 17), (0, u "([C)V"), (0, .methodref 8 19), (0, .nameAndType 20 21), (0, u "ok"), (0, u "(C)Z"), (0, .methodref 23 24), (0, .class_ 25), (0, .nameAndType 26 27), (0, u "com/example/gatepost/gatepost/http/HttpSyntax"), (0, u "isFieldValue"), (0, u "(Ljava/lang/String;)Z"), (3, u "law"), (0, u "(IIII)Z")] 2

def k1m0 : Method := { name := "<init>", desc := "()V", sig := { parameters := [], returnType := none }, accessFlags := 2, code := none }
def k1c1 : Code := { maxStack := 2, maxLocals := 1, code := method_2_code, exceptionTable := #[], attributes := #[] }
def k1m1 : Method := { name := "draw", desc := "(I)C", sig := { parameters := [.int], returnType := some .char }, accessFlags := 10, code := some k1c1 }
def k1c2 : Code := { maxStack := 2, maxLocals := 1, code := method_3_code, exceptionTable := #[], attributes := #[] }
def k1m2 : Method := { name := "ok", desc := "(C)Z", sig := { parameters := [.char], returnType := some .boolean }, accessFlags := 10, code := some k1c2 }
def k1c3 : Code := { maxStack := 6, maxLocals := 10, code := code, exceptionTable := #[], attributes := #[] }
def k1m3 : Method := { name := "law", desc := "(IIII)Z", sig := { parameters := [.int, .int, .int, .int], returnType := some .boolean }, accessFlags := 9, code := some k1c3 }
/-- com/example/gatepost/gatepost/http/HttpSyntaxIsFieldValuePinLaw -/
def k1 : Class := { plain "com/example/gatepost/gatepost/http/HttpSyntaxIsFieldValuePinLaw" (some 0) with
  accessFlags := 49
  interfaces := #[]
  cf := some (fileOf pool1 8 #[] #[{ accessFlags := 2, nameIndex := 5, descriptorIndex := 6, attributes := #[] }, { accessFlags := 10, nameIndex := 11, descriptorIndex := 12, attributes := #[] }, { accessFlags := 10, nameIndex := 20, descriptorIndex := 21, attributes := #[] }, { accessFlags := 9, nameIndex := 31, descriptorIndex := 32, attributes := #[] }] 49 2 #[] #[])
  fields := #[]
  methods := #[k1m0, k1m1, k1m2, k1m3]
  instanceTypes := #[]
  staticTypes := #[]
  resolved := Array.replicate 35 none
  statics := none }

def pool2 : Array CpInfo := pool [(1, .class_ 2), (0, u "java/io/Serializable"), (0, .class_ 4), (0, u "java/lang/Object")] 2

/-- java/io/Serializable -/
def k2 : Class := { plain "java/io/Serializable" (some 0) with
  accessFlags := 1537
  interfaces := #[]
  cf := some (fileOf pool2 1 #[] #[] 1537 3 #[] #[])
  fields := #[]
  methods := #[]
  instanceTypes := #[]
  staticTypes := #[]
  resolved := Array.replicate 7 none
  statics := none }

def pool3 : Array CpInfo := pool [(1, .class_ 2), (0, u "java/lang/Comparable"), (0, .class_ 4), (0, u "java/lang/Object")] 7

/-- java/lang/Comparable -/
def k3 : Class := { plain "java/lang/Comparable" (some 0) with
  accessFlags := 1537
  interfaces := #[]
  cf := some (fileOf pool3 1 #[] #[] 1537 3 #[] #[])
  fields := #[]
  methods := #[]
  instanceTypes := #[]
  staticTypes := #[]
  resolved := Array.replicate 12 none
  statics := none }

def pool4 : Array CpInfo := pool [(2, .class_ 4), (1, u "java/lang/CharSequence"), (42, .class_ 48), (0, u "java/lang/CharSequence$1CodePointIterator"), (10, .class_ 60), (0, u "java/lang/CharSequence$1CharIterator"), (5, .class_ 67), (0, u "java/lang/Object")] 63

/-- java/lang/CharSequence -/
def k4 : Class := { plain "java/lang/CharSequence" (some 0) with
  accessFlags := 1537
  interfaces := #[]
  cf := some (fileOf pool4 2 #[.nestMembers #[47, 59]] #[] 1537 66 #[] #[])
  fields := #[]
  methods := #[]
  instanceTypes := #[]
  staticTypes := #[]
  resolved := Array.replicate 131 none
  statics := none }

def pool5 : Array CpInfo := pool [(1, .class_ 2), (0, u "java/lang/constant/Constable"), (0, .class_ 4), (0, u "java/lang/Object")] 6

/-- java/lang/constant/Constable -/
def k5 : Class := { plain "java/lang/constant/Constable" (some 0) with
  accessFlags := 1537
  interfaces := #[]
  cf := some (fileOf pool5 1 #[] #[] 1537 3 #[] #[])
  fields := #[]
  methods := #[]
  instanceTypes := #[]
  staticTypes := #[]
  resolved := Array.replicate 11 none
  statics := none }

def pool6 : Array CpInfo := pool [(1, .class_ 2), (0, u "java/lang/constant/ConstantDesc"), (0, .class_ 4), (0, u "java/lang/Object")] 32

/-- java/lang/constant/ConstantDesc -/
def k6 : Class := { plain "java/lang/constant/ConstantDesc" (some 0) with
  accessFlags := 1537
  interfaces := #[]
  cf := some (fileOf pool6 1 #[] #[] 1537 3 #[] #[])
  fields := #[]
  methods := #[]
  instanceTypes := #[]
  staticTypes := #[]
  resolved := Array.replicate 37 none
  statics := none }

def pool7 : Array CpInfo := pool [(1, .methodref 2 3), (0, .class_ 4), (0, .nameAndType 5 6), (0, u "java/lang/Object"), (0, u "<init>"), (0, u "()V"), (0, .string 8), (0, u ""), (0, .fieldref 10 11), (0, .class_ 12), (0, .nameAndType 13 14), (0, u "java/lang/String"), (0, u "value"), (0, u "[B"), (0, .fieldref 10 16), (0, .nameAndType 17 18), (0, u "coder"), (0, u "B"), (2, u "hash"), (0, u "I"), (2, u "hashIsZero"), (0, u "Z"), (0, .methodref 10 28), (0, .nameAndType 5 29), (0, u "([CIILjava/lang/Void;)V"), (8, .fieldref 10 39), (0, .nameAndType 40 26), (0, u "COMPACT_STRINGS"), (1, .class_ 44), (1, u "java/lang/StringUTF16"), (0, u "compress"), (1, .methodref 42 48), (0, .nameAndType 49 50), (0, u "coderFromArrayLen"), (0, u "([BI)B"), (56, .class_ 109), (1, u "java/lang/StringLatin1"), (32, u "()Z"), (34, .methodref 42 178), (0, .nameAndType 45 179), (0, u "([CII)[B"), (154, u "()I"), (0, .methodref 10 336), (0, .nameAndType 17 337), (0, u "()B"), (25, u "([BI)C"), (27, u "(II)V"), (35, u "(I)C"), (64, .methodref 10 493), (0, .nameAndType 494 142), (0, u "isLatin1"), (0, .methodref 107 496), (0, .nameAndType 497 363), (0, u "charAt"), (0, .methodref 42 496), (2, u "checkIndex"), (5, u "length"), (67, .class_ 576), (0, u "java/lang/CharSequence"), (22, u "CASE_INSENSITIVE_ORDER"), (0, u "Ljava/util/Comparator;"), (409, u "([C)V"), (42, .fieldref 1054 1055), (0, .class_ 1056), (0, .nameAndType 1057 1058), (0, u "jdk/internal/util/Preconditions"), (0, u "SIOOBE_FORMATTER"), (0, u "Ljava/util/function/BiFunction;"), (0, .methodref 1054 1060), (0, .nameAndType 501 1061), (0, u "(IILjava/util/function/BiFunction;)I"), (39, u "serialPersistentFields"), (0, u "[Ljava/io/ObjectStreamField;"), (0, .class_ 1104), (0, u "java/lang/String$CaseInsensitiveComparator"), (1, .class_ 1107), (0, u "java/io/Serializable"), (0, .class_ 1109), (0, u "java/lang/Comparable"), (0, .class_ 1111), (0, u "java/lang/constant/Constable"), (0, .class_ 1113), (0, u "java/lang/constant/ConstantDesc"), (2, u "serialVersionUID"), (0, u "J"), (3, u "REPL"), (0, u "C"), (2, u "LATIN1"), (1, u "UTF16")] 323

def k7m0 : Method := { name := "<init>", desc := "()V", sig := { parameters := [], returnType := none }, accessFlags := 1, code := none }
def k7c1 : Code := { maxStack := 5, maxLocals := 2, code := jdk_42_method_3_code, exceptionTable := #[], attributes := #[] }
def k7m1 : Method := { name := "<init>", desc := "([C)V", sig := { parameters := [(.array .char)], returnType := none }, accessFlags := 1, code := some k7c1 }
def k7c2 : Code := { maxStack := 2, maxLocals := 1, code := jdk_42_method_54_code, exceptionTable := #[], attributes := #[] }
def k7m2 : Method := { name := "length", desc := "()I", sig := { parameters := [], returnType := some .int }, accessFlags := 1, code := some k7c2 }
def k7c3 : Code := { maxStack := 2, maxLocals := 2, code := jdk_42_method_56_code, exceptionTable := #[], attributes := #[] }
def k7m3 : Method := { name := "charAt", desc := "(I)C", sig := { parameters := [.int], returnType := some .char }, accessFlags := 1, code := some k7c3 }
def k7c4 : Code := { maxStack := 4, maxLocals := 6, code := jdk_42_method_149_code, exceptionTable := #[], attributes := #[] }
def k7m4 : Method := { name := "<init>", desc := "([CIILjava/lang/Void;)V", sig := { parameters := [(.array .char), .int, .int, (.object "java/lang/Void")], returnType := none }, accessFlags := 2, code := some k7c4 }
def k7c5 : Code := { maxStack := 1, maxLocals := 1, code := jdk_42_method_152_code, exceptionTable := #[], attributes := #[] }
def k7m5 : Method := { name := "coder", desc := "()B", sig := { parameters := [], returnType := some .byte }, accessFlags := 0, code := some k7c5 }
def k7c6 : Code := { maxStack := 1, maxLocals := 1, code := jdk_42_method_154_code, exceptionTable := #[], attributes := #[] }
def k7m6 : Method := { name := "isLatin1", desc := "()Z", sig := { parameters := [], returnType := some .boolean }, accessFlags := 0, code := some k7c6 }
def k7c7 : Code := { maxStack := 3, maxLocals := 2, code := jdk_42_method_155_code, exceptionTable := #[], attributes := #[] }
def k7m7 : Method := { name := "checkIndex", desc := "(II)V", sig := { parameters := [.int, .int], returnType := none }, accessFlags := 8, code := some k7c7 }
/-- java/lang/String -/
def k7 : Class := { plain "java/lang/String" (some 0) with
  accessFlags := 49
  interfaces := #[2, 3, 4, 5, 6]
  cf := some (fileOf pool7 10 #[.nestMembers #[1103]] #[{ accessFlags := 1, nameIndex := 5, descriptorIndex := 6, attributes := #[] }, { accessFlags := 1, nameIndex := 5, descriptorIndex := 1010, attributes := #[] }, { accessFlags := 1, nameIndex := 507, descriptorIndex := 334, attributes := #[] }, { accessFlags := 1, nameIndex := 497, descriptorIndex := 427, attributes := #[] }, { accessFlags := 2, nameIndex := 5, descriptorIndex := 29, attributes := #[] }, { accessFlags := 0, nameIndex := 17, descriptorIndex := 337, attributes := #[] }, { accessFlags := 0, nameIndex := 494, descriptorIndex := 142, attributes := #[] }, { accessFlags := 8, nameIndex := 501, descriptorIndex := 391, attributes := #[] }] 49 2 #[1106, 1108, 575, 1110, 1112] #[{ accessFlags := 18, nameIndex := 13, descriptorIndex := 14, attributes := #[] }, { accessFlags := 18, nameIndex := 17, descriptorIndex := 18, attributes := #[] }, { accessFlags := 2, nameIndex := 21, descriptorIndex := 22, attributes := #[] }, { accessFlags := 2, nameIndex := 25, descriptorIndex := 26, attributes := #[] }, { accessFlags := 26, nameIndex := 1116, descriptorIndex := 1117, attributes := #[] }, { accessFlags := 24, nameIndex := 40, descriptorIndex := 26, attributes := #[] }, { accessFlags := 26, nameIndex := 1101, descriptorIndex := 1102, attributes := #[] }, { accessFlags := 26, nameIndex := 1121, descriptorIndex := 1122, attributes := #[] }, { accessFlags := 25, nameIndex := 599, descriptorIndex := 600, attributes := #[] }, { accessFlags := 24, nameIndex := 1125, descriptorIndex := 18, attributes := #[] }, { accessFlags := 24, nameIndex := 1127, descriptorIndex := 18, attributes := #[] }])
  fields := #[{ name := "value", type := (.array .byte), accessFlags := 18, slot := 0, constantValue := 0 }, { name := "coder", type := .byte, accessFlags := 18, slot := 1, constantValue := 0 }, { name := "hash", type := .int, accessFlags := 2, slot := 2, constantValue := 0 }, { name := "hashIsZero", type := .boolean, accessFlags := 2, slot := 3, constantValue := 0 }, { name := "serialVersionUID", type := .long, accessFlags := 26, slot := 0, constantValue := 0 }, { name := "COMPACT_STRINGS", type := .boolean, accessFlags := 24, slot := 1, constantValue := 0 }, { name := "serialPersistentFields", type := (.array (.object "java/io/ObjectStreamField")), accessFlags := 26, slot := 2, constantValue := 0 }, { name := "REPL", type := .char, accessFlags := 26, slot := 3, constantValue := 0 }, { name := "CASE_INSENSITIVE_ORDER", type := (.object "java/util/Comparator"), accessFlags := 25, slot := 4, constantValue := 0 }, { name := "LATIN1", type := .byte, accessFlags := 24, slot := 5, constantValue := 0 }, { name := "UTF16", type := .byte, accessFlags := 24, slot := 6, constantValue := 0 }]
  methods := #[k7m0, k7m1, k7m2, k7m3, k7m4, k7m5, k7m6, k7m7]
  instanceTypes := #[(.array .byte), .byte, .int, .boolean]
  staticTypes := #[.long, .boolean, (.array (.object "java/io/ObjectStreamField")), .char, (.object "java/util/Comparator"), .byte, .byte]
  resolved := Array.replicate 1451 none
  statics := some 0 }

def pool8 : Array CpInfo := pool [(2, .class_ 4), (1, u "java/lang/Object"), (0, u "<init>"), (0, u "()V"), (1, .class_ 10), (1, u "com/example/gatepost/gatepost/http/HttpSyntax"), (0, u "TOKEN"), (0, u "Ljava/util/regex/Pattern;"), (12, .methodref 26 27), (0, .class_ 28), (0, .nameAndType 29 30), (0, u "java/lang/String"), (0, u "length"), (0, u "()I"), (0, .methodref 26 32), (0, .nameAndType 33 34), (0, u "charAt"), (0, u "(I)C"), (6, u "DELETE"), (0, u "C"), (2, u "LAST_BYTE"), (4, u "(Ljava/lang/String;)Z"), (0, u "isFieldValue")] 4

def k8m0 : Method := { name := "<init>", desc := "()V", sig := { parameters := [], returnType := none }, accessFlags := 2, code := none }
def k8c1 : Code := { maxStack := 2, maxLocals := 3, code := prog_53_method_3_code, exceptionTable := #[], attributes := #[] }
def k8m1 : Method := { name := "isFieldValue", desc := "(Ljava/lang/String;)Z", sig := { parameters := [(.object "java/lang/String")], returnType := some .boolean }, accessFlags := 9, code := some k8c1 }
/-- com/example/gatepost/gatepost/http/HttpSyntax -/
def k8 : Class := { plain "com/example/gatepost/gatepost/http/HttpSyntax" (some 0) with
  accessFlags := 49
  interfaces := #[]
  cf := some (fileOf pool8 8 #[] #[{ accessFlags := 2, nameIndex := 5, descriptorIndex := 6, attributes := #[] }, { accessFlags := 9, nameIndex := 51, descriptorIndex := 50, attributes := #[] }] 49 2 #[] #[{ accessFlags := 26, nameIndex := 11, descriptorIndex := 12, attributes := #[] }, { accessFlags := 26, nameIndex := 41, descriptorIndex := 42, attributes := #[] }, { accessFlags := 26, nameIndex := 45, descriptorIndex := 42, attributes := #[] }])
  fields := #[{ name := "TOKEN", type := (.object "java/util/regex/Pattern"), accessFlags := 26, slot := 0, constantValue := 0 }, { name := "DELETE", type := .char, accessFlags := 26, slot := 1, constantValue := 0 }, { name := "LAST_BYTE", type := .char, accessFlags := 26, slot := 2, constantValue := 0 }]
  methods := #[k8m0, k8m1]
  instanceTypes := #[]
  staticTypes := #[(.object "java/util/regex/Pattern"), .char, .char]
  resolved := Array.replicate 56 none
  statics := none }

def pool9 : Array CpInfo := pool [(3, .class_ 4), (0, u "java/lang/String"), (1, .class_ 8), (1, u "java/lang/Object"), (0, u "<init>"), (0, u "()V"), (0, .methodref 12 13), (0, .class_ 14), (0, .nameAndType 15 16), (0, u "java/lang/StringUTF16"), (0, u "newBytesLength"), (0, u "(I)I"), (3, .integer 1073741823), (23, .fieldref 12 45), (0, .nameAndType 46 47), (0, u "$assertionsDisabled"), (0, u "Z"), (0, .methodref 12 49), (0, .nameAndType 50 51), (0, u "length"), (0, u "([B)I"), (7, .fieldref 12 60), (0, .nameAndType 61 62), (0, u "HI_BYTE_SHIFT"), (0, u "I"), (0, .fieldref 12 64), (0, .nameAndType 65 62), (0, u "LO_BYTE_SHIFT"), (1, .methodref 12 68), (0, .nameAndType 69 70), (0, u "checkIndex"), (0, u "(I[B)V"), (0, .methodref 12 72), (0, .nameAndType 73 74), (0, u "getChar"), (0, u "([BI)C"), (32, .methodref 12 108), (0, .nameAndType 109 110), (0, u "newBytesFor"), (0, u "(I)[B"), (0, .methodref 12 112), (0, .nameAndType 113 114), (0, u "putChar"), (0, u "([BII)V"), (0, .methodref 12 116), (0, .nameAndType 117 118), (0, u "compress"), (0, u "([CI[BII)I"), (0, .methodref 12 120), (0, .nameAndType 121 122), (0, u "toBytes"), (0, u "([CII)[B"), (138, u "coderFromArrayLen"), (0, u "([BI)B"), (106, .class_ 371), (1, u "java/lang/StringUTF16$LinesSpliterator"), (20, u "charAt"), (21, .methodref 3 415), (0, .nameAndType 69 416), (0, u "(II)V"), (13, u "MAX_LENGTH"), (196, .class_ 628), (0, u "java/lang/StringUTF16$CodePointsSpliterator"), (0, .class_ 630), (0, u "java/lang/StringUTF16$CharsSpliterator")] 4

def k9m0 : Method := { name := "<init>", desc := "()V", sig := { parameters := [], returnType := none }, accessFlags := 0, code := none }
def k9c1 : Code := { maxStack := 1, maxLocals := 1, code := jdk_52_method_2_code, exceptionTable := #[], attributes := #[] }
def k9m1 : Method := { name := "newBytesFor", desc := "(I)[B", sig := { parameters := [.int], returnType := some (.array .byte) }, accessFlags := 9, code := some k9c1 }
def k9c2 : Code := { maxStack := 4, maxLocals := 1, code := jdk_52_method_3_code, exceptionTable := #[], attributes := #[] }
def k9m2 : Method := { name := "newBytesLength", desc := "(I)I", sig := { parameters := [.int], returnType := some .int }, accessFlags := 9, code := some k9c2 }
def k9c3 : Code := { maxStack := 4, maxLocals := 3, code := jdk_52_method_4_code, exceptionTable := #[], attributes := #[] }
def k9m3 : Method := { name := "putChar", desc := "([BII)V", sig := { parameters := [(.array .byte), .int, .int], returnType := none }, accessFlags := 8, code := some k9c3 }
def k9c4 : Code := { maxStack := 3, maxLocals := 2, code := jdk_52_method_5_code, exceptionTable := #[], attributes := #[] }
def k9m4 : Method := { name := "getChar", desc := "([BI)C", sig := { parameters := [(.array .byte), .int], returnType := some .char }, accessFlags := 8, code := some k9c4 }
def k9c5 : Code := { maxStack := 2, maxLocals := 1, code := jdk_52_method_6_code, exceptionTable := #[], attributes := #[] }
def k9m5 : Method := { name := "length", desc := "([B)I", sig := { parameters := [(.array .byte)], returnType := some .int }, accessFlags := 9, code := some k9c5 }
def k9c6 : Code := { maxStack := 4, maxLocals := 5, code := jdk_52_method_14_code, exceptionTable := #[], attributes := #[] }
def k9m6 : Method := { name := "toBytes", desc := "([CII)[B", sig := { parameters := [(.array .char), .int, .int], returnType := some (.array .byte) }, accessFlags := 9, code := some k9c6 }
def k9c7 : Code := { maxStack := 2, maxLocals := 2, code := jdk_52_method_15_code, exceptionTable := #[], attributes := #[] }
def k9m7 : Method := { name := "coderFromArrayLen", desc := "([BI)B", sig := { parameters := [(.array .byte), .int], returnType := some .byte }, accessFlags := 8, code := some k9c7 }
def k9c8 : Code := { maxStack := 5, maxLocals := 6, code := jdk_52_method_16_code, exceptionTable := #[], attributes := #[] }
def k9m8 : Method := { name := "compress", desc := "([CII)[B", sig := { parameters := [(.array .char), .int, .int], returnType := some (.array .byte) }, accessFlags := 9, code := some k9c8 }
def k9c9 : Code := { maxStack := 3, maxLocals := 7, code := jdk_52_method_21_code, exceptionTable := #[], attributes := #[] }
def k9m9 : Method := { name := "compress", desc := "([CI[BII)I", sig := { parameters := [(.array .char), .int, (.array .byte), .int, .int], returnType := some .int }, accessFlags := 9, code := some k9c9 }
def k9c10 : Code := { maxStack := 2, maxLocals := 2, code := jdk_52_method_83_code, exceptionTable := #[], attributes := #[] }
def k9m10 : Method := { name := "charAt", desc := "([BI)C", sig := { parameters := [(.array .byte), .int], returnType := some .char }, accessFlags := 9, code := some k9c10 }
def k9c11 : Code := { maxStack := 2, maxLocals := 2, code := jdk_52_method_91_code, exceptionTable := #[], attributes := #[] }
def k9m11 : Method := { name := "checkIndex", desc := "(I[B)V", sig := { parameters := [.int, (.array .byte)], returnType := none }, accessFlags := 9, code := some k9c11 }
/-- java/lang/StringUTF16 -/
def k9 : Class := { plain "java/lang/StringUTF16" (some 0) with
  accessFlags := 48
  interfaces := #[]
  cf := some (fileOf pool9 12 #[.nestMembers #[627, 629, 369]] #[{ accessFlags := 0, nameIndex := 9, descriptorIndex := 10, attributes := #[] }, { accessFlags := 9, nameIndex := 109, descriptorIndex := 110, attributes := #[] }, { accessFlags := 9, nameIndex := 15, descriptorIndex := 16, attributes := #[] }, { accessFlags := 8, nameIndex := 113, descriptorIndex := 114, attributes := #[] }, { accessFlags := 8, nameIndex := 73, descriptorIndex := 74, attributes := #[] }, { accessFlags := 9, nameIndex := 50, descriptorIndex := 51, attributes := #[] }, { accessFlags := 9, nameIndex := 121, descriptorIndex := 122, attributes := #[] }, { accessFlags := 8, nameIndex := 261, descriptorIndex := 262, attributes := #[] }, { accessFlags := 9, nameIndex := 117, descriptorIndex := 122, attributes := #[] }, { accessFlags := 9, nameIndex := 117, descriptorIndex := 118, attributes := #[] }, { accessFlags := 9, nameIndex := 392, descriptorIndex := 74, attributes := #[] }, { accessFlags := 9, nameIndex := 69, descriptorIndex := 70, attributes := #[] }] 48 6 #[] #[{ accessFlags := 26, nameIndex := 61, descriptorIndex := 62, attributes := #[] }, { accessFlags := 26, nameIndex := 65, descriptorIndex := 62, attributes := #[] }, { accessFlags := 24, nameIndex := 430, descriptorIndex := 62, attributes := #[] }, { accessFlags := 4120, nameIndex := 46, descriptorIndex := 47, attributes := #[] }])
  fields := #[{ name := "HI_BYTE_SHIFT", type := .int, accessFlags := 26, slot := 0, constantValue := 0 }, { name := "LO_BYTE_SHIFT", type := .int, accessFlags := 26, slot := 1, constantValue := 0 }, { name := "MAX_LENGTH", type := .int, accessFlags := 24, slot := 2, constantValue := 0 }, { name := "$assertionsDisabled", type := .boolean, accessFlags := 4120, slot := 3, constantValue := 0 }]
  methods := #[k9m0, k9m1, k9m2, k9m3, k9m4, k9m5, k9m6, k9m7, k9m8, k9m9, k9m10, k9m11]
  instanceTypes := #[]
  staticTypes := #[.int, .int, .int, .boolean]
  resolved := Array.replicate 635 none
  statics := some 1 }

def pool10 : Array CpInfo := pool [(1, .class_ 2), (0, u "java/lang/String"), (1, .class_ 6), (1, u "java/lang/Object"), (0, u "<init>"), (0, u "()V"), (0, .methodref 1 10), (0, .nameAndType 11 12), (0, u "checkIndex"), (0, u "(II)V"), (1, .class_ 16), (1, u "java/lang/StringLatin1"), (36, u "([BI)C"), (67, u "$assertionsDisabled"), (0, u "Z"), (98, .class_ 223), (1, u "java/lang/StringLatin1$LinesSpliterator"), (28, u "charAt"), (137, .class_ 391), (0, u "java/lang/StringLatin1$CharsSpliterator")] 3

def k10m0 : Method := { name := "<init>", desc := "()V", sig := { parameters := [], returnType := none }, accessFlags := 0, code := none }
def k10c1 : Code := { maxStack := 2, maxLocals := 2, code := jdk_43_method_2_code, exceptionTable := #[], attributes := #[] }
def k10m1 : Method := { name := "charAt", desc := "([BI)C", sig := { parameters := [(.array .byte), .int], returnType := some .char }, accessFlags := 9, code := some k10c1 }
/-- java/lang/StringLatin1 -/
def k10 : Class := { plain "java/lang/StringLatin1" (some 0) with
  accessFlags := 48
  interfaces := #[]
  cf := some (fileOf pool10 14 #[.nestMembers #[390, 221]] #[{ accessFlags := 0, nameIndex := 7, descriptorIndex := 8, attributes := #[] }, { accessFlags := 9, nameIndex := 252, descriptorIndex := 53, attributes := #[] }] 48 4 #[] #[{ accessFlags := 4120, nameIndex := 121, descriptorIndex := 122, attributes := #[] }])
  fields := #[{ name := "$assertionsDisabled", type := .boolean, accessFlags := 4120, slot := 0, constantValue := 0 }]
  methods := #[k10m0, k10m1]
  instanceTypes := #[]
  staticTypes := #[.boolean]
  resolved := Array.replicate 395 none
  statics := none }

def pool11 : Array CpInfo := pool [(2, .class_ 4), (1, u "java/lang/Object"), (0, u "<init>"), (0, u "()V"), (17, .class_ 26), (1, u "jdk/internal/util/Preconditions"), (6, u "checkIndex"), (21, .class_ 56), (0, u "jdk/internal/util/Preconditions$4"), (57, .class_ 115), (0, u "jdk/internal/util/Preconditions$1"), (7, u "SIOOBE_FORMATTER"), (0, u "Ljava/util/function/BiFunction;"), (0, .class_ 126), (0, u "jdk/internal/util/Preconditions$2"), (3, u "AIOOBE_FORMATTER"), (0, .class_ 132), (0, u "jdk/internal/util/Preconditions$3"), (3, u "IOOBE_FORMATTER"), (41, u "(IILjava/util/function/BiFunction;)I")] 15

def k11m0 : Method := { name := "<init>", desc := "()V", sig := { parameters := [], returnType := none }, accessFlags := 1, code := none }
def k11c1 : Code := { maxStack := 3, maxLocals := 3, code := jdk_41_method_11_code, exceptionTable := #[], attributes := #[] }
def k11m1 : Method := { name := "checkIndex", desc := "(IILjava/util/function/BiFunction;)I", sig := { parameters := [.int, .int, (.object "java/util/function/BiFunction")], returnType := some .int }, accessFlags := 9, code := some k11c1 }
/-- jdk/internal/util/Preconditions -/
def k11 : Class := { plain "jdk/internal/util/Preconditions" (some 0) with
  accessFlags := 33
  interfaces := #[]
  cf := some (fileOf pool11 24 #[.nestMembers #[55, 131, 125, 114]] #[{ accessFlags := 1, nameIndex := 5, descriptorIndex := 6, attributes := #[] }, { accessFlags := 9, nameIndex := 33, descriptorIndex := 178, attributes := #[] }] 33 2 #[] #[{ accessFlags := 25, nameIndex := 123, descriptorIndex := 124, attributes := #[] }, { accessFlags := 25, nameIndex := 130, descriptorIndex := 124, attributes := #[] }, { accessFlags := 25, nameIndex := 136, descriptorIndex := 124, attributes := #[] }])
  fields := #[{ name := "SIOOBE_FORMATTER", type := (.object "java/util/function/BiFunction"), accessFlags := 25, slot := 0, constantValue := 0 }, { name := "AIOOBE_FORMATTER", type := (.object "java/util/function/BiFunction"), accessFlags := 25, slot := 1, constantValue := 0 }, { name := "IOOBE_FORMATTER", type := (.object "java/util/function/BiFunction"), accessFlags := 25, slot := 2, constantValue := 0 }]
  methods := #[k11m0, k11m1]
  instanceTypes := #[]
  staticTypes := #[(.object "java/util/function/BiFunction"), (.object "java/util/function/BiFunction"), (.object "java/util/function/BiFunction")]
  resolved := Array.replicate 194 none
  statics := some 2 }

def pool12 : Array CpInfo := pool [(9, u "<init>"), (6, .class_ 18), (1, u "java/lang/Object"), (0, u "()V"), (1, .class_ 23), (1, u "jdk/internal/util/ArraysSupport"), (0, u "LOG2_ARRAY_LONG_INDEX_SCALE"), (0, u "I"), (2, u "U"), (0, u "Ljdk/internal/misc/Unsafe;"), (8, u "BIG_ENDIAN"), (0, u "Z"), (8, u "LOG2_BYTE_BIT_SIZE"), (4, u "LOG2_ARRAY_INT_INDEX_SCALE"), (54, u "JLA"), (0, u "Ljdk/internal/access/JavaLangAccess;"), (11, u "LOG2_ARRAY_BOOLEAN_INDEX_SCALE"), (9, u "LOG2_ARRAY_BYTE_INDEX_SCALE"), (5, u "LOG2_ARRAY_CHAR_INDEX_SCALE"), (5, u "LOG2_ARRAY_SHORT_INDEX_SCALE"), (18, u "LOG2_ARRAY_FLOAT_INDEX_SCALE"), (24, u "LOG2_ARRAY_DOUBLE_INDEX_SCALE"), (89, u "T_BOOLEAN"), (2, u "T_CHAR"), (1, u "T_FLOAT"), (1, u "T_DOUBLE"), (1, u "T_BYTE"), (1, u "T_SHORT"), (1, u "T_INT"), (1, u "T_LONG"), (1, u "SOFT_MAX_ARRAY_LENGTH")] 83

def k12m0 : Method := { name := "<init>", desc := "()V", sig := { parameters := [], returnType := none }, accessFlags := 2, code := none }
/-- jdk/internal/util/ArraysSupport -/
def k12 : Class := { plain "jdk/internal/util/ArraysSupport" (some 0) with
  accessFlags := 33
  interfaces := #[]
  cf := some (fileOf pool12 21 #[] #[{ accessFlags := 2, nameIndex := 9, descriptorIndex := 19, attributes := #[] }] 33 16 #[] #[{ accessFlags := 24, nameIndex := 28, descriptorIndex := 29, attributes := #[] }, { accessFlags := 26, nameIndex := 38, descriptorIndex := 39, attributes := #[] }, { accessFlags := 25, nameIndex := 121, descriptorIndex := 25, attributes := #[] }, { accessFlags := 25, nameIndex := 131, descriptorIndex := 25, attributes := #[] }, { accessFlags := 25, nameIndex := 137, descriptorIndex := 25, attributes := #[] }, { accessFlags := 25, nameIndex := 143, descriptorIndex := 25, attributes := #[] }, { accessFlags := 25, nameIndex := 53, descriptorIndex := 25, attributes := #[] }, { accessFlags := 25, nameIndex := 24, descriptorIndex := 25, attributes := #[] }, { accessFlags := 25, nameIndex := 162, descriptorIndex := 25, attributes := #[] }, { accessFlags := 25, nameIndex := 187, descriptorIndex := 25, attributes := #[] }, { accessFlags := 26, nameIndex := 48, descriptorIndex := 25, attributes := #[] }, { accessFlags := 25, nameIndex := 277, descriptorIndex := 25, attributes := #[] }, { accessFlags := 25, nameIndex := 280, descriptorIndex := 25, attributes := #[] }, { accessFlags := 25, nameIndex := 282, descriptorIndex := 25, attributes := #[] }, { accessFlags := 25, nameIndex := 284, descriptorIndex := 25, attributes := #[] }, { accessFlags := 25, nameIndex := 286, descriptorIndex := 25, attributes := #[] }, { accessFlags := 25, nameIndex := 288, descriptorIndex := 25, attributes := #[] }, { accessFlags := 25, nameIndex := 290, descriptorIndex := 25, attributes := #[] }, { accessFlags := 25, nameIndex := 292, descriptorIndex := 25, attributes := #[] }, { accessFlags := 26, nameIndex := 108, descriptorIndex := 109, attributes := #[] }, { accessFlags := 25, nameIndex := 294, descriptorIndex := 25, attributes := #[] }])
  fields := #[{ name := "U", type := (.object "jdk/internal/misc/Unsafe"), accessFlags := 24, slot := 0, constantValue := 0 }, { name := "BIG_ENDIAN", type := .boolean, accessFlags := 26, slot := 1, constantValue := 0 }, { name := "LOG2_ARRAY_BOOLEAN_INDEX_SCALE", type := .int, accessFlags := 25, slot := 2, constantValue := 0 }, { name := "LOG2_ARRAY_BYTE_INDEX_SCALE", type := .int, accessFlags := 25, slot := 3, constantValue := 0 }, { name := "LOG2_ARRAY_CHAR_INDEX_SCALE", type := .int, accessFlags := 25, slot := 4, constantValue := 0 }, { name := "LOG2_ARRAY_SHORT_INDEX_SCALE", type := .int, accessFlags := 25, slot := 5, constantValue := 0 }, { name := "LOG2_ARRAY_INT_INDEX_SCALE", type := .int, accessFlags := 25, slot := 6, constantValue := 0 }, { name := "LOG2_ARRAY_LONG_INDEX_SCALE", type := .int, accessFlags := 25, slot := 7, constantValue := 0 }, { name := "LOG2_ARRAY_FLOAT_INDEX_SCALE", type := .int, accessFlags := 25, slot := 8, constantValue := 0 }, { name := "LOG2_ARRAY_DOUBLE_INDEX_SCALE", type := .int, accessFlags := 25, slot := 9, constantValue := 0 }, { name := "LOG2_BYTE_BIT_SIZE", type := .int, accessFlags := 26, slot := 10, constantValue := 0 }, { name := "T_BOOLEAN", type := .int, accessFlags := 25, slot := 11, constantValue := 0 }, { name := "T_CHAR", type := .int, accessFlags := 25, slot := 12, constantValue := 0 }, { name := "T_FLOAT", type := .int, accessFlags := 25, slot := 13, constantValue := 0 }, { name := "T_DOUBLE", type := .int, accessFlags := 25, slot := 14, constantValue := 0 }, { name := "T_BYTE", type := .int, accessFlags := 25, slot := 15, constantValue := 0 }, { name := "T_SHORT", type := .int, accessFlags := 25, slot := 16, constantValue := 0 }, { name := "T_INT", type := .int, accessFlags := 25, slot := 17, constantValue := 0 }, { name := "T_LONG", type := .int, accessFlags := 25, slot := 18, constantValue := 0 }, { name := "JLA", type := (.object "jdk/internal/access/JavaLangAccess"), accessFlags := 26, slot := 19, constantValue := 0 }, { name := "SOFT_MAX_ARRAY_LENGTH", type := .int, accessFlags := 25, slot := 20, constantValue := 0 }]
  methods := #[k12m0]
  instanceTypes := #[]
  staticTypes := #[(.object "jdk/internal/misc/Unsafe"), .boolean, .int, .int, .int, .int, .int, .int, .int, .int, .int, .int, .int, .int, .int, .int, .int, .int, .int, (.object "jdk/internal/access/JavaLangAccess"), .int]
  resolved := Array.replicate 378 none
  statics := none }

def pool13 : Array CpInfo := pool [(1, u "java/lang/Cloneable"), (0, .class_ 1), (0, u "java/lang/Object"), (0, .class_ 3)] 3

/-- java/lang/Cloneable -/
def k13 : Class := { plain "java/lang/Cloneable" (some 0) with
  accessFlags := 1537
  interfaces := #[]
  cf := some (fileOf pool13 2 #[] #[] 1537 4 #[] #[])
  fields := #[]
  methods := #[]
  instanceTypes := #[]
  staticTypes := #[]
  resolved := Array.replicate 8 none
  statics := none }

/-- the primitive byte -/
def k14 : Class := { plain "byte" none with kind := .primitive 'B', accessFlags := 0x411 }
/-- [B -/
def k15 : Class := { plain "[B" (some 0) with kind := .array 14 .byte, interfaces := #[13, 2], accessFlags := 1041 }

/-- the primitive char -/
def k16 : Class := { plain "char" none with kind := .primitive 'C', accessFlags := 0x411 }
/-- [C -/
def k17 : Class := { plain "[C" (some 0) with kind := .array 16 .char, interfaces := #[13, 2], accessFlags := 1041 }

/-- the primitive int -/
def k18 : Class := { plain "int" none with kind := .primitive 'I', accessFlags := 0x411 }
/-- [I -/
def k19 : Class := { plain "[I" (some 0) with kind := .array 18 .int, interfaces := #[13, 2], accessFlags := 1041 }

def heap : Heap := #[{ cls := 7, slots := #[.long 0, .int 1, .null, .int 0, .null, .int 0, .int 0], vm := .statics 7 },
  { cls := 9, slots := #[.int 0, .int 8, .int 0, .int 1], vm := .statics 9 },
  { cls := 11, slots := #[.null, .null, .null], vm := .statics 11 }]
def classes : Array Class := #[k0, k1, k2, k3, k4, k5, k6, k7, k8, k9, k10, k11, k12, k13, k14, k15, k16, k17, k18, k19]
def interned : List (Array UInt16 × Addr) := []
def slotsUsed : Nat := 14
def theMethod : MethodId := ⟨1, 3⟩
def args0 : Array Value := #[.int 1, .int 65, .int 66, .int 67]
def aboutOver (below : List Frame) : State where
  vm := { classes := classes, interned := interned.toArray }
  heap := heap
  slotsUsed := slotsUsed
  threads := #[{ frames := .invoking theMethod args0 :: below }]
def below0 : List Frame := [.native { method := ⟨0, 0⟩, args := #[] }]
def about1 : State := aboutOver below0
def p0 : Program := .bare "" "" ""
def e0 : Env := launch0.env 0 0 0
theorem w_frames : about1.frames = Frame.invoking theMethod args0 :: below0 := rfl
set_option maxRecDepth 65536 in
theorem w_args : argsFit about1.vm theMethod args0 = true := by decide +kernel
set_option maxRecDepth 65536 in
theorem w_heap : heapFits about1 = true := by decide +kernel
set_option maxRecDepth 65536 in
theorem w_runnable : about1.curStatus? = some .runnable := by decide +kernel
set_option maxRecDepth 65536 in
theorem w_alone : about1.alone = true := by decide +kernel
set_option maxRecDepth 65536 in
theorem w_named : about1.methodNamed? x = some theMethod := by decide +kernel
set_option maxRecDepth 65536 in
theorem w_hears : about1.hears theMethod below0 = true := by decide +kernel
set_option maxRecDepth 65536 in
theorem w_ripe : about1.ripe theMethod args0 below0 = true := by decide +kernel
theorem w_running : about1.status = .running := rfl
set_option maxRecDepth 65536 in
theorem w_room : about1.hasRoom e0.platform room_1 = true :=
  launch0.hasRoom_least _ room_1 (by decide +kernel) (by decide +kernel) (by decide +kernel) (by decide +kernel) (by decide +kernel) (by decide +kernel)
theorem allAtoms_all (ts : List Jvm.Cond) (a : Array Jvm.Value) (st : Jvm.State) : (allAtoms ts).before a st = ts.all (fun c => c.before a st) := by
  induction ts with
  | nil => rfl
  | cons c t ih =>
    show (Jvm.Cond.and c (allAtoms t)).before a st = _
    rw [Jvm.Cond.before_and, ih, List.all_cons]
def words1 : List Jvm.Cond := Jvm.Cond.code x code maxLocals ret :: tables_1
/-- a 'code' word, met by the world's own term for the bytes: nothing is compared byte by byte -/
theorem code_word {y : MethodName} {bytes : ByteArray} {mx : Nat} {rt : Option FieldType} {a : Array Value} {s : State} {m : MethodId} {meth : Method} {c : Code} (h1 : s.methodNamed? y = some m) (h2 : s.vm.method? m = some meth) (h3 : meth.code = some c) (h4 : c.code = bytes)
    (h5 : (c.maxLocals == mx && c.exceptionTable.isEmpty && decide (c.maxStack ≤ mostOperands) && decide (meth.sig.returnType = rt) && !meth.locks && decide (parseMethodDescriptor y.desc = some meth.sig)) = true) : (Jvm.Cond.code y bytes mx rt).before a s = true := by
  simp only [Bool.and_eq_true, beq_iff_eq, Bool.not_eq_true', decide_eq_true_eq] at h5
  obtain ⟨⟨⟨⟨⟨g1, g2⟩, g3⟩, g4⟩, g5⟩, g6⟩ := h5
  simp [Cond.before, Cond.holds, Cond.value, h1, h2, h3, h4, g1, g2, g3, g4, g5, g6]
def isCode : Jvm.Cond → Bool
  | .code _ _ _ _ => true
  | _ => false
theorem all_split {L : List Jvm.Cond} {P : Jvm.Cond → Bool} (h1 : L.all (fun c => isCode c || P c) = true) (h2 : ∀ c ∈ L.filter isCode, P c = true) : L.all P = true := by
  refine List.all_eq_true.mpr fun c hc => ?_
  have h := List.all_eq_true.mp h1 c hc
  rcases Bool.eq_false_or_eq_true (isCode c) with hi | hi
  · exact h2 c (List.mem_filter.mpr ⟨hc, hi⟩)
  · simpa [hi] using h
set_option maxRecDepth 65536 in
theorem w_c0 : (Jvm.Cond.code x code maxLocals ret).before args0 about1 = true := code_word (m := ⟨1, 3⟩) (meth := k1m3) (c := k1c3) (by decide +kernel) rfl rfl rfl (by decide +kernel)
set_option maxRecDepth 65536 in
theorem w_c1 : (Jvm.Cond.code ({ cls := "com/example/gatepost/gatepost/http/HttpSyntaxIsFieldValuePinLaw", name := "draw", desc := "(I)C" } : Jvm.MethodName) method_2_code (1 : Nat) (Option.some Jvm.ClassFile.FieldType.char)).before args0 about1 = true := code_word (m := ⟨1, 1⟩) (meth := k1m1) (c := k1c1) (by decide +kernel) rfl rfl rfl (by decide +kernel)
set_option maxRecDepth 65536 in
theorem w_c2 : (Jvm.Cond.code ({ cls := "java/lang/String", name := "<init>", desc := "([C)V" } : Jvm.MethodName) jdk_42_method_3_code (2 : Nat) (Option.none : Option Jvm.ClassFile.FieldType)).before args0 about1 = true := code_word (m := ⟨7, 1⟩) (meth := k7m1) (c := k7c1) (by decide +kernel) rfl rfl rfl (by decide +kernel)
set_option maxRecDepth 65536 in
theorem w_c3 : (Jvm.Cond.code ({ cls := "java/lang/String", name := "<init>", desc := "([CIILjava/lang/Void;)V" } : Jvm.MethodName) jdk_42_method_149_code (6 : Nat) (Option.none : Option Jvm.ClassFile.FieldType)).before args0 about1 = true := code_word (m := ⟨7, 4⟩) (meth := k7m4) (c := k7c4) (by decide +kernel) rfl rfl rfl (by decide +kernel)
set_option maxRecDepth 65536 in
theorem w_c4 : (Jvm.Cond.code ({ cls := "java/lang/Object", name := "<init>", desc := "()V" } : Jvm.MethodName) object_method_1_code (1 : Nat) (Option.none : Option Jvm.ClassFile.FieldType)).before args0 about1 = true := code_word (m := ⟨0, 0⟩) (meth := k0m0) (c := k0c0) (by decide +kernel) rfl rfl rfl (by decide +kernel)
set_option maxRecDepth 65536 in
theorem w_c5 : (Jvm.Cond.code ({ cls := "com/example/gatepost/gatepost/http/HttpSyntax", name := "isFieldValue", desc := "(Ljava/lang/String;)Z" } : Jvm.MethodName) prog_53_method_3_code (3 : Nat) (Option.some Jvm.ClassFile.FieldType.boolean)).before args0 about1 = true := code_word (m := ⟨8, 1⟩) (meth := k8m1) (c := k8c1) (by decide +kernel) rfl rfl rfl (by decide +kernel)
set_option maxRecDepth 65536 in
theorem w_c6 : (Jvm.Cond.code ({ cls := "java/lang/String", name := "length", desc := "()I" } : Jvm.MethodName) jdk_42_method_54_code (1 : Nat) (Option.some Jvm.ClassFile.FieldType.int)).before args0 about1 = true := code_word (m := ⟨7, 2⟩) (meth := k7m2) (c := k7c2) (by decide +kernel) rfl rfl rfl (by decide +kernel)
set_option maxRecDepth 65536 in
theorem w_c7 : (Jvm.Cond.code ({ cls := "java/lang/String", name := "coder", desc := "()B" } : Jvm.MethodName) jdk_42_method_152_code (1 : Nat) (Option.some Jvm.ClassFile.FieldType.byte)).before args0 about1 = true := code_word (m := ⟨7, 5⟩) (meth := k7m5) (c := k7c5) (by decide +kernel) rfl rfl rfl (by decide +kernel)
set_option maxRecDepth 65536 in
theorem w_c8 : (Jvm.Cond.code ({ cls := "java/lang/StringUTF16", name := "compress", desc := "([CII)[B" } : Jvm.MethodName) jdk_52_method_16_code (6 : Nat) (Option.some (Jvm.ClassFile.FieldType.array Jvm.ClassFile.FieldType.byte))).before args0 about1 = true := code_word (m := ⟨9, 8⟩) (meth := k9m8) (c := k9c8) (by decide +kernel) rfl rfl rfl (by decide +kernel)
set_option maxRecDepth 65536 in
theorem w_c9 : (Jvm.Cond.code ({ cls := "java/lang/StringUTF16", name := "compress", desc := "([CI[BII)I" } : Jvm.MethodName) jdk_52_method_21_code (7 : Nat) (Option.some Jvm.ClassFile.FieldType.int)).before args0 about1 = true := code_word (m := ⟨9, 9⟩) (meth := k9m9) (c := k9c9) (by decide +kernel) rfl rfl rfl (by decide +kernel)
set_option maxRecDepth 65536 in
theorem w_c10 : (Jvm.Cond.code ({ cls := "java/lang/StringUTF16", name := "coderFromArrayLen", desc := "([BI)B" } : Jvm.MethodName) jdk_52_method_15_code (2 : Nat) (Option.some Jvm.ClassFile.FieldType.byte)).before args0 about1 = true := code_word (m := ⟨9, 7⟩) (meth := k9m7) (c := k9c7) (by decide +kernel) rfl rfl rfl (by decide +kernel)
set_option maxRecDepth 65536 in
theorem w_c11 : (Jvm.Cond.code ({ cls := "com/example/gatepost/gatepost/http/HttpSyntaxIsFieldValuePinLaw", name := "ok", desc := "(C)Z" } : Jvm.MethodName) method_3_code (1 : Nat) (Option.some Jvm.ClassFile.FieldType.boolean)).before args0 about1 = true := code_word (m := ⟨1, 2⟩) (meth := k1m2) (c := k1c2) (by decide +kernel) rfl rfl rfl (by decide +kernel)
set_option maxRecDepth 65536 in
theorem w_c12 : (Jvm.Cond.code ({ cls := "java/lang/String", name := "charAt", desc := "(I)C" } : Jvm.MethodName) jdk_42_method_56_code (2 : Nat) (Option.some Jvm.ClassFile.FieldType.char)).before args0 about1 = true := code_word (m := ⟨7, 3⟩) (meth := k7m3) (c := k7c3) (by decide +kernel) rfl rfl rfl (by decide +kernel)
set_option maxRecDepth 65536 in
theorem w_c13 : (Jvm.Cond.code ({ cls := "java/lang/String", name := "isLatin1", desc := "()Z" } : Jvm.MethodName) jdk_42_method_154_code (1 : Nat) (Option.some Jvm.ClassFile.FieldType.boolean)).before args0 about1 = true := code_word (m := ⟨7, 6⟩) (meth := k7m6) (c := k7c6) (by decide +kernel) rfl rfl rfl (by decide +kernel)
set_option maxRecDepth 65536 in
theorem w_c14 : (Jvm.Cond.code ({ cls := "java/lang/StringLatin1", name := "charAt", desc := "([BI)C" } : Jvm.MethodName) jdk_43_method_2_code (2 : Nat) (Option.some Jvm.ClassFile.FieldType.char)).before args0 about1 = true := code_word (m := ⟨10, 1⟩) (meth := k10m1) (c := k10c1) (by decide +kernel) rfl rfl rfl (by decide +kernel)
set_option maxRecDepth 65536 in
theorem w_c15 : (Jvm.Cond.code ({ cls := "java/lang/String", name := "checkIndex", desc := "(II)V" } : Jvm.MethodName) jdk_42_method_155_code (2 : Nat) (Option.none : Option Jvm.ClassFile.FieldType)).before args0 about1 = true := code_word (m := ⟨7, 7⟩) (meth := k7m7) (c := k7c7) (by decide +kernel) rfl rfl rfl (by decide +kernel)
set_option maxRecDepth 65536 in
theorem w_c16 : (Jvm.Cond.code ({ cls := "jdk/internal/util/Preconditions", name := "checkIndex", desc := "(IILjava/util/function/BiFunction;)I" } : Jvm.MethodName) jdk_41_method_11_code (3 : Nat) (Option.some Jvm.ClassFile.FieldType.int)).before args0 about1 = true := code_word (m := ⟨11, 1⟩) (meth := k11m1) (c := k11c1) (by decide +kernel) rfl rfl rfl (by decide +kernel)
set_option maxRecDepth 65536 in
theorem w_c17 : (Jvm.Cond.code ({ cls := "java/lang/StringUTF16", name := "toBytes", desc := "([CII)[B" } : Jvm.MethodName) jdk_52_method_14_code (5 : Nat) (Option.some (Jvm.ClassFile.FieldType.array Jvm.ClassFile.FieldType.byte))).before args0 about1 = true := code_word (m := ⟨9, 6⟩) (meth := k9m6) (c := k9c6) (by decide +kernel) rfl rfl rfl (by decide +kernel)
set_option maxRecDepth 65536 in
theorem w_c18 : (Jvm.Cond.code ({ cls := "java/lang/StringUTF16", name := "newBytesFor", desc := "(I)[B" } : Jvm.MethodName) jdk_52_method_2_code (1 : Nat) (Option.some (Jvm.ClassFile.FieldType.array Jvm.ClassFile.FieldType.byte))).before args0 about1 = true := code_word (m := ⟨9, 1⟩) (meth := k9m1) (c := k9c1) (by decide +kernel) rfl rfl rfl (by decide +kernel)
set_option maxRecDepth 65536 in
theorem w_c19 : (Jvm.Cond.code ({ cls := "java/lang/StringUTF16", name := "newBytesLength", desc := "(I)I" } : Jvm.MethodName) jdk_52_method_3_code (1 : Nat) (Option.some Jvm.ClassFile.FieldType.int)).before args0 about1 = true := code_word (m := ⟨9, 2⟩) (meth := k9m2) (c := k9c2) (by decide +kernel) rfl rfl rfl (by decide +kernel)
set_option maxRecDepth 65536 in
theorem w_c20 : (Jvm.Cond.code ({ cls := "java/lang/StringUTF16", name := "putChar", desc := "([BII)V" } : Jvm.MethodName) jdk_52_method_4_code (3 : Nat) (Option.none : Option Jvm.ClassFile.FieldType)).before args0 about1 = true := code_word (m := ⟨9, 3⟩) (meth := k9m3) (c := k9c3) (by decide +kernel) rfl rfl rfl (by decide +kernel)
set_option maxRecDepth 65536 in
theorem w_c21 : (Jvm.Cond.code ({ cls := "java/lang/StringUTF16", name := "getChar", desc := "([BI)C" } : Jvm.MethodName) jdk_52_method_5_code (2 : Nat) (Option.some Jvm.ClassFile.FieldType.char)).before args0 about1 = true := code_word (m := ⟨9, 4⟩) (meth := k9m4) (c := k9c4) (by decide +kernel) rfl rfl rfl (by decide +kernel)
set_option maxRecDepth 65536 in
theorem w_c22 : (Jvm.Cond.code ({ cls := "java/lang/StringUTF16", name := "charAt", desc := "([BI)C" } : Jvm.MethodName) jdk_52_method_83_code (2 : Nat) (Option.some Jvm.ClassFile.FieldType.char)).before args0 about1 = true := code_word (m := ⟨9, 10⟩) (meth := k9m10) (c := k9c10) (by decide +kernel) rfl rfl rfl (by decide +kernel)
set_option maxRecDepth 65536 in
theorem w_c23 : (Jvm.Cond.code ({ cls := "java/lang/StringUTF16", name := "checkIndex", desc := "(I[B)V" } : Jvm.MethodName) jdk_52_method_91_code (2 : Nat) (Option.none : Option Jvm.ClassFile.FieldType)).before args0 about1 = true := code_word (m := ⟨9, 11⟩) (meth := k9m11) (c := k9c11) (by decide +kernel) rfl rfl rfl (by decide +kernel)
set_option maxRecDepth 65536 in
theorem w_c24 : (Jvm.Cond.code ({ cls := "java/lang/StringUTF16", name := "length", desc := "([B)I" } : Jvm.MethodName) jdk_52_method_6_code (1 : Nat) (Option.some Jvm.ClassFile.FieldType.int)).before args0 about1 = true := code_word (m := ⟨9, 5⟩) (meth := k9m5) (c := k9c5) (by decide +kernel) rfl rfl rfl (by decide +kernel)
def codes1 : List Jvm.Cond := [Jvm.Cond.code x code maxLocals ret, Jvm.Cond.code ({ cls := "com/example/gatepost/gatepost/http/HttpSyntaxIsFieldValuePinLaw", name := "draw", desc := "(I)C" } : Jvm.MethodName) method_2_code (1 : Nat) (Option.some Jvm.ClassFile.FieldType.char), Jvm.Cond.code ({ cls := "java/lang/String", name := "<init>", desc := "([C)V" } : Jvm.MethodName) jdk_42_method_3_code (2 : Nat) (Option.none : Option Jvm.ClassFile.FieldType), Jvm.Cond.code ({ cls := "java/lang/String", name := "<init>", desc := "([CIILjava/lang/Void;)V" } : Jvm.MethodName) jdk_42_method_149_code (6 : Nat) (Option.none : Option Jvm.ClassFile.FieldType), Jvm.Cond.code ({ cls := "java/lang/Object", name := "<init>", desc := "()V" } : Jvm.MethodName) object_method_1_code (1 : Nat) (Option.none : Option Jvm.ClassFile.FieldType), Jvm.Cond.code ({ cls := "com/example/gatepost/gatepost/http/HttpSyntax", name := "isFieldValue", desc := "(Ljava/lang/String;)Z" } : Jvm.MethodName) prog_53_method_3_code (3 : Nat) (Option.some Jvm.ClassFile.FieldType.boolean), Jvm.Cond.code ({ cls := "java/lang/String", name := "length", desc := "()I" } : Jvm.MethodName) jdk_42_method_54_code (1 : Nat) (Option.some Jvm.ClassFile.FieldType.int), Jvm.Cond.code ({ cls := "java/lang/String", name := "coder", desc := "()B" } : Jvm.MethodName) jdk_42_method_152_code (1 : Nat) (Option.some Jvm.ClassFile.FieldType.byte), Jvm.Cond.code ({ cls := "java/lang/StringUTF16", name := "compress", desc := "([CII)[B" } : Jvm.MethodName) jdk_52_method_16_code (6 : Nat) (Option.some (Jvm.ClassFile.FieldType.array Jvm.ClassFile.FieldType.byte)), Jvm.Cond.code ({ cls := "java/lang/StringUTF16", name := "compress", desc := "([CI[BII)I" } : Jvm.MethodName) jdk_52_method_21_code (7 : Nat) (Option.some Jvm.ClassFile.FieldType.int), Jvm.Cond.code ({ cls := "java/lang/StringUTF16", name := "coderFromArrayLen", desc := "([BI)B" } : Jvm.MethodName) jdk_52_method_15_code (2 : Nat) (Option.some Jvm.ClassFile.FieldType.byte), Jvm.Cond.code ({ cls := "com/example/gatepost/gatepost/http/HttpSyntaxIsFieldValuePinLaw", name := "ok", desc := "(C)Z" } : Jvm.MethodName) method_3_code (1 : Nat) (Option.some Jvm.ClassFile.FieldType.boolean), Jvm.Cond.code ({ cls := "java/lang/String", name := "charAt", desc := "(I)C" } : Jvm.MethodName) jdk_42_method_56_code (2 : Nat) (Option.some Jvm.ClassFile.FieldType.char), Jvm.Cond.code ({ cls := "java/lang/String", name := "isLatin1", desc := "()Z" } : Jvm.MethodName) jdk_42_method_154_code (1 : Nat) (Option.some Jvm.ClassFile.FieldType.boolean), Jvm.Cond.code ({ cls := "java/lang/StringLatin1", name := "charAt", desc := "([BI)C" } : Jvm.MethodName) jdk_43_method_2_code (2 : Nat) (Option.some Jvm.ClassFile.FieldType.char), Jvm.Cond.code ({ cls := "java/lang/String", name := "checkIndex", desc := "(II)V" } : Jvm.MethodName) jdk_42_method_155_code (2 : Nat) (Option.none : Option Jvm.ClassFile.FieldType), Jvm.Cond.code ({ cls := "jdk/internal/util/Preconditions", name := "checkIndex", desc := "(IILjava/util/function/BiFunction;)I" } : Jvm.MethodName) jdk_41_method_11_code (3 : Nat) (Option.some Jvm.ClassFile.FieldType.int), Jvm.Cond.code ({ cls := "java/lang/StringUTF16", name := "toBytes", desc := "([CII)[B" } : Jvm.MethodName) jdk_52_method_14_code (5 : Nat) (Option.some (Jvm.ClassFile.FieldType.array Jvm.ClassFile.FieldType.byte)), Jvm.Cond.code ({ cls := "java/lang/StringUTF16", name := "newBytesFor", desc := "(I)[B" } : Jvm.MethodName) jdk_52_method_2_code (1 : Nat) (Option.some (Jvm.ClassFile.FieldType.array Jvm.ClassFile.FieldType.byte)), Jvm.Cond.code ({ cls := "java/lang/StringUTF16", name := "newBytesLength", desc := "(I)I" } : Jvm.MethodName) jdk_52_method_3_code (1 : Nat) (Option.some Jvm.ClassFile.FieldType.int), Jvm.Cond.code ({ cls := "java/lang/StringUTF16", name := "putChar", desc := "([BII)V" } : Jvm.MethodName) jdk_52_method_4_code (3 : Nat) (Option.none : Option Jvm.ClassFile.FieldType), Jvm.Cond.code ({ cls := "java/lang/StringUTF16", name := "getChar", desc := "([BI)C" } : Jvm.MethodName) jdk_52_method_5_code (2 : Nat) (Option.some Jvm.ClassFile.FieldType.char), Jvm.Cond.code ({ cls := "java/lang/StringUTF16", name := "charAt", desc := "([BI)C" } : Jvm.MethodName) jdk_52_method_83_code (2 : Nat) (Option.some Jvm.ClassFile.FieldType.char), Jvm.Cond.code ({ cls := "java/lang/StringUTF16", name := "checkIndex", desc := "(I[B)V" } : Jvm.MethodName) jdk_52_method_91_code (2 : Nat) (Option.none : Option Jvm.ClassFile.FieldType), Jvm.Cond.code ({ cls := "java/lang/StringUTF16", name := "length", desc := "([B)I" } : Jvm.MethodName) jdk_52_method_6_code (1 : Nat) (Option.some Jvm.ClassFile.FieldType.int)]
set_option maxRecDepth 65536 in
theorem codes_eq : words1.filter isCode = codes1 := rfl
theorem w_codes : ∀ c ∈ words1.filter isCode, c.before args0 about1 = true := by
  rw [codes_eq]
  intro c hc
  simp only [codes1, List.mem_cons, List.not_mem_nil, or_false] at hc
  rcases hc with rfl | rfl | rfl | rfl | rfl | rfl | rfl | rfl | rfl | rfl | rfl | rfl | rfl | rfl | rfl | rfl | rfl | rfl | rfl | rfl | rfl | rfl | rfl | rfl | rfl
  · exact w_c0
  · exact w_c1
  · exact w_c2
  · exact w_c3
  · exact w_c4
  · exact w_c5
  · exact w_c6
  · exact w_c7
  · exact w_c8
  · exact w_c9
  · exact w_c10
  · exact w_c11
  · exact w_c12
  · exact w_c13
  · exact w_c14
  · exact w_c15
  · exact w_c16
  · exact w_c17
  · exact w_c18
  · exact w_c19
  · exact w_c20
  · exact w_c21
  · exact w_c22
  · exact w_c23
  · exact w_c24
set_option maxRecDepth 65536 in
theorem w_t1 : (words1.take 24).all (fun c => isCode c || c.before args0 about1) = true := by decide +kernel
set_option maxRecDepth 65536 in
theorem w_t2 : ((words1.drop 24).take 24).all (fun c => isCode c || c.before args0 about1) = true := by decide +kernel
set_option maxRecDepth 65536 in
theorem w_t3 : (((words1.drop 24).drop 24).take 24).all (fun c => isCode c || c.before args0 about1) = true := by decide +kernel
set_option maxRecDepth 65536 in
theorem w_t4 : ((((words1.drop 24).drop 24).drop 24).take 24).all (fun c => isCode c || c.before args0 about1) = true := by decide +kernel
set_option maxRecDepth 65536 in
theorem w_t5 : ((((words1.drop 24).drop 24).drop 24).drop 24).all (fun c => isCode c || c.before args0 about1) = true := by decide +kernel
theorem w_tables : (allAtoms (Jvm.Cond.code x code maxLocals ret :: tables_1)).before args0 about1 = true := by
  rw [allAtoms_all]
  show words1.all (fun c => c.before args0 about1) = true
  refine all_split ?_ w_codes
  rw [← List.take_append_drop 24 words1, List.all_append, w_t1, ← List.take_append_drop 24 (words1.drop 24), List.all_append, w_t2, ← List.take_append_drop 24 ((words1.drop 24).drop 24), List.all_append, w_t3, ← List.take_append_drop 24 (((words1.drop 24).drop 24).drop 24), List.all_append, w_t4, w_t5]
  rfl
set_option maxRecDepth 65536 in
theorem w_rest : rest_1_c.before args0 about1 = true := by decide +kernel
set_option maxRecDepth 65536 in
theorem w_case : (Jvm.Cond.and given_1 narrow_1).before args0 about1 = true := by decide +kernel
set_option maxRecDepth 65536 in
theorem w_consts : constsHeld consts_1 about1 := Jvm.Lit.constsHeldB_iff.mp (by decide +kernel)
theorem w_applies : (headSpec (Jvm.Cond.code x code maxLocals ret :: tables_1) room_1).applies x e0.platform about1 = true :=
  (Spec.applies_iff w_frames).mpr ⟨w_running, w_runnable, w_alone, w_named, w_hears, w_ripe, w_room, w_tables⟩
theorem atStart : AtStart classFile x code maxLocals ret World_1 tables_1 room_1 Calls_1 rest_1 Pre_1 launch0 p0 e0 about1 theMethod args0 below0 :=
  ⟨lists_1, trivial, launch0.admits_env _ _ _, launch0.least_env, fairChoices_fair.cas, fairChoices_fair.clock, w_frames, w_args, w_heap, w_applies, ⟨w_consts, trivial⟩, w_rest, w_case⟩
end start1
theorem witness_1 : WitnessClaimed_1 := ⟨start1.p0, start1.e0, start1.about1, start1.theMethod, start1.args0, start1.below0, start1.atStart⟩
end Jvm.Pilot.@@N@@
