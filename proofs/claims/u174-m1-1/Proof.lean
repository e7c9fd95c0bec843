import JvmDerived
import JvmDerived.Pilot.@@N@@Statement
import JvmDerived.Pilot.@@N@@Code
set_option linter.unusedVariables false
set_option linter.unusedSimpArgs false
set_option maxRecDepth 65536
set_option maxHeartbeats 40000000
namespace Jvm.Own
open Sem ClassFile Op Lib Bundle Jvm.Stand Jvm.Free Jvm.LawKit Jvm.RoadKit
section Base
variable {p : Program} {l : Launch} {e : Env} {R : Room} {s : State} {m : MethodId} {args : Array Value} {below : List Frame} {meth : Method} {c : Code} {own : String} {Z : State} {a0 : Array Value} {EL : List (String × Nat)} {vm0 vm1 : Vm} {T T' : State} {h h' h1 : Heap} {k n : Nat} {G : Outcome → State → Prop} {pc : Nat} {Ls : Array Slot} {rest : List Value}
/-- the walk comes to an end that G allows -/
def OEnds (p : Program) (e : Env) (below : List Frame) (G : Outcome → State → Prop) (T : State) (g : JFrame) : Prop := ∃ (s₂ : State) (o : Outcome), Steps p.tables e below (T.setTop g) s₂ ∧ s₂.status = .running ∧ Ended s₂ below o ∧ G o s₂
theorem OEnds.go {g g' : JFrame} (st : ∀ t, Steps p.tables e below (T'.setTop g') t → Steps p.tables e below (T.setTop g) t) (q : OEnds p e below G T' g') : OEnds p e below G T g := by
  obtain ⟨s₂, o, h1, r⟩ := q; exact ⟨s₂, o, st _ h1, r⟩
theorem OEnds.tr {g g' : JFrame} (st : Steps p.tables e below (T.setTop g) (T'.setTop g')) (q : OEnds p e below G T' g') : OEnds p e below G T g := by
  obtain ⟨s₂, o, h1, r⟩ := q; exact ⟨s₂, o, st.trans h1, r⟩
theorem OEnds.cast {g g' : JFrame} (q : g = g') (r : OEnds p e below G T g') : OEnds p e below G T g := q ▸ r
theorem ext_refl (h : Heap) : Ext h h := ⟨Nat.le_refl _, fun _ _ q => q⟩
theorem ext_trans (A : Ext h h1) (B : Ext h1 h') : Ext h h' := ⟨Nat.le_trans A.1 B.1, fun a c q => B.2 a c (A.2 a c q)⟩
/-- what was written lies above h: h stands -/
theorem ext_keep {ws : List Addr} (A : Ext h h1) (K : Keep h1 h' ws) (q : ∀ x ∈ ws, h.size ≤ x) : Ext h h' := ⟨Nat.le_trans A.1 K.1, fun a c r => K.2.1 a c (A.2 a c r) fun z => absurd (Array.getElem?_eq_some_iff.mp r).1 (Nat.not_lt.mpr (q a z))⟩
theorem ext_wr {a : Addr} {sl : Nat} {v : Value} (A : Ext h h1) (W : Wr h1 h' a sl v) (q : h.size ≤ a) : Ext h h' := ext_keep A (Keep.of_wr W) (allS q all0)
/-- where the walk stands: the tables vm0, the heap h, at most k cells and n slots made -/
def OSt (p : Program) (l : Launch) (e : Env) (R : Room) (s : State) (m : MethodId) (args : Array Value) (below : List Frame) (meth : Method) (c : Code) (own : String) (Z : State) (EL : List (String × Nat)) (vm0 : Vm) (T : State) (h : Heap) (k n : Nat) : Prop :=
  ∃ locs : List Loc, Stand p l e R (s.setVm vm0) m args below meth c T locs k n ∧ Fr Z.heap.size locs ∧ T.heap = h ∧ (∃ k0, s.Since vm0 k0 ∧ k0 ≤ h.size) ∧ Z.Warmed39 vm0 ∧ vm0.findClass own = some m.cls ∧ CHr Z EL s.vm s.heap vm0 h ∧ Ext Z.heap h ∧ p.tables.exec = Jvm.exec
theorem OSt.here (X : OSt p l e R s m args below meth c own Z EL vm0 T h k n) : At T m c below := by obtain ⟨_, X, _⟩ := X; exact X.here
theorem OSt.hx (X : OSt p l e R s m args below meth c own Z EL vm0 T h k n) : p.tables.exec = Jvm.exec := by obtain ⟨_, _, _, _, _, _, _, _, _, q⟩ := X; exact q
theorem OSt.old (X : OSt p l e R s m args below meth c own Z EL vm0 T h k n) : Ext Z.heap h := by obtain ⟨_, _, _, _, _, _, _, _, q, _⟩ := X; exact q
theorem OSt.hZ (X : OSt p l e R s m args below meth c own Z EL vm0 T h k n) : Z.Warmed39 vm0 := by obtain ⟨_, _, _, _, _, q, _⟩ := X; exact q
theorem OSt.al (X : OSt p l e R s m args below meth c own Z EL vm0 T h k n) : Z.vm.Alike vm0 := X.hZ.alike
theorem OSt.chr (X : OSt p l e R s m args below meth c own Z EL vm0 T h k n) : CHr Z EL s.vm s.heap vm0 h := by obtain ⟨_, _, _, _, _, _, _, q, _⟩ := X; exact q
theorem OSt.chv (X : OSt p l e R s m args below meth c own Z EL vm0 T h k n) : CHv Z EL vm0 h := X.chr.1
theorem OSt.mono (X : OSt p l e R s m args below meth c own Z EL vm0 T h k n) {k' n' : Nat} (hk : k ≤ k') (hn : n ≤ n') : OSt p l e R s m args below meth c own Z EL vm0 T h k' n' := by
  obtain ⟨L, X, r⟩ := X; exact ⟨L, X.mono hk hn, r⟩
theorem OSt.getF (X : OSt p l e R s m args below meth c own Z EL vm0 T h k n) {R0 O nm d : String} {index : Nat} (w : (Cond.fieldLink own index R0 nm d).before a0 Z = true) (via : Via Z R0 O nm d) {a : Addr} {v : Value} (F : Fld Z h a O nm d v) (hd : decode c.code pc = .ok (.getfield index, 3))
    (q : ∀ T', OSt p l e R s m args below meth c own Z EL vm0 T' h k n → OEnds p e below G T' (mkF m (pc + 3) Ls (v :: rest))) : OEnds p e below G T (mkF m pc Ls (.ref a :: rest)) := by
  obtain ⟨L, X, hF, hh, hS, hZ, ho, hC, hO, hx⟩ := X
  obtain ⟨T', X', e', st⟩ := RoadKit.getF (host := "") X hx hZ ho (Or.inl w) via hh F (g := mkF m pc Ls (.ref a :: rest)) rfl rfl hd
  exact (q T' ⟨L, X', hF, e', hS, hZ, ho, hC, hO, hx⟩).go st
theorem OSt.getS (X : OSt p l e R s m args below meth c own Z EL vm0 T h k n) {R0 O nm d : String} {index : Nat} (w : (Cond.fieldLink own index R0 nm d).before a0 Z = true) (via : Via Z R0 O nm d) {v : Value} (F : Sta Z h O nm d v) (hd : decode c.code pc = .ok (.getstatic index, 3))
    (q : ∀ T', OSt p l e R s m args below meth c own Z EL vm0 T' h k n → OEnds p e below G T' (mkF m (pc + 3) Ls (v :: rest))) : OEnds p e below G T (mkF m pc Ls rest) := by
  obtain ⟨L, X, hF, hh, hS, hZ, ho, hC, hO, hx⟩ := X
  obtain ⟨T', X', e', st⟩ := RoadKit.getS (host := "") X hx hZ ho w via hh F (g := mkF m pc Ls rest) rfl hd
  exact (q T' ⟨L, X', hF, e', hS, hZ, ho, hC, hO, hx⟩).go st
theorem Since_le {k0 : Nat} (hk : k0 ≤ h.size) (q : h.size ≤ h'.size) : k0 ≤ h'.size := Nat.le_trans hk q
theorem OSt.putF (X : OSt p l e R s m args below meth c own Z EL vm0 T h k n) {R0 O nm d C : String} {index kk : Nat} {ty : FieldType} (w : (Cond.fieldLink own index R0 nm d).before a0 Z = true) (via : Via Z R0 O nm d) {a : Addr} {v old : Value} (F : Fld Z h a O nm d old) (E : Exa Z h a C)
    (Lw : (Cond.lays C O nm d).before a0 Z = true ∨ ((Cond.laysFinal C O nm d).before a0 Z = true ∧ own = O ∧ meth.name = "<init>")) (wi : (Cond.instantiable C kk).before a0 Z = true) (hty : parseFieldDescriptor d = some ty) (hn : narrow ty v = v) (hf : fits ty v = true)
    (hS : Safe Z EL vm0 h a) (ha : Z.heap.size ≤ a) (hd : decode c.code pc = .ok (.putfield index, 3))
    (q : ∀ T' h', OSt p l e R s m args below meth c own Z EL vm0 T' h' k n → Wr h h' a (Jvm.RoadKit.slotOf Z O nm d) v → OEnds p e below G T' (mkF m (pc + 3) Ls rest)) : OEnds p e below G T (mkF m pc Ls (v :: .ref a :: rest)) := by
  obtain ⟨L, X, hF, hh, ⟨k0, hS0, hk0⟩, hZ, ho, hC, hO, hx⟩ := X
  obtain ⟨T', h', X', e', W, st⟩ := RoadKit.putF (host := "") X hx hZ ho (Or.inl w) via hh F E Lw wi hty hn hf (g := mkF m pc Ls (v :: .ref a :: rest)) rfl rfl hd
  exact (q T' h' ⟨_, X', Fr.snoc X' hF ha, e', ⟨k0, hS0, by rw [W.size]; exact hk0⟩, hZ, ho, hC.trans (CHr.wr W hS hC.1), ext_wr hO W ha, hx⟩ W).go st
theorem OSt.newO (X : OSt p l e R s m args below meth c own Z EL vm0 T h k n) {C : String} {index j : Nat} (w : (Cond.classLink own index C).before a0 Z = true) (wi : (Cond.instantiable C j).before a0 Z = true) (wz : (Cond.initialized C).before a0 Z = true) (hd : decode c.code pc = .ok (.new index, 3)) (hc : k + 1 ≤ R.cells) (hl : n + j ≤ R.slots)
    (q : ∀ T' h' a, h.size = a → OSt p l e R s m args below meth c own Z EL vm0 T' h' (k + 1) (n + j) → Ext h h' → Exa Z h' a C → (∀ {O nm d : String} {ty : FieldType}, Laid Z a0 C O nm d → parseFieldDescriptor d = some ty → Fld Z h' a O nm d (defaultValue ty)) → Unt h' a → OEnds p e below G T' (mkF m (pc + 3) Ls (.ref a :: rest))) : OEnds p e below G T (mkF m pc Ls rest) := by
  obtain ⟨L, X, hF, hh, ⟨k0, hS0, hk0⟩, hZ, ho, hC, hO, hx⟩ := X
  obtain ⟨T', h', X', e', E, A, D, U, st⟩ := RoadKit.newO X hx hZ ho w wi wz hh (g := mkF m pc Ls rest) rfl hd hc hl
  exact (q T' h' _ rfl ⟨_, X', hF, e', ⟨k0, hS0, Nat.le_trans hk0 E.1⟩, hZ, ho, hC.trans (CHr.ext E hC.1), ext_trans hO E, hx⟩ E A D U).go st
theorem OSt.newP (X : OSt p l e R s m args below meth c own Z EL vm0 T h k n) {aty : ArrayType} (w : (Cond.arrayClass (newarray.typeOf aty)).before a0 Z = true) {z : Int32} (hd : decode c.code pc = .ok (.newarray aty, 2)) (hz : ¬ z < 0) {cap : Nat} (hcap : z.toNatClampNeg ≤ cap) (hb : cap * 8 ≤ 536870912) (hc : k + 1 ≤ R.cells) (hl : n + cap ≤ R.slots)
    (q : ∀ T' h' a kc, h.size = a → OSt p l e R s m args below meth c own Z EL vm0 T' h' (k + 1) (n + cap) → Ext h h' → Arv Z h' a kc (newarray.typeOf aty) z [] (defaultValue (newarray.typeOf aty)) → OEnds p e below G T' (mkF m (pc + 2) Ls (.ref a :: rest))) : OEnds p e below G T (mkF m pc Ls (.int z :: rest)) := by
  obtain ⟨L, X, hF, hh, ⟨k0, hS0, hk0⟩, hZ, ho, hC, hO, hx⟩ := X
  obtain ⟨T', h', kc, X', e', E, A, st⟩ := RoadKit.newP X hx hZ w hh (g := mkF m pc Ls (.int z :: rest)) rfl hd rfl hz hcap hb hc hl
  exact (q T' h' _ kc rfl ⟨_, X', hF, e', ⟨k0, hS0, Nat.le_trans hk0 E.1⟩, hZ, ho, hC.trans (CHr.ext E hC.1), ext_trans hO E, hx⟩ E (Arv.new A hz)).go st
theorem OSt.castY (X : OSt p l e R s m args below meth c own Z EL vm0 T h k n) {K : String} {index : Nat} (w : (Cond.classLink own index K).before a0 Z = true) {a : Addr} (F : Ins Z h a K true) (hd : decode c.code pc = .ok (.checkcast index, 3))
    (q : ∀ T', OSt p l e R s m args below meth c own Z EL vm0 T' h k n → OEnds p e below G T' (mkF m (pc + 3) Ls (.ref a :: rest))) : OEnds p e below G T (mkF m pc Ls (.ref a :: rest)) := by
  obtain ⟨L, X, hF, hh, hS, hZ, ho, hC, hO, hx⟩ := X
  obtain ⟨T', X', e', st⟩ := RoadKit.castY X hx hZ ho w hh F (g := mkF m pc Ls (.ref a :: rest)) rfl rfl hd
  exact (q T' ⟨L, X', hF, e', hS, hZ, ho, hC, hO, hx⟩).go st
theorem OSt.instY (X : OSt p l e R s m args below meth c own Z EL vm0 T h k n) {K : String} {index : Nat} (w : (Cond.classLink own index K).before a0 Z = true) {a : Addr} (F : Ins Z h a K true) (hd : decode c.code pc = .ok (.instanceof index, 3))
    (q : ∀ T', OSt p l e R s m args below meth c own Z EL vm0 T' h k n → OEnds p e below G T' (mkF m (pc + 3) Ls (.int 1 :: rest))) : OEnds p e below G T (mkF m pc Ls (.ref a :: rest)) := by
  obtain ⟨L, X, hF, hh, hS, hZ, ho, hC, hO, hx⟩ := X
  obtain ⟨T', X', e', st⟩ := RoadKit.instY X hx hZ ho w hh F (g := mkF m pc Ls (.ref a :: rest)) rfl rfl hd
  exact (q T' ⟨L, X', hF, e', hS, hZ, ho, hC, hO, hx⟩).go st
theorem OSt.instNo (X : OSt p l e R s m args below meth c own Z EL vm0 T h k n) {K C : String} {index : Nat} (w : (Cond.classLink own index K).before a0 Z = true) {a : Addr} (E : Exa Z h a C) (F : ∃ c t, Z.vm.findClass C = some c ∧ Z.vm.findClass K = some t ∧ Z.vm.assignable c t = false) (hd : decode c.code pc = .ok (.instanceof index, 3))
    (q : ∀ T', OSt p l e R s m args below meth c own Z EL vm0 T' h k n → OEnds p e below G T' (mkF m (pc + 3) Ls (.int 0 :: rest))) : OEnds p e below G T (mkF m pc Ls (.ref a :: rest)) := by
  obtain ⟨L, X, hF, hh, hS, hZ, ho, hC, hO, hx⟩ := X
  obtain ⟨T', X', e', st⟩ := RoadKit.instNo X hx hZ ho w hh E F (g := mkF m pc Ls (.ref a :: rest)) rfl rfl hd
  exact (q T' ⟨L, X', hF, e', hS, hZ, ho, hC, hO, hx⟩).go st
theorem OSt.initO (X : OSt p l e R s m args below meth c own Z EL vm0 T h k n) {idx : Nat} (w1 : (Cond.methodLink own idx Lib.objectInit).before a0 Z = true) (w2 : (Cond.instanceMethod Lib.objectInit).before a0 Z = true) (w3 : (Cond.code Lib.objectInit ⟨#[0xb1]⟩ 1 none).before a0 Z = true) {a : Addr} (hsize : Ls.size = c.maxLocals) (hd : decode c.code pc = .ok (.invokespecial idx, 3)) (hf : 1 ≤ R.frames) {W : Nat} (hW : (rest.map fun v => v.category).sum ≤ W) (hl : W + 12 ≤ R.locals)
    (q : ∀ T', OSt p l e R s m args below meth c own Z EL vm0 T' h k n → OEnds p e below G T' (mkF m (pc + 3) Ls rest)) : OEnds p e below G T (mkF m pc Ls (.ref a :: rest)) := by
  obtain ⟨L, X, hF, hh, hS, hZ, ho, hC, hO, hx⟩ := X
  obtain ⟨T', X', e', st⟩ := RoadKit.initO X hx hZ ho w1 w2 w3 hh (g := mkF m pc Ls (.ref a :: rest)) rfl hsize rfl hd hf (W := W) (by show 2 * 0 + _ ≤ _; rw [Nat.mul_zero, Nat.zero_add]; exact hW) hl
  exact (q T' ⟨L, X', hF, e', hS, hZ, ho, hC, hO, hx⟩).go st
end Base
end Jvm.Own
namespace Jvm.Own
open Sem ClassFile Op Lib Bundle Jvm.Stand Jvm.Free Jvm.LawKit Jvm.RoadKit
section Arrays
variable {p : Program} {l : Launch} {e : Env} {R : Room} {s : State} {m : MethodId} {args : Array Value} {below : List Frame} {meth : Method} {c : Code} {own : String} {Z : State} {a0 : Array Value} {EL : List (String × Nat)} {vm0 vm1 : Vm} {T T' : State} {h h' h1 : Heap} {k n : Nat} {G : Outcome → State → Prop} {pc : Nat} {Ls : Array Slot} {rest : List Value}
theorem i2c_id {x : Int32} (h0 : ¬ x < 0) (h1 : ¬ 65535 < x) : x.toUInt32.toUInt16.toUInt32.toInt32 = x := by
  have q := c_i2c x
  have r : (0 : Int32).toInt = 0 := rfl
  have r' : (65535 : Int32).toInt = 65535 := rfl
  simp only [Int32.lt_iff_toInt_lt, r, r'] at h0 h1
  apply Int32.toInt_inj.mp
  omega
theorem OSt.ldcI (X : OSt p l e R s m args below meth c own Z EL vm0 T h k n) {index : Nat} {v : Int32} (w : (Cond.constant own index v).before a0 Z = true) (hd : decode c.code pc = .ok (.ldc index, 2)) (q : OEnds p e below G T (mkF m (pc + 2) Ls (.int v :: rest))) : OEnds p e below G T (mkF m pc Ls rest) := by
  obtain ⟨L, X, hF, hh, hS, hZ, ho, hC, hO, hx⟩ := X
  exact q.go fun t => X.ldcInt hx ho (mvT (s := s.setVm vm0) hZ w) (g := mkF m pc Ls rest) rfl hd t
theorem OSt.ldcJ (X : OSt p l e R s m args below meth c own Z EL vm0 T h k n) {index : Nat} {v : Int64} (w : (Cond.constantLong own index v).before a0 Z = true) (hd : decode c.code pc = .ok (.ldc2_w index, 3)) (q : OEnds p e below G T (mkF m (pc + 3) Ls (.long v :: rest))) : OEnds p e below G T (mkF m pc Ls rest) := by
  obtain ⟨L, X, hF, hh, hS, hZ, ho, hC, hO, hx⟩ := X
  exact q.go fun t => X.ldc2Long hx ho (mvT (s := s.setVm vm0) hZ w) (g := mkF m pc Ls rest) rfl hd t
theorem OSt.alen (X : OSt p l e R s m args below meth c own Z EL vm0 T h k n) {a : Addr} {kc : ClassId} {ty : FieldType} {z : Int32} {vs : List Value} {d : Value} (K : Arv Z h a kc ty z vs d) (hd : decode c.code pc = .ok (.arraylength, 1)) (q : OEnds p e below G T (mkF m (pc + 1) Ls (.int z :: rest))) : OEnds p e below G T (mkF m pc Ls (.ref a :: rest)) := by
  obtain ⟨L, X, hF, hh, hS, hZ, ho, hC, hO, hx⟩ := X
  obtain ⟨cl, A, -, S, hz, -, -⟩ := K
  refine q.go fun t r => X.arraylength hx (by rw [hh]; exact A.1) (State.isArrayOf_alike hZ.alike A.2.1) (g := mkF m pc Ls (.ref a :: rest)) rfl rfl hd t ?_
  rw [len_of S hz]; exact r
theorem OSt.cald (X : OSt p l e R s m args below meth c own Z EL vm0 T h k n) {a : Addr} {kc : ClassId} {z j : Int32} {vs : List Value} {d v : Value} (K : Arv Z h a kc .char z vs d) (hj : ¬ j < 0 ∧ j < z) (u : vs.getD j.toNatClampNeg d = v) (hd : decode c.code pc = .ok (.caload, 1)) (q : OEnds p e below G T (mkF m (pc + 1) Ls (v :: rest))) : OEnds p e below G T (mkF m pc Ls (.int j :: .ref a :: rest)) := by
  obtain ⟨L, X, hF, hh, hS, hZ, ho, hC, hO, hx⟩ := X
  obtain ⟨cl, A, -, S, hz, H, -⟩ := K
  exact q.go fun t => X.caload hx (by rw [hh]; exact A.1) (State.isArrayOf_alike hZ.alike A.2.1) A.2.2 (inb_of S hj) (H.at (inb_of S hj) u) (g := mkF m pc Ls (.int j :: .ref a :: rest)) rfl rfl hd t
theorem OSt.bald (X : OSt p l e R s m args below meth c own Z EL vm0 T h k n) {a : Addr} {kc : ClassId} {z j : Int32} {vs : List Value} {d v : Value} (K : Arv Z h a kc .byte z vs d) (hj : ¬ j < 0 ∧ j < z) (u : vs.getD j.toNatClampNeg d = v) (hd : decode c.code pc = .ok (.baload, 1)) (q : OEnds p e below G T (mkF m (pc + 1) Ls (v :: rest))) : OEnds p e below G T (mkF m pc Ls (.int j :: .ref a :: rest)) := by
  obtain ⟨L, X, hF, hh, hS, hZ, ho, hC, hO, hx⟩ := X
  obtain ⟨cl, A, -, S, hz, H, -⟩ := K
  exact q.go fun t => X.baloadBytes hx (by rw [hh]; exact A.1) (State.isArrayOf_alike hZ.alike A.2.1) A.2.2 (inb_of S hj) (H.at (inb_of S hj) u) (g := mkF m pc Ls (.int j :: .ref a :: rest)) rfl rfl hd t
theorem OSt.stC (X : OSt p l e R s m args below meth c own Z EL vm0 T h k n) {a : Addr} {kc : ClassId} {z j x : Int32} {vs : List Value} {d : Value} (K : Arv Z h a kc .char z vs d) (hj : ¬ j < 0 ∧ j < z) (hx1 : ¬ x < 0 ∧ ¬ 65535 < x) {i : Nat} (hi : j.toNatClampNeg = i) (hl : i < vs.length) (ha : Z.heap.size ≤ a) (hd : decode c.code pc = .ok (.castore, 1))
    (q : ∀ T' h', OSt p l e R s m args below meth c own Z EL vm0 T' h' k n → Wr h h' a i (.int x) → Arv Z h' a kc .char z (vs.set i (.int x)) d → OEnds p e below G T' (mkF m (pc + 1) Ls rest)) : OEnds p e below G T (mkF m pc Ls (.int x :: .int j :: .ref a :: rest)) := by
  have hSf : Safe Z EL vm0 h a := Safe.arv X.al K (by decide)
  obtain ⟨L, X, hF, hh, ⟨k0, hS0, hk0⟩, hZ, ho, hC, hO, hx⟩ := X
  obtain ⟨cl, A, e1, S, hz, H, Gf⟩ := K
  obtain ⟨T', h', X', e', W, st⟩ := RoadKit.stC X hx hZ hh A (inb_of S hj) (x := x) (g := mkF m pc Ls (.int x :: .int j :: .ref a :: rest)) rfl rfl hd
  have hn : nar .char x = x := i2c_id hx1.1 hx1.2
  have hfit : fits .char (.int x) = true := by have := fits_nar_char x; rwa [hn] at this
  rw [hn] at W
  subst hi
  exact (q T' h' ⟨_, X', Fr.snoc X' hF ha, e', ⟨k0, hS0, by rw [W.size]; exact hk0⟩, hZ, ho, hC.trans (CHr.wr W hSf hC.1), ext_wr hO W ha, hx⟩ W (Arv.set A e1 S hz H Gf hfit W _ rfl hl)).go st
theorem OSt.stB (X : OSt p l e R s m args below meth c own Z EL vm0 T h k n) {a : Addr} {kc : ClassId} {z j x : Int32} {vs : List Value} {d : Value} (K : Arv Z h a kc .byte z vs d) (hSf : Safe Z EL vm0 h a) (hj : ¬ j < 0 ∧ j < z) {i : Nat} (hi : j.toNatClampNeg = i) (hl : i < vs.length) (ha : Z.heap.size ≤ a) (hd : decode c.code pc = .ok (.bastore, 1))
    (q : ∀ T' h', OSt p l e R s m args below meth c own Z EL vm0 T' h' k n → Wr h h' a i (.int x.toInt8.toInt32) → Arv Z h' a kc .byte z (vs.set i (.int x.toInt8.toInt32)) d → OEnds p e below G T' (mkF m (pc + 1) Ls rest)) : OEnds p e below G T (mkF m pc Ls (.int x :: .int j :: .ref a :: rest)) := by
  obtain ⟨L, X, hF, hh, ⟨k0, hS0, hk0⟩, hZ, ho, hC, hO, hx⟩ := X
  obtain ⟨cl, A, e1, S, hz, H, Gf⟩ := K
  obtain ⟨T', h', X', e', W, st⟩ := RoadKit.stB X hx hZ hh A (inb_of S hj) (x := x) (g := mkF m pc Ls (.int x :: .int j :: .ref a :: rest)) rfl rfl hd
  subst hi
  exact (q T' h' ⟨_, X', Fr.snoc X' hF ha, e', ⟨k0, hS0, by rw [W.size]; exact hk0⟩, hZ, ho, hC.trans (CHr.wr W hSf hC.1), ext_wr hO W ha, hx⟩ W (Arv.set A e1 S hz H Gf (fits_nar_byte x) W _ rfl hl)).go st
/-- ldc of a String constant whose text is read -/
theorem OSt.ldcR (X : OSt p l e R s m args below meth c own Z EL vm0 T h k n) (hE : EW Z a0 EL) {index : Nat} {text : String} (w : (Cond.stringLink own index text).before a0 Z = true) (wS : ∀ a ∈ Bundle.stringAtoms, a.before a0 Z = true) (hmem : (own, index) ∈ EL)
    {vs : List Value} {z : Int32} (ht : (∀ c ∈ text.toList, c.toNat < 256) ∧ text.toList.map (fun c => Value.int (Jvm.Lit.byteI c.toNat.toUInt16)) = vs) (hz : ¬ z < 0) (hl : z.toNatClampNeg = vs.length) (hd : decode c.code pc = .ok (.ldc index, 2)) {j : Nat} (hj : 4 * text.toList.length ≤ j) (hbig : j ≤ 536870912) (hc : k + 2 ≤ R.cells) (hl' : n + (j + 4) ≤ R.slots)
    (q : ∀ vm1 T' h' a b kb, OSt p l e R s m args below meth c own Z EL vm1 T' h' (k + 2) (n + (j + 4)) → Ext h h' → CHr Z EL vm0 h vm1 h' → Exa Z h' a "java/lang/String" → Fld Z h' a "java/lang/String" "coder" "B" (.int 0) → Fld Z h' a "java/lang/String" "value" "[B" (.ref b) → Arv Z h' b kb .byte z vs (.int 0) → (∀ x, Safe Z EL vm1 h' x → x ≠ a ∧ x ≠ b) → OEnds p e below G T' (mkF m (pc + 2) Ls (.ref a :: rest))) : OEnds p e below G T (mkF m pc Ls rest) := by
  obtain ⟨L, X, hF, hh, ⟨k0, hS0, hk0⟩, hZ, ho, hC, hO, hx⟩ := X
  obtain ⟨a, T', h', k1, b, kb, X', e', E, hS1, hk1, hZ1, ho1, E1, C1, V1, K1, -, -, hC1, -, hne, st⟩ := ldcCH X hx hZ ho w wS hh hS0 hk0 hE hmem hC.1 ht hz hl (g := mkF m pc Ls rest) rfl hd hj hbig hc hl'
  exact (q T'.vm T' h' a b kb ⟨_, X', hF, e', ⟨k1, hS1, hk1⟩, hZ1, ho1, hC.trans hC1, ext_trans hO E, hx⟩ E hC1 E1 C1 V1 K1 hne).go st
/-- ldc of a String constant whose text isn't read -/
theorem OSt.ldcO (X : OSt p l e R s m args below meth c own Z EL vm0 T h k n) (hE : EW Z a0 EL) {index : Nat} {text : String} (w : (Cond.stringLink own index text).before a0 Z = true) (wS : ∀ a ∈ Bundle.stringAtoms, a.before a0 Z = true) (hd : decode c.code pc = .ok (.ldc index, 2)) {j : Nat} (hj : 4 * text.toList.length ≤ j) (hbig : j ≤ 536870912) (hc : k + 2 ≤ R.cells) (hl' : n + (j + 4) ≤ R.slots)
    (q : ∀ vm1 T' h' a, OSt p l e R s m args below meth c own Z EL vm1 T' h' (k + 2) (n + (j + 4)) → Ext h h' → CHr Z EL vm0 h vm1 h' → OEnds p e below G T' (mkF m (pc + 2) Ls (.ref a :: rest))) : OEnds p e below G T (mkF m pc Ls rest) := by
  obtain ⟨L, X, hF, hh, ⟨k0, hS0, hk0⟩, hZ, ho, hC, hO, hx⟩ := X
  obtain ⟨a, T', h', k1, X', e', E, hS1, hk1, hZ1, ho1, hC1, -, st⟩ := ldcOH X hx hZ ho w wS hh hS0 hk0 hE hC.1 (g := mkF m pc Ls rest) rfl hd hj hbig hc hl'
  exact (q T'.vm T' h' a ⟨_, X', hF, e', ⟨k1, hS1, hk1⟩, hZ1, ho1, hC.trans hC1, ext_trans hO E, hx⟩ E hC1).go st
end Arrays
section Ret
variable {p : Program} {l : Launch} {e : Env} {R : Room} {s : State} {m : MethodId} {args : Array Value} {below : List Frame} {meth : Method} {c : Code} {own : String} {Z : State} {a0 : Array Value} {EL : List (String × Nat)} {vm0 vm1 : Vm} {T T' : State} {h h' h1 : Heap} {k n k' n' : Nat} {pc : Nat} {Ls : Array Slot} {rest : List Value} {Q : Option Value → Heap → Prop}
/-- how a walk over s ends: the answer and the heap by Q; the wide frame -/
def GW (Z : State) (EL : List (String × Nat)) (s : State) (Q : Option Value → Heap → Prop) (k n : Nat) (o : Outcome) (u : State) : Prop :=
  ∃ v L, o = .returned v ∧ (Q v u.heap ∧ Fr Z.heap.size L ∧ Ext Z.heap u.heap) ∧ CHr Z EL s.vm s.heap u.vm u.heap ∧ ReturnedEndW s o u L k n
theorem rew_mono {u : State} {o : Outcome} {L : List Loc} (q : ReturnedEndW s o u L k n) (hk : k ≤ k') (hn : n ≤ n') : ReturnedEndW s o u L k' n' := ⟨q.1, q.2.1, q.2.2.1, q.2.2.2.mono hk hn⟩
theorem OSt.retV (X : OSt p l e R s m args below meth c own Z EL vm0 T h k n) (hE : EW Z a0 EL) (hlk : meth.locks = false) {w : Value} {t : FieldType} {i : Instr} (hret : meth.sig.returnType = some t) (hn : narrow t w = w)
    (hi : (i = .ireturn ∧ (t = .int ∨ t = .boolean ∨ t = .byte ∨ t = .char ∨ t = .short) ∧ ∃ z, w = .int z) ∨ (i = .lreturn ∧ t = .long ∧ ∃ z, w = .long z) ∨ (i = .dreturn ∧ t = .double ∧ ∃ z, w = .double z) ∨ (i = .freturn ∧ t = .float ∧ ∃ z, w = .float z) ∨ (i = .areturn ∧ t.isReference = true ∧ w.isRef = true))
    (hd : decode c.code pc = .ok (i, 1)) (hk : k ≤ k') (hn' : n ≤ n') (hQ : Q (some w) h) : OEnds p e below (GW Z EL s Q k' n') T (mkF m pc Ls (w :: rest)) := by
  obtain ⟨L, X, hF, hh, ⟨k0, hS0, hk0⟩, hZ, ho, hC, hO, hx⟩ := X
  have hA := CHv.at X hZ hE hC.1
  obtain ⟨fs, hr, hrun, hended, hend⟩ := X.leaveW hS0 (by rw [hh]; exact hk0) (v := some w) (fun q => by rw [hret] at q; cases q) hlk
  refine ⟨_, _, retOut X hx hret hn hi hd hr, hrun, hended, _, L, rfl, ⟨?_, hF, ?_⟩, ?_, rew_mono hend hk hn'⟩
  · show Q _ T.heap; rw [hh]; exact hQ
  · show Ext _ T.heap; rw [hh]; exact hO
  · show CHr Z EL s.vm s.heap T.vm T.heap; rw [hh]; exact hC.trans hA
theorem OSt.retInt (X : OSt p l e R s m args below meth c own Z EL vm0 T h k n) (hE : EW Z a0 EL) (hlk : meth.locks = false) {z : Int32} (hret : meth.sig.returnType = some .int) (hd : decode c.code pc = .ok (.ireturn, 1)) (hk : k ≤ k') (hn' : n ≤ n') (hQ : Q (some (.int z)) h) : OEnds p e below (GW Z EL s Q k' n') T (mkF m pc Ls (.int z :: rest)) :=
  X.retV hE hlk hret rfl (Or.inl ⟨rfl, Or.inl rfl, z, rfl⟩) hd hk hn' hQ
theorem OSt.retBool (X : OSt p l e R s m args below meth c own Z EL vm0 T h k n) (hE : EW Z a0 EL) (hlk : meth.locks = false) {z : Int32} (hz : z = 0 ∨ z = 1) (hret : meth.sig.returnType = some .boolean) (hd : decode c.code pc = .ok (.ireturn, 1)) (hk : k ≤ k') (hn' : n ≤ n') (hQ : Q (some (.int z)) h) : OEnds p e below (GW Z EL s Q k' n') T (mkF m pc Ls (.int z :: rest)) :=
  X.retV hE hlk hret (by rcases hz with rfl | rfl <;> rfl) (Or.inl ⟨rfl, Or.inr (Or.inl rfl), z, rfl⟩) hd hk hn' hQ
theorem OSt.retByte (X : OSt p l e R s m args below meth c own Z EL vm0 T h k n) (hE : EW Z a0 EL) (hlk : meth.locks = false) {z : Int32} (hz : z.toInt8.toInt32 = z) (hret : meth.sig.returnType = some .byte) (hd : decode c.code pc = .ok (.ireturn, 1)) (hk : k ≤ k') (hn' : n ≤ n') (hQ : Q (some (.int z)) h) : OEnds p e below (GW Z EL s Q k' n') T (mkF m pc Ls (.int z :: rest)) :=
  X.retV hE hlk hret (by show Value.int z.toInt8.toInt32 = _; rw [hz]) (Or.inl ⟨rfl, Or.inr (Or.inr (Or.inl rfl)), z, rfl⟩) hd hk hn' hQ
theorem OSt.retChar (X : OSt p l e R s m args below meth c own Z EL vm0 T h k n) (hE : EW Z a0 EL) (hlk : meth.locks = false) {z : Int32} (hz : ¬ z < 0 ∧ ¬ 65535 < z) (hret : meth.sig.returnType = some .char) (hd : decode c.code pc = .ok (.ireturn, 1)) (hk : k ≤ k') (hn' : n ≤ n') (hQ : Q (some (.int z)) h) : OEnds p e below (GW Z EL s Q k' n') T (mkF m pc Ls (.int z :: rest)) :=
  X.retV hE hlk hret (by show Value.int z.toUInt32.toUInt16.toUInt32.toInt32 = _; rw [i2c_id hz.1 hz.2]) (Or.inl ⟨rfl, Or.inr (Or.inr (Or.inr (Or.inl rfl))), z, rfl⟩) hd hk hn' hQ
theorem narrow_obj {t : FieldType} {w : Value} (h1 : t.isReference = true) : narrow t w = w := by cases t <;> first | rfl | cases h1
theorem OSt.retRef (X : OSt p l e R s m args below meth c own Z EL vm0 T h k n) (hE : EW Z a0 EL) (hlk : meth.locks = false) {w : Value} (hw : w.isRef = true) {t : FieldType} (ht : t.isReference = true) (hret : meth.sig.returnType = some t) (hd : decode c.code pc = .ok (.areturn, 1)) (hk : k ≤ k') (hn' : n ≤ n') (hQ : Q (some w) h) : OEnds p e below (GW Z EL s Q k' n') T (mkF m pc Ls (w :: rest)) :=
  X.retV hE hlk hret (narrow_obj ht) (Or.inr (Or.inr (Or.inr (Or.inr ⟨rfl, ht, hw⟩)))) hd hk hn' hQ
theorem OSt.ret0 (X : OSt p l e R s m args below meth c own Z EL vm0 T h k n) (hE : EW Z a0 EL) (hlk : meth.locks = false) (hret : meth.sig.returnType = none) (hd : decode c.code pc = .ok (.return_, 1)) (hk : k ≤ k') (hn' : n ≤ n') (hQ : Q none h) : OEnds p e below (GW Z EL s Q k' n') T (mkF m pc Ls []) := by
  obtain ⟨L, X, hF, hh, ⟨k0, hS0, hk0⟩, hZ, ho, hC, hO, hx⟩ := X
  have hA := CHv.at X hZ hE hC.1
  obtain ⟨fs, hr, hrun, hended, hend⟩ := X.leaveW hS0 (by rw [hh]; exact hk0) (v := none) (fun _ => rfl) hlk
  refine ⟨_, _, X.returnOut hx hret hd hr, hrun, hended, _, L, rfl, ⟨?_, hF, ?_⟩, ?_, rew_mono hend hk hn'⟩
  · show Q _ T.heap; rw [hh]; exact hQ
  · show Ext _ T.heap; rw [hh]; exact hO
  · show CHr Z EL s.vm s.heap T.vm T.heap; rw [hh]; exact hC.trans hA
end Ret
section Cons
variable {p : Program} {l : Launch} {e : Env} {R : Room} {s : State} {m : MethodId} {args : Array Value} {below : List Frame} {meth : Method} {c : Code} {own : String} {Z : State} {a0 : Array Value} {EL : List (String × Nat)} {vm0 vm1 : Vm} {T T' : State} {h h' h1 : Heap} {k n k' n' : Nat} {G : Outcome → State → Prop} {pc : Nat} {Ls : Array Slot} {rest : List Value} {Q : Option Value → Heap → Prop}
  {y : MethodName} {bytes : ByteArray} {maxL : Nat} {ret : Option FieldType} {rm : Room} {as' : Array Value} {ws : List Cond}
/-- a method's contract, of one call: the arguments as', the heap h at the call -/
def ConX (l : Launch) (Z : State) (EL : List (String × Nat)) (y : MethodName) (bytes : ByteArray) (maxL : Nat) (ret : Option FieldType) (ws : List Cond) (rm : Room) (as' : Array Value) (h : Heap) (Q : Option Value → Heap → Prop) : Prop := Ext Z.heap h →
  MetFree l y (head1 (Cond.code y bytes maxL ret :: ws) rm) (fun a U => a = as' ∧ Z.Warmed39 U.vm ∧ U.heap = h ∧ CHv Z EL U.vm h) (fun _ _ _ _ _ => True) (fun _ U o U' => ∃ v L, o = .returned v ∧ (Q v U'.heap ∧ Fr Z.heap.size L ∧ Ext Z.heap U'.heap) ∧ CHr Z EL U.vm U.heap U'.vm U'.heap ∧ ReturnedEndW U o U' L rm.cells rm.slots)
abbrev Con (l : Launch) (Z : State) (EL : List (String × Nat)) (y : MethodName) (bytes : ByteArray) (maxL : Nat) (ret : Option FieldType) (rm : Room) (as' : Array Value) (h : Heap) (Q : Option Value → Heap → Prop) : Prop := ConX l Z EL y bytes maxL ret [] rm as' h Q
theorem ConX.of (hy : plainFor y = true) (body : ∀ (p : Program) (e : Env) (s : State) (m : MethodId) (below : List Frame) (meth : Method) (c : Code) (T : State), c.code = bytes → c.maxLocals = maxL → meth.sig.returnType = ret → meth.locks = false → meth.name = y.name → OSt p l e rm s m as' below meth c y.cls Z EL s.vm T h 0 0 → OEnds p e below (GW Z EL s Q rm.cells rm.slots) T (entryFrame m as' maxL)) :
    ConX l Z EL y bytes maxL ret ws rm as' h Q := by
  intro hO
  refine MetFree.of_bodySF hy hisR ?_
  intro p e s m args below meth c s₁ Bd hml hP _
  obtain ⟨rfl, hZ, hh, hC⟩ := hP
  have e0 : s₁.heap = h := by rw [← hh, Bd.state]; rfl
  have X0 : Stand p l e rm s m args below meth c s₁ [] 0 0 := Stand.of_body Bd
  have hown : s.vm.findClass y.cls = some m.cls := findClass_of_methodNamed Bd.named
  obtain ⟨s₂, o, h1, h2, h3, v, L, rfl, h4, h5, h6⟩ := body p e s m below meth c s₁ Bd.bytes hml Bd.returns Bd.notSynchronized (name_of_methodNamed Bd.named Bd.method).1
    ⟨[], X0, Fr.nil _, e0, ⟨_, (State.WarmedH.refl s).since 0, Nat.zero_le _⟩, hZ, hown, by rw [hh]; exact CHr.refl hC, hO, Bd.exec⟩
  exact ⟨s₂, _, h1, h2, h3, v, L, rfl, h4, h5, h6⟩
/-- the shape of a payer's premise and answer -/
abbrev PreB (R : Room) (as' : Array Value) (h : Heap) (kc ns : Nat) (A : Pt) (a : Array Value) : Prop := a = as' ∧ A.U.heap = h ∧ A.cells + kc ≤ R.cells ∧ A.slots + ns ≤ R.slots
abbrev PostB (Q : Option Value → Heap → List Loc → Prop) (kc ns : Nat) (A : Pt) (_ : Array Value) (v : Option Value) (B : Pt) : Prop := ∃ L, Q v B.U.heap L ∧ B.locs = A.locs ++ L ∧ B.cells = A.cells + kc ∧ B.slots = A.slots + ns
abbrev PostS (Q : Option Value → Heap → Prop) (Z : State) (EL : List (String × Nat)) (vm0 : Vm) (h : Heap) (kc ns : Nat) (A : Pt) (_ : Array Value) (v : Option Value) (B : Pt) : Prop :=
  ∃ L, (Q v B.U.heap ∧ Fr Z.heap.size L ∧ Ext Z.heap B.U.heap) ∧ B.locs = A.locs ++ L ∧ B.cells = A.cells + kc ∧ B.slots = A.slots + ns ∧ CHr Z EL vm0 h B.U.vm B.U.heap
/-- what a call by contract asks of the caller -/
theorem Con.back {W len : Nat} (K : Con l Z EL y bytes maxL ret rm as' h Q) (hO : Ext Z.heap h) (hZ : Z.Warmed39 vm0) (hE : EW Z a0 EL) (hC : CHv Z EL vm0 h) (wc : (Cond.code y bytes maxL ret).before a0 Z = true) (wz : (Cond.initialized y.cls).before a0 Z = true) (hf : rm.frames + 1 ≤ R.frames) (hl : W + (maxL + 11) + rm.locals ≤ R.locals) :
    BackS l R p e below (s.setVm vm0) args y len W (PreB R as' h rm.cells rm.slots) (PostS Q Z EL vm0 h rm.cells rm.slots) :=
  backOfSH (Q := fun v h' L => Q v h' ∧ Fr Z.heap.size L ∧ Ext Z.heap h') (K hO) hZ wc wz hf hl hE hC
/-- OSt behind a payer that may have interned -/
theorem OSt.behindS (X : OSt p l e R s m args below meth c own Z EL vm0 T h k n) {B : Pt} {v : Option Value} {L0 L : List Loc} (hF0 : Fr Z.heap.size L0) (X' : Stand p l e R (s.setVm B.U.vm) m args below meth c B.U B.locs B.cells B.slots) (hS : (s.setVm vm0).Since B.U.vm B.U.heap.size) (hg : T.heap.size ≤ B.U.heap.size)
    (hF : Fr Z.heap.size L) (hO : Ext Z.heap B.U.heap) (e1 : B.locs = L0 ++ L) (e2 : B.cells = k') (e3 : B.slots = n') (hC' : CHr Z EL vm0 h B.U.vm B.U.heap) : OSt p l e R s m args below meth c own Z EL B.U.vm B.U B.U.heap k' n' := by
  obtain ⟨_, X, -, hh, ⟨k0, hS0, hk0⟩, hZ, ho, hC, -, hx⟩ := X
  obtain ⟨r1, r2, r3, r4⟩ := rebS (own := own) hS0 hk0 X' hS (by rw [← hh]; exact hg) hZ ho
  subst e2 e3
  rw [e1] at r1
  exact ⟨_, r1, hF0.app hF, rfl, ⟨_, r2, Nat.le_refl _⟩, r3, r4, hC.trans hC', hO, hx⟩
theorem OSt.callS (X : OSt p l e R s m args below meth c own Z EL vm0 T h k n) (hE : EW Z a0 EL) (K : Con l Z EL y bytes maxL ret rm as' h Q) {index : Nat} (w1 : (Cond.methodLink own index y).before a0 Z = true) (w2 : (Cond.static y).before a0 Z = true) (wz : (Cond.initialized y.cls).before a0 Z = true) (wc : (Cond.code y bytes maxL ret).before a0 Z = true)
    (hy : y.cls ≠ "java/lang/invoke/MethodHandle" ∧ y.cls ≠ "java/lang/invoke/VarHandle") {W : Nat} (hf : rm.frames + 1 ≤ R.frames) (hl : W + (maxL + 11) + rm.locals ≤ R.locals) {argsL stack : List Value} (ha : argsL.toArray = as') (hlen : ∀ sig, parseMethodDescriptor y.desc = some sig → argsL.length = sig.parameters.length) (hst : stack = argsL.reverse ++ rest) (hsize : Ls.size = c.maxLocals) (hW : (rest.map fun v => v.category).sum ≤ W)
    (hd : decode c.code pc = .ok (.invokestatic index, 3)) (hk : k + rm.cells ≤ R.cells) (hn : n + rm.slots ≤ R.slots)
    (q : ∀ v vm1 T' h', OSt p l e R s m args below meth c own Z EL vm1 T' h' (k + rm.cells) (n + rm.slots) → CHr Z EL vm0 h vm1 h' → Q v h' → OEnds p e below G T' (mkF m (pc + 3) Ls (v.toList ++ rest))) : OEnds p e below G T (mkF m pc Ls stack) := by
  have X1 := X
  obtain ⟨L, X, hF, hh, ⟨k0, hS0, hk0⟩, hZ, ho, hC, hO, hx⟩ := X
  obtain ⟨v, vmx, B, -, X', hS, hgr, ⟨L', ⟨hq, hF', hO'⟩, e1, e2, e3, hC'⟩, st⟩ := callSS X hx ho (mvT (s := s.setVm vm0) hZ w1) (mvT (s := s.setVm vm0) hZ w2) (mvT (s := s.setVm vm0) hZ wz) (mvT (s := s.setVm vm0) hZ wc) hy (K.back hO hZ hE hC.1 wc wz hf hl) (g := mkF m pc Ls stack) rfl hsize (argsL := argsL) (rest := rest) hlen hst (by show 2 * 0 + _ ≤ _; rw [Nat.mul_zero, Nat.zero_add]; exact hW) hd (fun _ _ => ⟨ha, hh, hk, hn⟩)
  exact (q v _ _ _ (X1.behindS (v := v) hF X' hS hgr hF' hO' e1 e2 e3 hC') hC' hq).tr st
theorem OSt.callI (X : OSt p l e R s m args below meth c own Z EL vm0 T h k n) (hE : EW Z a0 EL) (K : Con l Z EL y bytes maxL none rm as' h Q) {index : Nat} (w1 : (Cond.methodLink own index y).before a0 Z = true) (w2 : (Cond.instanceMethod y).before a0 Z = true) (wz : (Cond.initialized y.cls).before a0 Z = true) (wc : (Cond.code y bytes maxL none).before a0 Z = true)
    (hi : y.name = "<init>") (hy : y.cls ≠ "java/lang/invoke/MethodHandle" ∧ y.cls ≠ "java/lang/invoke/VarHandle") {W : Nat} (hf : rm.frames + 1 ≤ R.frames) (hl : W + (maxL + 11) + rm.locals ≤ R.locals) {a : Addr} {argsL stack : List Value} (ha : (.ref a :: argsL).toArray = as') (hlen : ∀ sig, parseMethodDescriptor y.desc = some sig → argsL.length = sig.parameters.length) (hst : stack = argsL.reverse ++ .ref a :: rest) (hsize : Ls.size = c.maxLocals) (hW : (rest.map fun v => v.category).sum ≤ W)
    (hd : decode c.code pc = .ok (.invokespecial index, 3)) (hk : k + rm.cells ≤ R.cells) (hn : n + rm.slots ≤ R.slots)
    (q : ∀ v vm1 T' h', OSt p l e R s m args below meth c own Z EL vm1 T' h' (k + rm.cells) (n + rm.slots) → CHr Z EL vm0 h vm1 h' → Q v h' → OEnds p e below G T' (mkF m (pc + 3) Ls (v.toList ++ rest))) : OEnds p e below G T (mkF m pc Ls stack) := by
  have X1 := X
  obtain ⟨L, X, hF, hh, ⟨k0, hS0, hk0⟩, hZ, ho, hC, hO, hx⟩ := X
  obtain ⟨v, vmx, B, -, X', hS, hgr, ⟨L', ⟨hq, hF', hO'⟩, e1, e2, e3, hC'⟩, st⟩ := X.specialBackS hx hi ho (mvT (s := s.setVm vm0) hZ w1) (mvT (s := s.setVm vm0) hZ w2) (mvT (s := s.setVm vm0) hZ wc) hy (K.back hO hZ hE hC.1 wc wz hf hl) (g := mkF m pc Ls stack) rfl hsize (Steps.refl _) (a := a) (argsL := argsL) (rest := rest) hlen hst (by show 2 * 0 + _ ≤ _; rw [Nat.mul_zero, Nat.zero_add]; exact hW) hd (fun _ _ => ⟨ha, hh, hk, hn⟩)
  exact (q v _ _ _ (X1.behindS (v := v) hF X' hS hgr hF' hO' e1 e2 e3 hC') hC' hq).tr st
theorem OSt.callV (X : OSt p l e R s m args below meth c own Z EL vm0 T h k n) (hE : EW Z a0 EL) {z : MethodName} (K : Con l Z EL z bytes maxL ret rm as' h Q) {C : String} {index : Nat} (w1 : (Cond.methodLink own index y).before a0 Z = true) (w2 : (Cond.declares y).before a0 Z = true) (w3 : (Cond.selects C y z).before a0 Z = true) (w4 : (Cond.instanceMethod z).before a0 Z = true) (wz : (Cond.initialized z.cls).before a0 Z = true) (wc : (Cond.code z bytes maxL ret).before a0 Z = true) (nf : NotFace (s.setVm vm0) y)
    (hy : y.cls ≠ "java/lang/invoke/MethodHandle" ∧ y.cls ≠ "java/lang/invoke/VarHandle") {W : Nat} (hf : rm.frames + 1 ≤ R.frames) (hl : W + (maxL + 11) + rm.locals ≤ R.locals) {a : Addr} (E : Exa Z h a C) {argsL stack : List Value} (ha : (.ref a :: argsL).toArray = as') (hlen : ∀ sig, parseMethodDescriptor y.desc = some sig → argsL.length = sig.parameters.length) (hst : stack = argsL.reverse ++ .ref a :: rest) (hsize : Ls.size = c.maxLocals) (hW : (rest.map fun v => v.category).sum ≤ W)
    (hd : decode c.code pc = .ok (.invokevirtual index, 3)) (hk : k + rm.cells ≤ R.cells) (hn : n + rm.slots ≤ R.slots)
    (q : ∀ v vm1 T' h', OSt p l e R s m args below meth c own Z EL vm1 T' h' (k + rm.cells) (n + rm.slots) → CHr Z EL vm0 h vm1 h' → Q v h' → OEnds p e below G T' (mkF m (pc + 3) Ls (v.toList ++ rest))) : OEnds p e below G T (mkF m pc Ls stack) := by
  have X1 := X
  obtain ⟨L, X, hF, hh, ⟨k0, hS0, hk0⟩, hZ, ho, hC, hO, hx⟩ := X
  obtain ⟨cB, kB, q1, -, q3⟩ := isOf (s := s.setVm vm0) hZ hh E
  obtain ⟨v, vmx, B, -, X', hS, hgr, ⟨L', ⟨hq, hF', hO'⟩, e1, e2, e3, hC'⟩, st⟩ := X.virtualBackS hx ho (mvT (s := s.setVm vm0) hZ w1) (mvT (s := s.setVm vm0) hZ w2) nf (mvT (s := s.setVm vm0) hZ w3) (mvT (s := s.setVm vm0) hZ w4) hy (K.back hO hZ hE hC.1 wc wz hf hl) q1 q3 (g := mkF m pc Ls stack) rfl hsize (Steps.refl _) (argsL := argsL) (rest := rest) hlen hst (by show 2 * 0 + _ ≤ _; rw [Nat.mul_zero, Nat.zero_add]; exact hW) hd (fun _ _ => ⟨ha, hh, hk, hn⟩)
  exact (q v _ _ _ (X1.behindS (v := v) hF X' hS hgr hF' hO' e1 e2 e3 hC') hC' hq).tr st
end Cons
end Jvm.Own
namespace Jvm.Own
open Sem ClassFile Op Lib Bundle Jvm.Stand Jvm.Free Jvm.LawKit Jvm.RoadKit
section Pay
variable {p : Program} {l : Launch} {e : Env} {R : Room} {s : State} {m : MethodId} {args : Array Value} {below : List Frame} {meth : Method} {c : Code} {own : String} {Z : State} {a0 : Array Value} {EL : List (String × Nat)} {vm0 vm1 : Vm} {T T' : State} {h h' h1 : Heap} {k n k' n' : Nat} {G : Outcome → State → Prop} {pc : Nat} {Ls : Array Slot} {rest : List Value} {Q : Option Value → Heap → Prop} {Q3 : Option Value → Heap → List Loc → Prop} {kc ns : Nat}
  {y : MethodName} {bytes : ByteArray} {maxL : Nat} {ret : Option FieldType} {rm : Room} {as' : Array Value} {ws : List Cond}
/-- what the walk must know of a payer's answer -/
abbrev OkB (Z : State) (EL : List (String × Nat)) (vm0 : Vm) (h : Heap) (Q3 : Option Value → Heap → List Loc → Prop) : Prop := ∀ v h' L, Q3 v h' L → Fr Z.heap.size L ∧ Ext Z.heap h' ∧ CHr Z EL vm0 h vm0 h'
theorem OSt.behind (X : OSt p l e R s m args below meth c own Z EL vm0 T h k n) {B : Pt} {L0 L : List Loc} (hF0 : Fr Z.heap.size L0) (X' : Stand p l e R (s.setVm vm0) m args below meth c B.U B.locs B.cells B.slots)
    (hF : Fr Z.heap.size L) (hO : Ext Z.heap B.U.heap) (e1 : B.locs = L0 ++ L) (e2 : B.cells = k') (e3 : B.slots = n') (hC' : CHr Z EL vm0 h vm0 B.U.heap) : OSt p l e R s m args below meth c own Z EL vm0 B.U B.U.heap k' n' := by
  obtain ⟨_, X, -, hh, ⟨k0, hS0, hk0⟩, hZ, ho, hC, -, hx⟩ := X
  subst e2 e3
  rw [e1] at X'
  exact ⟨_, X', hF0.app hF, rfl, ⟨_, hS0, Nat.le_trans hk0 hC'.2.1⟩, hZ, ho, hC.trans hC', hO, hx⟩
theorem OSt.payS (X : OSt p l e R s m args below meth c own Z EL vm0 T h k n) {W : Nat} (K : Back l R p e below (s.setVm vm0) args y 3 W (PreB R as' h kc ns) (PostB Q3 kc ns)) (hK : OkB Z EL vm0 h Q3) {index : Nat} (w1 : (Cond.methodLink own index y).before a0 Z = true) (w2 : (Cond.static y).before a0 Z = true) (wz : (Cond.initialized y.cls).before a0 Z = true) (wc : (Cond.code y bytes maxL ret).before a0 Z = true)
    (hy : y.cls ≠ "java/lang/invoke/MethodHandle" ∧ y.cls ≠ "java/lang/invoke/VarHandle") {argsL stack : List Value} (ha : argsL.toArray = as') (hlen : ∀ sig, parseMethodDescriptor y.desc = some sig → argsL.length = sig.parameters.length) (hst : stack = argsL.reverse ++ rest) (hsize : Ls.size = c.maxLocals) (hW : (rest.map fun v => v.category).sum ≤ W)
    (hd : decode c.code pc = .ok (.invokestatic index, 3)) (hk : k + kc ≤ R.cells) (hn : n + ns ≤ R.slots)
    (q : ∀ v T' h' L, OSt p l e R s m args below meth c own Z EL vm0 T' h' (k + kc) (n + ns) → Q3 v h' L → OEnds p e below G T' (mkF m (pc + 3) Ls (v.toList ++ rest))) : OEnds p e below G T (mkF m pc Ls stack) := by
  have X1 := X
  obtain ⟨L, X, hF, hh, ⟨k0, hS0, hk0⟩, hZ, ho, hC, hO, hx⟩ := X
  obtain ⟨v, vmx, B, -, X', ⟨L', hq, e1, e2, e3⟩, st⟩ := Jvm.LawKit.callS X hx ho (mvT (s := s.setVm vm0) hZ w1) (mvT (s := s.setVm vm0) hZ w2) (mvT (s := s.setVm vm0) hZ wz) (mvT (s := s.setVm vm0) hZ wc) hy K (g := mkF m pc Ls stack) rfl hsize (argsL := argsL) (rest := rest) hlen hst (by show 2 * 0 + _ ≤ _; rw [Nat.mul_zero, Nat.zero_add]; exact hW) hd (fun _ _ => ⟨ha, hh, hk, hn⟩)
  obtain ⟨r1, r2, r3⟩ := hK _ _ _ hq
  exact (q v _ _ _ (X1.behind hF X' r1 r2 e1 e2 e3 r3) hq).go st
theorem OSt.payI (X : OSt p l e R s m args below meth c own Z EL vm0 T h k n) {W : Nat} (K : Back l R p e below (s.setVm vm0) args y 3 W (PreB R as' h kc ns) (PostB Q3 kc ns)) (hK : OkB Z EL vm0 h Q3) {index : Nat} (w1 : (Cond.methodLink own index y).before a0 Z = true) (w2 : (Cond.instanceMethod y).before a0 Z = true) (wc : (Cond.code y bytes maxL none).before a0 Z = true)
    (hi : y.name = "<init>") (hy : y.cls ≠ "java/lang/invoke/MethodHandle" ∧ y.cls ≠ "java/lang/invoke/VarHandle") {a : Addr} {argsL stack : List Value} (ha : (.ref a :: argsL).toArray = as') (hlen : ∀ sig, parseMethodDescriptor y.desc = some sig → argsL.length = sig.parameters.length) (hst : stack = argsL.reverse ++ .ref a :: rest) (hsize : Ls.size = c.maxLocals) (hW : (rest.map fun v => v.category).sum ≤ W)
    (hd : decode c.code pc = .ok (.invokespecial index, 3)) (hk : k + kc ≤ R.cells) (hn : n + ns ≤ R.slots)
    (q : ∀ v T' h' L, OSt p l e R s m args below meth c own Z EL vm0 T' h' (k + kc) (n + ns) → Q3 v h' L → OEnds p e below G T' (mkF m (pc + 3) Ls (v.toList ++ rest))) : OEnds p e below G T (mkF m pc Ls stack) := by
  have X1 := X
  obtain ⟨L, X, hF, hh, ⟨k0, hS0, hk0⟩, hZ, ho, hC, hO, hx⟩ := X
  obtain ⟨v, vmx, B, -, X', ⟨L', hq, e1, e2, e3⟩, st⟩ := X.specialBack hx hi ho (mvT (s := s.setVm vm0) hZ w1) (mvT (s := s.setVm vm0) hZ w2) (mvT (s := s.setVm vm0) hZ wc) hy K (g := mkF m pc Ls stack) rfl hsize (Steps.refl _) (a := a) (argsL := argsL) (rest := rest) hlen hst (by show 2 * 0 + _ ≤ _; rw [Nat.mul_zero, Nat.zero_add]; exact hW) hd (fun _ _ => ⟨ha, hh, hk, hn⟩)
  obtain ⟨r1, r2, r3⟩ := hK _ _ _ hq
  exact (q v _ _ _ (X1.behind hF X' r1 r2 e1 e2 e3 r3) hq).tr st
theorem OSt.payV (X : OSt p l e R s m args below meth c own Z EL vm0 T h k n) {z : MethodName} {W : Nat} (K : Back l R p e below (s.setVm vm0) args z 3 W (PreB R as' h kc ns) (PostB Q3 kc ns)) (hK : OkB Z EL vm0 h Q3) {C : String} {index : Nat} (w1 : (Cond.methodLink own index y).before a0 Z = true) (w2 : (Cond.declares y).before a0 Z = true) (w3 : (Cond.selects C y z).before a0 Z = true) (w4 : (Cond.instanceMethod z).before a0 Z = true) (nf : NotFace (s.setVm vm0) y)
    (hy : y.cls ≠ "java/lang/invoke/MethodHandle" ∧ y.cls ≠ "java/lang/invoke/VarHandle") {a : Addr} (E : Exa Z h a C) {argsL stack : List Value} (ha : (.ref a :: argsL).toArray = as') (hlen : ∀ sig, parseMethodDescriptor y.desc = some sig → argsL.length = sig.parameters.length) (hst : stack = argsL.reverse ++ .ref a :: rest) (hsize : Ls.size = c.maxLocals) (hW : (rest.map fun v => v.category).sum ≤ W)
    (hd : decode c.code pc = .ok (.invokevirtual index, 3)) (hk : k + kc ≤ R.cells) (hn : n + ns ≤ R.slots)
    (q : ∀ v T' h' L, OSt p l e R s m args below meth c own Z EL vm0 T' h' (k + kc) (n + ns) → Q3 v h' L → OEnds p e below G T' (mkF m (pc + 3) Ls (v.toList ++ rest))) : OEnds p e below G T (mkF m pc Ls stack) := by
  have X1 := X
  obtain ⟨L, X, hF, hh, ⟨k0, hS0, hk0⟩, hZ, ho, hC, hO, hx⟩ := X
  obtain ⟨cB, kB, q1, -, q3⟩ := isOf (s := s.setVm vm0) hZ hh E
  obtain ⟨v, vmx, B, -, X', ⟨L', hq, e1, e2, e3⟩, st⟩ := X.virtualBack hx ho (mvT (s := s.setVm vm0) hZ w1) (mvT (s := s.setVm vm0) hZ w2) nf (mvT (s := s.setVm vm0) hZ w3) (mvT (s := s.setVm vm0) hZ w4) hy K q1 q3 (g := mkF m pc Ls stack) rfl hsize (Steps.refl _) (argsL := argsL) (rest := rest) hlen hst (by show 2 * 0 + _ ≤ _; rw [Nat.mul_zero, Nat.zero_add]; exact hW) hd (fun _ _ => ⟨ha, hh, hk, hn⟩)
  obtain ⟨r1, r2, r3⟩ := hK _ _ _ hq
  exact (q v _ _ _ (X1.behind hF X' r1 r2 e1 e2 e3 r3) hq).tr st
theorem OSt.nf (X : OSt p l e R s m args below meth c own Z EL vm0 T h k n) {C : String} (w : (Cond.selects C y y).before a0 Z = true) : NotFace (s.setVm vm0) y := notFace_of_selects (args := #[]) (mvT (s := s.setVm vm0) X.hZ w)
/-- a payer that leaves the heap as it was -/
theorem okPure {Q2 : Option Value → Prop} (X : OSt p l e R s m args below meth c own Z EL vm0 T h k n) : OkB Z EL vm0 h (fun v h' L => Q2 v ∧ L = [] ∧ h' = h) := fun v h' L ⟨_, e1, e2⟩ => by
  subst e1 e2; exact ⟨Fr.nil _, X.old, CHr.refl X.chv⟩
theorem chr_nil {vm : Vm} (q : h.size ≤ h'.size) : CHr Z [] vm h vm h' := ⟨(fun _ hp => (nomatch hp)), q, fun _ B => (by obtain ⟨_, hp, _⟩ := B; cases hp)⟩
theorem safe_nil {vm : Vm} {x : Addr} : Safe Z [] vm h x := fun B => by obtain ⟨_, hp, _⟩ := B; cases hp
end Pay
section Narrow
variable {p : Program} {l : Launch} {e : Env} {R : Room} {s : State} {m : MethodId} {args : Array Value} {below : List Frame} {meth : Method} {c : Code} {own : String} {Z : State} {a0 : Array Value} {vm0 vm1 : Vm} {T T' : State} {h h' h1 : Heap} {k n k' n' : Nat} {G : Outcome → State → Prop} {pc : Nat} {Ls : Array Slot} {rest : List Value} {Q : Option Value → Heap → Prop}
  {y : MethodName} {bytes : ByteArray} {maxL : Nat} {ret : Option FieldType} {rm : Room} {as' : Array Value} {ws : List Cond}
/-- how a walk over s ends, under the narrow frame -/
def GN (Z : State) (s : State) (Q : Option Value → Heap → Prop) (k n : Nat) (o : Outcome) (u : State) : Prop :=
  ∃ v L, o = .returned v ∧ (Q v u.heap ∧ Fr Z.heap.size L ∧ Ext Z.heap u.heap) ∧ FrameEnd s o u L k n
theorem OSt.retVN (X : OSt p l e R s m args below meth c own Z [] s.vm T h k n) (hlk : meth.locks = false) {w : Value} {t : FieldType} {i : Instr} (hret : meth.sig.returnType = some t) (hn : narrow t w = w)
    (hi : (i = .ireturn ∧ (t = .int ∨ t = .boolean ∨ t = .byte ∨ t = .char ∨ t = .short) ∧ ∃ z, w = .int z) ∨ (i = .lreturn ∧ t = .long ∧ ∃ z, w = .long z) ∨ (i = .dreturn ∧ t = .double ∧ ∃ z, w = .double z) ∨ (i = .freturn ∧ t = .float ∧ ∃ z, w = .float z) ∨ (i = .areturn ∧ t.isReference = true ∧ w.isRef = true))
    (hd : decode c.code pc = .ok (i, 1)) (hk : k ≤ k') (hn' : n ≤ n') (hQ : Q (some w) h) : OEnds p e below (GN Z s Q k' n') T (mkF m pc Ls (w :: rest)) := by
  obtain ⟨L, X, hF, hh, ⟨k0, hS0, hk0⟩, hZ, ho, hC, hO, hx⟩ := X
  obtain ⟨fs, hr, hrun, hended, hW, hsame⟩ := Stand.leave (s := s) X (v := some w) (fun q => by rw [hret] at q; cases q) hlk
  refine ⟨_, _, retOut X hx hret hn hi hd hr, hrun, hended, _, L, rfl, ⟨?_, hF, ?_⟩, ⟨_, rfl⟩, hW, hsame.mono hk hn'⟩
  · show Q _ T.heap; rw [hh]; exact hQ
  · show Ext _ T.heap; rw [hh]; exact hO
theorem OSt.retIntN (X : OSt p l e R s m args below meth c own Z [] s.vm T h k n) (hlk : meth.locks = false) {z : Int32} (hret : meth.sig.returnType = some .int) (hd : decode c.code pc = .ok (.ireturn, 1)) (hk : k ≤ k') (hn' : n ≤ n') (hQ : Q (some (.int z)) h) : OEnds p e below (GN Z s Q k' n') T (mkF m pc Ls (.int z :: rest)) :=
  X.retVN hlk hret rfl (Or.inl ⟨rfl, Or.inl rfl, z, rfl⟩) hd hk hn' hQ
theorem OSt.retBoolN (X : OSt p l e R s m args below meth c own Z [] s.vm T h k n) (hlk : meth.locks = false) {z : Int32} (hz : z = 0 ∨ z = 1) (hret : meth.sig.returnType = some .boolean) (hd : decode c.code pc = .ok (.ireturn, 1)) (hk : k ≤ k') (hn' : n ≤ n') (hQ : Q (some (.int z)) h) : OEnds p e below (GN Z s Q k' n') T (mkF m pc Ls (.int z :: rest)) :=
  X.retVN hlk hret (by rcases hz with rfl | rfl <;> rfl) (Or.inl ⟨rfl, Or.inr (Or.inl rfl), z, rfl⟩) hd hk hn' hQ
theorem OSt.retRefN (X : OSt p l e R s m args below meth c own Z [] s.vm T h k n) (hlk : meth.locks = false) {w : Value} (hw : w.isRef = true) {t : FieldType} (ht : t.isReference = true) (hret : meth.sig.returnType = some t) (hd : decode c.code pc = .ok (.areturn, 1)) (hk : k ≤ k') (hn' : n ≤ n') (hQ : Q (some w) h) : OEnds p e below (GN Z s Q k' n') T (mkF m pc Ls (w :: rest)) :=
  X.retVN hlk hret (narrow_obj ht) (Or.inr (Or.inr (Or.inr (Or.inr ⟨rfl, ht, hw⟩)))) hd hk hn' hQ
theorem OSt.ret0N (X : OSt p l e R s m args below meth c own Z [] s.vm T h k n) (hlk : meth.locks = false) (hret : meth.sig.returnType = none) (hd : decode c.code pc = .ok (.return_, 1)) (hk : k ≤ k') (hn' : n ≤ n') (hQ : Q none h) : OEnds p e below (GN Z s Q k' n') T (mkF m pc Ls []) := by
  obtain ⟨L, X, hF, hh, ⟨k0, hS0, hk0⟩, hZ, ho, hC, hO, hx⟩ := X
  obtain ⟨fs, hr, hrun, hended, hW, hsame⟩ := Stand.leave (s := s) X (v := none) (fun _ => rfl) hlk
  refine ⟨_, _, X.returnOut hx hret hd hr, hrun, hended, _, L, rfl, ⟨?_, hF, ?_⟩, ⟨_, rfl⟩, hW, hsame.mono hk hn'⟩
  · show Q _ T.heap; rw [hh]; exact hQ
  · show Ext _ T.heap; rw [hh]; exact hO
def ConN (l : Launch) (Z : State) (y : MethodName) (bytes : ByteArray) (maxL : Nat) (ret : Option FieldType) (ws : List Cond) (rm : Room) (as' : Array Value) (h : Heap) (Q : Option Value → Heap → Prop) : Prop := Ext Z.heap h →
  MetFree l y (head1 (Cond.code y bytes maxL ret :: ws) rm) (fun a U => a = as' ∧ Z.Warmed39 U.vm ∧ U.heap = h) (fun _ _ _ _ _ => True) (fun _ U o U' => ∃ v L, o = .returned v ∧ (Q v U'.heap ∧ Fr Z.heap.size L ∧ Ext Z.heap U'.heap) ∧ FrameEnd U o U' L rm.cells rm.slots)
theorem ConN.of (hy : plainFor y = true) (body : ∀ (p : Program) (e : Env) (s : State) (m : MethodId) (below : List Frame) (meth : Method) (c : Code) (T : State), c.code = bytes → c.maxLocals = maxL → meth.sig.returnType = ret → meth.locks = false → meth.name = y.name → OSt p l e rm s m as' below meth c y.cls Z [] s.vm T h 0 0 → OEnds p e below (GN Z s Q rm.cells rm.slots) T (entryFrame m as' maxL)) :
    ConN l Z y bytes maxL ret ws rm as' h Q := by
  intro hO
  refine MetFree.of_bodySF hy hisR ?_
  intro p e s m args below meth c s₁ Bd hml hP _
  obtain ⟨rfl, hZ, hh⟩ := hP
  have e0 : s₁.heap = h := by rw [← hh, Bd.state]; rfl
  have X0 : Stand p l e rm s m args below meth c s₁ [] 0 0 := Stand.of_body Bd
  have hown : s.vm.findClass y.cls = some m.cls := findClass_of_methodNamed Bd.named
  obtain ⟨s₂, o, h1, h2, h3, v, L, rfl, h4, h5⟩ := body p e s m below meth c s₁ Bd.bytes hml Bd.returns Bd.notSynchronized (name_of_methodNamed Bd.named Bd.method).1
    ⟨[], X0, Fr.nil _, e0, ⟨_, (State.WarmedH.refl s).since 0, Nat.zero_le _⟩, hZ, hown, by rw [hh]; exact chr_nil (Nat.le_refl _), hO, Bd.exec⟩
  exact ⟨s₂, _, h1, h2, h3, v, L, rfl, h4, h5⟩
theorem ConN.back {W len : Nat} (K : ConN l Z y bytes maxL ret [] rm as' h Q) (hO : Ext Z.heap h) (hZ : Z.Warmed39 vm0) (wc : (Cond.code y bytes maxL ret).before a0 Z = true) (wz : (Cond.initialized y.cls).before a0 Z = true) (hf : rm.frames + 1 ≤ R.frames) (hl : W + (maxL + 11) + rm.locals ≤ R.locals) :
    Back l R p e below (s.setVm vm0) args y len W (PreB R as' h rm.cells rm.slots) (PostB (fun v h' L => Q v h' ∧ Fr Z.heap.size L ∧ Ext Z.heap h') rm.cells rm.slots) :=
  backOf (Q := fun v h' L => Q v h' ∧ Fr Z.heap.size L ∧ Ext Z.heap h') (K hO) hZ wc wz hf hl
theorem okN (hq : ∀ v h', Q v h' → h.size ≤ h'.size) : OkB Z [] vm0 h (fun v h' L => Q v h' ∧ Fr Z.heap.size L ∧ Ext Z.heap h') := fun v h' L r => ⟨r.2.1, r.2.2, chr_nil (hq v h' r.1)⟩
end Narrow
end Jvm.Own
namespace Jvm.Own
open Sem ClassFile Op Lib Bundle Jvm.Stand Jvm.Free Jvm.LawKit Jvm.RoadKit
section More
variable {p : Program} {l : Launch} {e : Env} {R : Room} {s : State} {m : MethodId} {args : Array Value} {below : List Frame} {meth : Method} {c : Code} {own : String} {Z : State} {a0 : Array Value} {EL : List (String × Nat)} {vm0 : Vm} {T : State} {h : Heap} {k n : Nat} {G : Outcome → State → Prop} {pc : Nat} {Ls : Array Slot} {rest : List Value}
theorem OSt.instNull (X : OSt p l e R s m args below meth c own Z EL vm0 T h k n) {index : Nat} (hd : decode c.code pc = .ok (.instanceof index, 3)) (q : OEnds p e below G T (mkF m (pc + 3) Ls (.int 0 :: rest))) : OEnds p e below G T (mkF m pc Ls (.null :: rest)) := by
  obtain ⟨L, X, hF, hh, hS, hZ, ho, hC, hO, hx⟩ := X
  exact q.go fun t => X.instanceofNull hx (g := mkF m pc Ls (.null :: rest)) rfl rfl hd t
theorem nsRoot {O K : String} {j : Nat} (wr : (Cond.noSuperclass O).before a0 Z = true) (wi : (Cond.instantiable K j).before a0 Z = true) (hn : O ≠ K) : NS Z O K := by
  obtain ⟨t, k', g0, -⟩ := Cond.instantiable_spec wi
  obtain ⟨cO, kO, o1, o2, o3, -, -⟩ := Cond.noSuperclass_spec wr
  have ne := ids_ne o1 g0 hn
  refine ⟨cO, t, o1, g0, fun fuel => ?_⟩
  cases fuel with
  | zero => rfl
  | succ f => simp [Vm.isSubclassAux, ne, o2, o3]
/-- an object of the class C isn't one of the class K, which can be made -/
theorem nsNo {C S K : String} {j : Nat} (w : (Cond.superclass C S).before a0 Z = true) (wi : (Cond.instantiable K j).before a0 Z = true) (n : NS Z C K) (hn : C ≠ K) : ∃ c t, Z.vm.findClass C = some c ∧ Z.vm.findClass K = some t ∧ Z.vm.assignable c t = false := by
  obtain ⟨c, t, h0, g0, n3⟩ := n
  obtain ⟨t', k', g0', g2, g5, g7, -, -⟩ := Cond.instantiable_spec wi
  cases g0.symm.trans g0'
  obtain ⟨p, k, kp, h1, h2, h3, h4, h5, -, h7⟩ := Cond.superclass_spec h0 w
  have ne := ids_ne h0 g0 hn
  have g8 : k'.isInterface = false := (Bool.or_eq_false_iff.mp g7).1
  refine ⟨c, t, h0, g0, ?_⟩
  show Z.vm.assignableAux (255 + 1) c t = false
  simp [Vm.assignableAux, ne, h2, g2, h5, g5, g8, Vm.isSubclass, n3]
end More
end Jvm.Own
namespace Jvm.Own
open Sem ClassFile Op Lib Bundle Jvm.Stand Jvm.Free Jvm.LawKit Jvm.RoadKit
section Small
variable {Z : State} {h h' : Heap} {EL : List (String × Nat)} {vm : Vm}
theorem own_irem {tb : Tables} [Ours tb] {e : Env} {below : List Frame} {T target : State} {m : MethodId} {c : Code} {g : JFrame} (h : At T m c below) (hx : tb.exec = Jvm.exec) (hg : g.method = m) {x y : Int32} {rest : List Value} (hd : decode c.code g.pc = .ok (.irem, 1)) (hs : g.stack = .int y :: .int x :: rest) (hy : y ≠ 0)
    (hr : Steps tb e below (T.setTop { g with pc := g.pc + 1, stack := .int (x % y) :: rest }) target) : Steps tb e below (T.setTop g) target := by
  have q : x - x / y * y = x % y := irem_eq_mod x y
  exact XS.irem h hx hg hd hs hy (by rw [q]; exact hr)
theorem own_lrem {tb : Tables} [Ours tb] {e : Env} {below : List Frame} {T target : State} {m : MethodId} {c : Code} {g : JFrame} (h : At T m c below) (hx : tb.exec = Jvm.exec) (hg : g.method = m) {x y : Int64} {rest : List Value} (hd : decode c.code g.pc = .ok (.lrem, 1)) (hs : g.stack = .long y :: .long x :: rest) (hy : y ≠ 0)
    (hr : Steps tb e below (T.setTop { g with pc := g.pc + 1, stack := .long (x % y) :: rest }) target) : Steps tb e below (T.setTop g) target := by
  have q : x - (x / y) * y = x % y := lrem_mod x y
  exact XS.lrem h hx hg hd hs hy (by rw [q]; exact hr)
theorem own_acneY {x y : Value} (h1 : x.isRef = true) (h2 : y.isRef = true) (q : decide (x = y) = false) : XT.acmp .ne x y = true := by simpa [XT.acmp] using q
theorem own_acneN {x y : Value} (h1 : x.isRef = true) (h2 : y.isRef = true) (q : decide (x = y) = true) : XT.acmp .ne x y = false := by simpa [XT.acmp] using q
theorem own_aceqY {x y : Value} (h1 : x.isRef = true) (h2 : y.isRef = true) (q : decide (x = y) = true) : XT.acmp .eq x y = true := by simpa [XT.acmp] using q
theorem own_aceqN {x y : Value} (h1 : x.isRef = true) (h2 : y.isRef = true) (q : decide (x = y) = false) : XT.acmp .eq x y = false := by simpa [XT.acmp] using q
theorem own_cat {v : Value} (h : v.isRef = true) : v.category = 1 := by rcases ref_cases h with rfl | ⟨_, rfl⟩ <;> rfl
theorem own_fits {t : FieldType} {v : Value} (h1 : t.isReference = true) (h2 : v.isRef = true) : fits t v = true := by
  rcases ref_cases h2 with rfl | ⟨a, rfl⟩ <;> cases t <;> first | rfl | cases h1
abbrev lo8 (c : Int32) : Int32 := c.toInt8.toInt32
/-- the object x is a String that spells cs, each from 0 to 255 -/
def OStr (Z : State) (h : Heap) (x : Addr) (cs : List Int32) : Prop := Exa Z h x "java/lang/String" ∧ Fld Z h x "java/lang/String" "coder" "B" (.int 0) ∧ (∃ (t : Addr) (kb : ClassId), Fld Z h x "java/lang/String" "value" "[B" (.ref t) ∧ Arv Z h t kb .byte (Int32.ofNat cs.length) ((cs.map lo8).map Value.int) (.int 0)) ∧ (∀ c ∈ cs, ¬ c < 0 ∧ ¬ (255 : Int32) < c) ∧ cs.length ≤ 4000
theorem OStr.ext {x : Addr} {cs : List Int32} (F : OStr Z h x cs) (E : Ext h h') : OStr Z h' x cs := by
  obtain ⟨h1, h2, ⟨t, kb, h3, h4⟩, r⟩ := F; exact ⟨h1.ext E, h2.ext E, ⟨t, kb, h3.ext E, h4.ext E⟩, r⟩
theorem OStr.exa {x : Addr} {cs : List Int32} (F : OStr Z h x cs) : Exa Z h x "java/lang/String" := F.1
theorem OStr.lt {x : Addr} {cs : List Int32} (F : OStr Z h x cs) : x < h.size := F.1.lt
theorem all_nil {P : Int32 → Prop} : ∀ c ∈ ([] : List Int32), P c := fun _ q => nomatch q
theorem all_cons {P : Int32 → Prop} {c : Int32} {cs : List Int32} (h1 : P c) (h2 : ∀ c ∈ cs, P c) : ∀ x ∈ c :: cs, P x := fun x q => (List.mem_cons.mp q).elim (fun u => u ▸ h1) (h2 x)
theorem up255 {c : Int32} (h : ¬ c < 0 ∧ ¬ (255 : Int32) < c) : ¬ c < 0 ∧ ¬ (65535 : Int32) < c := by
  have r : (0 : Int32).toInt = 0 := rfl
  have r1 : (255 : Int32).toInt = 255 := rfl
  have r2 : (65535 : Int32).toInt = 65535 := rfl
  simp only [Int32.lt_iff_toInt_lt, r, r1, r2] at h ⊢; omega
theorem and255 (x : Int32) : ¬ (x &&& 255) < 0 ∧ ¬ (255 : Int32) < (x &&& 255) := by
  have q := c_and x 255 (by decide)
  have r : (0 : Int32).toInt = 0 := rfl
  have r1 : (255 : Int32).toInt = 255 := rfl
  simp only [Int32.lt_iff_toInt_lt, r, r1] at q ⊢; omega
theorem ch255 (x : Int32) : ¬ ((x &&& 255).toUInt32.toUInt16.toUInt32.toInt32) < 0 ∧ ¬ (255 : Int32) < ((x &&& 255).toUInt32.toUInt16.toUInt32.toInt32) := by
  rw [i2c_mask]; exact and255 x
/-- a String that has only been made holds no array: no constant is booked at it -/
theorem safe_blank {x : Addr} (hal : Z.vm.Alike vm) (E : Exa Z h x "java/lang/String") (V : Fld Z h x "java/lang/String" "value" "[B" .null) : Safe Z EL vm h x := fun B => by
  obtain ⟨cell, kk, e1, e2, e3, -, -⟩ := E
  obtain ⟨cell', cf, kx, i, f, v1, v2, -, -, -, -, v7⟩ := V
  cases e1.symm.trans v1
  obtain ⟨p, -, u, a, -, q, -, F, hy⟩ := B
  rcases hy with rfl | rfl
  · cases (show h[q.sa]? = some q.sC from F.ha).symm.trans e1
    obtain ⟨cS, ⟨⟨-, -, -, ⟨c1, k1, i1, f1, -⟩, -, -, -, w1, -⟩, -⟩, -⟩ := F
    obtain ⟨k3, e4⟩ := ff_back (U := Wst Z vm h) hal f1
    cases e4.symm.trans v2
    have := w1.symm.trans v7
    cases this
  · cases (show h[q.sd]? = some q.SA from F.hd).symm.trans e1
    obtain ⟨cS, -, -, f4, -⟩ := F
    have f5 : vm.findClass "[B" = some q.SA.cls := f4
    rw [hal.findClass] at f5
    obtain ⟨k5, q5, q6⟩ := Vm.findClass_spec f5
    obtain ⟨k6, q7, q8⟩ := Vm.findClass_spec e2
    cases q5.symm.trans q7
    exact absurd (q6.symm.trans q8) (by decide)
end Small
end Jvm.Own
namespace Jvm.Own
open Sem ClassFile Op Lib Bundle Jvm.Stand Jvm.Free Jvm.LawKit Jvm.RoadKit
section Copy
variable {p : Program} {l : Launch} {e : Env} {R : Room} {s : State} {m : MethodId} {args : Array Value} {below : List Frame} {meth : Method} {c : Code} {own : String} {Z : State} {a0 : Array Value} {EL : List (String × Nat)} {vm0 : Vm} {T : State} {h : Heap} {k n : Nat} {G : Outcome → State → Prop} {pc : Nat} {Ls : Array Slot} {rest : List Value}
/-- System.arraycopy between two byte arrays -/
theorem OSt.cpB (X : OSt p l e R s m args below meth c own Z EL vm0 T h k n) {index : Nat} (w1 : (Cond.methodLink own index Jvm.Stand.acN).before a0 Z = true) (w2 : (Cond.native Jvm.Stand.acN).before a0 Z = true) (w3 : (Cond.static Jvm.Stand.acN).before a0 Z = true) (w4 : (Cond.initialized "java/lang/System").before a0 Z = true)
    {a b : Addr} {ka kb : ClassId} {z z' sp dp nn : Int32} {vs vd us : List Value} {dv dd : Value} (A : Arv Z h a ka .byte z vs dv) (B : Arv Z h b kb .byte z' vd dd) (h1 : ¬ sp < 0) (h2 : ¬ dp < 0) (h3 : ¬ nn < 0) (h4 : sp.toNatClampNeg + nn.toNatClampNeg ≤ z.toNatClampNeg) (h5 : dp.toNatClampNeg + nn.toNatClampNeg ≤ z'.toNatClampNeg)
    (hus : us = (List.range nn.toNatClampNeg).map fun i => vs.getD (sp.toNatClampNeg + i) dv) (hl : dp.toNatClampNeg + nn.toNatClampNeg ≤ vd.length) (hSf : Safe Z EL vm0 h b) (ge : Z.heap.size ≤ b) (hsize : Ls.size = c.maxLocals) (hd : decode c.code pc = .ok (.invokestatic index, 3))
    (hf : 1 ≤ R.frames) {W : Nat} (hW : (rest.map fun v => v.category).sum ≤ W) (hlo : W + (nativeFrameWords "java/lang/System" "arraycopy" 5 + 11) ≤ R.locals)
    (q : ∀ T' h', OSt p l e R s m args below meth c own Z EL vm0 T' h' k n → Keep h h' [b] → Arv Z h' b kb .byte z' (vd.take dp.toNatClampNeg ++ us ++ vd.drop (dp.toNatClampNeg + nn.toNatClampNeg)) dd → OEnds p e below G T' (mkF m (pc + 3) Ls rest)) : OEnds p e below G T (mkF m pc Ls (.int nn :: .int dp :: .ref b :: .int sp :: .ref a :: rest)) := by
  obtain ⟨L, X, hF, hh, ⟨k0, hS0, hk0⟩, hZ, ho, hC, hO, hx⟩ := X
  obtain ⟨T', h', L', X', e', F', K, B', st⟩ := RoadKit.cpA X hx hZ ho w1 w2 w3 w4 hh A B (Or.inl ⟨rfl, rfl⟩) h1 h2 h3 h4 h5 hus hl hF ge (g := mkF m pc Ls (.int nn :: .int dp :: .ref b :: .int sp :: .ref a :: rest)) rfl hsize rfl hd hf (W := W) (by show 2 * 0 + _ ≤ _; rw [Nat.mul_zero, Nat.zero_add]; exact hW) hlo
  exact (q T' h' ⟨L', X', F', e', ⟨k0, hS0, Nat.le_trans hk0 K.1⟩, hZ, ho, hC.trans (CHr.keep K (fun x hx => by cases List.mem_singleton.mp hx; exact hSf) hC.1), ext_keep hO K (allS ge all0), hx⟩ K B').go st
end Copy
end Jvm.Own
namespace Jvm.Own
open Sem ClassFile Op Lib Bundle Jvm.Stand Jvm.Free Jvm.LawKit Jvm.RoadKit
theorem ofN {n : Nat} (h : n < 2147483648) : (Int32.ofNat n).toInt = n := Int32.toInt_ofNat_small h
theorem ofN_lt {a b : Nat} (ha : a < 2147483648) (hb : b < 2147483648) : Int32.ofNat a < Int32.ofNat b ↔ a < b := by
  rw [Int32.lt_iff_toInt_lt, ofN ha, ofN hb]; omega
theorem ofN_eq {a b : Nat} (ha : a < 2147483648) (hb : b < 2147483648) : Int32.ofNat a = Int32.ofNat b ↔ a = b := by
  rw [← Int32.toInt_inj, ofN ha, ofN hb]; omega
theorem ofN_neg {a : Nat} (ha : a < 2147483648) : ¬ Int32.ofNat a < 0 := by
  rw [Int32.lt_iff_toInt_lt, ofN ha]; have : (0 : Int32).toInt = 0 := rfl
  omega
theorem ofN_nat {a : Nat} (ha : a < 2147483648) : (Int32.ofNat a).toNatClampNeg = a := by
  rw [Int32.toNatClampNeg, ofN ha]; omega
theorem ofN_sub {a b : Nat} (ha : a < 2147483648) (h : b ≤ a) : Int32.ofNat a - Int32.ofNat b = Int32.ofNat (a - b) := by
  apply Int32.toInt_inj.mp
  have q := c_isub (Int32.ofNat a) (Int32.ofNat b)
  have r := rng32 (Int32.ofNat a - Int32.ofNat b)
  rw [ofN ha, ofN (by omega)] at q
  rw [ofN (by omega)]; omega
theorem ofN_add {a b : Nat} (h : a + b < 2147483648) : Int32.ofNat a + Int32.ofNat b = Int32.ofNat (a + b) := by
  apply Int32.toInt_inj.mp
  have q := c_iadd (Int32.ofNat a) (Int32.ofNat b)
  have r := rng32 (Int32.ofNat a + Int32.ofNat b)
  rw [ofN (by omega), ofN (by omega)] at q
  rw [ofN h]; omega
theorem ofN_of {x : Int32} (h : ¬ x < 0) : x = Int32.ofNat x.toNatClampNeg ∧ x.toNatClampNeg < 2147483648 := by
  have r := rng32 x
  have z : (0 : Int32).toInt = 0 := rfl
  rw [Int32.lt_iff_toInt_lt, z] at h
  have e : x.toNatClampNeg < 2147483648 := by rw [Int32.toNatClampNeg]; omega
  refine ⟨Int32.toInt_inj.mp ?_, e⟩
  rw [ofN e, Int32.toNatClampNeg]; omega
end Jvm.Own
/- laws to paste: Road.backV, Road.empW, Road.codOf (cut by pick.py; bodies as the Statement names them) -/
namespace Jvm.Pilot.@@N@@
namespace StrChars
open Jvm Sem ClassFile Op Lib Jvm.Stand Jvm.Free.XT Jvm.Free.ALB Jvm.Free.JM Jvm.Free
open Jvm.Lib.Cold (StaticIs)
/-- a char array whose places are chars -/
def Ch (a : Addr) (A : Cell) (U : State) : Prop := Arr .char a A U ∧ Typed .char A
theorem Ch.mv {a : Addr} {A : Cell} {U U' : State} (h : Ch a A U) (hal : U.vm.Alike U'.vm) (hh : U'.heap = U.heap) : Ch a A U' := ⟨h.1.mv hal hh, h.2⟩
theorem Ch.keep {a : Addr} {A : Cell} {U U' : State} (h : Ch a A U) (hal : U.vm.Alike U'.vm) (hk : U'.heap[a]? = some A) : Ch a A U' := ⟨h.1.keep hal hk, h.2⟩
/-- what place i of a char[]'s cell holds -/
def cv (A : Cell) (i : Nat) : Int32 := match A.slots[i]? with | some (.int x) => x | _ => 0
theorem Ch.get {a : Addr} {A : Cell} {U : State} (h : Ch a A U) {i : Nat} (hi : i < A.slots.size) : A.slots[i]? = some (.int (cv A i)) := by
  have e := Array.getElem?_eq_getElem hi
  have f := h.2 i _ e
  unfold cv; rw [e]
  generalize A.slots[i] = v at f
  cases v <;> simp [fits] at f ⊢
/-- the byte that i2b leaves of a char -/
def lo8 (x : Int32) : Int32 := x.toInt8.toInt32
theorem fits_lo8 (y : Int32) : fits .byte (.int (lo8 y)) = true := by
  have h1 := y.toInt8.le_toInt
  have h2 := y.toInt8.toInt_lt
  simp only [lo8, fits, Bool.and_eq_true, decide_eq_true_eq, Int32.le_iff_toInt_le, Int8.toInt_toInt32, show (-128 : Int32).toInt = -128 from by decide, show (127 : Int32).toInt = 127 from by decide]
  omega
/-- A' is A but that each place j of lo .. hi - 1 holds f j -/
def Laid (A A' : Cell) (lo hi : Nat) (f : Nat → Value) : Prop := A'.cls = A.cls ∧ A'.vm = A.vm ∧ A'.slots.size = A.slots.size ∧ ∀ i, A'.slots[i]? = if lo ≤ i ∧ i < hi then some (f i) else A.slots[i]?
theorem Laid.zero (A : Cell) (lo : Nat) (f : Nat → Value) : Laid A A lo (lo + 0) f := ⟨rfl, rfl, rfl, fun i => by rw [if_neg (by omega)]⟩
theorem Laid.step {A Ak : Cell} {lo k : Nat} {f : Nat → Value} {v : Value} (h : Laid A Ak lo k f) (hlo : lo ≤ k) (hk : k < Ak.slots.size) (hv : v = f k) : Laid A (Ak.setSlot k v) lo (k + 1) f := by
  refine ⟨h.1, h.2.1, by simpa [Cell.setSlot] using h.2.2.1, fun i => ?_⟩
  by_cases e : k = i
  · subst e; rw [Cell.slots_setSlot_self v hk, if_pos (by omega), hv]
  · rw [Cell.slots_setSlot_ne v e, h.2.2.2 i]
    by_cases q : lo ≤ i ∧ i < k
    · rw [if_pos q, if_pos (by omega)]
    · rw [if_neg q, if_neg (by omega)]
def U16 : String := "java/lang/StringUTF16"
namespace Cmp5
def yN : MethodName := ⟨"java/lang/StringUTF16", "compress", "([CI[BII)I"⟩
abbrev yB : ByteArray := jdk_52_method_21_code
theorem d0 : decode yB 0 = .ok (.iconst 0, 1) := by decide +kernel
theorem d1 : decode yB 1 = .ok (.istore 5, 2) := by decide +kernel
theorem d3 : decode yB 3 = .ok (.iload 5, 2) := by decide +kernel
theorem d5 : decode yB 5 = .ok (.iload 4, 2) := by decide +kernel
theorem d7 : decode yB 7 = .ok (.if_icmp (.ge) 37, 3) := by decide +kernel
theorem d10 : decode yB 10 = .ok (.aload_n 0, 1) := by decide +kernel
theorem d11 : decode yB 11 = .ok (.iload_n 1, 1) := by decide +kernel
theorem d12 : decode yB 12 = .ok (.caload, 1) := by decide +kernel
theorem d13 : decode yB 13 = .ok (.istore 6, 2) := by decide +kernel
theorem d15 : decode yB 15 = .ok (.iload 6, 2) := by decide +kernel
theorem d17 : decode yB 17 = .ok (.sipush 255, 3) := by decide +kernel
theorem d20 : decode yB 20 = .ok (.if_icmp (.le) 6, 3) := by decide +kernel
theorem d26 : decode yB 26 = .ok (.aload_n 2, 1) := by decide +kernel
theorem d27 : decode yB 27 = .ok (.iload_n 3, 1) := by decide +kernel
theorem d28 : decode yB 28 = .ok (.iload 6, 2) := by decide +kernel
theorem d30 : decode yB 30 = .ok (.i2b, 1) := by decide +kernel
theorem d31 : decode yB 31 = .ok (.bastore, 1) := by decide +kernel
theorem d32 : decode yB 32 = .ok (.iinc 1 1, 3) := by decide +kernel
theorem d35 : decode yB 35 = .ok (.iinc 3 1, 3) := by decide +kernel
theorem d38 : decode yB 38 = .ok (.iinc 5 1, 3) := by decide +kernel
theorem d41 : decode yB 41 = .ok (.goto (-38), 3) := by decide +kernel
theorem d44 : decode yB 44 = .ok (.iload 4, 2) := by decide +kernel
theorem d46 : decode yB 46 = .ok (.ireturn, 1) := by decide +kernel
def site : List Cond := []
def tab : Cond := tabOf yN yB 7 (some .int) site
def P (b : Addr) (A : Cell) (d : Addr) (B : Cell) (o q len : Nat) (args : Array Value) (s : State) : Prop := args = #[.ref b, .int (Int32.ofNat o), .ref d, .int (Int32.ofNat q), .int (Int32.ofNat len)] ∧ Ch b A s ∧ Arr .byte d B s ∧ b ≠ d ∧ o + len ≤ A.slots.size ∧ q + len ≤ B.slots.size ∧ ∀ i, i < len → ¬ 255 < cv A (o + i)
def E (b : Addr) (A : Cell) (d : Addr) (B : Cell) (o q len : Nat) (r : Option Value) (s u : State) : Prop := r = some (.int (Int32.ofNat len)) ∧ ∃ B', Put d B' s u ∧ Laid B B' q (q + len) (fun j => Value.int (lo8 (cv A (o + (j - q)))))
/-- no char of the range above 255: len; the places written hold each char's low byte -/
theorem law (l : Launch) (b : Addr) (A : Cell) (d : Addr) (B : Cell) (o q len : Nat) : Law l yN 5 5 0 0 yB 7 (some .int) site (P b A d B o q len) (E b A d B o q len) (copyLocs d q len) 0 0 := by
  refine Law.of_walk (plainFor_of_name (by decide +kernel)) (by decide +kernel) (by decide +kernel) (by decide) (fun _ _ h => by rw [h.1]; rfl) (fun _ U U' hal hh h => ⟨h.1, h.2.1.mv hal hh, h.2.2.1.mv hal hh, h.2.2.2⟩) (fun r U U' V V' h1 hal h2 h => ⟨h.1, h.2.elim fun B' q => ⟨B', q.1.mv h1 h2, q.2⟩⟩) ?_
  intro p e s m args below meth c s₁ X0 hexec hbytes hml hret hlk hnm hown hh0 W hP
  obtain ⟨rfl, hA, hB, hne, l1, l2, hp⟩ := hP
  have c1 : Steps p.tables e below (s₁.setTop (entryFrame m #[.ref b, .int (Int32.ofNat o), .ref d, .int (Int32.ofNat q), .int (Int32.ofNat len)] 7)) (s₁.setTop (mkF m 0 #[.val (.ref b), .val (.int (Int32.ofNat o)), .val (.ref d), .val (.int (Int32.ofNat q)), .val (.int (Int32.ofNat len)), .unset, .unset] [])) := entry rfl
  have hA0 := hA.1.mv X0.warmed.alike hh0
  have hB0 := hB.mv X0.warmed.alike hh0
  have a31 := hA.1.2.2.2
  have c2 : Steps p.tables e below (s₁.setTop (entryFrame m #[.ref b, .int (Int32.ofNat o), .ref d, .int (Int32.ofNat q), .int (Int32.ofNat len)] 7)) (s₁.setTop (mkF m 3 #[.val (.ref b), .val (.int (Int32.ofNat o)), .val (.ref d), .val (.int (Int32.ofNat q)), .val (.int (Int32.ofNat len)), .val (.int 0), .unset] [])) := c1.trans (by
    refine iconstV X0.here hexec rfl 0 (hb hbytes d0) (by decide) ?_
    refine XS.istore X0.here hexec rfl (hb hbytes d1) rfl rfl ?_
    exact Steps.refl _)
  have loop : ∀ (r i : Nat), i + r = len → ∀ (z : Slot), (z = .unset ∨ ∃ w, z = .val w ∧ w.category = 1) → ∀ (Tl : State) (Bk : Cell), Stand p l e { frames := 0, locals := 0, cells := 0, slots := 0 } s m #[.ref b, .int (Int32.ofNat o), .ref d, .int (Int32.ofNat q), .int (Int32.ofNat len)] below meth c Tl ([] ++ copyLocs d q i) 0 0 → Put d Bk s₁ Tl → Laid B Bk q (q + i) (fun j => Value.int (lo8 (cv A (o + (j - q))))) →
      Steps p.tables e below (s₁.setTop (entryFrame m #[.ref b, .int (Int32.ofNat o), .ref d, .int (Int32.ofNat q), .int (Int32.ofNat len)] 7)) (Tl.setTop (mkF m 3 #[.val (.ref b), .val (.int (Int32.ofNat (o + i))), .val (.ref d), .val (.int (Int32.ofNat (q + i))), .val (.int (Int32.ofNat len)), .val (.int (Int32.ofNat i)), z] [])) → ∃ (T' : State) (B' : Cell) (z' : Slot), Stand p l e { frames := 0, locals := 0, cells := 0, slots := 0 } s m #[.ref b, .int (Int32.ofNat o), .ref d, .int (Int32.ofNat q), .int (Int32.ofNat len)] below meth c T' ([] ++ copyLocs d q len) 0 0 ∧ Put d B' s₁ T' ∧ Laid B B' q (q + len) (fun j => Value.int (lo8 (cv A (o + (j - q))))) ∧
      Steps p.tables e below (s₁.setTop (entryFrame m #[.ref b, .int (Int32.ofNat o), .ref d, .int (Int32.ofNat q), .int (Int32.ofNat len)] 7)) (T'.setTop (mkF m 3 #[.val (.ref b), .val (.int (Int32.ofNat (o + len))), .val (.ref d), .val (.int (Int32.ofNat (q + len))), .val (.int (Int32.ofNat len)), .val (.int (Int32.ofNat len)), z'] [])) := by
    intro r
    induction r with
    | zero =>
      intro i hi z hz Tl Bk Xl pl fl cl
      have hil : i = len := by omega
      rw [hil] at Xl fl cl
      exact ⟨Tl, Bk, z, Xl, pl, fl, cl⟩
    | succ r ih =>
      intro i hi z hz Tl Bk Xl pl fl cl
      have all := X0.warmed.alike.symm.trans Xl.warmed.alike
      have hAl := hA0.keep all (pl.other hne hA0.1)
      have hBk := hB0.like all pl.1 fl.1 fl.2.1 fl.2.2.1
      have hlt : q + i < Bk.slots.size := by rw [fl.2.2.1]; omega
      have c3 : Steps p.tables e below (s₁.setTop (entryFrame m #[.ref b, .int (Int32.ofNat o), .ref d, .int (Int32.ofNat q), .int (Int32.ofNat len)] 7)) (Tl.setTop (mkF m 12 #[.val (.ref b), .val (.int (Int32.ofNat (o + i))), .val (.ref d), .val (.int (Int32.ofNat (q + i))), .val (.int (Int32.ofNat len)), .val (.int (Int32.ofNat i)), z] [.int (Int32.ofNat (o + i)), .ref b])) := cl.trans (by
        refine XS.iload Xl.here hexec rfl (hb hbytes d3) rfl ?_
        refine XS.iload Xl.here hexec rfl (hb hbytes d5) rfl ?_
        refine XS.icmpNo Xl.here hexec rfl (hb hbytes d7) rfl (ii_ge_f (lt32 (by omega) (by omega))) ?_
        refine XS.aloadN Xl.here hexec rfl (hb hbytes d10) rfl rfl ?_
        refine XS.iloadN Xl.here hexec rfl (hb hbytes d11) rfl ?_
        exact Steps.refl _)
      have c4 : Steps p.tables e below (s₁.setTop (entryFrame m #[.ref b, .int (Int32.ofNat o), .ref d, .int (Int32.ofNat q), .int (Int32.ofNat len)] 7)) (Tl.setTop (mkF m 13 #[.val (.ref b), .val (.int (Int32.ofNat (o + i))), .val (.ref d), .val (.int (Int32.ofNat (q + i))), .val (.int (Int32.ofNat len)), .val (.int (Int32.ofNat i)), z] [.int (cv A (o + i))])) := c3.trans (by
        refine Xl.aget hexec hAl rfl (hA.get (i := o + i) (by omega)) rfl rfl (hb hbytes d12) ?_
        exact Steps.refl _)
      have c5 : Steps p.tables e below (s₁.setTop (entryFrame m #[.ref b, .int (Int32.ofNat o), .ref d, .int (Int32.ofNat q), .int (Int32.ofNat len)] 7)) (Tl.setTop (mkF m 15 #[.val (.ref b), .val (.int (Int32.ofNat (o + i))), .val (.ref d), .val (.int (Int32.ofNat (q + i))), .val (.int (Int32.ofNat len)), .val (.int (Int32.ofNat i)), .val (.int (cv A (o + i)))] [])) := c4.trans (by
        refine XS.istoreS Xl.here hexec rfl (hb hbytes d13) rfl rfl hz ?_
        exact Steps.refl _)
      have c6 : Steps p.tables e below (s₁.setTop (entryFrame m #[.ref b, .int (Int32.ofNat o), .ref d, .int (Int32.ofNat q), .int (Int32.ofNat len)] 7)) (Tl.setTop (mkF m 31 #[.val (.ref b), .val (.int (Int32.ofNat (o + i))), .val (.ref d), .val (.int (Int32.ofNat (q + i))), .val (.int (Int32.ofNat len)), .val (.int (Int32.ofNat i)), .val (.int (cv A (o + i)))] [.int (lo8 (cv A (o + i))), .int (Int32.ofNat (q + i)), .ref d])) := c5.trans (by
        refine XS.iload Xl.here hexec rfl (hb hbytes d15) rfl ?_
        refine sipushV Xl.here hexec rfl 255 (hb hbytes d17) (by decide) ?_
        refine XS.icmpYes Xl.here hexec rfl (pc0 := 20) rfl (hb hbytes d20) rfl (ii_le_t (hp i (by omega))) (by decide) rfl ?_
        refine XS.aloadN Xl.here hexec rfl (hb hbytes d26) rfl rfl ?_
        refine XS.iloadN Xl.here hexec rfl (hb hbytes d27) rfl ?_
        refine XS.iload Xl.here hexec rfl (hb hbytes d28) rfl ?_
        refine i2b Xl.here hexec rfl (hb hbytes d30) rfl ?_
        exact Steps.refl _)
      obtain ⟨T7, X7, p7, st7⟩ := Xl.aput hexec hBk rfl hlt rfl (fits_lo8 (cv A (o + i))) (g := (mkF m 31 #[.val (.ref b), .val (.int (Int32.ofNat (o + i))), .val (.ref d), .val (.int (Int32.ofNat (q + i))), .val (.int (Int32.ofNat len)), .val (.int (Int32.ofNat i)), .val (.int (cv A (o + i)))] [.int (lo8 (cv A (o + i))), .int (Int32.ofNat (q + i)), .ref d])) rfl (rest := []) rfl (hb hbytes d31)
      have c8 : Steps p.tables e below (s₁.setTop (entryFrame m #[.ref b, .int (Int32.ofNat o), .ref d, .int (Int32.ofNat q), .int (Int32.ofNat len)] 7)) (T7.setTop (mkF m 32 #[.val (.ref b), .val (.int (Int32.ofNat (o + i))), .val (.ref d), .val (.int (Int32.ofNat (q + i))), .val (.int (Int32.ofNat len)), .val (.int (Int32.ofNat i)), .val (.int (cv A (o + i)))] [])) := c6.trans (st7 _ (Steps.refl _))
      have c9 : Steps p.tables e below (s₁.setTop (entryFrame m #[.ref b, .int (Int32.ofNat o), .ref d, .int (Int32.ofNat q), .int (Int32.ofNat len)] 7)) (T7.setTop (mkF m 3 #[.val (.ref b), .val (.int (Int32.ofNat (o + i) + 1)), .val (.ref d), .val (.int (Int32.ofNat (q + i) + 1)), .val (.int (Int32.ofNat len)), .val (.int (Int32.ofNat i + 1)), .val (.int (cv A (o + i)))] [])) := c8.trans (by
        refine iincV X7.here hexec rfl 1 (hb hbytes d32) (by decide) rfl rfl ?_
        refine iincV X7.here hexec rfl 1 (hb hbytes d35) (by decide) rfl rfl ?_
        refine iincV X7.here hexec rfl 1 (hb hbytes d38) (by decide) rfl rfl ?_
        refine XS.goto X7.here hexec rfl (pc0 := 41) rfl (hb hbytes d41) (by decide) rfl ?_
        exact Steps.refl _)
      have c10 : Steps p.tables e below (s₁.setTop (entryFrame m #[.ref b, .int (Int32.ofNat o), .ref d, .int (Int32.ofNat q), .int (Int32.ofNat len)] 7)) (T7.setTop (mkF m 3 #[.val (.ref b), .val (.int (Int32.ofNat (o + (i + 1)))), .val (.ref d), .val (.int (Int32.ofNat (q + (i + 1)))), .val (.int (Int32.ofNat len)), .val (.int (Int32.ofNat (i + 1))), .val (.int (cv A (o + i)))] [])) := by
        have := c9
        rw [succ32, succ32, succ32] at this
        exact this
      exact ih (i + 1) (by omega) _ (Or.inr ⟨_, rfl, rfl⟩) T7 _ (by rw [copyLocs_step, ← List.append_assoc]; exact X7) (pl.trans p7) (fl.step (by omega) hlt (by simp)) c10
  obtain ⟨T9, B9, z9, X9, p9, f9, g9⟩ := loop len 0 (by omega) .unset (Or.inl rfl) s₁ B (by simpa [copyLocs] using X0) ⟨hB0.1, fun _ _ => rfl, rfl⟩ (Laid.zero _ _ _) c2
  have c11 : Steps p.tables e below (s₁.setTop (entryFrame m #[.ref b, .int (Int32.ofNat o), .ref d, .int (Int32.ofNat q), .int (Int32.ofNat len)] 7)) (T9.setTop (mkF m 46 #[.val (.ref b), .val (.int (Int32.ofNat (o + len))), .val (.ref d), .val (.int (Int32.ofNat (q + len))), .val (.int (Int32.ofNat len)), .val (.int (Int32.ofNat len)), z9] [.int (Int32.ofNat len)])) := g9.trans (by
    refine XS.iload X9.here hexec rfl (hb hbytes d3) rfl ?_
    refine XS.iload X9.here hexec rfl (hb hbytes d5) rfl ?_
    refine XS.icmpYes X9.here hexec rfl (pc0 := 7) rfl (hb hbytes d7) rfl (ii_ge_t (nlt32 (by omega) (Nat.le_refl _))) (by decide) rfl ?_
    refine XS.iload X9.here hexec rfl (hb hbytes d44) rfl ?_
    exact Steps.refl _)
  exact ⟨T9, some (.int (Int32.ofNat len)), _, _, _, X9, by simp, rfl, rfl, (fun h => by cases h), ⟨rfl, B9, p9.from hh0, f9⟩, fun fs hl => c11.trans (X9.ireturnOut hexec hret rfl (Or.inl rfl) (hb hbytes d46) hl)⟩
end Cmp5
namespace Cmp3
def yN : MethodName := ⟨"java/lang/StringUTF16", "compress", "([CII)[B"⟩
abbrev yB : ByteArray := jdk_52_method_16_code
theorem d0 : decode yB 0 = .ok (.iload_n 2, 1) := by decide +kernel
theorem d1 : decode yB 1 = .ok (.newarray .byte, 2) := by decide +kernel
theorem d3 : decode yB 3 = .ok (.astore_n 3, 1) := by decide +kernel
theorem d4 : decode yB 4 = .ok (.aload_n 0, 1) := by decide +kernel
theorem d5 : decode yB 5 = .ok (.iload_n 1, 1) := by decide +kernel
theorem d6 : decode yB 6 = .ok (.aload_n 3, 1) := by decide +kernel
theorem d7 : decode yB 7 = .ok (.iconst 0, 1) := by decide +kernel
theorem d8 : decode yB 8 = .ok (.iload_n 2, 1) := by decide +kernel
theorem d9 : decode yB 9 = .ok (.invokestatic 115, 3) := by decide +kernel
theorem d12 : decode yB 12 = .ok (.istore 4, 2) := by decide +kernel
theorem d14 : decode yB 14 = .ok (.iload 4, 2) := by decide +kernel
theorem d16 : decode yB 16 = .ok (.iload_n 2, 1) := by decide +kernel
theorem d17 : decode yB 17 = .ok (.if_icmp (.eq) 40, 3) := by decide +kernel
theorem d57 : decode yB 57 = .ok (.aload_n 3, 1) := by decide +kernel
theorem d58 : decode yB 58 = .ok (.areturn, 1) := by decide +kernel
def site : List Cond := [.arrayClass .byte, Cmp5.tab] ++ staticW U16 115 Cmp5.yN
def tab : Cond := tabOf yN yB 6 (some (.array .byte)) site
def P (b : Addr) (A : Cell) (o len : Nat) (args : Array Value) (s : State) : Prop := args = #[.ref b, .int (Int32.ofNat o), .int (Int32.ofNat len)] ∧ Ch b A s ∧ o + len ≤ A.slots.size ∧ len ≤ 536870912 ∧ ∀ i, i < len → ¬ 255 < cv A (o + i)
def E (b : Addr) (A : Cell) (o len : Nat) (r : Option Value) (s u : State) : Prop := NewArr .byte "[B" len (fun j => .int (lo8 (cv A (o + j)))) r s u ∧ u.heap.size = s.heap.size + 1
/-- no char of the range above 255: a new byte[] of their low bytes -/
theorem law (l : Launch) (b : Addr) (A : Cell) (o len : Nat) : Law l yN 3 3 1 18 yB 6 (some (.array .byte)) site (P b A o len) (E b A o len) [] 1 len := by
  refine Law.of_walk (plainFor_of_name (by decide +kernel)) (by decide +kernel) (by decide +kernel) (by decide) (fun _ _ h => by rw [h.1]; rfl) (fun _ U U' hal hh h => ⟨h.1, h.2.1.mv hal hh, h.2.2⟩) (fun r U U' V V' h1 hal h2 h => ⟨NewArr.mv r U U' V V' h1 hal h2 h.1, by rw [h1, h2]; exact h.2⟩) ?_
  intro p e s m args below meth c s₁ X0 hexec hbytes hml hret hlk hnm hown hh0 W hP
  obtain ⟨rfl, hA, l1, l2, hp⟩ := hP
  have a31 := hA.1.2.2.2
  have c1 : Steps p.tables e below (s₁.setTop (entryFrame m #[.ref b, .int (Int32.ofNat o), .int (Int32.ofNat len)] 6)) (s₁.setTop (mkF m 0 #[.val (.ref b), .val (.int (Int32.ofNat o)), .val (.int (Int32.ofNat len)), .unset, .unset, .unset] [])) := entry rfl
  have c2 : Steps p.tables e below (s₁.setTop (entryFrame m #[.ref b, .int (Int32.ofNat o), .int (Int32.ofNat len)] 6)) (s₁.setTop (mkF m 1 #[.val (.ref b), .val (.int (Int32.ofNat o)), .val (.int (Int32.ofNat len)), .unset, .unset, .unset] [.int (Int32.ofNat len)])) := c1.trans (by
    refine XS.iloadN X0.here hexec rfl (hb hbytes d0) rfl ?_
    exact Steps.refl _)
  obtain ⟨T3, B3, X3, ba3, bs3, bv3, bh3, bf3, st3⟩ := X0.anew hexec (atype := .byte) (wk W (.arrayClass .byte)) rfl (by show len * 1 ≤ _; omega) (by omega) (g := (mkF m 1 #[.val (.ref b), .val (.int (Int32.ofNat o)), .val (.int (Int32.ofNat len)), .unset, .unset, .unset] [.int (Int32.ofNat len)])) rfl (hb hbytes d1) (rest := []) rfl (Nat.le_refl _) (by show 0 + len ≤ len; omega)
  rw [hh0] at ba3 st3
  have kp3 : XT.Kept s T3 := (XT.Kept.of_eq hh0).push bh3
  have hA3 := hA.keep X3.warmed.alike (kp3 _ _ hA.1.1)
  have hne : b ≠ s.heap.size := hA.1.ne
  have c4 : Steps p.tables e below (s₁.setTop (entryFrame m #[.ref b, .int (Int32.ofNat o), .int (Int32.ofNat len)] 6)) (T3.setTop (mkF m 3 #[.val (.ref b), .val (.int (Int32.ofNat o)), .val (.int (Int32.ofNat len)), .unset, .unset, .unset] [.ref s.heap.size])) := c2.trans (st3 _ (Steps.refl _))
  have c5 : Steps p.tables e below (s₁.setTop (entryFrame m #[.ref b, .int (Int32.ofNat o), .int (Int32.ofNat len)] 6)) (T3.setTop (mkF m 9 #[.val (.ref b), .val (.int (Int32.ofNat o)), .val (.int (Int32.ofNat len)), .val (.ref s.heap.size), .unset, .unset] [.int (Int32.ofNat len), .int 0, .ref s.heap.size, .int (Int32.ofNat o), .ref b])) := c4.trans (by
    refine XS.astoreN X3.here hexec rfl (hb hbytes d3) rfl rfl rfl ?_
    refine XS.aloadN X3.here hexec rfl (hb hbytes d4) rfl rfl ?_
    refine XS.iloadN X3.here hexec rfl (hb hbytes d5) rfl ?_
    refine XS.aloadN X3.here hexec rfl (hb hbytes d6) rfl rfl ?_
    refine iconstV X3.here hexec rfl 0 (hb hbytes d7) (by decide) ?_
    refine XS.iloadN X3.here hexec rfl (hb hbytes d8) rfl ?_
    exact Steps.refl _)
  obtain ⟨v6, T6, X6, E6, g6⟩ := X3.callS hexec (Cmp5.law l b A s.heap.size B3 o 0 len) hown (wks W (staticW U16 115 Cmp5.yN)) (wk W Cmp5.tab) (W := 0) (Nat.le_of_ble_eq_true rfl) (Nat.le_of_ble_eq_true rfl) (Nat.le_refl _) (by show 0 + len + 0 ≤ len; omega) (g := (mkF m 9 #[.val (.ref b), .val (.int (Int32.ofNat o)), .val (.int (Int32.ofNat len)), .val (.ref s.heap.size), .unset, .unset] [.int (Int32.ofNat len), .int (Int32.ofNat 0), .ref s.heap.size, .int (Int32.ofNat o), .ref b])) rfl (by rw [hml]; rfl) c5 (argsL := [.ref b, .int (Int32.ofNat o), .ref s.heap.size, .int (Int32.ofNat 0), .int (Int32.ofNat len)]) (rest := []) rfl rfl (by show 2 * 0 + 0 ≤ _; decide) (hb hbytes d9) (⟨rfl, hA3, ba3, hne, l1, by rw [bs3]; simp, hp⟩)
  obtain ⟨rfl, B6, p6, f6⟩ := E6
  have c7 : Steps p.tables e below (s₁.setTop (entryFrame m #[.ref b, .int (Int32.ofNat o), .int (Int32.ofNat len)] 6)) (T6.setTop (mkF m 12 #[.val (.ref b), .val (.int (Int32.ofNat o)), .val (.int (Int32.ofNat len)), .val (.ref s.heap.size), .unset, .unset] [.int (Int32.ofNat len)])) := g6
  have c8 : Steps p.tables e below (s₁.setTop (entryFrame m #[.ref b, .int (Int32.ofNat o), .int (Int32.ofNat len)] 6)) (T6.setTop (mkF m 58 #[.val (.ref b), .val (.int (Int32.ofNat o)), .val (.int (Int32.ofNat len)), .val (.ref s.heap.size), .val (.int (Int32.ofNat len)), .unset] [.ref s.heap.size])) := c7.trans (by
    refine XS.istore X6.here hexec rfl (hb hbytes d12) rfl rfl ?_
    refine XS.iload X6.here hexec rfl (hb hbytes d14) rfl ?_
    refine XS.iloadN X6.here hexec rfl (hb hbytes d16) rfl ?_
    refine XS.icmpYes X6.here hexec rfl (pc0 := 17) rfl (hb hbytes d17) rfl (ii_eq_t rfl) (by decide) rfl ?_
    refine XS.aloadN X6.here hexec rfl (hb hbytes d57) rfl rfl ?_
    exact Steps.refl _)
  have X8 := X6.wide (L' := []) (cells' := 1) (slots' := len) (fun x hx hlt => by
    simp only [List.nil_append, copyLocs, List.mem_map, List.mem_range] at hx
    obtain ⟨i, -, rfl⟩ := hx
    exact absurd hlt (Nat.lt_irrefl _)) (Nat.le_refl _) (by omega)
  exact ⟨T6, some (.ref s.heap.size), _, _, _, X8, rfl, rfl, rfl, (fun h => by cases h), ⟨⟨rfl, B6, ba3.like (X3.warmed.alike.symm.trans X6.warmed.alike) p6.1 f6.1 f6.2.1 f6.2.2.1, f6.2.1.trans bv3, by rw [X6.warmed.alike.findClass, f6.1]; exact bf3, by rw [f6.2.2.1, bs3]; simp, fun j hj => by rw [f6.2.2.2 j, if_pos (by omega)]; rfl, kp3.put p6 (Nat.le_refl _)⟩, by rw [p6.2.2, bh3, hh0]; simp⟩, fun fs hl => c8.trans (X8.areturnOut hexec rfl hret rfl (hb hbytes d58) hl)⟩
end Cmp3
namespace CodL
def yN : MethodName := ⟨"java/lang/StringUTF16", "coderFromArrayLen", "([BI)B"⟩
abbrev yB : ByteArray := jdk_52_method_15_code
theorem d0 : decode yB 0 = .ok (.iload_n 1, 1) := by decide +kernel
theorem d1 : decode yB 1 = .ok (.aload_n 0, 1) := by decide +kernel
theorem d2 : decode yB 2 = .ok (.arraylength, 1) := by decide +kernel
theorem d3 : decode yB 3 = .ok (.isub, 1) := by decide +kernel
theorem d4 : decode yB 4 = .ok (.bipush 31, 2) := by decide +kernel
theorem d6 : decode yB 6 = .ok (.iushr, 1) := by decide +kernel
theorem d7 : decode yB 7 = .ok (.i2b, 1) := by decide +kernel
theorem d8 : decode yB 8 = .ok (.ireturn, 1) := by decide +kernel
def site : List Cond := []
def tab : Cond := tabOf yN yB 2 (some .byte) site
def P (d : Addr) (B : Cell) (args : Array Value) (s : State) : Prop := args = #[.ref d, .int (Int32.ofNat B.slots.size)] ∧ Arr .byte d B s
def E (r : Option Value) (s u : State) : Prop := XT.PureE (some (.int 0)) r s u
/-- an array as long as the number of chars: LATIN1 -/
theorem law (l : Launch) (d : Addr) (B : Cell) : Law l yN 2 2 0 0 yB 2 (some .byte) site (P d B) E [] 0 0 := by
  refine Law.of_walk (plainFor_of_name (by decide +kernel)) (by decide +kernel) (by decide +kernel) (by decide) (fun _ _ h => by rw [h.1]; rfl) (fun _ U U' hal hh h => ⟨h.1, h.2.mv hal hh⟩) (fun r U U' V V' h1 hal h2 h => XT.PureE.mv r U U' V V' h1 hal h2 h) ?_
  intro p e s m args below meth c s₁ X0 hexec hbytes hml hret hlk hnm hown hh0 W hP
  obtain ⟨rfl, hB⟩ := hP
  have hB0 := hB.mv X0.warmed.alike hh0
  have c1 : Steps p.tables e below (s₁.setTop (entryFrame m #[.ref d, .int (Int32.ofNat B.slots.size)] 2)) (s₁.setTop (mkF m 0 #[.val (.ref d), .val (.int (Int32.ofNat B.slots.size))] [])) := entry rfl
  have c2 : Steps p.tables e below (s₁.setTop (entryFrame m #[.ref d, .int (Int32.ofNat B.slots.size)] 2)) (s₁.setTop (mkF m 2 #[.val (.ref d), .val (.int (Int32.ofNat B.slots.size))] [.ref d, .int (Int32.ofNat B.slots.size)])) := c1.trans (by
    refine XS.iloadN X0.here hexec rfl (hb hbytes d0) rfl ?_
    refine XS.aloadN X0.here hexec rfl (hb hbytes d1) rfl rfl ?_
    exact Steps.refl _)
  have c3 : Steps p.tables e below (s₁.setTop (entryFrame m #[.ref d, .int (Int32.ofNat B.slots.size)] 2)) (s₁.setTop (mkF m 8 #[.val (.ref d), .val (.int (Int32.ofNat B.slots.size))] [.int (lo8 (ushr (Int32.ofNat B.slots.size - Int32.ofNat B.slots.size) 31))])) := c2.trans (by
    refine X0.alen hexec hB0 rfl rfl (hb hbytes d2) ?_
    refine XS.isub X0.here hexec rfl (hb hbytes d3) rfl ?_
    refine bipushV X0.here hexec rfl 31 (hb hbytes d4) (by decide) ?_
    refine iushr X0.here hexec rfl (hb hbytes d6) rfl ?_
    refine i2b X0.here hexec rfl (hb hbytes d7) rfl ?_
    exact Steps.refl _)
  have e0 : lo8 (ushr (Int32.ofNat B.slots.size - Int32.ofNat B.slots.size) 31) = 0 := by rw [Int32.sub_self]; decide
  rw [e0] at c3
  exact ⟨s₁, some (.int 0), _, _, _, X0, rfl, rfl, rfl, (fun h => by cases h), ⟨rfl, hh0⟩, fun fs hl => c3.trans (X0.ireturnOut hexec hret rfl (Or.inr (Or.inr (Or.inl rfl))) (hb hbytes d8) hl)⟩
end CodL
/-- the String at a is Latin-1 over a new byte[] (the heap's one new cell): the low bytes of the len chars of A from o on; every cell but a is kept -/
def Got (a : Addr) (D : Cell) (fV fC : Field) (A : Cell) (o len : Nat) (r : Option Value) (s u : State) : Prop := r = none ∧ ∃ D' V : Cell, Blank "java/lang/String" a D' u ∧ Same D D' [fV.slot, fC.slot] ∧ D'.slots[fV.slot]? = some (.ref s.heap.size) ∧ D'.slots[fC.slot]? = some (.int 0) ∧ Arr .byte s.heap.size V u ∧ V.vm = .none ∧ u.vm.findClass "[B" = some V.cls ∧ V.slots.size = len ∧ (∀ j, j < len → V.slots[j]? = some (.int (lo8 (cv A (o + j))))) ∧ (∀ (y : Addr) (c : Cell), y ≠ a → s.heap[y]? = some c → u.heap[y]? = some c) ∧ u.heap.size = s.heap.size + 1
theorem Got.mv {a : Addr} {D A : Cell} {fV fC : Field} {o len : Nat} : ∀ r (U U' V V' : State), U'.heap = U.heap → V.vm.Alike V'.vm → V'.heap = V.heap → Got a D fV fC A o len r U V → Got a D fV fC A o len r U' V' :=
  fun r U U' V V' h1 hal h2 ⟨e0, D', X, a1, a2, a3, a4, a5, a6, a7, a8, a9, a10, a11⟩ => ⟨e0, D', X, a1.mv hal h2, a2, by rw [h1]; exact a3, a4, by rw [h1]; exact a5.mv hal h2, a6, by rw [hal.findClass]; exact a7, a8, a9, by rw [h1, h2]; exact a10, by rw [h1, h2]; exact a11⟩
namespace New4
def yN : MethodName := ⟨"java/lang/String", "<init>", "([CIILjava/lang/Void;)V"⟩
abbrev yB : ByteArray := jdk_42_method_149_code
theorem d0 : decode yB 0 = .ok (.aload_n 0, 1) := by decide +kernel
theorem d1 : decode yB 1 = .ok (.invokespecial 1, 3) := by decide +kernel
theorem d4 : decode yB 4 = .ok (.iload_n 3, 1) := by decide +kernel
theorem d5 : decode yB 5 = .ok (.ifCond (.ne) 22, 3) := by decide +kernel
theorem d27 : decode yB 27 = .ok (.getstatic 38, 3) := by decide +kernel
theorem d30 : decode yB 30 = .ok (.ifCond (.eq) 28, 3) := by decide +kernel
theorem d33 : decode yB 33 = .ok (.aload_n 1, 1) := by decide +kernel
theorem d34 : decode yB 34 = .ok (.iload_n 2, 1) := by decide +kernel
theorem d35 : decode yB 35 = .ok (.iload_n 3, 1) := by decide +kernel
theorem d36 : decode yB 36 = .ok (.invokestatic 177, 3) := by decide +kernel
theorem d39 : decode yB 39 = .ok (.astore 5, 2) := by decide +kernel
theorem d41 : decode yB 41 = .ok (.aload_n 0, 1) := by decide +kernel
theorem d42 : decode yB 42 = .ok (.aload 5, 2) := by decide +kernel
theorem d44 : decode yB 44 = .ok (.iload_n 3, 1) := by decide +kernel
theorem d45 : decode yB 45 = .ok (.invokestatic 47, 3) := by decide +kernel
theorem d48 : decode yB 48 = .ok (.putfield 15, 3) := by decide +kernel
theorem d51 : decode yB 51 = .ok (.aload_n 0, 1) := by decide +kernel
theorem d52 : decode yB 52 = .ok (.aload 5, 2) := by decide +kernel
theorem d54 : decode yB 54 = .ok (.putfield 9, 3) := by decide +kernel
theorem d57 : decode yB 57 = .ok (.return_, 1) := by decide +kernel
def site : List Cond := [.fieldLink "java/lang/String" 38 "java/lang/String" "COMPACT_STRINGS" "Z", Cmp3.tab, CodL.tab, .laysFinal "java/lang/String" "java/lang/String" "value" "[B", .fieldLink "java/lang/String" 9 "java/lang/String" "value" "[B", .laysFinal "java/lang/String" "java/lang/String" "coder" "B", .fieldLink "java/lang/String" 15 "java/lang/String" "coder" "B"] ++ objW "java/lang/String" 1 ++ staticW "java/lang/String" 177 Cmp3.yN ++ staticW "java/lang/String" 47 CodL.yN
def tab : Cond := tabOf yN yB 6 none site
def P (a : Addr) (D : Cell) (fV fC : Field) (b : Addr) (A : Cell) (z : Int32) (o len : Nat) (args : Array Value) (s : State) : Prop := args = #[.ref a, .ref b, .int (Int32.ofNat o), .int (Int32.ofNat len), .null] ∧ Blank "java/lang/String" a D s ∧ Found "java/lang/String" "value" "[B" fV s ∧ Found "java/lang/String" "coder" "B" fC s ∧ Ch b A s ∧ StaticIs s "java/lang/String" "COMPACT_STRINGS" "Z" (.int z) ∧ ¬ z = 0 ∧ 0 < len ∧ o + len ≤ A.slots.size ∧ len ≤ 536870912 ∧ ∀ i, i < len → ¬ 255 < cv A (o + i)
def E (a : Addr) (D : Cell) (fV fC : Field) (A : Cell) (o len : Nat) (r : Option Value) (s u : State) : Prop := Got a D fV fC A o len r s u
/-- len > 0, no char of the range above 255: a Latin-1 String of their low bytes -/
theorem law (l : Launch) (a : Addr) (D : Cell) (fV fC : Field) (b : Addr) (A : Cell) (z : Int32) (o len : Nat) : Law l yN 5 4 2 35 yB 6 none site (P a D fV fC b A z o len) (E a D fV fC A o len) [⟨a, fC.slot⟩, ⟨a, fV.slot⟩] 1 len := by
  refine Law.of_walk (plainFor_of_name (by decide +kernel)) (by decide +kernel) (by decide +kernel) (by decide) (fun _ _ h => by rw [h.1]; rfl) (fun _ U U' hal hh h => ⟨h.1, h.2.1.mv hal hh, h.2.2.1.al hal, h.2.2.2.1.al hal, h.2.2.2.2.1.mv hal hh, h.2.2.2.2.2.1.there hal hh, h.2.2.2.2.2.2⟩) (fun r U U' V V' h1 hal h2 h => Got.mv r U U' V V' h1 hal h2 h) ?_
  intro p e s m args below meth c s₁ X0 hexec hbytes hml hret hlk hnm hown hh0 W hP
  obtain ⟨rfl, hB, f1, f2, hA, s1, hz, l0, l1, l2, hp⟩ := hP
  have a31 := hA.1.2.2.2
  have c1 : Steps p.tables e below (s₁.setTop (entryFrame m #[.ref a, .ref b, .int (Int32.ofNat o), .int (Int32.ofNat len), .null] 6)) (s₁.setTop (mkF m 0 #[.val (.ref a), .val (.ref b), .val (.int (Int32.ofNat o)), .val (.int (Int32.ofNat len)), .val .null, .unset] [])) := entry rfl
  have c2 : Steps p.tables e below (s₁.setTop (entryFrame m #[.ref a, .ref b, .int (Int32.ofNat o), .int (Int32.ofNat len), .null] 6)) (s₁.setTop (mkF m 1 #[.val (.ref a), .val (.ref b), .val (.int (Int32.ofNat o)), .val (.int (Int32.ofNat len)), .val .null, .unset] [.ref a])) := c1.trans (by
    refine XS.aloadN X0.here hexec rfl (hb hbytes d0) rfl rfl ?_
    exact Steps.refl _)
  obtain ⟨T3, X3, q3, st3⟩ := X0.oinit hexec hown (wks W (objW "java/lang/String" 1)) (g := (mkF m 1 #[.val (.ref a), .val (.ref b), .val (.int (Int32.ofNat o)), .val (.int (Int32.ofNat len)), .val .null, .unset] [.ref a])) rfl (by rw [hml]; rfl) (rest := []) rfl (hb hbytes d1) (W := 0) (by show 2 * 0 + 0 ≤ _; decide) (Nat.le_of_ble_eq_true rfl) (Nat.le_of_ble_eq_true rfl)
  have hh3 := q3.trans hh0
  have c4 : Steps p.tables e below (s₁.setTop (entryFrame m #[.ref a, .ref b, .int (Int32.ofNat o), .int (Int32.ofNat len), .null] 6)) (T3.setTop (mkF m 27 #[.val (.ref a), .val (.ref b), .val (.int (Int32.ofNat o)), .val (.int (Int32.ofNat len)), .val .null, .unset] [])) := (c2.trans (st3 _ (Steps.refl _))).trans (by
    refine XS.iloadN X3.here hexec rfl (hb hbytes d4) rfl ?_
    refine XS.ifYes X3.here hexec rfl (pc0 := 5) rfl (hb hbytes d5) rfl (i0_ne_t (nz32 (by omega) l0)) (by decide) rfl ?_
    exact Steps.refl _)
  obtain ⟨T5, X5, q5, st5⟩ := X3.sget hexec hown (wk W (.fieldLink "java/lang/String" 38 "java/lang/String" "COMPACT_STRINGS" "Z")) s1 (fun _ _ h => by rw [hh3]; exact h) (g := (mkF m 27 #[.val (.ref a), .val (.ref b), .val (.int (Int32.ofNat o)), .val (.int (Int32.ofNat len)), .val .null, .unset] [])) rfl (hb hbytes d27)
  have hh5 := q5.trans hh3
  have c6 : Steps p.tables e below (s₁.setTop (entryFrame m #[.ref a, .ref b, .int (Int32.ofNat o), .int (Int32.ofNat len), .null] 6)) (T5.setTop (mkF m 30 #[.val (.ref a), .val (.ref b), .val (.int (Int32.ofNat o)), .val (.int (Int32.ofNat len)), .val .null, .unset] [.int z])) := c4.trans (st5 _ (Steps.refl _))
  have c7 : Steps p.tables e below (s₁.setTop (entryFrame m #[.ref a, .ref b, .int (Int32.ofNat o), .int (Int32.ofNat len), .null] 6)) (T5.setTop (mkF m 36 #[.val (.ref a), .val (.ref b), .val (.int (Int32.ofNat o)), .val (.int (Int32.ofNat len)), .val .null, .unset] [.int (Int32.ofNat len), .int (Int32.ofNat o), .ref b])) := c6.trans (by
    refine XS.ifNo X5.here hexec rfl (hb hbytes d30) rfl (i0_eq_f hz) ?_
    refine XS.aloadN X5.here hexec rfl (hb hbytes d33) rfl rfl ?_
    refine XS.iloadN X5.here hexec rfl (hb hbytes d34) rfl ?_
    refine XS.iloadN X5.here hexec rfl (hb hbytes d35) rfl ?_
    exact Steps.refl _)
  obtain ⟨v8, T8, X8, E8, g8⟩ := X5.callS hexec (Cmp3.law l b A o len) hown (wks W (staticW "java/lang/String" 177 Cmp3.yN)) (wk W Cmp3.tab) (W := 0) (Nat.le_of_ble_eq_true rfl) (Nat.le_of_ble_eq_true rfl) (Nat.le_refl _) (by show 0 + len ≤ len; omega) (g := (mkF m 36 #[.val (.ref a), .val (.ref b), .val (.int (Int32.ofNat o)), .val (.int (Int32.ofNat len)), .val .null, .unset] [.int (Int32.ofNat len), .int (Int32.ofNat o), .ref b])) rfl (by rw [hml]; rfl) c7 (argsL := [.ref b, .int (Int32.ofNat o), .int (Int32.ofNat len)]) (rest := []) rfl rfl (by show 2 * 0 + 0 ≤ _; decide) (hb hbytes d36) (⟨rfl, hA.mv X5.warmed.alike hh5, l1, l2, hp⟩)
  obtain ⟨e8, z8⟩ := E8
  obtain ⟨rfl, N, n1, n2, n3, n4, n5, n6⟩ := NewArr.mv _ T5 s _ _ hh5.symm (Vm.Alike.refl _) rfl e8
  rw [hh5] at z8
  have hB1 := hB.keep X8.warmed.alike (n6 _ _ hB.1)
  have hne : s.heap.size ≠ a := (Nat.ne_of_lt (Array.getElem?_eq_some_iff.mp hB.1).1).symm
  have c9 : Steps p.tables e below (s₁.setTop (entryFrame m #[.ref a, .ref b, .int (Int32.ofNat o), .int (Int32.ofNat len), .null] 6)) (T8.setTop (mkF m 39 #[.val (.ref a), .val (.ref b), .val (.int (Int32.ofNat o)), .val (.int (Int32.ofNat len)), .val .null, .unset] [.ref s.heap.size])) := g8
  have c10 : Steps p.tables e below (s₁.setTop (entryFrame m #[.ref a, .ref b, .int (Int32.ofNat o), .int (Int32.ofNat len), .null] 6)) (T8.setTop (mkF m 45 #[.val (.ref a), .val (.ref b), .val (.int (Int32.ofNat o)), .val (.int (Int32.ofNat len)), .val .null, .val (.ref s.heap.size)] [.int (Int32.ofNat N.slots.size), .ref s.heap.size, .ref a])) := by
    have hc : Steps p.tables e below (s₁.setTop (entryFrame m #[.ref a, .ref b, .int (Int32.ofNat o), .int (Int32.ofNat len), .null] 6)) (T8.setTop (mkF m 45 #[.val (.ref a), .val (.ref b), .val (.int (Int32.ofNat o)), .val (.int (Int32.ofNat len)), .val .null, .val (.ref s.heap.size)] [.int (Int32.ofNat len), .ref s.heap.size, .ref a])) := c9.trans (by
      refine XS.astore X8.here hexec rfl (hb hbytes d39) rfl rfl rfl ?_
      refine XS.aloadN X8.here hexec rfl (hb hbytes d41) rfl rfl ?_
      refine XS.aload X8.here hexec rfl (hb hbytes d42) rfl rfl ?_
      refine XS.iloadN X8.here hexec rfl (hb hbytes d44) rfl ?_
      exact Steps.refl _)
    rw [n4]; exact hc
  obtain ⟨v11, T11, X11, E11, g11⟩ := X8.callS hexec (CodL.law l s.heap.size N) hown (wks W (staticW "java/lang/String" 47 CodL.yN)) (wk W CodL.tab) (W := 1) (Nat.le_of_ble_eq_true rfl) (Nat.le_of_ble_eq_true rfl) (Nat.le_refl _) (by show 0 + len + 0 ≤ len; omega) (g := (mkF m 45 #[.val (.ref a), .val (.ref b), .val (.int (Int32.ofNat o)), .val (.int (Int32.ofNat len)), .val .null, .val (.ref s.heap.size)] [.int (Int32.ofNat N.slots.size), .ref s.heap.size, .ref a])) rfl (by rw [hml]; rfl) c10 (argsL := [.ref s.heap.size, .int (Int32.ofNat N.slots.size)]) (rest := [.ref a]) rfl rfl (by show 2 * 0 + (1 + 0) ≤ _; decide) (hb hbytes d45) (⟨rfl, n1⟩)
  obtain ⟨rfl, q11⟩ := E11
  have hB11 := hB1.mv (X8.warmed.alike.symm.trans X11.warmed.alike) q11
  have c12 : Steps p.tables e below (s₁.setTop (entryFrame m #[.ref a, .ref b, .int (Int32.ofNat o), .int (Int32.ofNat len), .null] 6)) (T11.setTop (mkF m 48 #[.val (.ref a), .val (.ref b), .val (.int (Int32.ofNat o)), .val (.int (Int32.ofNat len)), .val .null, .val (.ref s.heap.size)] [.int 0, .ref a])) := g11
  obtain ⟨T13, X13, p13, bl13, sl13, st13⟩ := X11.finit hexec hown (wk W (.fieldLink "java/lang/String" 15 "java/lang/String" "coder" "B")) (Or.inr ⟨_, (wk W (.laysFinal "java/lang/String" "java/lang/String" "coder" "B"))⟩) (Or.inl ⟨rfl, hnm⟩) f2 (Or.inl rfl) hB11 (t := .byte) (by decide +kernel) rfl (g := (mkF m 48 #[.val (.ref a), .val (.ref b), .val (.int (Int32.ofNat o)), .val (.int (Int32.ofNat len)), .val .null, .val (.ref s.heap.size)] [.int 0, .ref a])) rfl (rest := []) rfl (hb hbytes d48)
  have c14 : Steps p.tables e below (s₁.setTop (entryFrame m #[.ref a, .ref b, .int (Int32.ofNat o), .int (Int32.ofNat len), .null] 6)) (T13.setTop (mkF m 54 #[.val (.ref a), .val (.ref b), .val (.int (Int32.ofNat o)), .val (.int (Int32.ofNat len)), .val .null, .val (.ref s.heap.size)] [.ref s.heap.size, .ref a])) := (c12.trans (st13 _ (Steps.refl _))).trans (by
    refine XS.aloadN X13.here hexec rfl (hb hbytes d51) rfl rfl ?_
    refine XS.aload X13.here hexec rfl (hb hbytes d52) rfl rfl ?_
    exact Steps.refl _)
  obtain ⟨T15, X15, p15, bl15, sl15, st15⟩ := X13.finit hexec hown (wk W (.fieldLink "java/lang/String" 9 "java/lang/String" "value" "[B")) (Or.inr ⟨_, (wk W (.laysFinal "java/lang/String" "java/lang/String" "value" "[B"))⟩) (Or.inl ⟨rfl, hnm⟩) f1 (Or.inl rfl) bl13 (t := (.array .byte)) (by decide +kernel) rfl (g := (mkF m 54 #[.val (.ref a), .val (.ref b), .val (.int (Int32.ofNat o)), .val (.int (Int32.ofNat len)), .val .null, .val (.ref s.heap.size)] [.ref s.heap.size, .ref a])) rfl (rest := []) rfl (hb hbytes d54)
  have c16 : Steps p.tables e below (s₁.setTop (entryFrame m #[.ref a, .ref b, .int (Int32.ofNat o), .int (Int32.ofNat len), .null] 6)) (T15.setTop (mkF m 57 #[.val (.ref a), .val (.ref b), .val (.int (Int32.ofNat o)), .val (.int (Int32.ofNat len)), .val .null, .val (.ref s.heap.size)] [])) := c14.trans (st15 _ (Steps.refl _))
  have ap := apart (Or.inr ⟨_, (wk W (.laysFinal "java/lang/String" "java/lang/String" "value" "[B"))⟩) (Or.inr ⟨_, (wk W (.laysFinal "java/lang/String" "java/lang/String" "coder" "B"))⟩) f1 f2 (t₁ := .array .byte) (t₂ := .byte) (by decide +kernel) (by decide +kernel) (by decide)
  have al := X8.warmed.alike.symm.trans X15.warmed.alike
  have n7 : T11.heap[s.heap.size]? = some N := by rw [q11]; exact n1.1
  exact ⟨T15, none, _, _, _, X15, by simp, rfl, by omega, (fun _ => rfl), ⟨rfl, _, N, bl15, ((Same.refl D _).set _ (by simp)).set _ (by simp), sl15, (Cell.slots_setSlot_ne _ ap).trans sl13, n1.keep al (p15.other hne (p13.other hne n7)), n2, by rw [al.findClass]; exact n3, n4, n5, fun y c h1 h2 => p15.other h1 (p13.other h1 (by rw [q11]; exact n6 y c h2)), by rw [p15.2.2, p13.2.2, q11]; exact z8⟩, fun fs hl => c16.trans (X15.returnOut hexec hret (hb hbytes d57) hl)⟩
end New4
namespace New1
def yN : MethodName := ⟨"java/lang/String", "<init>", "([C)V"⟩
abbrev yB : ByteArray := jdk_42_method_3_code
theorem d0 : decode yB 0 = .ok (.aload_n 0, 1) := by decide +kernel
theorem d1 : decode yB 1 = .ok (.aload_n 1, 1) := by decide +kernel
theorem d2 : decode yB 2 = .ok (.iconst 0, 1) := by decide +kernel
theorem d3 : decode yB 3 = .ok (.aload_n 1, 1) := by decide +kernel
theorem d4 : decode yB 4 = .ok (.arraylength, 1) := by decide +kernel
theorem d5 : decode yB 5 = .ok (.aconst_null, 1) := by decide +kernel
theorem d6 : decode yB 6 = .ok (.invokespecial 27, 3) := by decide +kernel
theorem d9 : decode yB 9 = .ok (.return_, 1) := by decide +kernel
def site : List Cond := [New4.tab] ++ initW "java/lang/String" 27 New4.yN
def tab : Cond := tabOf yN yB 2 none site
def P (a : Addr) (D : Cell) (fV fC : Field) (b : Addr) (A : Cell) (z : Int32) (args : Array Value) (s : State) : Prop := args = #[.ref a, .ref b] ∧ Blank "java/lang/String" a D s ∧ Found "java/lang/String" "value" "[B" fV s ∧ Found "java/lang/String" "coder" "B" fC s ∧ Ch b A s ∧ StaticIs s "java/lang/String" "COMPACT_STRINGS" "Z" (.int z) ∧ ¬ z = 0 ∧ 0 < A.slots.size ∧ A.slots.size ≤ 536870912 ∧ ∀ i, i < A.slots.size → ¬ 255 < cv A i
def E (a : Addr) (D : Cell) (fV fC : Field) (A : Cell) (r : Option Value) (s u : State) : Prop := Got a D fV fC A 0 A.slots.size r s u
/-- new String(chars), not empty, no char above 255: a Latin-1 String of their low bytes -/
theorem law (l : Launch) (a : Addr) (D : Cell) (fV fC : Field) (b : Addr) (A : Cell) (z : Int32) : Law l yN 2 1 3 52 yB 2 none site (P a D fV fC b A z) (E a D fV fC A) [⟨a, fC.slot⟩, ⟨a, fV.slot⟩] 1 A.slots.size := by
  refine Law.of_walk (plainFor_of_name (by decide +kernel)) (by decide +kernel) (by decide +kernel) (by decide) (fun _ _ h => by rw [h.1]; rfl) (fun _ U U' hal hh h => ⟨h.1, h.2.1.mv hal hh, h.2.2.1.al hal, h.2.2.2.1.al hal, h.2.2.2.2.1.mv hal hh, h.2.2.2.2.2.1.there hal hh, h.2.2.2.2.2.2⟩) (fun r U U' V V' h1 hal h2 h => Got.mv r U U' V V' h1 hal h2 h) ?_
  intro p e s m args below meth c s₁ X0 hexec hbytes hml hret hlk hnm hown hh0 W hP
  obtain ⟨rfl, hB, f1, f2, hA, s1, hz, l0, l2, hp⟩ := hP
  have c1 : Steps p.tables e below (s₁.setTop (entryFrame m #[.ref a, .ref b] 2)) (s₁.setTop (mkF m 0 #[.val (.ref a), .val (.ref b)] [])) := entry rfl
  have c2 : Steps p.tables e below (s₁.setTop (entryFrame m #[.ref a, .ref b] 2)) (s₁.setTop (mkF m 6 #[.val (.ref a), .val (.ref b)] [.null, .int (Int32.ofNat A.slots.size), .int 0, .ref b, .ref a])) := c1.trans (by
    refine XS.aloadN X0.here hexec rfl (hb hbytes d0) rfl rfl ?_
    refine XS.aloadN X0.here hexec rfl (hb hbytes d1) rfl rfl ?_
    refine iconstV X0.here hexec rfl 0 (hb hbytes d2) (by decide) ?_
    refine XS.aloadN X0.here hexec rfl (hb hbytes d3) rfl rfl ?_
    refine X0.alen hexec (hA.1.mv X0.warmed.alike hh0) rfl rfl (hb hbytes d4) ?_
    refine XS.aconstNull X0.here hexec rfl (hb hbytes d5) ?_
    exact Steps.refl _)
  obtain ⟨v3, T3, X3, E3, g3⟩ := X0.callN hexec (New4.law l a D fV fC b A z 0 A.slots.size) rfl hown (wks W (initW "java/lang/String" 27 New4.yN)) (W New4.tab (by simp only [site, List.mem_cons, List.mem_append, true_or, or_true])) (W := 0) (Nat.le_of_ble_eq_true rfl) (Nat.le_of_ble_eq_true rfl) (Nat.le_refl _) (by show 0 + A.slots.size ≤ A.slots.size; omega) (g := (mkF m 6 #[.val (.ref a), .val (.ref b)] [.null, .int (Int32.ofNat A.slots.size), .int (Int32.ofNat 0), .ref b, .ref a])) rfl (by rw [hml]; rfl) c2 (argsL := [.ref b, .int (Int32.ofNat 0), .int (Int32.ofNat A.slots.size), .null]) (rest := []) rfl rfl (by show 2 * 0 + 0 ≤ _; decide) (hb hbytes d6) (⟨rfl, hB.mv X0.warmed.alike hh0, f1.al X0.warmed.alike, f2.al X0.warmed.alike, hA.mv X0.warmed.alike hh0, s1.there X0.warmed.alike hh0, hz, l0, by omega, l2, fun i hi => by rw [Nat.zero_add]; exact hp i hi⟩)
  have e0 := Got.mv _ s₁ s _ _ hh0.symm (Vm.Alike.refl _) rfl E3
  obtain rfl := e0.1
  have c4 : Steps p.tables e below (s₁.setTop (entryFrame m #[.ref a, .ref b] 2)) (T3.setTop (mkF m 9 #[.val (.ref a), .val (.ref b)] [])) := g3
  exact ⟨T3, none, _, _, _, X3, by simp, rfl, by omega, (fun _ => rfl), e0, fun fs hl => c4.trans (X3.returnOut hexec hret (hb hbytes d9) hl)⟩
theorem pays {l : Launch} {R : Room} {p : Program} {e : Env} {below : List Frame} {s : State} {sargs : Array Value} {len W : Nat} (a : Addr) (D : Cell) (fV fC : Field) (b : Addr) (A : Cell) (z : Int32) (htab : tab.before sargs s = true) (hfr : 4 ≤ R.frames) (hlo : W + 65 ≤ R.locals) :
    Back l R p e below s sargs yN len W (fun A₁ a₁ => A₁.cells + 1 ≤ R.cells ∧ A₁.slots + A.slots.size ≤ R.slots ∧ P a D fV fC b A z a₁ A₁.U) (fun A₁ _ v₁ B₁ => E a D fV fC A v₁ A₁.U B₁.U ∧ B₁.locs = A₁.locs ++ [⟨a, fC.slot⟩, ⟨a, fV.slot⟩] ∧ B₁.cells = A₁.cells + 1 ∧ B₁.slots = A₁.slots + A.slots.size) :=
  (law l a D fV fC b A z).pays htab hfr (by omega)
end New1
end StrChars
namespace StrChars.Road
open Jvm Sem ClassFile Op Lib Jvm.Stand Jvm.Free Jvm.Free.XT
open Jvm.Lib.Cold (StaticIs)
abbrev ST : String := "java/lang/String"
/-- every table word that New1's law asks, flat -/
abbrev words : List Jvm.Cond := [.code New1.yN New1.yB 2 none, .initialized ST, .methodLink ST 27 New4.yN, .instanceMethod New4.yN,
  .code New4.yN New4.yB 6 none, .fieldLink ST 38 ST "COMPACT_STRINGS" "Z", .laysFinal ST ST "value" "[B", .fieldLink ST 9 ST "value" "[B", .laysFinal ST ST "coder" "B", .fieldLink ST 15 ST "coder" "B",
  .methodLink ST 1 Lib.objectInit, .instanceMethod Lib.objectInit, .code Lib.objectInit ⟨#[0xb1]⟩ 1 none, .methodLink ST 177 Cmp3.yN, .static Cmp3.yN, .methodLink ST 47 CodL.yN, .static CodL.yN,
  .code Cmp3.yN Cmp3.yB 6 (some (.array .byte)), .initialized U16, .arrayClass .byte, .methodLink U16 115 Cmp5.yN, .static Cmp5.yN, .code Cmp5.yN Cmp5.yB 7 (some .int), .code CodL.yN CodL.yB 2 (some .byte)]
theorem tab_of {a : Array Value} {s : State} (h : ∀ w ∈ words, w.before a s = true) : New1.tab.before a s = true := by
  have h5 : Cmp5.tab.before a s = true := unparts (wk h (.code Cmp5.yN Cmp5.yB 7 (some .int))) (wks h (.initialized Cmp5.yN.cls :: Cmp5.site))
  have hc : CodL.tab.before a s = true := unparts (wk h (.code CodL.yN CodL.yB 2 (some .byte))) (wks h (.initialized CodL.yN.cls :: CodL.site))
  have q5 : ∀ w ∈ Cmp5.tab :: words, w.before a s = true := fun w hw => (List.mem_cons.mp hw).elim (fun e => e ▸ h5) (h w)
  have h3 : Cmp3.tab.before a s = true := unparts (wk q5 (.code Cmp3.yN Cmp3.yB 6 (some (.array .byte)))) (wks q5 (.initialized Cmp3.yN.cls :: Cmp3.site))
  have q3 : ∀ w ∈ Cmp3.tab :: CodL.tab :: words, w.before a s = true := fun w hw => (List.mem_cons.mp hw).elim (fun e => e ▸ h3) fun hw => (List.mem_cons.mp hw).elim (fun e => e ▸ hc) (h w)
  have h4 : New4.tab.before a s = true := unparts (wk q3 (.code New4.yN New4.yB 6 none)) (wks q3 (.initialized New4.yN.cls :: New4.site))
  have q4 : ∀ w ∈ New4.tab :: words, w.before a s = true := fun w hw => (List.mem_cons.mp hw).elim (fun e => e ▸ h4) (h w)
  exact unparts (wk q4 (.code New1.yN New1.yB 2 none)) (wks q4 (.initialized New1.yN.cls :: New1.site))
/-- the words ride from the start Z to the walk's own state -/
theorem moved {Z s : State} {a0 args : Array Value} (hZ : Z.Warmed39 s.vm) (hw : ∀ d ∈ words, d.before a0 Z = true) : ∀ d ∈ words, d.before args s = true := fun d hd => by
  have q := hw d hd
  have t : ∀ d ∈ words, d = .arrayClass .byte ∨ (d.onTables && d.keepsFace) = true := by decide +kernel
  rcases t d hd with rfl | t
  · exact RoadKit.mvA hZ q
  · exact RoadKit.mv hZ q t
/-- WHAT COMES BACK, over the tables of the start Z: h the heap at the call, h' behind it -/
def Q (Z : State) (x : Addr) (A : Cell) (h : Heap) (v : Option Value) (h' : Heap) (L : List Loc) : Prop := v = none ∧ (∀ y ∈ L, y.base = x) ∧ RoadKit.Keep h h' [x] ∧ h'.size = h.size + 1 ∧ RoadKit.Exa Z h' x ST ∧ RoadKit.Fld Z h' x ST "value" "[B" (.ref h.size) ∧ RoadKit.Fld Z h' x ST "coder" "B" (.int 0) ∧
  (∃ V : Cell, RoadKit.Arr Z h' h.size V .byte ∧ V.vm = .none ∧ Z.vm.findClass "[B" = some V.cls ∧ V.slots.size = A.slots.size ∧ ∀ j, j < A.slots.size → V.slots[j]? = some (.int (lo8 (cv A j)))) ∧
  ∀ (O n d : String) (w : Value), RoadKit.Fld Z h x O n d w → RoadKit.slotOf Z O n d ≠ RoadKit.slotOf Z ST "value" "[B" → RoadKit.slotOf Z O n d ≠ RoadKit.slotOf Z ST "coder" "B" → RoadKit.Fld Z h' x O n d w
/-- **new String(chars) AT A CALL, IN THE ROAD'S FORM**: for specialBack behind newO: x the fresh String, b the char[] with the cell A -/
theorem back {p : Program} {l : Launch} {e : Env} {R : Room} {s : State} {args : Array Value} {below : List Frame} {len W : Nat} {Z : State} {a0 : Array Value} {h : Heap} (hZ : Z.Warmed39 s.vm) (hw : ∀ d ∈ words, d.before a0 Z = true) {kI : Nat} (wi : (Jvm.Cond.instantiable ST kI).before a0 Z = true)
    {x b : Addr} {A : Cell} {z : Int32} {v0 c0 : Value} (E : RoadKit.Exa Z h x ST) (V : RoadKit.Fld Z h x ST "value" "[B" v0) (C : RoadKit.Fld Z h x ST "coder" "B" c0) (K : RoadKit.Arr Z h b A .char) (hty : Typed .char A) (S : RoadKit.Sta Z h ST "COMPACT_STRINGS" "Z" (.int z)) (hz : ¬ z = 0)
    (l0 : 0 < A.slots.size) (l2 : A.slots.size ≤ 536870912) (hp : ∀ i, i < A.slots.size → ¬ 255 < cv A i) (hfr : 4 ≤ R.frames) (hlo : W + 65 ≤ R.locals) :
    Back l R p e below s args New1.yN len W (fun P a => a = #[.ref x, .ref b] ∧ P.U.heap = h ∧ P.cells + 1 ≤ R.cells ∧ P.slots + A.slots.size ≤ R.slots)
      (fun P _ v B => ∃ L, Q Z x A h v B.U.heap L ∧ B.locs = P.locs ++ L ∧ B.cells = P.cells + 1 ∧ B.slots = P.slots + A.slots.size) := by
  intro m meth c P g ig mk a X hg hsize hdg hW hn hp'
  obtain ⟨rfl, rfl, r1, r2⟩ := hp'
  have al : Z.vm.Alike P.U.vm := hZ.alike.trans X.warmed.alike
  obtain ⟨D, cfV, kV, iV, fV, hD, gV, stV, knV, obV, asV, slV⟩ := id V
  obtain ⟨D', cfC, kC, iC, fC, hD', gC, stC, -, -, asC, slC⟩ := id C
  cases hD.symm.trans hD'
  obtain ⟨D2, kD, e1, e2, e3, e4, e5⟩ := id E
  cases hD.symm.trans e1
  obtain ⟨c2, k2, i1, i2, i3, -⟩ := Cond.instantiable_spec wi
  cases e2.symm.trans i1
  cases e3.symm.trans i2
  obtain ⟨kU, u1, u2⟩ := al.2.2 _ _ e3
  have hB : Blank ST x D P.U := ⟨hD, ⟨knV, fun q hq => by rw [hq] at obV; cases obV⟩, by rw [al.findClass]; exact e2, kU, u1, by rw [u2]; exact i3, by rw [u2]; exact e5 i3⟩
  have F1 : Found ST "value" "[B" fV P.U := ⟨SBG.found_only al ⟨cfV, kV, iV, gV⟩, stV⟩
  have F2 : Found ST "coder" "B" fC P.U := ⟨SBG.found_only al ⟨cfC, kC, iC, gC⟩, stC⟩
  have hA : Ch b A P.U := ⟨⟨K.1, State.isArrayOf_alike al K.2.1, K.2.2, by omega⟩, hty⟩
  have hS : StaticIs P.U ST "COMPACT_STRINGS" "Z" (.int z) := by
    obtain ⟨cfS, iS, kS, fS, st, cS, t1, t2, t3, t4, t5, t6, t7⟩ := S
    exact StaticIs.there (s := { Z with heap := P.U.heap }) ⟨cfS, iS, kS, fS, st, cS, t1, t2, t3, t4, t5, (fun q => by rw [q] at t6; cases t6), t7⟩ al rfl
  obtain ⟨v, B, X', ⟨⟨hv, E', V', q1, q2, q3, q4, q5, q6, q7, q8, q9, q10, q11⟩, hl, hc, hs⟩, st⟩ := New1.pays x D fV fC b A z (tab_of (moved hZ hw)) hfr hlo m meth c P g ig mk _ X hg hsize hdg hW hn ⟨r1, r2, rfl, hB, F1, F2, hA, hS, hz, l0, l2, hp⟩
  have al' : Z.vm.Alike B.U.vm := hZ.alike.trans X'.warmed.alike
  have hsz : E'.slots.size = D.slots.size := by
    obtain ⟨-, -, -, kB, w1, w2, w3⟩ := q1
    obtain ⟨kB', y1, y2⟩ := al'.2.2 _ _ e3
    rw [q2.2.1] at w1
    cases w1.symm.trans y1
    rw [w3, e5 i3, y2]
  refine ⟨v, B, X', ⟨_, ⟨hv, ?_, ⟨by omega, fun y cy hy hn' => q10 y cy (by simpa using hn') hy, fun y cy hy => ?_⟩, q11, ⟨E', _, q1.1, by rw [q2.2.1]; exact e2, by rw [q2.2.1]; exact e3, by rw [q2.1]; exact obV, fun _ => by rw [hsz]; exact e5 i3⟩,
    ⟨E', cfV, kV, iV, fV, q1.1, gV, stV, by rw [q2.1]; exact knV, by rw [q2.1]; exact obV, by rw [q2.2.1]; exact asV, q3⟩, ⟨E', cfC, kC, iC, fC, q1.1, gC, stC, by rw [q2.1]; exact knV, by rw [q2.1]; exact obV, by rw [q2.2.1]; exact asC, q4⟩,
    ⟨V', ⟨q5.1, State.isArrayOf_alike al'.symm q5.2.1, q5.2.2.1⟩, q6, by rw [← al'.findClass]; exact q7, q8, fun j hj => by have := q9 j hj; rwa [Nat.zero_add] at this⟩, fun O n d w F n1 n2 => ?_⟩, hl, hc, hs⟩, st⟩
  · intro y hy
    simp only [List.mem_cons, List.not_mem_nil, or_false] at hy
    rcases hy with rfl | rfl <;> rfl
  · by_cases q : y = x
    · subst q
      cases hD.symm.trans hy
      exact ⟨E', q1.1, q2.2.1, q2.1, hsz⟩
    · exact ⟨cy, q10 y cy q hy, rfl, rfl, rfl⟩
  · obtain ⟨D3, cf, k, i, f, g1, g2, g3, g4, g5, g6, g7⟩ := F
    cases hD.symm.trans g1
    simp only [RoadKit.slotOf, g2, gV, gC, Option.map_some, Option.getD_some] at n1 n2
    exact ⟨E', cf, k, i, f, q1.1, g2, g3, by rw [q2.1]; exact g4, by rw [q2.1]; exact g5, by rw [q2.2.1]; exact g6, by rw [q2.2.2 f.slot (by simp [n1, n2])]; exact g7⟩
end StrChars.Road
namespace StrChars.Road
open Jvm Sem ClassFile Op Lib Jvm.Stand Jvm.Free Jvm.Free.XT
/-- WHAT COMES BACK, the byte[] as a list of values -/
def QA (Z : State) (x : Addr) (zn : Int32) (cs : List Int32) (h : Heap) (v : Option Value) (h' : Heap) (L : List Loc) : Prop := v = none ∧ (∀ y ∈ L, y.base = x) ∧ RoadKit.Keep h h' [x] ∧ h'.size = h.size + 1 ∧ RoadKit.Exa Z h' x ST ∧ RoadKit.Fld Z h' x ST "value" "[B" (.ref h.size) ∧ RoadKit.Fld Z h' x ST "coder" "B" (.int 0) ∧
  (∃ kb, Z.vm.findClass "[B" = some kb ∧ RoadKit.Arv Z h' h.size kb .byte zn (cs.map fun c => .int (lo8 c)) (.int 0)) ∧
  ∀ (O n d : String) (w : Value), RoadKit.Fld Z h x O n d w → RoadKit.slotOf Z O n d ≠ RoadKit.slotOf Z ST "value" "[B" → RoadKit.slotOf Z O n d ≠ RoadKit.slotOf Z ST "coder" "B" → RoadKit.Fld Z h' x O n d w
/-- **new String(chars) AT A CALL, THE ARRAYS AS LISTS**: the char[] at b holds cs, not empty, no char above 255 -/
theorem backArv {p : Program} {l : Launch} {e : Env} {R : Room} {s : State} {args : Array Value} {below : List Frame} {len W : Nat} {Z : State} {a0 : Array Value} {h : Heap} (hZ : Z.Warmed39 s.vm) (hw : ∀ d ∈ words, d.before a0 Z = true) {kI : Nat} (wi : (Jvm.Cond.instantiable ST kI).before a0 Z = true)
    {x b : Addr} {k : ClassId} {zn z : Int32} {cs : List Int32} {dv v0 c0 : Value} (E : RoadKit.Exa Z h x ST) (V : RoadKit.Fld Z h x ST "value" "[B" v0) (C : RoadKit.Fld Z h x ST "coder" "B" c0) (K : RoadKit.Arv Z h b k .char zn (cs.map Value.int) dv) (S : RoadKit.Sta Z h ST "COMPACT_STRINGS" "Z" (.int z)) (hz : ¬ z = 0)
    (hlen : zn.toNatClampNeg = cs.length) (h0 : 0 < cs.length) (hbig : cs.length ≤ 536870912) (hall : ∀ c ∈ cs, ¬ 255 < c) (hfr : 4 ≤ R.frames) (hlo : W + 65 ≤ R.locals) :
    Back l R p e below s args New1.yN len W (fun P a => a = #[.ref x, .ref b] ∧ P.U.heap = h ∧ P.cells + 1 ≤ R.cells ∧ P.slots + cs.length ≤ R.slots)
      (fun P _ v B => ∃ L, QA Z x zn cs h v B.U.heap L ∧ B.locs = P.locs ++ L ∧ B.cells = P.cells + 1 ∧ B.slots = P.slots + cs.length) := by
  obtain ⟨A, K1, K2, K3, K4, K5, K6⟩ := K
  have e : A.slots.size = cs.length := K3.trans hlen
  have hat : ∀ (i : Nat) (hi : i < cs.length), A.slots[i]? = some (.int cs[i]) := fun i hi => by rw [K5 i (by omega)]; simp [List.getD_eq_getElem?_getD, hi]
  have hcv : ∀ (i : Nat) (hi : i < cs.length), cv A i = cs[i] := fun i hi => by unfold cv; rw [hat i hi]
  have hty : Typed .char A := fun i v hv => by
    have hi : i < A.slots.size := (Array.getElem?_eq_some_iff.mp hv).1
    have q := K5 i hi
    rw [hv] at q
    rw [Option.some.inj q]
    exact K6 i hi
  refine Back.mono (back hZ hw wi E V C K1 hty S hz (by omega) (by omega) (fun i hi => by rw [hcv i (by omega)]; exact hall _ (List.getElem_mem _)) hfr hlo) (fun P a hp => ⟨hp.1, hp.2.1, hp.2.2.1, by rw [e]; exact hp.2.2.2⟩) (fun P a v B hp hq => ?_)
  obtain ⟨L, ⟨q1, q2, q3, q4, q5, q6, q7, ⟨V', v1, v2, v3, v4, v5⟩, q9⟩, hl, hc, hs⟩ := hq
  refine ⟨L, ⟨q1, q2, q3, q4, q5, q6, q7, ⟨V'.cls, v3, V', v1, rfl, by rw [v4, e, hlen], K4, fun i hi => ?_, fun i hi => ?_⟩, q9⟩, hl, hc, by rw [hs, e]⟩
  · have hi' : i < cs.length := by omega
    rw [v5 i (by omega), hcv i hi']; simp [List.getD_eq_getElem?_getD, hi']
  · have hi' : i < cs.length := by omega
    simp only [List.getD_eq_getElem?_getD, List.getElem?_map, List.getElem?_eq_getElem hi', Option.map_some, Option.getD_some]
    exact fits_lo8 _
end StrChars.Road
namespace StrChars.Road
open Jvm Sem ClassFile Op Lib Jvm.Stand Jvm.Free Jvm.Free.XT
/-- WHAT COMES BACK, in the writer's own shape -/
def QV (Z : State) (x : Addr) (N : Int32) (bs : List Int32) (h : Heap) (n0 : Nat) (v : Option Value) (h' : Heap) (L : List Loc) : Prop := v = none ∧ RoadKit.Fr n0 L ∧ RoadKit.Keep h h' [x] ∧ RoadKit.Exa Z h' x ST ∧ RoadKit.Fld Z h' x ST "coder" "B" (.int 0) ∧
  ∃ (t : Addr) (kb : ClassId), n0 ≤ t ∧ h.size ≤ t ∧ ¬ t = x ∧ RoadKit.Fld Z h' x ST "value" "[B" (.ref t) ∧ RoadKit.Arv Z h' t kb .byte N (bs.map Value.int) (.int 0)
/-- **new String(chars) AT A CALL, FOR THE WRITER**: a char[] of n known ints, each 0 to 255 -/
theorem backV {p : Program} {l : Launch} {e : Env} {R : Room} {s : State} {args : Array Value} {below : List Frame} {len W : Nat} {Z : State} {a0 : Array Value} {h : Heap} (hZ : Z.Warmed39 s.vm) (hw : ∀ d ∈ words, d.before a0 Z = true) {kI : Nat} (wi : (Jvm.Cond.instantiable ST kI).before a0 Z = true)
    {x b : Addr} {kC : ClassId} {cs bs : List Int32} {d v0 c0 : Value} {z N : Int32} {n n0 : Nat} (hx0 : n0 ≤ x) (hh0 : n0 ≤ h.size) (E : RoadKit.Exa Z h x ST) (V : RoadKit.Fld Z h x ST "value" "[B" v0) (C : RoadKit.Fld Z h x ST "coder" "B" c0) (K : RoadKit.Arv Z h b kC .char N (cs.map Value.int) d) (S : RoadKit.Sta Z h ST "COMPACT_STRINGS" "Z" (.int z)) (hz : ¬ z = 0)
    (hn : cs.length = n) (hN : N = Int32.ofNat n) (l0 : 0 < n) (l2 : n ≤ 4000) (hp : ∀ c ∈ cs, ¬ c < 0 ∧ ¬ (255 : Int32) < c) (hb : bs = cs.map (fun c => c.toInt8.toInt32)) (hfr : 4 ≤ R.frames) (hlo : W + 65 ≤ R.locals) :
    Back l R p e below s args (⟨"java/lang/String", "<init>", "([C)V"⟩ : MethodName) len W (fun P a => a = #[.ref x, .ref b] ∧ P.U.heap = h ∧ P.cells + 1 ≤ R.cells ∧ P.slots + n ≤ R.slots)
      (fun P _ v B => ∃ L, QV Z x N bs h n0 v B.U.heap L ∧ B.locs = P.locs ++ L ∧ B.cells = P.cells + 1 ∧ B.slots = P.slots + n) := by
  subst hn hN hb
  refine Back.mono (backArv hZ hw wi E V C K S hz (n32 (by omega)) l0 (by omega) (fun c hc => (hp c hc).2) hfr hlo) (fun P a hp => hp) (fun P a v B hp hq => ?_)
  obtain ⟨L, ⟨q1, q2, q3, q4, q5, q6, q7, ⟨kb, v1, v2⟩, q9⟩, hl, hc, hs⟩ := hq
  exact ⟨L, ⟨q1, fun y hy => by rw [q2 y hy]; exact hx0, q3, q5, q7, h.size, kb, hh0, Nat.le_refl _, Nat.ne_of_gt E.lt, q6, by rw [List.map_map]; exact v2⟩, hl, hc, hs⟩
end StrChars.Road
namespace StrChars
open Jvm Sem ClassFile Op Lib Jvm.Stand Jvm.Free.XT Jvm.Free.ALB Jvm.Free.JM Jvm.Free
open Jvm.Lib.Cold (StaticIs)
def hi8 (x : Int32) : Int32 := lo8 (x >>> ((8 : Int32) &&& 31))
end StrChars
namespace StrChars
open Jvm Sem ClassFile Op Lib Jvm.Stand Jvm.Free.XT Jvm.Free.ALB Jvm.Free.JM Jvm.Free
open Jvm.Lib.Cold (StaticIs)
/-- the array's cell V codes the n chars f 0 .. f (n - 1) by the coder cd, as the JDK does: coder 1 just where some char is above 255 -/
def Cod (cd : Int32) (n : Nat) (f : Nat → Int32) (V : Cell) : Prop := (cd = 0 ∧ V.slots.size = n ∧ ∀ j, j < n → V.slots[j]? = some (.int (lo8 (f j))) ∧ ¬ 255 < f j) ∨ (cd = 1 ∧ V.slots.size = 2 * n ∧ (∀ j, j < n → V.slots[2 * j]? = some (.int (lo8 (f j))) ∧ V.slots[2 * j + 1]? = some (.int (hi8 (f j)))) ∧ ∃ j, j < n ∧ 255 < f j)
/-- **x is a String of the n chars f 0 .. f (n - 1)**, Latin-1 or UTF-16; its array at t has the cell V -/
def Txt (x t : Addr) (V : Cell) (cd : Int32) (n : Nat) (f : Nat → Int32) (U : State) : Prop := Exact "java/lang/String" x U ∧ Has x "java/lang/String" "value" "[B" (.ref t) U ∧ Has x "java/lang/String" "coder" "B" (.int cd) U ∧ XT.Arr .byte t V U ∧ Cod cd n f V ∧ ∀ j, j < n → ¬ f j < 0 ∧ ¬ 65535 < f j
theorem Txt.mv {x t : Addr} {V : Cell} {cd : Int32} {n : Nat} {f : Nat → Int32} {U U' : State} (h : Txt x t V cd n f U) (hal : U.vm.Alike U'.vm) (hh : U'.heap = U.heap) : Txt x t V cd n f U' := ⟨h.1.mv hal hh, h.2.1.mv hal hh, h.2.2.1.mv hal hh, h.2.2.2.1.mv hal hh, h.2.2.2.2⟩
end StrChars
namespace StrChars.Road
open Jvm Sem ClassFile Op Lib Jvm.Stand Jvm.Free Jvm.Free.XT
open Jvm.Lib.Cold (StaticIs)
/-- the bytes of the chars cs, low before high -/
def wideBytes : List Int32 → List Value
  | [] => []
  | c :: cs => .int (lo8 c) :: .int (hi8 c) :: wideBytes cs
theorem wide_lo (d : Value) : ∀ (cs : List Int32) (j : Nat), j < cs.length → (wideBytes cs).getD (2 * j) d = .int (lo8 (cs.getD j 0))
  | [], j, h => absurd h (Nat.not_lt_zero j)
  | c :: cs, 0, _ => rfl
  | c :: cs, j + 1, h => by
    have q := wide_lo d cs j (by simpa using h)
    rw [show 2 * (j + 1) = 2 * j + 1 + 1 from by omega]
    simpa [wideBytes] using q
theorem wide_hi (d : Value) : ∀ (cs : List Int32) (j : Nat), j < cs.length → (wideBytes cs).getD (2 * j + 1) d = .int (hi8 (cs.getD j 0))
  | [], j, h => absurd h (Nat.not_lt_zero j)
  | c :: cs, 0, _ => rfl
  | c :: cs, j + 1, h => by
    have q := wide_hi d cs j (by simpa using h)
    rw [show 2 * (j + 1) + 1 = 2 * j + 1 + 1 + 1 from by omega]
    simpa [wideBytes] using q
theorem low_at (d : Value) (cs : List Int32) (j : Nat) (h : j < cs.length) : (cs.map fun c => Value.int (lo8 c)).getD j d = .int (lo8 (cs.getD j 0)) := by
  simp [List.getD_eq_getElem?_getD, h]
/-- an array of N2 bytes vs codes the chars cs by the coder cd -/
def CodA (cs : List Int32) (cd N2 : Int32) (vs : List Value) : Prop := (cd = 0 ∧ N2 = Int32.ofNat cs.length ∧ vs = (cs.map fun c => Value.int (lo8 c)) ∧ ∀ c ∈ cs, ¬ 255 < c) ∨ (cd = 1 ∧ N2 = Int32.ofNat (2 * cs.length) ∧ vs = wideBytes cs ∧ ∃ c ∈ cs, 255 < c)
theorem CodA.cod {cs : List Int32} {cd N2 : Int32} {vs : List Value} {V : Cell} (h : CodA cs cd N2 vs) (hn : 2 * cs.length < 2 ^ 31) (hs : V.slots.size = N2.toNatClampNeg) (hv : RoadKit.Has V vs (.int 0)) : Cod cd cs.length (fun j => cs.getD j 0) V := by
  rcases h with ⟨rfl, rfl, rfl, h⟩ | ⟨rfl, rfl, rfl, c, hc, hw⟩
  · rw [n32 (by omega)] at hs
    exact Or.inl ⟨rfl, hs, fun j hj => ⟨by rw [hv j (by omega), low_at _ _ _ hj], by
      have e : cs.getD j 0 = cs[j] := by simp [List.getD_eq_getElem?_getD, hj]
      show ¬ 255 < cs.getD j 0
      rw [e]; exact h _ (List.getElem_mem _)⟩⟩
  · rw [n32 (by omega)] at hs
    obtain ⟨j, hj, rfl⟩ := List.getElem_of_mem hc
    exact Or.inr ⟨rfl, hs, fun j hj => ⟨by rw [hv _ (by omega), wide_lo _ _ _ hj], by rw [hv _ (by omega), wide_hi _ _ _ hj]⟩, j, hj, by
      have e : cs.getD j 0 = cs[j] := by simp [List.getD_eq_getElem?_getD, hj]
      show 255 < cs.getD j 0
      rw [e]; exact hw⟩
/-- an object of exactly java/lang/String, its two fields found: as the laws ask it -/
theorem strObj {Z U : State} {a0 : Array Value} {kI : Nat} (wi : (Jvm.Cond.instantiable ST kI).before a0 Z = true) (al : Z.vm.Alike U.vm) {x : Addr} {v0 c0 : Value} (E : RoadKit.Exa Z U.heap x ST) (V : RoadKit.Fld Z U.heap x ST "value" "[B" v0) (C : RoadKit.Fld Z U.heap x ST "coder" "B" c0) :
    ∃ (D : Cell) (fV fC : Field), Blank ST x D U ∧ Found ST "value" "[B" fV U ∧ Found ST "coder" "B" fC U ∧ D.slots[fV.slot]? = some v0 ∧ D.slots[fC.slot]? = some c0 ∧ RoadKit.slotOf Z ST "value" "[B" = fV.slot ∧ RoadKit.slotOf Z ST "coder" "B" = fC.slot := by
  obtain ⟨D, cfV, kV, iV, fV, hD, gV, stV, knV, obV, asV, slV⟩ := V
  obtain ⟨D', cfC, kC, iC, fC, hD', gC, stC, -, -, asC, slC⟩ := C
  cases hD.symm.trans hD'
  obtain ⟨D2, kD, e1, e2, e3, e4, e5⟩ := E
  cases hD.symm.trans e1
  obtain ⟨c2, k2, i1, i2, i3, -⟩ := Cond.instantiable_spec wi
  cases e2.symm.trans i1
  cases e3.symm.trans i2
  obtain ⟨kU, u1, u2⟩ := al.2.2 _ _ e3
  exact ⟨D, fV, fC, ⟨hD, ⟨knV, fun q hq => by rw [hq] at obV; cases obV⟩, by rw [al.findClass]; exact e2, kU, u1, by rw [u2]; exact i3, by rw [u2]; exact e5 i3⟩, ⟨SBG.found_only al ⟨cfV, kV, iV, gV⟩, stV⟩, ⟨SBG.found_only al ⟨cfC, kC, iC, gC⟩, stC⟩, slV, slC, by simp [RoadKit.slotOf, gV], by simp [RoadKit.slotOf, gC]⟩
end StrChars.Road
namespace StrChars
open Jvm Sem ClassFile Op Lib Jvm.Stand Jvm.Free.XT Jvm.Free.ALB Jvm.Free.JM Jvm.Free
open Jvm.Lib.Cold (StaticIs)
namespace Emp
def yN : MethodName := ⟨"java/lang/String", "isEmpty", "()Z"⟩
abbrev yB : ByteArray := jdk_42_method_55_code
theorem d0 : decode yB 0 = .ok (.aload_n 0, 1) := by decide +kernel
theorem d1 : decode yB 1 = .ok (.getfield 9, 3) := by decide +kernel
theorem d4 : decode yB 4 = .ok (.arraylength, 1) := by decide +kernel
theorem d5 : decode yB 5 = .ok (.ifCond (.ne) 7, 3) := by decide +kernel
theorem d8 : decode yB 8 = .ok (.iconst 1, 1) := by decide +kernel
theorem d9 : decode yB 9 = .ok (.goto 4, 3) := by decide +kernel
theorem d12 : decode yB 12 = .ok (.iconst 0, 1) := by decide +kernel
theorem d13 : decode yB 13 = .ok (.ireturn, 1) := by decide +kernel
def site : List Cond := [.fieldLink "java/lang/String" 9 "java/lang/String" "value" "[B"]
def tab : Cond := tabOf yN yB 1 (some .boolean) site
def P (x t : Addr) (V : Cell) (cd : Int32) (n : Nat) (f : Nat → Int32) (args : Array Value) (s : State) : Prop := args = #[.ref x] ∧ Txt x t V cd n f s
def E (n : Nat) (r : Option Value) (s u : State) : Prop := XT.PureE (some (.int (if n = 0 then 1 else 0))) r s u
/-- isEmpty() of a String of n chars -/
theorem law (l : Launch) (x t : Addr) (V : Cell) (cd : Int32) (n : Nat) (f : Nat → Int32) : Law l yN 1 0 0 0 yB 1 (some .boolean) site (P x t V cd n f) (E n) [] 0 0 := by
  refine Law.of_walk (plainFor_of_name (by decide +kernel)) (by decide +kernel) (by decide +kernel) (by decide) (fun _ _ h => by rw [h.1]; rfl) (fun _ U U' hal hh h => ⟨h.1, h.2.mv hal hh⟩) (fun r U U' V V' h1 hal h2 h => XT.PureE.mv r U U' V V' h1 hal h2 h) ?_
  intro p e s m args below meth c s₁ X0 hexec hbytes hml hret hlk hnm hown hh0 W hP
  obtain ⟨rfl, hx⟩ := hP
  have v31 := hx.2.2.2.1.2.2.2
  have c1 : Steps p.tables e below (s₁.setTop (entryFrame m #[.ref x] 1)) (s₁.setTop (mkF m 1 #[.val (.ref x)] [.ref x])) := Steps.trans (entry rfl) (by
    show Steps p.tables e below (s₁.setTop (mkF m 0 #[.val (.ref x)] [])) _
    refine XS.aloadN X0.here hexec rfl (hb hbytes d0) rfl rfl ?_
    exact Steps.refl _)
  obtain ⟨T2, X2, q2, st2⟩ := X0.hget hexec hown (wk W (.fieldLink "java/lang/String" 9 "java/lang/String" "value" "[B")) (hx.mv X0.warmed.alike hh0).2.1 (g := (mkF m 1 #[.val (.ref x)] [.ref x])) rfl (rest := []) rfl (hb hbytes d1)
  have hh2 := q2.trans hh0
  have hx2 := hx.mv X2.warmed.alike hh2
  have c3 : Steps p.tables e below (s₁.setTop (entryFrame m #[.ref x] 1)) (T2.setTop (mkF m 5 #[.val (.ref x)] [.int (Int32.ofNat V.slots.size)])) := (c1.trans (st2 _ (Steps.refl _))).trans (by
    refine X2.alen hexec hx2.2.2.2.1 rfl rfl (hb hbytes d4) ?_
    exact Steps.refl _)
  have hz : V.slots.size = 0 ↔ n = 0 := by
    rcases hx.2.2.2.2.1 with ⟨-, q, -⟩ | ⟨-, q, -⟩ <;> omega
  by_cases h0 : n = 0
  · have c4 : Steps p.tables e below (s₁.setTop (entryFrame m #[.ref x] 1)) (T2.setTop (mkF m 13 #[.val (.ref x)] [.int 1])) := c3.trans (by
      refine XS.ifNo X2.here hexec rfl (hb hbytes d5) rfl (i0_ne_f (by rw [hz.mpr h0]; rfl)) ?_
      refine iconstV X2.here hexec rfl 1 (hb hbytes d8) (by decide) ?_
      refine XS.goto X2.here hexec rfl (pc0 := 9) rfl (hb hbytes d9) (by decide) rfl ?_
      exact Steps.refl _)
    exact ⟨T2, some (.int 1), _, _, _, X2, rfl, rfl, rfl, (fun h => by cases h), ⟨by rw [if_pos h0], hh2⟩, fun fs hl => c4.trans (X2.ireturnOut hexec hret rfl (Or.inr (Or.inl rfl)) (hb hbytes d13) hl)⟩
  · have c4 : Steps p.tables e below (s₁.setTop (entryFrame m #[.ref x] 1)) (T2.setTop (mkF m 13 #[.val (.ref x)] [.int 0])) := c3.trans (by
      refine XS.ifYes X2.here hexec rfl (pc0 := 5) rfl (hb hbytes d5) rfl (i0_ne_t (nz32 v31 (by omega))) (by decide) rfl ?_
      refine iconstV X2.here hexec rfl 0 (hb hbytes d12) (by decide) ?_
      exact Steps.refl _)
    exact ⟨T2, some (.int 0), _, _, _, X2, rfl, rfl, rfl, (fun h => by cases h), ⟨by rw [if_neg h0], hh2⟩, fun fs hl => c4.trans (X2.ireturnOut hexec hret rfl (Or.inr (Or.inl rfl)) (hb hbytes d13) hl)⟩
theorem pays {l : Launch} {R : Room} {p : Program} {e : Env} {below : List Frame} {s : State} {sargs : Array Value} {len W : Nat} (x t : Addr) (V : Cell) (cd : Int32) (n : Nat) (f : Nat → Int32) (htab : tab.before sargs s = true) (hfr : 1 ≤ R.frames) (hlo : W + 12 ≤ R.locals) :
    Back l R p e below s sargs yN len W (fun A₁ a₁ => A₁.cells + 0 ≤ R.cells ∧ A₁.slots + 0 ≤ R.slots ∧ P x t V cd n f a₁ A₁.U) (fun A₁ _ v₁ B₁ => E n v₁ A₁.U B₁.U ∧ B₁.locs = A₁.locs ++ [] ∧ B₁.cells = A₁.cells + 0 ∧ B₁.slots = A₁.slots + 0) :=
  (law l x t V cd n f).pays htab hfr (by omega)
end Emp
end StrChars
namespace StrChars.Road
open Jvm Sem ClassFile Op Lib Jvm.Stand Jvm.Free Jvm.Free.XT
open Jvm.Lib.Cold (StaticIs)
/-- the words of String.isEmpty() -/
abbrev wordsEmp : List Jvm.Cond := [.code Emp.yN Emp.yB 1 (some .boolean), .initialized ST, .fieldLink ST 9 ST "value" "[B"]
theorem tabEmp_of {a : Array Value} {s : State} (h : ∀ w ∈ wordsEmp, w.before a s = true) : Emp.tab.before a s = true := unparts (wk h (.code Emp.yN Emp.yB 1 (some .boolean))) (wks h (.initialized Emp.yN.cls :: Emp.site))
theorem movedEmp {Z s : State} {a0 args : Array Value} (hZ : Z.Warmed39 s.vm) (hw : ∀ d ∈ wordsEmp, d.before a0 Z = true) : ∀ d ∈ wordsEmp, d.before args s = true := fun d hd => by
  have t : ∀ d ∈ wordsEmp, (d.onTables && d.keepsFace) = true := by decide +kernel
  exact RoadKit.mv hZ (hw d hd) (t d hd)
/-- the road's facts of a String, as the laws ask it -/
theorem txt_of {Z U : State} {a0 : Array Value} {kI : Nat} (wi : (Jvm.Cond.instantiable ST kI).before a0 Z = true) (al : Z.vm.Alike U.vm) {x t : Addr} {kb : ClassId} {cs : List Int32} {cd N2 : Int32} {vs : List Value} (E : RoadKit.Exa Z U.heap x ST) (V : RoadKit.Fld Z U.heap x ST "value" "[B" (.ref t)) (C : RoadKit.Fld Z U.heap x ST "coder" "B" (.int cd)) (K : RoadKit.Arv Z U.heap t kb .byte N2 vs (.int 0)) (hc : CodA cs cd N2 vs) (hb : ∀ c ∈ cs, ¬ c < 0 ∧ ¬ (65535 : Int32) < c) (l2 : cs.length ≤ 4000) :
    ∃ A, Txt x t A cd cs.length (fun j => cs.getD j 0) U := by
  obtain ⟨A, K1, K2, K3, K4, K5, K6⟩ := K
  have hcod := hc.cod (by omega) K3 K5
  obtain ⟨D, fV, fC, hB, F1, F2, g1, g2, -, -⟩ := strObj wi al E V C
  exact ⟨A, ⟨_, hB.2.2.1, D, hB.1, rfl, by cases q : D.vm <;> first | rfl | exact absurd q (hB.2.1.2 _)⟩, Has.of hB F1 g1, Has.of hB F2 g2, ⟨K1.1, State.isArrayOf_alike al K1.2.1, K1.2.2, by rcases hcod with ⟨-, q, -⟩ | ⟨-, q, -⟩ <;> omega⟩, hcod, fun j hj => by
    have e : cs.getD j 0 = cs[j] := by simp [List.getD_eq_getElem?_getD, hj]
    show ¬ cs.getD j 0 < 0 ∧ ¬ 65535 < cs.getD j 0
    rw [e]; exact hb _ (List.getElem_mem _)⟩
/-- **isEmpty() OF SUCH A STRING** -/
theorem empW {p : Program} {l : Launch} {e : Env} {R : Room} {s : State} {args : Array Value} {below : List Frame} {len W : Nat} {Z : State} {a0 : Array Value} {h : Heap} (hZ : Z.Warmed39 s.vm) (hw : ∀ d ∈ wordsEmp, d.before a0 Z = true) {kI : Nat} (wi : (Jvm.Cond.instantiable ST kI).before a0 Z = true)
    {x t : Addr} {kb : ClassId} {cs : List Int32} {cd N2 : Int32} {vs : List Value} (E : RoadKit.Exa Z h x ST) (V : RoadKit.Fld Z h x ST "value" "[B" (.ref t)) (C : RoadKit.Fld Z h x ST "coder" "B" (.int cd)) (K : RoadKit.Arv Z h t kb .byte N2 vs (.int 0)) (hc : CodA cs cd N2 vs) (hb : ∀ c ∈ cs, ¬ c < 0 ∧ ¬ (65535 : Int32) < c) (l2 : cs.length ≤ 4000) (hfr : 1 ≤ R.frames) (hlo : W + 12 ≤ R.locals) :
    Back l R p e below s args (⟨"java/lang/String", "isEmpty", "()Z"⟩ : MethodName) len W (fun P a => a = #[.ref x] ∧ P.U.heap = h ∧ P.cells + 0 ≤ R.cells ∧ P.slots + 0 ≤ R.slots)
      (fun P _ v B => ∃ L, (v = some (.int (if cs.length = 0 then 1 else 0)) ∧ L = [] ∧ B.U.heap = h) ∧ B.locs = P.locs ++ L ∧ B.cells = P.cells + 0 ∧ B.slots = P.slots + 0) := by
  intro m meth c P g ig mk a X hg hsize hdg hW hn hp'
  obtain ⟨rfl, rfl, r1, r2⟩ := hp'
  have al : Z.vm.Alike P.U.vm := hZ.alike.trans X.warmed.alike
  obtain ⟨A, hx⟩ := txt_of wi al E V C K hc hb l2
  obtain ⟨v, B, X', ⟨⟨hv, hh⟩, hl, hk, hs⟩, st⟩ := Emp.pays x t A cd cs.length (fun j => cs.getD j 0) (tabEmp_of (movedEmp hZ hw)) hfr hlo m meth c P g ig mk _ X hg hsize hdg hW hn ⟨r1, r2, rfl, hx⟩
  exact ⟨v, B, X', ⟨[], ⟨hv, rfl, hh⟩, hl, hk, hs⟩, st⟩
end StrChars.Road
namespace StrChars.Road
open Jvm Sem ClassFile Op Lib Jvm.Stand Jvm.Free Jvm.Free.XT
open Jvm.Lib.Cold (StaticIs)
/-- what backV says of its String, as the contracts of this text ask it: cs's low bytes, coder 0 -/
theorem codOf {cs : List Int32} {n : Nat} (hn : cs.length = n) (hb : ∀ c ∈ cs, ¬ 255 < c) : CodA cs 0 (Int32.ofNat n) ((cs.map lo8).map Value.int) := Or.inl ⟨rfl, by rw [hn], by simp [List.map_map, Function.comp_def], hb⟩
end StrChars.Road
end Jvm.Pilot.@@N@@
namespace Jvm.Pilot.@@N@@
open Jvm Jvm.ClassFile Sem Op Lib Jvm.Free Jvm.Stand Jvm.LawKit Jvm.RoadKit Jvm.Own Bundle Jvm.Pilot.@@N@@.Jvm.D
def Ctx (Z : State) (a0 : Array Value) (cz : Int32) (fm : Value) : Prop := (∀ d ∈ tables_1, d.before a0 Z = true) ∧ EW Z a0 consts_1 ∧ Sta Z Z.heap "java/lang/String" "COMPACT_STRINGS" "Z" (.int cz) ∧ ¬ cz = 0 ∧ Sta Z Z.heap "jdk/internal/util/Preconditions" "SIOOBE_FORMATTER" "Ljava/util/function/BiFunction;" fm ∧ fm.isRef = true
theorem own_pdC : parseMethodDescriptor "([C)V" = some ⟨[.array .char], none⟩ := by decide +kernel
theorem own_lo8 (v : Int32) : (v.toInt8.toInt32).toInt8.toInt32 = v.toInt8.toInt32 := by simp
theorem own_kd {x kd : Int32} (h : kd = (x &&& (2147483647 : Int32)) % (5 : Int32)) : ¬ kd < 0 := by
  have q1 := c_and x 2147483647 (by decide)
  have q2 := (c_irem (x &&& (2147483647 : Int32)) 5 5 (by decide)).1 q1.1
  have r : (0 : Int32).toInt = 0 := rfl
  subst h
  simp only [Int32.lt_iff_toInt_lt, r] at q1 q2 ⊢; omega
theorem own_k4 {kd a b c : Int32} (h : ¬ kd < 0) (h0 : ¬ kd = 0) (h1 : ¬ kd = 1) : ([a, b, c] : List Int32).length = 0 ↔ ¬ (1 : Int32) < kd := by
  have r : (0 : Int32).toInt = 0 := rfl
  have r1 : (1 : Int32).toInt = 1 := rfl
  have h0' : ¬ kd.toInt = 0 := fun q => h0 (Int32.toInt_inj.mp (by rw [q, r]))
  have h1' : ¬ kd.toInt = 1 := fun q => h1 (Int32.toInt_inj.mp (by rw [q, r1]))
  simp only [Int32.lt_iff_toInt_lt, r, r1, List.length_cons, List.length_nil] at h ⊢
  constructor
  · intro q; omega
  · intro q; omega
theorem own_wS {Z : State} {a0 : Array Value} (hw : ∀ d ∈ tables_1, d.before a0 Z = true) : ∀ d ∈ Bundle.stringAtoms, d.before a0 Z = true := fun d hd => hw d ((by decide +kernel : ∀ d ∈ Bundle.stringAtoms, d ∈ tables_1) d hd)
theorem own_words {Z : State} {a0 : Array Value} (hw : ∀ d ∈ tables_1, d.before a0 Z = true) : ∀ d ∈ StrChars.Road.words, d.before a0 Z = true := fun d hd => hw d ((by decide +kernel : ∀ d ∈ StrChars.Road.words, d ∈ tables_1) d hd)
theorem own_newStr {l : Launch} {Z : State} {a0 : Array Value} {cz : Int32} {fm : Value} (H : Ctx Z a0 cz fm) {p : Program} {e : Env} {R : Room} {s : State} {m : MethodId} {args : Array Value} {below : List Frame} {meth : Method} {c : Code} {own : String} {vm0 : Vm} {T : State} {h : Heap} {k n : Nat} {G : Outcome → State → Prop} {pc : Nat} {Ls : Array Slot} {rest : List Value}
    (X : OSt p l e R s m args below meth c own Z consts_1 vm0 T h k n) {x b : Addr} {kC : ClassId} {cs : List Int32} {d : Value} {N : Int32} {j : Nat} (hx0 : Z.heap.size ≤ x) (E : Exa Z h x "java/lang/String") (V : Fld Z h x "java/lang/String" "value" "[B" .null) (C : Fld Z h x "java/lang/String" "coder" "B" (.int (0 : Int32))) (K : Arv Z h b kC .char N (cs.map Value.int) d)
    (hN : N = Int32.ofNat cs.length) (hj : cs.length = j) (l0 : 0 < j) (l2 : j ≤ 4000) (hp : ∀ c ∈ cs, ¬ c < 0 ∧ ¬ (255 : Int32) < c) {index : Nat} (w1 : (Jvm.Cond.methodLink own index ⟨"java/lang/String", "<init>", "([C)V"⟩).before a0 Z = true) {W : Nat} (hfr : 4 ≤ R.frames) (hlo : W + 65 ≤ R.locals) (hsize : Ls.size = c.maxLocals) (hW : (rest.map fun v => v.category).sum ≤ W) (hd : decode c.code pc = .ok (.invokespecial index, 3)) (hk : k + 1 ≤ R.cells) (hn : n + j ≤ R.slots)
    (q : ∀ T' h', OSt p l e R s m args below meth c own Z consts_1 vm0 T' h' (k + 1) (n + j) → Keep h h' [x] → OStr Z h' x cs → OEnds p e below G T' (mkF m (pc + 3) Ls rest)) : OEnds p e below G T (mkF m pc Ls (.ref b :: .ref x :: rest)) := by
  obtain ⟨hw, hE, S0, hcz, -⟩ := id H
  refine X.payI (StrChars.Road.backV (W := W) (n0 := Z.heap.size) (s := s.setVm vm0) X.hZ (own_words hw) (kI := 4) (hw _ (List.mem_of_getElem? (i := 1) rfl)) (cs := cs) (bs := cs.map (fun c => c.toInt8.toInt32)) (n := j) hx0 X.old.1 E V C K (S0.ext X.old) hcz hj (by rw [hN, hj]) l0 l2 hp rfl hfr hlo) ?_ w1 (hw _ (List.mem_of_getElem? (i := 5) rfl)) (hw _ (List.mem_of_getElem? (i := 6) rfl)) rfl (by decide) (a := x) (argsL := [.ref b]) (rest := rest) rfl (lenOf own_pdC rfl) rfl hsize hW hd hk hn ?_
  · rintro v h' L ⟨q1, q2, q3, -⟩
    exact ⟨q2, ext_keep X.old q3 (allS hx0 all0), CHr.keep q3 (sfS (safe_blank X.al E V) sf0) X.chv⟩
  · rintro v T' h' L X' ⟨rfl, q2, q3, q4, q5, t, kb, -, -, -, q9, q10⟩
    subst hj
    exact q T' h' X' q3 ⟨q4, q5, ⟨t, kb, q9, by rw [hN] at q10; exact q10⟩, hp, l2⟩
theorem own_wEmp {Z : State} {a0 : Array Value} (hw : ∀ d ∈ tables_1, d.before a0 Z = true) : ∀ d ∈ StrChars.Road.wordsEmp, d.before a0 Z = true := fun d hd => hw d ((by decide +kernel : ∀ d ∈ StrChars.Road.wordsEmp, d ∈ tables_1) d hd)
theorem own_emp {l : Launch} {Z : State} {a0 : Array Value} {cz : Int32} {fm : Value} (H : Ctx Z a0 cz fm) {p : Program} {e : Env} {R : Room} {s : State} {args : Array Value} {below : List Frame} {vm0 : Vm} {h : Heap} (hZ : Z.Warmed39 vm0) (hO : Ext Z.heap h) {x : Addr} {cs : List Int32} {W : Nat} (F : OStr Z h x cs) (hfr : 1 ≤ R.frames) (hlo : W + 12 ≤ R.locals) : Back l R p e below (s.setVm vm0) args ⟨"java/lang/String", "isEmpty", "()Z"⟩ 3 W (PreB R #[.ref x] h 0 0) (PostB (fun v h' L => v = some (.int (if cs.length = 0 then 1 else 0)) ∧ L = [] ∧ h' = h) 0 0) := by
  obtain ⟨hw, hE, S0, hcz, S1, rf⟩ := id H
  obtain ⟨F1, F2, ⟨t, kb, F3, F4⟩, F5, F6⟩ := F
  exact StrChars.Road.empW (W := W) (s := s.setVm vm0) hZ (own_wEmp hw) (kI := 4) (hw _ (List.mem_of_getElem? (i := 1) rfl)) F1 F3 F2 F4 (StrChars.Road.codOf rfl (fun c hc => (F5 c hc).2)) (fun c hc => up255 (F5 c hc)) F6 hfr hlo
theorem own_pn0 : plainName "java/lang/String" = true := by first | (simp [plainName, overriddenIn]; done) | decide +kernel
theorem own_ef0 (m : MethodId) (x0 : Addr) (x1 : Addr) (x2 : Int32) (x3 : Int32)  : entryFrame m #[(.ref x0), (.ref x1), (.int x2), (.int x3), (.null)] 6 = mkF m 0 #[.val (.ref x0), .val (.ref x1), .val (.int x2), .val (.int x3), .val (.null), .unset] [] := by first | (simp [entryFrame, mkF, argsToLocals, Value.category]; done) | rfl
theorem d_jdk_42_method_149_0 : decode jdk_42_method_149_code 0 = .ok (.aload_n 0, 1) := by decide +kernel
theorem d_jdk_42_method_149_1 : decode jdk_42_method_149_code 1 = .ok (.invokespecial 1, 3) := by decide +kernel
theorem d_jdk_42_method_149_4 : decode jdk_42_method_149_code 4 = .ok (.iload_n 3, 1) := by decide +kernel
theorem d_jdk_42_method_149_5 : decode jdk_42_method_149_code 5 = .ok (.ifCond .ne 22, 3) := by decide +kernel
theorem d_jdk_42_method_149_8 : decode jdk_42_method_149_code 8 = .ok (.aload_n 0, 1) := by decide +kernel
theorem d_jdk_42_method_149_9 : decode jdk_42_method_149_code 9 = .ok (.ldc 7, 2) := by decide +kernel
theorem d_jdk_42_method_149_11 : decode jdk_42_method_149_code 11 = .ok (.getfield 9, 3) := by decide +kernel
theorem d_jdk_42_method_149_14 : decode jdk_42_method_149_code 14 = .ok (.putfield 9, 3) := by decide +kernel
theorem d_jdk_42_method_149_17 : decode jdk_42_method_149_code 17 = .ok (.aload_n 0, 1) := by decide +kernel
theorem d_jdk_42_method_149_18 : decode jdk_42_method_149_code 18 = .ok (.ldc 7, 2) := by decide +kernel
theorem d_jdk_42_method_149_20 : decode jdk_42_method_149_code 20 = .ok (.getfield 15, 3) := by decide +kernel
theorem d_jdk_42_method_149_23 : decode jdk_42_method_149_code 23 = .ok (.putfield 15, 3) := by decide +kernel
theorem d_jdk_42_method_149_26 : decode jdk_42_method_149_code 26 = .ok (.return_, 1) := by decide +kernel
theorem own_ef1 (m : MethodId) (x0 : Addr) (x1 : Addr)  : entryFrame m #[(.ref x0), (.ref x1)] 2 = mkF m 0 #[.val (.ref x0), .val (.ref x1)] [] := by first | (simp [entryFrame, mkF, argsToLocals, Value.category]; done) | rfl
theorem d_jdk_42_method_3_0 : decode jdk_42_method_3_code 0 = .ok (.aload_n 0, 1) := by decide +kernel
theorem d_jdk_42_method_3_1 : decode jdk_42_method_3_code 1 = .ok (.aload_n 1, 1) := by decide +kernel
theorem d_jdk_42_method_3_2 : decode jdk_42_method_3_code 2 = .ok (.iconst 0, 1) := by decide +kernel
theorem d_jdk_42_method_3_3 : decode jdk_42_method_3_code 3 = .ok (.aload_n 1, 1) := by decide +kernel
theorem d_jdk_42_method_3_4 : decode jdk_42_method_3_code 4 = .ok (.arraylength, 1) := by decide +kernel
theorem d_jdk_42_method_3_5 : decode jdk_42_method_3_code 5 = .ok (.aconst_null, 1) := by decide +kernel
theorem own_pd0 : parseMethodDescriptor "([CIILjava/lang/Void;)V" = some ⟨[(FieldType.array FieldType.char), FieldType.int, FieldType.int, (FieldType.object "java/lang/Void")], none⟩ := by decide +kernel
theorem d_jdk_42_method_3_6 : decode jdk_42_method_3_code 6 = .ok (.invokespecial 27, 3) := by decide +kernel
theorem d_jdk_42_method_3_9 : decode jdk_42_method_3_code 9 = .ok (.return_, 1) := by decide +kernel
theorem own_pn1 : plainName "java/lang/StringLatin1" = true := by first | (simp [plainName, overriddenIn]; done) | decide +kernel
theorem own_ef2 (m : MethodId) (x0 : Int32)  : entryFrame m #[(.int x0)] 1 = mkF m 0 #[.val (.int x0)] [] := by first | (simp [entryFrame, mkF, argsToLocals, Value.category]; done) | rfl
theorem d_jdk_43_method_3_0 : decode jdk_43_method_3_code 0 = .ok (.iload_n 0, 1) := by decide +kernel
theorem d_jdk_43_method_3_1 : decode jdk_43_method_3_code 1 = .ok (.sipush 255, 3) := by decide +kernel
theorem d_jdk_43_method_3_4 : decode jdk_43_method_3_code 4 = .ok (.if_icmp .gt 7, 3) := by decide +kernel
theorem d_jdk_43_method_3_7 : decode jdk_43_method_3_code 7 = .ok (.iconst 1, 1) := by decide +kernel
theorem d_jdk_43_method_3_8 : decode jdk_43_method_3_code 8 = .ok (.goto 4, 3) := by decide +kernel
theorem d_jdk_43_method_3_12 : decode jdk_43_method_3_code 12 = .ok (.ireturn, 1) := by decide +kernel
theorem d_jdk_43_method_46_0 : decode jdk_43_method_46_code 0 = .ok (.iconst 1, 1) := by decide +kernel
theorem d_jdk_43_method_46_1 : decode jdk_43_method_46_code 1 = .ok (.newarray .byte, 2) := by decide +kernel
theorem d_jdk_43_method_46_3 : decode jdk_43_method_46_code 3 = .ok (.dup, 1) := by decide +kernel
theorem d_jdk_43_method_46_4 : decode jdk_43_method_46_code 4 = .ok (.iconst 0, 1) := by decide +kernel
theorem d_jdk_43_method_46_5 : decode jdk_43_method_46_code 5 = .ok (.iload_n 0, 1) := by decide +kernel
theorem d_jdk_43_method_46_6 : decode jdk_43_method_46_code 6 = .ok (.i2b, 1) := by decide +kernel
theorem d_jdk_43_method_46_7 : decode jdk_43_method_46_code 7 = .ok (.bastore, 1) := by decide +kernel
theorem d_jdk_43_method_46_8 : decode jdk_43_method_46_code 8 = .ok (.areturn, 1) := by decide +kernel
theorem own_ef3 (m : MethodId) (x0 : Addr) (x1 : Addr) (x2 : Int32)  : entryFrame m #[(.ref x0), (.ref x1), (.int x2)] 3 = mkF m 0 #[.val (.ref x0), .val (.ref x1), .val (.int x2)] [] := by first | (simp [entryFrame, mkF, argsToLocals, Value.category]; done) | rfl
theorem d_jdk_42_method_151_0 : decode jdk_42_method_151_code 0 = .ok (.aload_n 0, 1) := by decide +kernel
theorem d_jdk_42_method_151_1 : decode jdk_42_method_151_code 1 = .ok (.invokespecial 1, 3) := by decide +kernel
theorem d_jdk_42_method_151_4 : decode jdk_42_method_151_code 4 = .ok (.aload_n 0, 1) := by decide +kernel
theorem d_jdk_42_method_151_5 : decode jdk_42_method_151_code 5 = .ok (.aload_n 1, 1) := by decide +kernel
theorem d_jdk_42_method_151_6 : decode jdk_42_method_151_code 6 = .ok (.putfield 9, 3) := by decide +kernel
theorem d_jdk_42_method_151_9 : decode jdk_42_method_151_code 9 = .ok (.aload_n 0, 1) := by decide +kernel
theorem d_jdk_42_method_151_10 : decode jdk_42_method_151_code 10 = .ok (.iload_n 2, 1) := by decide +kernel
theorem d_jdk_42_method_151_11 : decode jdk_42_method_151_code 11 = .ok (.putfield 15, 3) := by decide +kernel
theorem d_jdk_42_method_151_14 : decode jdk_42_method_151_code 14 = .ok (.return_, 1) := by decide +kernel
theorem d_jdk_42_method_139_0 : decode jdk_42_method_139_code 0 = .ok (.getstatic 38, 3) := by decide +kernel
theorem d_jdk_42_method_139_3 : decode jdk_42_method_139_code 3 = .ok (.ifCond .eq 23, 3) := by decide +kernel
theorem d_jdk_42_method_139_6 : decode jdk_42_method_139_code 6 = .ok (.iload_n 0, 1) := by decide +kernel
theorem own_pd1 : parseMethodDescriptor "(C)Z" = some ⟨[FieldType.char], some FieldType.boolean⟩ := by decide +kernel
theorem d_jdk_42_method_139_7 : decode jdk_42_method_139_code 7 = .ok (.invokestatic 1015, 3) := by decide +kernel
theorem d_jdk_42_method_139_10 : decode jdk_42_method_139_code 10 = .ok (.ifCond .eq 16, 3) := by decide +kernel
theorem d_jdk_42_method_139_13 : decode jdk_42_method_139_code 13 = .ok (.new 10, 3) := by decide +kernel
theorem d_jdk_42_method_139_16 : decode jdk_42_method_139_code 16 = .ok (.dup, 1) := by decide +kernel
theorem d_jdk_42_method_139_17 : decode jdk_42_method_139_code 17 = .ok (.iload_n 0, 1) := by decide +kernel
theorem own_pd2 : parseMethodDescriptor "(C)[B" = some ⟨[FieldType.char], some (FieldType.array FieldType.byte)⟩ := by decide +kernel
theorem d_jdk_42_method_139_18 : decode jdk_42_method_139_code 18 = .ok (.invokestatic 1018, 3) := by decide +kernel
theorem d_jdk_42_method_139_21 : decode jdk_42_method_139_code 21 = .ok (.iconst 0, 1) := by decide +kernel
theorem own_pd3 : parseMethodDescriptor "([BB)V" = some ⟨[(FieldType.array FieldType.byte), FieldType.byte], none⟩ := by decide +kernel
theorem d_jdk_42_method_139_22 : decode jdk_42_method_139_code 22 = .ok (.invokespecial 209, 3) := by decide +kernel
theorem d_jdk_42_method_139_25 : decode jdk_42_method_139_code 25 = .ok (.areturn, 1) := by decide +kernel
theorem own_pn2 : plainName "java/lang/Record" = true := by first | (simp [plainName, overriddenIn]; done) | decide +kernel
theorem own_ef4 (m : MethodId) (x0 : Addr)  : entryFrame m #[(.ref x0)] 1 = mkF m 0 #[.val (.ref x0)] [] := by first | (simp [entryFrame, mkF, argsToLocals, Value.category]; done) | rfl
theorem d_jdk_30_method_1_0 : decode jdk_30_method_1_code 0 = .ok (.aload_n 0, 1) := by decide +kernel
theorem d_jdk_30_method_1_1 : decode jdk_30_method_1_code 1 = .ok (.invokespecial 1, 3) := by decide +kernel
theorem d_jdk_30_method_1_4 : decode jdk_30_method_1_code 4 = .ok (.return_, 1) := by decide +kernel
theorem own_pn3 : plainName "com/example/vouchgate/vouchgate/token/SealedToken" = true := by first | (simp [plainName, overriddenIn]; done) | decide +kernel
theorem own_ef5 (m : MethodId) (x0 : Addr) (x1 : Value) (x2 : Value) (x3 : Value) (r1 : x1.isRef = true) (r2 : x2.isRef = true) (r3 : x3.isRef = true) : entryFrame m #[(.ref x0), (x1), (x2), (x3)] 4 = mkF m 0 #[.val (.ref x0), .val (x1), .val (x2), .val (x3)] [] := by rcases ref_cases r1 with rfl | ⟨_, rfl⟩ <;> rcases ref_cases r2 with rfl | ⟨_, rfl⟩ <;> rcases ref_cases r3 with rfl | ⟨_, rfl⟩ <;> first | (simp [entryFrame, mkF, argsToLocals, Value.category]; done) | rfl
theorem d_prog_46_method_1_0 : decode prog_46_method_1_code 0 = .ok (.aload_n 0, 1) := by decide +kernel
theorem own_pd4 : parseMethodDescriptor "()V" = some ⟨[], none⟩ := by decide +kernel
theorem d_prog_46_method_1_1 : decode prog_46_method_1_code 1 = .ok (.invokespecial 1, 3) := by decide +kernel
theorem d_prog_46_method_1_4 : decode prog_46_method_1_code 4 = .ok (.aload_n 0, 1) := by decide +kernel
theorem d_prog_46_method_1_5 : decode prog_46_method_1_code 5 = .ok (.aload_n 1, 1) := by decide +kernel
theorem d_prog_46_method_1_6 : decode prog_46_method_1_code 6 = .ok (.putfield 7, 3) := by decide +kernel
theorem d_prog_46_method_1_9 : decode prog_46_method_1_code 9 = .ok (.aload_n 0, 1) := by decide +kernel
theorem d_prog_46_method_1_10 : decode prog_46_method_1_code 10 = .ok (.aload_n 2, 1) := by decide +kernel
theorem d_prog_46_method_1_11 : decode prog_46_method_1_code 11 = .ok (.putfield 13, 3) := by decide +kernel
theorem d_prog_46_method_1_14 : decode prog_46_method_1_code 14 = .ok (.aload_n 0, 1) := by decide +kernel
theorem d_prog_46_method_1_15 : decode prog_46_method_1_code 15 = .ok (.aload_n 3, 1) := by decide +kernel
theorem d_prog_46_method_1_16 : decode prog_46_method_1_code 16 = .ok (.putfield 16, 3) := by decide +kernel
theorem d_prog_46_method_1_19 : decode prog_46_method_1_code 19 = .ok (.return_, 1) := by decide +kernel
theorem d_prog_46_method_2_0 : decode prog_46_method_2_code 0 = .ok (.aload_n 0, 1) := by decide +kernel
theorem d_prog_46_method_2_1 : decode prog_46_method_2_code 1 = .ok (.getfield 7, 3) := by decide +kernel
theorem d_prog_46_method_2_4 : decode prog_46_method_2_code 4 = .ok (.ifnull 13, 3) := by decide +kernel
theorem d_prog_46_method_2_17 : decode prog_46_method_2_code 17 = .ok (.iconst 1, 1) := by decide +kernel
theorem d_prog_46_method_2_18 : decode prog_46_method_2_code 18 = .ok (.goto 4, 3) := by decide +kernel
theorem d_prog_46_method_2_22 : decode prog_46_method_2_code 22 = .ok (.ireturn, 1) := by decide +kernel
theorem d_prog_46_method_2_7 : decode prog_46_method_2_code 7 = .ok (.aload_n 0, 1) := by decide +kernel
theorem d_prog_46_method_2_8 : decode prog_46_method_2_code 8 = .ok (.getfield 7, 3) := by decide +kernel
theorem own_pd5 : parseMethodDescriptor "()Z" = some ⟨[], some FieldType.boolean⟩ := by decide +kernel
theorem d_prog_46_method_2_11 : decode prog_46_method_2_code 11 = .ok (.invokevirtual 19, 3) := by decide +kernel
theorem d_prog_46_method_2_14 : decode prog_46_method_2_code 14 = .ok (.ifCond .eq 7, 3) := by decide +kernel
theorem d_prog_46_method_2_21 : decode prog_46_method_2_code 21 = .ok (.iconst 0, 1) := by decide +kernel
theorem own_pn4 : plainName "com/example/vouchgate/vouchgate/token/SealedTokenIsMissingPinLaw" = true := by first | (simp [plainName, overriddenIn]; done) | decide +kernel
theorem own_ef6 (m : MethodId) (x0 : Int32)  : entryFrame m #[(.int x0)] 3 = mkF m 0 #[.val (.int x0), .unset, .unset] [] := by first | (simp [entryFrame, mkF, argsToLocals, Value.category]; done) | rfl
theorem d_method_3_0 : decode method_3_code 0 = .ok (.iload_n 0, 1) := by decide +kernel
theorem d_method_3_1 : decode method_3_code 1 = .ok (.iconst 3, 1) := by decide +kernel
theorem d_method_3_2 : decode method_3_code 2 = .ok (.iand, 1) := by decide +kernel
theorem d_method_3_3 : decode method_3_code 3 = .ok (.istore_n 1, 1) := by decide +kernel
theorem d_method_3_4 : decode method_3_code 4 = .ok (.iload_n 0, 1) := by decide +kernel
theorem d_method_3_5 : decode method_3_code 5 = .ok (.iconst 2, 1) := by decide +kernel
theorem d_method_3_6 : decode method_3_code 6 = .ok (.iushr, 1) := by decide +kernel
theorem d_method_3_7 : decode method_3_code 7 = .ok (.sipush 255, 3) := by decide +kernel
theorem d_method_3_10 : decode method_3_code 10 = .ok (.iand, 1) := by decide +kernel
theorem d_method_3_11 : decode method_3_code 11 = .ok (.i2c, 1) := by decide +kernel
theorem d_method_3_12 : decode method_3_code 12 = .ok (.istore_n 2, 1) := by decide +kernel
theorem d_method_3_13 : decode method_3_code 13 = .ok (.iload_n 1, 1) := by decide +kernel
theorem d_method_3_14 : decode method_3_code 14 = .ok (.ifCond .ne 5, 3) := by decide +kernel
theorem d_method_3_17 : decode method_3_code 17 = .ok (.aconst_null, 1) := by decide +kernel
theorem d_method_3_18 : decode method_3_code 18 = .ok (.areturn, 1) := by decide +kernel
theorem d_method_3_19 : decode method_3_code 19 = .ok (.iload_n 1, 1) := by decide +kernel
theorem d_method_3_20 : decode method_3_code 20 = .ok (.iconst 1, 1) := by decide +kernel
theorem d_method_3_21 : decode method_3_code 21 = .ok (.if_icmp .ne 14, 3) := by decide +kernel
theorem d_method_3_24 : decode method_3_code 24 = .ok (.new 7, 3) := by decide +kernel
theorem d_method_3_27 : decode method_3_code 27 = .ok (.dup, 1) := by decide +kernel
theorem d_method_3_28 : decode method_3_code 28 = .ok (.iconst 0, 1) := by decide +kernel
theorem d_method_3_29 : decode method_3_code 29 = .ok (.newarray .char, 2) := by decide +kernel
theorem own_pd6 : parseMethodDescriptor "([C)V" = some ⟨[(FieldType.array FieldType.char)], none⟩ := by decide +kernel
theorem d_method_3_31 : decode method_3_code 31 = .ok (.invokespecial 9, 3) := by decide +kernel
theorem d_method_3_34 : decode method_3_code 34 = .ok (.areturn, 1) := by decide +kernel
theorem d_method_3_35 : decode method_3_code 35 = .ok (.iload_n 1, 1) := by decide +kernel
theorem d_method_3_36 : decode method_3_code 36 = .ok (.iconst 2, 1) := by decide +kernel
theorem d_method_3_37 : decode method_3_code 37 = .ok (.if_icmp .ne 8, 3) := by decide +kernel
theorem d_method_3_40 : decode method_3_code 40 = .ok (.iload_n 2, 1) := by decide +kernel
theorem own_pd7 : parseMethodDescriptor "(C)Ljava/lang/String;" = some ⟨[FieldType.char], some (FieldType.object "java/lang/String")⟩ := by decide +kernel
theorem d_method_3_41 : decode method_3_code 41 = .ok (.invokestatic 28, 3) := by decide +kernel
theorem d_method_3_44 : decode method_3_code 44 = .ok (.areturn, 1) := by decide +kernel
theorem d_method_3_45 : decode method_3_code 45 = .ok (.new 7, 3) := by decide +kernel
theorem d_method_3_48 : decode method_3_code 48 = .ok (.dup, 1) := by decide +kernel
theorem d_method_3_49 : decode method_3_code 49 = .ok (.iconst 2, 1) := by decide +kernel
theorem d_method_3_50 : decode method_3_code 50 = .ok (.newarray .char, 2) := by decide +kernel
theorem d_method_3_52 : decode method_3_code 52 = .ok (.dup, 1) := by decide +kernel
theorem d_method_3_53 : decode method_3_code 53 = .ok (.iconst 0, 1) := by decide +kernel
theorem d_method_3_54 : decode method_3_code 54 = .ok (.iload_n 2, 1) := by decide +kernel
theorem d_method_3_55 : decode method_3_code 55 = .ok (.castore, 1) := by decide +kernel
theorem d_method_3_56 : decode method_3_code 56 = .ok (.dup, 1) := by decide +kernel
theorem d_method_3_57 : decode method_3_code 57 = .ok (.iconst 1, 1) := by decide +kernel
theorem d_method_3_58 : decode method_3_code 58 = .ok (.iload_n 2, 1) := by decide +kernel
theorem d_method_3_59 : decode method_3_code 59 = .ok (.castore, 1) := by decide +kernel
theorem d_method_3_60 : decode method_3_code 60 = .ok (.invokespecial 9, 3) := by decide +kernel
theorem d_method_3_63 : decode method_3_code 63 = .ok (.areturn, 1) := by decide +kernel
theorem own_ef7 (m : MethodId) (x0 : Int32) (x1 : Int32) (x2 : Int32) (x3 : Int32) (x4 : Int32) (x5 : Int32)  : entryFrame m #[(.int x0), (.int x1), (.int x2), (.int x3), (.int x4), (.int x5)] 19 = mkF m 0 #[.val (.int x0), .val (.int x1), .val (.int x2), .val (.int x3), .val (.int x4), .val (.int x5), .unset, .unset, .unset, .unset, .unset, .unset, .unset, .unset, .unset, .unset, .unset, .unset, .unset] [] := by first | (simp [entryFrame, mkF, argsToLocals, Value.category]; done) | rfl
theorem own_pd8 : parseMethodDescriptor "(I)Ljava/lang/String;" = some ⟨[FieldType.int], some (FieldType.object "java/lang/String")⟩ := by decide +kernel
theorem own_pd9 : parseMethodDescriptor "(Ljava/lang/String;Ljava/lang/String;Ljava/lang/String;)V" = some ⟨[(FieldType.object "java/lang/String"), (FieldType.object "java/lang/String"), (FieldType.object "java/lang/String")], none⟩ := by decide +kernel
theorem con_new4e {l : Launch} {Z : State} {a0 : Array Value} {cz : Int32} {fm : Value} (H : Ctx Z a0 cz fm) (x b : Addr) (gzx : Z.heap.size ≤ x) (h0 : Heap) (Ax : Exa Z h0 x "java/lang/String") (Fx_value : Fld Z h0 x "java/lang/String" "value" "[B" .null) (Fx_coder : Fld Z h0 x "java/lang/String" "coder" "B" (.int (0 : Int32))) :
    ConX l Z consts_1 (⟨"java/lang/String", "<init>", "([CIILjava/lang/Void;)V"⟩ : MethodName) jdk_42_method_149_code 6 (none : Option FieldType) [] ({ frames := 1, cells := 4, slots := 8, locals := 12 } : Room) #[(.ref x), (.ref b), (.int (0 : Int32)), (.int (0 : Int32)), (.null)] h0 (fun r h => r = none ∧ Keep h0 h [x] ∧ OStr Z h x []) := by
  obtain ⟨hw, hE, S0, hcz, S1, rf⟩ := id H
  refine ConX.of (plainFor_of_name own_pn0) ?_
  intro p e s m below meth c T hby hml hret hlk hnm X0
  have EX0 := ext_refl h0
  refine OEnds.cast (own_ef0 m x b (0 : Int32) (0 : Int32) ) ?_
  show OEnds p e below _ T (mkF m 0 #[.val (.ref x), .val (.ref b), .val (.int (0 : Int32)), .val (.int (0 : Int32)), .val (.null), .unset] [])
  have K0 := Keep.refl h0 [x]
  refine OEnds.go (fun _ q => XS.aloadN X0.here X0.hx rfl (hb hby d_jdk_42_method_149_0) rfl rfl q) ?_
  show OEnds p e below _ T (mkF m 1 #[.val (.ref x), .val (.ref b), .val (.int (0 : Int32)), .val (.int (0 : Int32)), .val (.null), .unset] [(.ref x)])
  refine X0.initO (hw _ (List.mem_of_getElem? (i := 11) rfl)) (hw _ (List.mem_of_getElem? (i := 12) rfl)) (hw _ (List.mem_of_getElem? (i := 13) rfl)) (by rw [hml]; rfl) (hb hby d_jdk_42_method_149_1) (by decide) (W := 0) (Nat.le_of_eq rfl) (by decide) ?_
  intro T1 X2
  show OEnds p e below _ T1 (mkF m 4 #[.val (.ref x), .val (.ref b), .val (.int (0 : Int32)), .val (.int (0 : Int32)), .val (.null), .unset] [])
  refine OEnds.go (fun _ q => XS.iloadN X2.here X2.hx rfl (hb hby d_jdk_42_method_149_4) rfl q) ?_
  show OEnds p e below _ T1 (mkF m 5 #[.val (.ref x), .val (.ref b), .val (.int (0 : Int32)), .val (.int (0 : Int32)), .val (.null), .unset] [(.int (0 : Int32))])
  refine OEnds.go (fun _ q => XS.ifNo X2.here X2.hx rfl (hb hby d_jdk_42_method_149_5) rfl ((if0 _ _).trans (teq (rfl : (0 : Int32) = 0)).2) q) ?_
  show OEnds p e below _ T1 (mkF m 8 #[.val (.ref x), .val (.ref b), .val (.int (0 : Int32)), .val (.int (0 : Int32)), .val (.null), .unset] [])
  refine OEnds.go (fun _ q => XS.aloadN X2.here X2.hx rfl (hb hby d_jdk_42_method_149_8) rfl rfl q) ?_
  show OEnds p e below _ T1 (mkF m 9 #[.val (.ref x), .val (.ref b), .val (.int (0 : Int32)), .val (.int (0 : Int32)), .val (.null), .unset] [(.ref x)])
  have Sfx := safe_blank (EL := consts_1) X2.al Ax Fx_value
  refine X2.ldcR hE (hw _ (List.mem_of_getElem? (i := 14) rfl)) (own_wS hw) (List.mem_of_getElem? (i := 0) rfl) (vs := []) (z := 0) ⟨by decide, rfl⟩ (by decide) (by decide) (hb hby d_jdk_42_method_149_9) (j := 0) (by decide) (by decide) (by decide) (by decide) ?_
  intro vm3 T4 h5 a6 a7 ka7 X8 E9 C10 Aa6 Ca6 Va6 Ka7 ne11
  have Sf12 := C10.safe Ax.lt Sfx
  have Ax_h5 := Ax.ext E9
  have Fx_value_h5 := Fx_value.ext E9
  have Fx_coder_h5 := Fx_coder.ext E9
  have EX_h5 := ext_trans EX0 E9
  have Kpx_h5 := K0.ext E9
  show OEnds p e below _ T4 (mkF m 11 #[.val (.ref x), .val (.ref b), .val (.int (0 : Int32)), .val (.int (0 : Int32)), .val (.null), .unset] [(.ref a6), (.ref x)])
  refine X8.getF (hw _ (List.mem_of_getElem? (i := 20) rfl)) Via.refl Va6 (hb hby d_jdk_42_method_149_11) ?_
  intro T13 X14
  show OEnds p e below _ T13 (mkF m 14 #[.val (.ref x), .val (.ref b), .val (.int (0 : Int32)), .val (.int (0 : Int32)), .val (.null), .unset] [(.ref a7), (.ref x)])
  refine X14.putF (v := (.ref a7)) (hw _ (List.mem_of_getElem? (i := 20) rfl)) Via.refl Fx_value_h5 Ax_h5 (Or.inr ⟨(hw _ (List.mem_of_getElem? (i := 16) rfl)), rfl, hnm⟩) (hw _ (List.mem_of_getElem? (i := 1) rfl)) (ty := (FieldType.array FieldType.byte)) (by decide) rfl rfl Sf12 gzx (hb hby d_jdk_42_method_149_14) ?_
  intro T15 h17 X16 W18
  have Fx_value_h17 := Fx_value_h5.same W18
  have Ax_h17 := Ax_h5.wr W18
  have Fx_coder_h17 := Fx_coder_h5.other W18 (Or.inr (slot_ne (a0 := a0) (Or.inr (hw _ (List.mem_of_getElem? (i := 17) rfl))) (Or.inr (hw _ (List.mem_of_getElem? (i := 16) rfl))) (by decide) (t := FieldType.byte) (by decide) (t' := (FieldType.array FieldType.byte)) (by decide)))
  have K19 := Kpx_h5.wr W18 (Or.inl (List.mem_of_getElem? (i := 0) rfl))
  have Sf20 := Safe.wr W18 Sf12 X14.chv Sf12
  have Aa6_h17 := Aa6.wr W18
  have Ca6_h17 := Ca6.other W18 (Or.inl ((ne11 _ Sf12).1.symm))
  have Va6_h17 := Va6.other W18 (Or.inl ((ne11 _ Sf12).1.symm))
  have Ka7_h17 := Ka7.other W18 ((ne11 _ Sf12).2.symm)
  show OEnds p e below _ T15 (mkF m 17 #[.val (.ref x), .val (.ref b), .val (.int (0 : Int32)), .val (.int (0 : Int32)), .val (.null), .unset] [])
  refine OEnds.go (fun _ q => XS.aloadN X16.here X16.hx rfl (hb hby d_jdk_42_method_149_17) rfl rfl q) ?_
  show OEnds p e below _ T15 (mkF m 18 #[.val (.ref x), .val (.ref b), .val (.int (0 : Int32)), .val (.int (0 : Int32)), .val (.null), .unset] [(.ref x)])
  refine X16.ldcR hE (hw _ (List.mem_of_getElem? (i := 14) rfl)) (own_wS hw) (List.mem_of_getElem? (i := 0) rfl) (vs := []) (z := 0) ⟨by decide, rfl⟩ (by decide) (by decide) (hb hby d_jdk_42_method_149_18) (j := 0) (by decide) (by decide) (by decide) (by decide) ?_
  intro vm21 T22 h23 a24 a25 ka25 X26 E27 C28 Aa24 Ca24 Va24 Ka25 ne29
  have Sf30 := C28.safe Ax_h17.lt Sf20
  have Aa6_h23 := Aa6_h17.ext E27
  have Ca6_h23 := Ca6_h17.ext E27
  have Va6_h23 := Va6_h17.ext E27
  have Ka7_h23 := Ka7_h17.ext E27
  have Fx_value_h23 := Fx_value_h17.ext E27
  have Ax_h23 := Ax_h17.ext E27
  have Fx_coder_h23 := Fx_coder_h17.ext E27
  have Kpx_h23 := K19.ext E27
  show OEnds p e below _ T22 (mkF m 20 #[.val (.ref x), .val (.ref b), .val (.int (0 : Int32)), .val (.int (0 : Int32)), .val (.null), .unset] [(.ref a24), (.ref x)])
  refine X26.getF (hw _ (List.mem_of_getElem? (i := 21) rfl)) Via.refl Ca24 (hb hby d_jdk_42_method_149_20) ?_
  intro T31 X32
  show OEnds p e below _ T31 (mkF m 23 #[.val (.ref x), .val (.ref b), .val (.int (0 : Int32)), .val (.int (0 : Int32)), .val (.null), .unset] [(.int (0 : Int32)), (.ref x)])
  refine X32.putF (v := (.int (0 : Int32))) (hw _ (List.mem_of_getElem? (i := 21) rfl)) Via.refl Fx_coder_h23 Ax_h23 (Or.inr ⟨(hw _ (List.mem_of_getElem? (i := 17) rfl)), rfl, hnm⟩) (hw _ (List.mem_of_getElem? (i := 1) rfl)) (ty := FieldType.byte) (by decide) rfl rfl Sf30 gzx (hb hby d_jdk_42_method_149_23) ?_
  intro T33 h35 X34 W36
  have Fx_coder_h35 := Fx_coder_h23.same W36
  have Ax_h35 := Ax_h23.wr W36
  have Fx_value_h35 := Fx_value_h23.other W36 (Or.inr (slot_ne (a0 := a0) (Or.inr (hw _ (List.mem_of_getElem? (i := 16) rfl))) (Or.inr (hw _ (List.mem_of_getElem? (i := 17) rfl))) (by decide) (t := (FieldType.array FieldType.byte)) (by decide) (t' := FieldType.byte) (by decide)))
  have K37 := Kpx_h23.wr W36 (Or.inl (List.mem_of_getElem? (i := 0) rfl))
  have Sf38 := Safe.wr W36 Sf30 X32.chv Sf30
  have Aa6_h35 := Aa6_h23.wr W36
  have Ca6_h35 := Ca6_h23.other W36 (Or.inl ((ne11 _ Sf12).1.symm))
  have Va6_h35 := Va6_h23.other W36 (Or.inl ((ne11 _ Sf12).1.symm))
  have Ka7_h35 := Ka7_h23.other W36 ((ne11 _ Sf12).2.symm)
  have Aa24_h35 := Aa24.wr W36
  have Ca24_h35 := Ca24.other W36 (Or.inl ((ne29 _ Sf30).1.symm))
  have Va24_h35 := Va24.other W36 (Or.inl ((ne29 _ Sf30).1.symm))
  have Ka25_h35 := Ka25.other W36 ((ne29 _ Sf30).2.symm)
  show OEnds p e below _ T33 (mkF m 26 #[.val (.ref x), .val (.ref b), .val (.int (0 : Int32)), .val (.int (0 : Int32)), .val (.null), .unset] [])
  exact X34.ret0 hE hlk  hret (hb hby d_jdk_42_method_149_26) (by decide) (by decide) ⟨rfl, K37, Ax_h35, Fx_coder_h35, ⟨a7, ka7, Fx_value_h35, Ka7_h35⟩, all_nil, by decide⟩
theorem con_strE {l : Launch} {Z : State} {a0 : Array Value} {cz : Int32} {fm : Value} (H : Ctx Z a0 cz fm) (x b : Addr) (kC : ClassId) (dv : Value) (gzx : Z.heap.size ≤ x) (h0 : Heap) (Ax : Exa Z h0 x "java/lang/String") (Fx_value : Fld Z h0 x "java/lang/String" "value" "[B" .null) (Fx_coder : Fld Z h0 x "java/lang/String" "coder" "B" (.int (0 : Int32))) (Kb : Arv Z h0 b kC .char (0 : Int32) [] dv) :
    ConX l Z consts_1 (⟨"java/lang/String", "<init>", "([C)V"⟩ : MethodName) jdk_42_method_3_code 2 (none : Option FieldType) [] ({ frames := 2, cells := 4, slots := 8, locals := 29 } : Room) #[(.ref x), (.ref b)] h0 (fun r h => r = none ∧ Keep h0 h [x] ∧ OStr Z h x []) := by
  obtain ⟨hw, hE, S0, hcz, S1, rf⟩ := id H
  refine ConX.of (plainFor_of_name own_pn0) ?_
  intro p e s m below meth c T hby hml hret hlk hnm X0
  have EX0 := ext_refl h0
  refine OEnds.cast (own_ef1 m x b ) ?_
  show OEnds p e below _ T (mkF m 0 #[.val (.ref x), .val (.ref b)] [])
  have K0 := Keep.refl h0 [x]
  refine OEnds.go (fun _ q => XS.aloadN X0.here X0.hx rfl (hb hby d_jdk_42_method_3_0) rfl rfl q) ?_
  show OEnds p e below _ T (mkF m 1 #[.val (.ref x), .val (.ref b)] [(.ref x)])
  refine OEnds.go (fun _ q => XS.aloadN X0.here X0.hx rfl (hb hby d_jdk_42_method_3_1) rfl rfl q) ?_
  show OEnds p e below _ T (mkF m 2 #[.val (.ref x), .val (.ref b)] [(.ref b), (.ref x)])
  refine OEnds.go (fun _ q => XS.iconst X0.here X0.hx rfl (hb hby d_jdk_42_method_3_2) q) ?_
  show OEnds p e below _ T (mkF m 3 #[.val (.ref x), .val (.ref b)] [(.int (0 : Int32)), (.ref b), (.ref x)])
  refine OEnds.go (fun _ q => XS.aloadN X0.here X0.hx rfl (hb hby d_jdk_42_method_3_3) rfl rfl q) ?_
  show OEnds p e below _ T (mkF m 4 #[.val (.ref x), .val (.ref b)] [(.ref b), (.int (0 : Int32)), (.ref b), (.ref x)])
  refine X0.alen Kb (hb hby d_jdk_42_method_3_4) ?_
  show OEnds p e below _ T (mkF m 5 #[.val (.ref x), .val (.ref b)] [(.int (0 : Int32)), (.int (0 : Int32)), (.ref b), (.ref x)])
  refine OEnds.go (fun _ q => XS.aconstNull X0.here X0.hx rfl (hb hby d_jdk_42_method_3_5) q) ?_
  show OEnds p e below _ T (mkF m 6 #[.val (.ref x), .val (.ref b)] [(.null), (.int (0 : Int32)), (.int (0 : Int32)), (.ref b), (.ref x)])
  refine X0.callI hE (con_new4e H x b gzx h0 Ax Fx_value Fx_coder) (hw _ (List.mem_of_getElem? (i := 7) rfl)) (hw _ (List.mem_of_getElem? (i := 8) rfl)) (hw _ (List.mem_of_getElem? (i := 2) rfl)) (hw _ (List.mem_of_getElem? (i := 10) rfl)) rfl (by decide) (W := 0) (by decide) (by decide) (a := x) (argsL := [(.ref b), (.int (0 : Int32)), (.int (0 : Int32)), (.null)]) (rest := []) rfl (lenOf own_pd0 rfl) rfl (by rw [hml]; rfl) (Nat.le_of_eq rfl) (hb hby d_jdk_42_method_3_6) (by decide) (by decide) ?_
  intro v6 vm4 T1 h3 X2 C5 q7
  obtain ⟨rfl, K1, S1x⟩ := q7
  show OEnds p e below _ T1 (mkF m 9 #[.val (.ref x), .val (.ref b)] [])
  exact X2.ret0 hE hlk  hret (hb hby d_jdk_42_method_3_9) (by decide) (by decide) ⟨rfl, K1, S1x⟩
theorem con_canE {l : Launch} {Z : State} {a0 : Array Value} {cz : Int32} {fm : Value} (H : Ctx Z a0 cz fm) (v : Int32) (hv : ¬ (255 : Int32) < v) (h0 : Heap)  :
    ConX l Z consts_1 (⟨"java/lang/StringLatin1", "canEncode", "(C)Z"⟩ : MethodName) jdk_43_method_3_code 1 (some FieldType.boolean) [] ({ frames := 0, cells := 0, slots := 0, locals := 0 } : Room) #[(.int v)] h0 (fun r h => r = some (.int 1) ∧ h0 = h) := by
  obtain ⟨hw, hE, S0, hcz, S1, rf⟩ := id H
  refine ConX.of (plainFor_of_name own_pn1) ?_
  intro p e s m below meth c T hby hml hret hlk hnm X0
  have EX0 := ext_refl h0
  refine OEnds.cast (own_ef2 m v ) ?_
  show OEnds p e below _ T (mkF m 0 #[.val (.int v)] [])
  refine OEnds.go (fun _ q => XS.iloadN X0.here X0.hx rfl (hb hby d_jdk_43_method_3_0) rfl q) ?_
  show OEnds p e below _ T (mkF m 1 #[.val (.int v)] [(.int v)])
  refine OEnds.go (fun _ q => XS.sipush X0.here X0.hx rfl (hb hby d_jdk_43_method_3_1) q) ?_
  show OEnds p e below _ T (mkF m 4 #[.val (.int v)] [(.int (255 : Int32)), (.int v)])
  refine OEnds.go (fun _ q => XS.icmpNo X0.here X0.hx rfl (hb hby d_jdk_43_method_3_4) rfl (flt hv).2.2.1 q) ?_
  show OEnds p e below _ T (mkF m 7 #[.val (.int v)] [])
  refine OEnds.go (fun _ q => XS.iconst X0.here X0.hx rfl (hb hby d_jdk_43_method_3_7) q) ?_
  show OEnds p e below _ T (mkF m 8 #[.val (.int v)] [(.int (1 : Int32))])
  refine OEnds.go (fun _ q => XS.goto X0.here X0.hx rfl (pc0 := 8) (pc' := 12) rfl (hb hby d_jdk_43_method_3_8) (by decide) (by decide) q) ?_
  show OEnds p e below _ T (mkF m 12 #[.val (.int v)] [(.int (1 : Int32))])
  exact X0.retBool hE hlk (by first | exact Or.inl rfl | exact Or.inr rfl | assumption) hret (hb hby d_jdk_43_method_3_12) (by decide) (by decide) ⟨rfl, rfl⟩
theorem con_toB {l : Launch} {Z : State} {a0 : Array Value} {cz : Int32} {fm : Value} (H : Ctx Z a0 cz fm) (v : Int32) (h0 : Heap)  :
    ConX l Z consts_1 (⟨"java/lang/StringLatin1", "toBytes", "(C)[B"⟩ : MethodName) jdk_43_method_46_code 1 (some (FieldType.array FieldType.byte)) [] ({ frames := 0, cells := 1, slots := 1, locals := 0 } : Room) #[(.int v)] h0 (fun r h => ∃ (t : Addr) (kb : ClassId), r = some (.ref t) ∧ Ext h0 h ∧ Arv Z h t kb .byte (1 : Int32) [.int v.toInt8.toInt32] (.int (0 : Int32)) ∧ h0.size ≤ t) := by
  obtain ⟨hw, hE, S0, hcz, S1, rf⟩ := id H
  refine ConX.of (plainFor_of_name own_pn1) ?_
  intro p e s m below meth c T hby hml hret hlk hnm X0
  have EX0 := ext_refl h0
  refine OEnds.cast (own_ef2 m v ) ?_
  show OEnds p e below _ T (mkF m 0 #[.val (.int v)] [])
  refine OEnds.go (fun _ q => XS.iconst X0.here X0.hx rfl (hb hby d_jdk_43_method_46_0) q) ?_
  show OEnds p e below _ T (mkF m 1 #[.val (.int v)] [(.int (1 : Int32))])
  refine X0.newP (hw _ (List.mem_of_getElem? (i := 15) rfl)) (hb hby d_jdk_43_method_46_1) (by decide) (cap := 1) (by decide) (by decide) (by decide) (by decide) ?_
  intro T1 h3 a5 ka5 ga5 X2 E4 Ka5
  have gza5 : Z.heap.size ≤ a5 := ga5 ▸ X0.old.1
  have EX_h3 := ext_trans EX0 E4
  have Sfa5 : Safe Z consts_1 s.vm h3 a5 := Safe.ext E4 X0.chv (Safe.new (Nat.le_of_eq ga5))
  have Ka5_0 : Arv Z h3 a5 ka5 .byte (1 : Int32) [.int (0 : Int32)] (.int (0 : Int32)) := Ka5.pad (pad_rep [] (.int (0 : Int32)) 1)
  show OEnds p e below _ T1 (mkF m 3 #[.val (.int v)] [(.ref a5)])
  refine OEnds.go (fun _ q => XS.dup X2.here X2.hx rfl (hb hby d_jdk_43_method_46_3) rfl rfl q) ?_
  show OEnds p e below _ T1 (mkF m 4 #[.val (.int v)] [(.ref a5), (.ref a5)])
  refine OEnds.go (fun _ q => XS.iconst X2.here X2.hx rfl (hb hby d_jdk_43_method_46_4) q) ?_
  show OEnds p e below _ T1 (mkF m 5 #[.val (.int v)] [(.int (0 : Int32)), (.ref a5), (.ref a5)])
  refine OEnds.go (fun _ q => XS.iloadN X2.here X2.hx rfl (hb hby d_jdk_43_method_46_5) rfl q) ?_
  show OEnds p e below _ T1 (mkF m 6 #[.val (.int v)] [(.int v), (.int (0 : Int32)), (.ref a5), (.ref a5)])
  refine OEnds.go (fun _ q => XS.i2b X2.here X2.hx rfl (hb hby d_jdk_43_method_46_6) rfl q) ?_
  show OEnds p e below _ T1 (mkF m 7 #[.val (.int v)] [(.int (v.toInt8.toInt32)), (.int (0 : Int32)), (.ref a5), (.ref a5)])
  refine X2.stB Ka5_0 Sfa5 (by decide) (i := 0) rfl (Nat.le_of_ble_eq_true rfl) gza5 (hb hby d_jdk_43_method_46_7) ?_
  intro T6 h8 X7 W9 Ka5_h8x
  have Sf10 := Safe.wr W9 Sfa5 X2.chv Sfa5
  have Ka5_h8 : Arv Z h8 a5 ka5 .byte (1 : Int32) [.int (v.toInt8.toInt32).toInt8.toInt32] (.int (0 : Int32)) := Ka5_h8x
  have EBa5_h8 := ext_wr E4 W9 (Nat.le_of_eq ga5)
  have EX_h8 := ext_wr EX_h3 W9 (Nat.le_trans EX0.1 (Nat.le_of_eq ga5))
  show OEnds p e below _ T6 (mkF m 8 #[.val (.int v)] [(.ref a5)])
  have hK : Arv Z h8 a5 ka5 .byte (1 : Int32) [.int v.toInt8.toInt32] (.int (0 : Int32)) := by
    have e : (v.toInt8.toInt32).toInt8.toInt32 = v.toInt8.toInt32 := own_lo8 v
    have q := Ka5_h8
    rw [e] at q; exact q
  exact X7.retRef hE hlk rfl (t := (FieldType.array FieldType.byte)) rfl hret (hb hby d_jdk_43_method_46_8) (by decide) (by decide) ⟨_, ka5, rfl, EX_h8, hK, Nat.le_of_eq ga5⟩
theorem con_sBB {l : Launch} {Z : State} {a0 : Array Value} {cz : Int32} {fm : Value} (H : Ctx Z a0 cz fm) (a : Addr) (t : Addr) (gza : Z.heap.size ≤ a) (h0 : Heap) (Aa : Exa Z h0 a "java/lang/String") (Fa_value : Fld Z h0 a "java/lang/String" "value" "[B" .null) (Fa_coder : Fld Z h0 a "java/lang/String" "coder" "B" (.int (0 : Int32))) :
    ConX l Z consts_1 (⟨"java/lang/String", "<init>", "([BB)V"⟩ : MethodName) jdk_42_method_151_code 3 (none : Option FieldType) [] ({ frames := 1, cells := 0, slots := 0, locals := 12 } : Room) #[(.ref a), (.ref t), (.int (0 : Int32))] h0 (fun r h => r = none ∧ Keep h0 h [a] ∧ Exa Z h a "java/lang/String" ∧ Fld Z h a "java/lang/String" "value" "[B" (.ref t) ∧ Fld Z h a "java/lang/String" "coder" "B" (.int (0 : Int32))) := by
  obtain ⟨hw, hE, S0, hcz, S1, rf⟩ := id H
  refine ConX.of (plainFor_of_name own_pn0) ?_
  intro p e s m below meth c T hby hml hret hlk hnm X0
  have EX0 := ext_refl h0
  refine OEnds.cast (own_ef3 m a t (0 : Int32) ) ?_
  show OEnds p e below _ T (mkF m 0 #[.val (.ref a), .val (.ref t), .val (.int (0 : Int32))] [])
  have K0 := Keep.refl h0 [a]
  refine OEnds.go (fun _ q => XS.aloadN X0.here X0.hx rfl (hb hby d_jdk_42_method_151_0) rfl rfl q) ?_
  show OEnds p e below _ T (mkF m 1 #[.val (.ref a), .val (.ref t), .val (.int (0 : Int32))] [(.ref a)])
  refine X0.initO (hw _ (List.mem_of_getElem? (i := 11) rfl)) (hw _ (List.mem_of_getElem? (i := 12) rfl)) (hw _ (List.mem_of_getElem? (i := 13) rfl)) (by rw [hml]; rfl) (hb hby d_jdk_42_method_151_1) (by decide) (W := 0) (Nat.le_of_eq rfl) (by decide) ?_
  intro T1 X2
  show OEnds p e below _ T1 (mkF m 4 #[.val (.ref a), .val (.ref t), .val (.int (0 : Int32))] [])
  refine OEnds.go (fun _ q => XS.aloadN X2.here X2.hx rfl (hb hby d_jdk_42_method_151_4) rfl rfl q) ?_
  show OEnds p e below _ T1 (mkF m 5 #[.val (.ref a), .val (.ref t), .val (.int (0 : Int32))] [(.ref a)])
  refine OEnds.go (fun _ q => XS.aloadN X2.here X2.hx rfl (hb hby d_jdk_42_method_151_5) rfl rfl q) ?_
  show OEnds p e below _ T1 (mkF m 6 #[.val (.ref a), .val (.ref t), .val (.int (0 : Int32))] [(.ref t), (.ref a)])
  refine X2.putF (v := (.ref t)) (hw _ (List.mem_of_getElem? (i := 20) rfl)) Via.refl Fa_value Aa (Or.inr ⟨(hw _ (List.mem_of_getElem? (i := 16) rfl)), rfl, hnm⟩) (hw _ (List.mem_of_getElem? (i := 1) rfl)) (ty := (FieldType.array FieldType.byte)) (by decide) rfl rfl (safe_blank X2.al Aa Fa_value) gza (hb hby d_jdk_42_method_151_6) ?_
  intro T3 h5 X4 W6
  have Fa_value_h5 := Fa_value.same W6
  have Aa_h5 := Aa.wr W6
  have Fa_coder_h5 := Fa_coder.other W6 (Or.inr (slot_ne (a0 := a0) (Or.inr (hw _ (List.mem_of_getElem? (i := 17) rfl))) (Or.inr (hw _ (List.mem_of_getElem? (i := 16) rfl))) (by decide) (t := FieldType.byte) (by decide) (t' := (FieldType.array FieldType.byte)) (by decide)))
  have K7 := K0.wr W6 (Or.inl (List.mem_of_getElem? (i := 0) rfl))
  have Sf8 := Safe.wr W6 (safe_blank X2.al Aa Fa_value) X2.chv (safe_blank X2.al Aa Fa_value)
  show OEnds p e below _ T3 (mkF m 9 #[.val (.ref a), .val (.ref t), .val (.int (0 : Int32))] [])
  refine OEnds.go (fun _ q => XS.aloadN X4.here X4.hx rfl (hb hby d_jdk_42_method_151_9) rfl rfl q) ?_
  show OEnds p e below _ T3 (mkF m 10 #[.val (.ref a), .val (.ref t), .val (.int (0 : Int32))] [(.ref a)])
  refine OEnds.go (fun _ q => XS.iloadN X4.here X4.hx rfl (hb hby d_jdk_42_method_151_10) rfl q) ?_
  show OEnds p e below _ T3 (mkF m 11 #[.val (.ref a), .val (.ref t), .val (.int (0 : Int32))] [(.int (0 : Int32)), (.ref a)])
  refine X4.putF (v := (.int (0 : Int32))) (hw _ (List.mem_of_getElem? (i := 21) rfl)) Via.refl Fa_coder_h5 Aa_h5 (Or.inr ⟨(hw _ (List.mem_of_getElem? (i := 17) rfl)), rfl, hnm⟩) (hw _ (List.mem_of_getElem? (i := 1) rfl)) (ty := FieldType.byte) (by decide) rfl rfl Sf8 gza (hb hby d_jdk_42_method_151_11) ?_
  intro T9 h11 X10 W12
  have Fa_coder_h11 := Fa_coder_h5.same W12
  have Aa_h11 := Aa_h5.wr W12
  have Fa_value_h11 := Fa_value_h5.other W12 (Or.inr (slot_ne (a0 := a0) (Or.inr (hw _ (List.mem_of_getElem? (i := 16) rfl))) (Or.inr (hw _ (List.mem_of_getElem? (i := 17) rfl))) (by decide) (t := (FieldType.array FieldType.byte)) (by decide) (t' := FieldType.byte) (by decide)))
  have K13 := K7.wr W12 (Or.inl (List.mem_of_getElem? (i := 0) rfl))
  have Sf14 := Safe.wr W12 Sf8 X4.chv Sf8
  show OEnds p e below _ T9 (mkF m 14 #[.val (.ref a), .val (.ref t), .val (.int (0 : Int32))] [])
  exact X10.ret0 hE hlk  hret (hb hby d_jdk_42_method_151_14) (by decide) (by decide) ⟨rfl, K13, Aa_h11, Fa_value_h11, Fa_coder_h11⟩
theorem con_valC {l : Launch} {Z : State} {a0 : Array Value} {cz : Int32} {fm : Value} (H : Ctx Z a0 cz fm) (v : Int32) (hv : ¬ v < 0 ∧ ¬ (255 : Int32) < v) (h0 : Heap)  :
    ConX l Z consts_1 (⟨"java/lang/String", "valueOf", "(C)Ljava/lang/String;"⟩ : MethodName) jdk_42_method_139_code 1 (some (FieldType.object "java/lang/String")) [] ({ frames := 2, cells := 2, slots := 5, locals := 27 } : Room) #[(.int v)] h0 (fun r h => ∃ x : Addr, r = some (.ref x) ∧ Ext h0 h ∧ OStr Z h x [v]) := by
  obtain ⟨hw, hE, S0, hcz, S1, rf⟩ := id H
  refine ConX.of (plainFor_of_name own_pn0) ?_
  intro p e s m below meth c T hby hml hret hlk hnm X0
  have EX0 := ext_refl h0
  refine OEnds.cast (own_ef2 m v ) ?_
  show OEnds p e below _ T (mkF m 0 #[.val (.int v)] [])
  refine X0.getS (hw _ (List.mem_of_getElem? (i := 22) rfl)) Via.refl (S0.ext X0.old) (hb hby d_jdk_42_method_139_0) ?_
  intro T1 X2
  show OEnds p e below _ T1 (mkF m 3 #[.val (.int v)] [(.int cz)])
  refine OEnds.go (fun _ q => XS.ifNo X2.here X2.hx rfl (hb hby d_jdk_42_method_139_3) rfl ((if0 _ _).trans (feq hcz).1) q) ?_
  show OEnds p e below _ T1 (mkF m 6 #[.val (.int v)] [])
  refine OEnds.go (fun _ q => XS.iloadN X2.here X2.hx rfl (hb hby d_jdk_42_method_139_6) rfl q) ?_
  show OEnds p e below _ T1 (mkF m 7 #[.val (.int v)] [(.int v)])
  refine X2.callS hE (con_canE H v hv.2 h0) (hw _ (List.mem_of_getElem? (i := 64) rfl)) (hw _ (List.mem_of_getElem? (i := 65) rfl)) (hw _ (List.mem_of_getElem? (i := 66) rfl)) (hw _ (List.mem_of_getElem? (i := 67) rfl))  (by decide) (W := 0) (by decide) (by decide) (argsL := [(.int v)]) (rest := []) rfl (lenOf own_pd1 rfl) rfl (by rw [hml]; rfl) (Nat.le_of_eq rfl) (hb hby d_jdk_42_method_139_7) (by decide) (by decide) ?_
  intro v8 vm6 T3 h5 X4 C7 q9
  obtain ⟨rfl, rfl⟩ := q9
  show OEnds p e below _ T3 (mkF m 10 #[.val (.int v)] [(.int (1 : Int32))])
  refine OEnds.go (fun _ q => XS.ifNo X4.here X4.hx rfl (hb hby d_jdk_42_method_139_10) rfl ((if0 _ _).trans (feq (by decide)).1) q) ?_
  show OEnds p e below _ T3 (mkF m 13 #[.val (.int v)] [])
  refine X4.newO (hw _ (List.mem_of_getElem? (i := 68) rfl)) (hw _ (List.mem_of_getElem? (i := 1) rfl)) (hw _ (List.mem_of_getElem? (i := 2) rfl)) (hb hby d_jdk_42_method_139_13) (by decide) (by decide) ?_
  intro T10 h12 a14 ga14 X11 E13 Aa14 Da14 Ua14
  have gza14 : Z.heap.size ≤ a14 := ga14 ▸ X4.old.1
  have EX_h12 := ext_trans EX0 E13
  have Fa14_value : Fld Z h12 a14 "java/lang/String" "value" "[B" .null := Da14 (Or.inr (hw _ (List.mem_of_getElem? (i := 16) rfl))) (ty := (FieldType.array FieldType.byte)) (by decide)
  have Fa14_coder : Fld Z h12 a14 "java/lang/String" "coder" "B" (.int (0 : Int32)) := Da14 (Or.inr (hw _ (List.mem_of_getElem? (i := 17) rfl))) (ty := FieldType.byte) (by decide)
  show OEnds p e below _ T10 (mkF m 16 #[.val (.int v)] [(.ref a14)])
  refine OEnds.go (fun _ q => XS.dup X11.here X11.hx rfl (hb hby d_jdk_42_method_139_16) rfl rfl q) ?_
  show OEnds p e below _ T10 (mkF m 17 #[.val (.int v)] [(.ref a14), (.ref a14)])
  refine OEnds.go (fun _ q => XS.iloadN X11.here X11.hx rfl (hb hby d_jdk_42_method_139_17) rfl q) ?_
  show OEnds p e below _ T10 (mkF m 18 #[.val (.int v)] [(.int v), (.ref a14), (.ref a14)])
  refine X11.callS hE (con_toB H v h12) (hw _ (List.mem_of_getElem? (i := 69) rfl)) (hw _ (List.mem_of_getElem? (i := 70) rfl)) (hw _ (List.mem_of_getElem? (i := 66) rfl)) (hw _ (List.mem_of_getElem? (i := 71) rfl))  (by decide) (W := 2) (by decide) (by decide) (argsL := [(.int v)]) (rest := [(.ref a14), (.ref a14)]) rfl (lenOf own_pd2 rfl) rfl (by rw [hml]; rfl) (Nat.le_of_eq rfl) (hb hby d_jdk_42_method_139_18) (by decide) (by decide) ?_
  intro v20 vm18 T15 h17 X16 C19 q21
  obtain ⟨t, kb, rfl, Et, Kt, ft⟩ := q21
  have Aa14_h17 := Aa14.ext Et
  have Fa14_value_h17 := Fa14_value.ext Et
  have Fa14_coder_h17 := Fa14_coder.ext Et
  have EBa14_h17 := ext_trans E13 Et
  have EX_h17 := ext_trans EX_h12 Et
  show OEnds p e below _ T15 (mkF m 21 #[.val (.int v)] [(.ref t), (.ref a14), (.ref a14)])
  refine OEnds.go (fun _ q => XS.iconst X16.here X16.hx rfl (hb hby d_jdk_42_method_139_21) q) ?_
  show OEnds p e below _ T15 (mkF m 22 #[.val (.int v)] [(.int (0 : Int32)), (.ref t), (.ref a14), (.ref a14)])
  refine X16.callI hE (con_sBB H a14 t gza14 h17 Aa14_h17 Fa14_value_h17 Fa14_coder_h17) (hw _ (List.mem_of_getElem? (i := 72) rfl)) (hw _ (List.mem_of_getElem? (i := 73) rfl)) (hw _ (List.mem_of_getElem? (i := 2) rfl)) (hw _ (List.mem_of_getElem? (i := 74) rfl)) rfl (by decide) (W := 1) (by decide) (by decide) (a := a14) (argsL := [(.ref t), (.int (0 : Int32))]) (rest := [(.ref a14)]) rfl (lenOf own_pd3 rfl) rfl (by rw [hml]; rfl) (Nat.le_of_eq rfl) (hb hby d_jdk_42_method_139_22) (by decide) (by decide) ?_
  intro v31 vm29 T26 h28 X27 C30 q32
  obtain ⟨rfl, K22, E23, Ff24_value, Ff25_coder⟩ := q32
  have EBa14_h28 := ext_keep EBa14_h17 K22 (allS (Nat.le_of_eq ga14) all0)
  have Kt_h28 := Kt.keep K22 (ninS (Nat.ne_of_gt (Nat.lt_of_lt_of_le Aa14.lt ft)) nin0)
  have EX_h28 := ext_keep EX_h17 K22 (allS (Nat.le_trans EX0.1 (Nat.le_of_eq ga14)) all0)
  show OEnds p e below _ T26 (mkF m 25 #[.val (.int v)] [(.ref a14)])
  exact X27.retRef hE hlk rfl (t := (FieldType.object "java/lang/String")) rfl hret (hb hby d_jdk_42_method_139_25) (by decide) (by decide) ⟨a14, rfl, EX_h28, E23, Ff25_coder, ⟨t, kb, Ff24_value, Kt_h28⟩, all_cons hv all_nil, Nat.le_of_ble_eq_true rfl⟩
theorem con_rec {l : Launch} {Z : State} {a0 : Array Value} {cz : Int32} {fm : Value} (H : Ctx Z a0 cz fm) (a : Addr) (h0 : Heap)  :
    ConX l Z consts_1 (⟨"java/lang/Record", "<init>", "()V"⟩ : MethodName) jdk_30_method_1_code 1 (none : Option FieldType) [] ({ frames := 1, cells := 0, slots := 0, locals := 12 } : Room) #[(.ref a)] h0 (fun r h => r = none ∧ h0 = h) := by
  obtain ⟨hw, hE, S0, hcz, S1, rf⟩ := id H
  refine ConX.of (plainFor_of_name own_pn2) ?_
  intro p e s m below meth c T hby hml hret hlk hnm X0
  have EX0 := ext_refl h0
  refine OEnds.cast (own_ef4 m a ) ?_
  show OEnds p e below _ T (mkF m 0 #[.val (.ref a)] [])
  refine OEnds.go (fun _ q => XS.aloadN X0.here X0.hx rfl (hb hby d_jdk_30_method_1_0) rfl rfl q) ?_
  show OEnds p e below _ T (mkF m 1 #[.val (.ref a)] [(.ref a)])
  refine X0.initO (hw _ (List.mem_of_getElem? (i := 49) rfl)) (hw _ (List.mem_of_getElem? (i := 12) rfl)) (hw _ (List.mem_of_getElem? (i := 13) rfl)) (by rw [hml]; rfl) (hb hby d_jdk_30_method_1_1) (by decide) (W := 0) (Nat.le_of_eq rfl) (by decide) ?_
  intro T1 X2
  show OEnds p e below _ T1 (mkF m 4 #[.val (.ref a)] [])
  exact X2.ret0 hE hlk  hret (hb hby d_jdk_30_method_1_4) (by decide) (by decide) ⟨rfl, rfl⟩
theorem con_tok {l : Launch} {Z : State} {a0 : Array Value} {cz : Int32} {fm : Value} (H : Ctx Z a0 cz fm) (a : Addr) (tv : Value) (mv : Value) (av : Value) (r_tv : tv.isRef = true) (r_mv : mv.isRef = true) (r_av : av.isRef = true) (gza : Z.heap.size ≤ a) (h0 : Heap) (Aa : Exa Z h0 a "com/example/vouchgate/vouchgate/token/SealedToken") (Fa_text : Fld Z h0 a "com/example/vouchgate/vouchgate/token/SealedToken" "text" "Ljava/lang/String;" .null) (Fa_mode : Fld Z h0 a "com/example/vouchgate/vouchgate/token/SealedToken" "mode" "Ljava/lang/String;" .null) (Fa_associatedData : Fld Z h0 a "com/example/vouchgate/vouchgate/token/SealedToken" "associatedData" "Ljava/lang/String;" .null) :
    ConX l Z consts_1 (⟨"com/example/vouchgate/vouchgate/token/SealedToken", "<init>", "(Ljava/lang/String;Ljava/lang/String;Ljava/lang/String;)V"⟩ : MethodName) prog_46_method_1_code 4 (none : Option FieldType) [] ({ frames := 2, cells := 0, slots := 0, locals := 24 } : Room) #[(.ref a), (tv), (mv), (av)] h0 (fun r h => r = none ∧ Keep h0 h [a] ∧ Exa Z h a "com/example/vouchgate/vouchgate/token/SealedToken" ∧ Fld Z h a "com/example/vouchgate/vouchgate/token/SealedToken" "text" "Ljava/lang/String;" (tv) ∧ Fld Z h a "com/example/vouchgate/vouchgate/token/SealedToken" "mode" "Ljava/lang/String;" (mv) ∧ Fld Z h a "com/example/vouchgate/vouchgate/token/SealedToken" "associatedData" "Ljava/lang/String;" (av)) := by
  obtain ⟨hw, hE, S0, hcz, S1, rf⟩ := id H
  refine ConX.of (plainFor_of_name own_pn3) ?_
  intro p e s m below meth c T hby hml hret hlk hnm X0
  have EX0 := ext_refl h0
  refine OEnds.cast (own_ef5 m a tv mv av r_tv r_mv r_av) ?_
  show OEnds p e below _ T (mkF m 0 #[.val (.ref a), .val (tv), .val (mv), .val (av)] [])
  have K0 := Keep.refl h0 [a]
  refine OEnds.go (fun _ q => XS.aloadN X0.here X0.hx rfl (hb hby d_prog_46_method_1_0) rfl rfl q) ?_
  show OEnds p e below _ T (mkF m 1 #[.val (.ref a), .val (tv), .val (mv), .val (av)] [(.ref a)])
  refine X0.callI hE (con_rec H a h0) (hw _ (List.mem_of_getElem? (i := 44) rfl)) (hw _ (List.mem_of_getElem? (i := 45) rfl)) (hw _ (List.mem_of_getElem? (i := 47) rfl)) (hw _ (List.mem_of_getElem? (i := 48) rfl)) rfl (by decide) (W := 0) (by decide) (by decide) (a := a) (argsL := []) (rest := []) rfl (lenOf own_pd4 rfl) rfl (by rw [hml]; rfl) (Nat.le_of_eq rfl) (hb hby d_prog_46_method_1_1) (by decide) (by decide) ?_
  intro v6 vm4 T1 h3 X2 C5 q7
  obtain ⟨rfl, rfl⟩ := q7
  show OEnds p e below _ T1 (mkF m 4 #[.val (.ref a), .val (tv), .val (mv), .val (av)] [])
  refine OEnds.go (fun _ q => XS.aloadN X2.here X2.hx rfl (hb hby d_prog_46_method_1_4) rfl rfl q) ?_
  show OEnds p e below _ T1 (mkF m 5 #[.val (.ref a), .val (tv), .val (mv), .val (av)] [(.ref a)])
  refine OEnds.go (fun _ q => XS.aloadN X2.here X2.hx rfl (hb hby d_prog_46_method_1_5) rfl r_tv q) ?_
  show OEnds p e below _ T1 (mkF m 6 #[.val (.ref a), .val (tv), .val (mv), .val (av)] [(tv), (.ref a)])
  refine X2.putF (v := (tv)) (hw _ (List.mem_of_getElem? (i := 50) rfl)) Via.refl Fa_text Aa (Or.inr ⟨(hw _ (List.mem_of_getElem? (i := 51) rfl)), rfl, hnm⟩) (hw _ (List.mem_of_getElem? (i := 39) rfl)) (ty := (FieldType.object "java/lang/String")) (by decide) (narrow_obj rfl) (own_fits rfl r_tv) (Safe.exa X2.al Aa (by decide) (by decide)) gza (hb hby d_prog_46_method_1_6) ?_
  intro T8 h10 X9 W11
  have Fa_text_h10 := Fa_text.same W11
  have Aa_h10 := Aa.wr W11
  have Fa_mode_h10 := Fa_mode.other W11 (Or.inr (slot_ne (a0 := a0) (Or.inr (hw _ (List.mem_of_getElem? (i := 53) rfl))) (Or.inr (hw _ (List.mem_of_getElem? (i := 51) rfl))) (by decide) (t := (FieldType.object "java/lang/String")) (by decide) (t' := (FieldType.object "java/lang/String")) (by decide)))
  have Fa_associatedData_h10 := Fa_associatedData.other W11 (Or.inr (slot_ne (a0 := a0) (Or.inr (hw _ (List.mem_of_getElem? (i := 55) rfl))) (Or.inr (hw _ (List.mem_of_getElem? (i := 51) rfl))) (by decide) (t := (FieldType.object "java/lang/String")) (by decide) (t' := (FieldType.object "java/lang/String")) (by decide)))
  have K12 := K0.wr W11 (Or.inl (List.mem_of_getElem? (i := 0) rfl))
  show OEnds p e below _ T8 (mkF m 9 #[.val (.ref a), .val (tv), .val (mv), .val (av)] [])
  refine OEnds.go (fun _ q => XS.aloadN X9.here X9.hx rfl (hb hby d_prog_46_method_1_9) rfl rfl q) ?_
  show OEnds p e below _ T8 (mkF m 10 #[.val (.ref a), .val (tv), .val (mv), .val (av)] [(.ref a)])
  refine OEnds.go (fun _ q => XS.aloadN X9.here X9.hx rfl (hb hby d_prog_46_method_1_10) rfl r_mv q) ?_
  show OEnds p e below _ T8 (mkF m 11 #[.val (.ref a), .val (tv), .val (mv), .val (av)] [(mv), (.ref a)])
  refine X9.putF (v := (mv)) (hw _ (List.mem_of_getElem? (i := 52) rfl)) Via.refl Fa_mode_h10 Aa_h10 (Or.inr ⟨(hw _ (List.mem_of_getElem? (i := 53) rfl)), rfl, hnm⟩) (hw _ (List.mem_of_getElem? (i := 39) rfl)) (ty := (FieldType.object "java/lang/String")) (by decide) (narrow_obj rfl) (own_fits rfl r_mv) (Safe.exa X9.al Aa_h10 (by decide) (by decide)) gza (hb hby d_prog_46_method_1_11) ?_
  intro T13 h15 X14 W16
  have Fa_mode_h15 := Fa_mode_h10.same W16
  have Aa_h15 := Aa_h10.wr W16
  have Fa_text_h15 := Fa_text_h10.other W16 (Or.inr (slot_ne (a0 := a0) (Or.inr (hw _ (List.mem_of_getElem? (i := 51) rfl))) (Or.inr (hw _ (List.mem_of_getElem? (i := 53) rfl))) (by decide) (t := (FieldType.object "java/lang/String")) (by decide) (t' := (FieldType.object "java/lang/String")) (by decide)))
  have Fa_associatedData_h15 := Fa_associatedData_h10.other W16 (Or.inr (slot_ne (a0 := a0) (Or.inr (hw _ (List.mem_of_getElem? (i := 55) rfl))) (Or.inr (hw _ (List.mem_of_getElem? (i := 53) rfl))) (by decide) (t := (FieldType.object "java/lang/String")) (by decide) (t' := (FieldType.object "java/lang/String")) (by decide)))
  have K17 := K12.wr W16 (Or.inl (List.mem_of_getElem? (i := 0) rfl))
  show OEnds p e below _ T13 (mkF m 14 #[.val (.ref a), .val (tv), .val (mv), .val (av)] [])
  refine OEnds.go (fun _ q => XS.aloadN X14.here X14.hx rfl (hb hby d_prog_46_method_1_14) rfl rfl q) ?_
  show OEnds p e below _ T13 (mkF m 15 #[.val (.ref a), .val (tv), .val (mv), .val (av)] [(.ref a)])
  refine OEnds.go (fun _ q => XS.aloadN X14.here X14.hx rfl (hb hby d_prog_46_method_1_15) rfl r_av q) ?_
  show OEnds p e below _ T13 (mkF m 16 #[.val (.ref a), .val (tv), .val (mv), .val (av)] [(av), (.ref a)])
  refine X14.putF (v := (av)) (hw _ (List.mem_of_getElem? (i := 54) rfl)) Via.refl Fa_associatedData_h15 Aa_h15 (Or.inr ⟨(hw _ (List.mem_of_getElem? (i := 55) rfl)), rfl, hnm⟩) (hw _ (List.mem_of_getElem? (i := 39) rfl)) (ty := (FieldType.object "java/lang/String")) (by decide) (narrow_obj rfl) (own_fits rfl r_av) (Safe.exa X14.al Aa_h15 (by decide) (by decide)) gza (hb hby d_prog_46_method_1_16) ?_
  intro T18 h20 X19 W21
  have Fa_associatedData_h20 := Fa_associatedData_h15.same W21
  have Aa_h20 := Aa_h15.wr W21
  have Fa_mode_h20 := Fa_mode_h15.other W21 (Or.inr (slot_ne (a0 := a0) (Or.inr (hw _ (List.mem_of_getElem? (i := 53) rfl))) (Or.inr (hw _ (List.mem_of_getElem? (i := 55) rfl))) (by decide) (t := (FieldType.object "java/lang/String")) (by decide) (t' := (FieldType.object "java/lang/String")) (by decide)))
  have Fa_text_h20 := Fa_text_h15.other W21 (Or.inr (slot_ne (a0 := a0) (Or.inr (hw _ (List.mem_of_getElem? (i := 51) rfl))) (Or.inr (hw _ (List.mem_of_getElem? (i := 55) rfl))) (by decide) (t := (FieldType.object "java/lang/String")) (by decide) (t' := (FieldType.object "java/lang/String")) (by decide)))
  have K22 := K17.wr W21 (Or.inl (List.mem_of_getElem? (i := 0) rfl))
  show OEnds p e below _ T18 (mkF m 19 #[.val (.ref a), .val (tv), .val (mv), .val (av)] [])
  exact X19.ret0 hE hlk  hret (hb hby d_prog_46_method_1_19) (by decide) (by decide) ⟨rfl, K22, Aa_h20, Fa_text_h20, Fa_mode_h20, Fa_associatedData_h20⟩
theorem con_mis0 {l : Launch} {Z : State} {a0 : Array Value} {cz : Int32} {fm : Value} (H : Ctx Z a0 cz fm) (a : Addr) (h0 : Heap) (Fa : Fld Z h0 a "com/example/vouchgate/vouchgate/token/SealedToken" "text" "Ljava/lang/String;" .null) :
    ConX l Z consts_1 (⟨"com/example/vouchgate/vouchgate/token/SealedToken", "isMissing", "()Z"⟩ : MethodName) prog_46_method_2_code 1 (some FieldType.boolean) [] ({ frames := 0, cells := 0, slots := 0, locals := 0 } : Room) #[(.ref a)] h0 (fun r h => r = some (.int 1) ∧ h0 = h) := by
  obtain ⟨hw, hE, S0, hcz, S1, rf⟩ := id H
  refine ConX.of (plainFor_of_name own_pn3) ?_
  intro p e s m below meth c T hby hml hret hlk hnm X0
  have EX0 := ext_refl h0
  refine OEnds.cast (own_ef4 m a ) ?_
  show OEnds p e below _ T (mkF m 0 #[.val (.ref a)] [])
  refine OEnds.go (fun _ q => XS.aloadN X0.here X0.hx rfl (hb hby d_prog_46_method_2_0) rfl rfl q) ?_
  show OEnds p e below _ T (mkF m 1 #[.val (.ref a)] [(.ref a)])
  refine X0.getF (hw _ (List.mem_of_getElem? (i := 50) rfl)) Via.refl Fa (hb hby d_prog_46_method_2_1) ?_
  intro T1 X2
  show OEnds p e below _ T1 (mkF m 4 #[.val (.ref a)] [(.null)])
  refine OEnds.go (fun _ q => XS.ifnullYes X2.here X2.hx rfl (pc0 := 4) (pc' := 17) rfl (hb hby d_prog_46_method_2_4) rfl (by decide) (by decide) q) ?_
  show OEnds p e below _ T1 (mkF m 17 #[.val (.ref a)] [])
  refine OEnds.go (fun _ q => XS.iconst X2.here X2.hx rfl (hb hby d_prog_46_method_2_17) q) ?_
  show OEnds p e below _ T1 (mkF m 18 #[.val (.ref a)] [(.int (1 : Int32))])
  refine OEnds.go (fun _ q => XS.goto X2.here X2.hx rfl (pc0 := 18) (pc' := 22) rfl (hb hby d_prog_46_method_2_18) (by decide) (by decide) q) ?_
  show OEnds p e below _ T1 (mkF m 22 #[.val (.ref a)] [(.int (1 : Int32))])
  exact X2.retBool hE hlk (by first | exact Or.inl rfl | exact Or.inr rfl | assumption) hret (hb hby d_prog_46_method_2_22) (by decide) (by decide) ⟨rfl, rfl⟩
theorem con_mis1 {l : Launch} {Z : State} {a0 : Array Value} {cz : Int32} {fm : Value} (H : Ctx Z a0 cz fm) (a b : Addr) (cs : List Int32) (h0 : Heap) (Fa : Fld Z h0 a "com/example/vouchgate/vouchgate/token/SealedToken" "text" "Ljava/lang/String;" (.ref b)) (Sb : OStr Z h0 b cs) :
    ConX l Z consts_1 (⟨"com/example/vouchgate/vouchgate/token/SealedToken", "isMissing", "()Z"⟩ : MethodName) prog_46_method_2_code 1 (some FieldType.boolean) [] ({ frames := 1, cells := 0, slots := 0, locals := 12 } : Room) #[(.ref a)] h0 (fun r h => r = some (.int (if cs.length = 0 then 1 else 0)) ∧ h0 = h) := by
  obtain ⟨hw, hE, S0, hcz, S1, rf⟩ := id H
  refine ConX.of (plainFor_of_name own_pn3) ?_
  intro p e s m below meth c T hby hml hret hlk hnm X0
  have EX0 := ext_refl h0
  refine OEnds.cast (own_ef4 m a ) ?_
  show OEnds p e below _ T (mkF m 0 #[.val (.ref a)] [])
  refine OEnds.go (fun _ q => XS.aloadN X0.here X0.hx rfl (hb hby d_prog_46_method_2_0) rfl rfl q) ?_
  show OEnds p e below _ T (mkF m 1 #[.val (.ref a)] [(.ref a)])
  refine X0.getF (hw _ (List.mem_of_getElem? (i := 50) rfl)) Via.refl Fa (hb hby d_prog_46_method_2_1) ?_
  intro T1 X2
  show OEnds p e below _ T1 (mkF m 4 #[.val (.ref a)] [(.ref b)])
  refine OEnds.go (fun _ q => XS.ifnullNo X2.here X2.hx rfl (hb hby d_prog_46_method_2_4) rfl q) ?_
  show OEnds p e below _ T1 (mkF m 7 #[.val (.ref a)] [])
  refine OEnds.go (fun _ q => XS.aloadN X2.here X2.hx rfl (hb hby d_prog_46_method_2_7) rfl rfl q) ?_
  show OEnds p e below _ T1 (mkF m 8 #[.val (.ref a)] [(.ref a)])
  refine X2.getF (hw _ (List.mem_of_getElem? (i := 50) rfl)) Via.refl Fa (hb hby d_prog_46_method_2_8) ?_
  intro T3 X4
  show OEnds p e below _ T3 (mkF m 11 #[.val (.ref a)] [(.ref b)])
  refine X4.payV (own_emp H (W := 0) X4.hZ X4.old Sb (by decide) (by decide)) (okPure X4) (hw _ (List.mem_of_getElem? (i := 75) rfl)) (hw _ (List.mem_of_getElem? (i := 76) rfl)) (hw _ (List.mem_of_getElem? (i := 78) rfl)) (hw _ (List.mem_of_getElem? (i := 77) rfl)) (X4.nf (hw _ (List.mem_of_getElem? (i := 78) rfl))) (by decide) Sb.exa (argsL := []) (rest := []) rfl (lenOf own_pd5 rfl) rfl (by rw [hml]; rfl) (Nat.le_of_eq rfl) (hb hby d_prog_46_method_2_11) (by decide) (by decide) ?_
  intro v5 T6 h7 L8 X9 q10
  obtain ⟨rfl, -, e11⟩ := q10
  obtain rfl := e11.symm
  show OEnds p e below _ T6 (mkF m 14 #[.val (.ref a)] [(.int (if cs.length = 0 then 1 else 0))])
  by_cases hz : (if cs.length = 0 then 1 else 0) = (0 : Int32)
  · skip
    refine OEnds.go (fun _ q => XS.ifYes X9.here X9.hx rfl (pc0 := 14) (pc' := 21) rfl (hb hby d_prog_46_method_2_14) rfl ((if0 _ _).trans (teq hz).1) (by decide) (by decide) q) ?_
    show OEnds p e below _ T6 (mkF m 21 #[.val (.ref a)] [])
    refine OEnds.go (fun _ q => XS.iconst X9.here X9.hx rfl (hb hby d_prog_46_method_2_21) q) ?_
    show OEnds p e below _ T6 (mkF m 22 #[.val (.ref a)] [(.int (0 : Int32))])
    have hq : ¬ cs.length = 0 := fun q => by rw [if_pos q] at hz; exact absurd hz (by decide)
    exact X9.retBool hE hlk (by first | exact Or.inl rfl | exact Or.inr rfl | assumption) hret (hb hby d_prog_46_method_2_22) (by decide) (by decide) ⟨by rw [if_neg hq], rfl⟩
  · skip
    refine OEnds.go (fun _ q => XS.ifNo X9.here X9.hx rfl (hb hby d_prog_46_method_2_14) rfl ((if0 _ _).trans (feq hz).1) q) ?_
    show OEnds p e below _ T6 (mkF m 17 #[.val (.ref a)] [])
    refine OEnds.go (fun _ q => XS.iconst X9.here X9.hx rfl (hb hby d_prog_46_method_2_17) q) ?_
    show OEnds p e below _ T6 (mkF m 18 #[.val (.ref a)] [(.int (1 : Int32))])
    refine OEnds.go (fun _ q => XS.goto X9.here X9.hx rfl (pc0 := 18) (pc' := 22) rfl (hb hby d_prog_46_method_2_18) (by decide) (by decide) q) ?_
    show OEnds p e below _ T6 (mkF m 22 #[.val (.ref a)] [(.int (1 : Int32))])
    have hq : cs.length = 0 := Classical.byContradiction fun q => hz (by rw [if_neg q])
    exact X9.retBool hE hlk (by first | exact Or.inl rfl | exact Or.inr rfl | assumption) hret (hb hby d_prog_46_method_2_22) (by decide) (by decide) ⟨by rw [if_pos hq], rfl⟩
theorem con_pick {l : Launch} {Z : State} {a0 : Array Value} {cz : Int32} {fm : Value} (H : Ctx Z a0 cz fm) (v : Int32) (h0 : Heap)  :
    ConX l Z consts_1 (⟨"com/example/vouchgate/vouchgate/token/SealedTokenIsMissingPinLaw", "pick", "(I)Ljava/lang/String;"⟩ : MethodName) method_3_code 3 (some (FieldType.object "java/lang/String")) [] ({ frames := 4, cells := 6, slots := 12, locals := 66 } : Room) #[(.int v)] h0 (fun r h => ∃ rv : Value, r = some rv ∧ rv.isRef = true ∧ Ext h0 h) := by
  obtain ⟨hw, hE, S0, hcz, S1, rf⟩ := id H
  refine ConX.of (plainFor_of_name own_pn4) ?_
  intro p e s m below meth c T hby hml hret hlk hnm X0
  have EX0 := ext_refl h0
  refine OEnds.cast (own_ef6 m v ) ?_
  show OEnds p e below _ T (mkF m 0 #[.val (.int v), .unset, .unset] [])
  refine OEnds.go (fun _ q => XS.iloadN X0.here X0.hx rfl (hb hby d_method_3_0) rfl q) ?_
  show OEnds p e below _ T (mkF m 1 #[.val (.int v), .unset, .unset] [(.int v)])
  refine OEnds.go (fun _ q => XS.iconst X0.here X0.hx rfl (hb hby d_method_3_1) q) ?_
  show OEnds p e below _ T (mkF m 2 #[.val (.int v), .unset, .unset] [(.int (3 : Int32)), (.int v)])
  refine OEnds.go (fun _ q => XS.iand X0.here X0.hx rfl (hb hby d_method_3_2) rfl q) ?_
  show OEnds p e below _ T (mkF m 3 #[.val (.int v), .unset, .unset] [(.int (v &&& (3 : Int32)))])
  refine OEnds.go (fun _ q => XS.istoreN X0.here X0.hx rfl (hb hby d_method_3_3) rfl (l' := #[.val (.int v), .val (.int (v &&& (3 : Int32))), .unset]) rfl q) ?_
  show OEnds p e below _ T (mkF m 4 #[.val (.int v), .val (.int (v &&& (3 : Int32))), .unset] [])
  refine OEnds.go (fun _ q => XS.iloadN X0.here X0.hx rfl (hb hby d_method_3_4) rfl q) ?_
  show OEnds p e below _ T (mkF m 5 #[.val (.int v), .val (.int (v &&& (3 : Int32))), .unset] [(.int v)])
  refine OEnds.go (fun _ q => XS.iconst X0.here X0.hx rfl (hb hby d_method_3_5) q) ?_
  show OEnds p e below _ T (mkF m 6 #[.val (.int v), .val (.int (v &&& (3 : Int32))), .unset] [(.int (2 : Int32)), (.int v)])
  refine OEnds.go (fun _ q => XS.iushr X0.here X0.hx rfl (hb hby d_method_3_6) rfl q) ?_
  show OEnds p e below _ T (mkF m 7 #[.val (.int v), .val (.int (v &&& (3 : Int32))), .unset] [(.int (v.toUInt32 >>> ((2 : Int32) &&& 31).toUInt32).toInt32)])
  refine OEnds.go (fun _ q => XS.sipush X0.here X0.hx rfl (hb hby d_method_3_7) q) ?_
  show OEnds p e below _ T (mkF m 10 #[.val (.int v), .val (.int (v &&& (3 : Int32))), .unset] [(.int (255 : Int32)), (.int (v.toUInt32 >>> ((2 : Int32) &&& 31).toUInt32).toInt32)])
  refine OEnds.go (fun _ q => XS.iand X0.here X0.hx rfl (hb hby d_method_3_10) rfl q) ?_
  show OEnds p e below _ T (mkF m 11 #[.val (.int v), .val (.int (v &&& (3 : Int32))), .unset] [(.int ((v.toUInt32 >>> ((2 : Int32) &&& 31).toUInt32).toInt32 &&& (255 : Int32)))])
  refine OEnds.go (fun _ q => XS.i2c X0.here X0.hx rfl (hb hby d_method_3_11) rfl q) ?_
  show OEnds p e below _ T (mkF m 12 #[.val (.int v), .val (.int (v &&& (3 : Int32))), .unset] [(.int (((v.toUInt32 >>> ((2 : Int32) &&& 31).toUInt32).toInt32 &&& (255 : Int32)).toUInt32.toUInt16.toUInt32.toInt32))])
  obtain ⟨ch, hch⟩ : ∃ z : Int32, z = (((v.toUInt32 >>> ((2 : Int32) &&& 31).toUInt32).toInt32 &&& (255 : Int32)).toUInt32.toUInt16.toUInt32.toInt32) := ⟨_, rfl⟩
  rw [← hch]
  show OEnds p e below _ T (mkF m 12 #[.val (.int v), .val (.int (v &&& (3 : Int32))), .unset] [(.int ch)])
  have hchb : ¬ ch < 0 ∧ ¬ (255 : Int32) < ch := hch ▸ ch255 _
  refine OEnds.go (fun _ q => XS.istoreN X0.here X0.hx rfl (hb hby d_method_3_12) rfl (l' := #[.val (.int v), .val (.int (v &&& (3 : Int32))), .val (.int ch)]) rfl q) ?_
  show OEnds p e below _ T (mkF m 13 #[.val (.int v), .val (.int (v &&& (3 : Int32))), .val (.int ch)] [])
  refine OEnds.go (fun _ q => XS.iloadN X0.here X0.hx rfl (hb hby d_method_3_13) rfl q) ?_
  show OEnds p e below _ T (mkF m 14 #[.val (.int v), .val (.int (v &&& (3 : Int32))), .val (.int ch)] [(.int (v &&& (3 : Int32)))])
  by_cases hk0 : (v &&& (3 : Int32)) = (0 : Int32)
  · skip
    refine OEnds.go (fun _ q => XS.ifNo X0.here X0.hx rfl (hb hby d_method_3_14) rfl ((if0 _ _).trans (teq hk0).2) q) ?_
    show OEnds p e below _ T (mkF m 17 #[.val (.int v), .val (.int (v &&& (3 : Int32))), .val (.int ch)] [])
    refine OEnds.go (fun _ q => XS.aconstNull X0.here X0.hx rfl (hb hby d_method_3_17) q) ?_
    show OEnds p e below _ T (mkF m 18 #[.val (.int v), .val (.int (v &&& (3 : Int32))), .val (.int ch)] [(.null)])
    exact X0.retRef hE hlk rfl (t := (FieldType.object "java/lang/String")) rfl hret (hb hby d_method_3_18) (by decide) (by decide) ⟨_, rfl, rfl, EX0⟩
  · skip
    refine OEnds.go (fun _ q => XS.ifYes X0.here X0.hx rfl (pc0 := 14) (pc' := 19) rfl (hb hby d_method_3_14) rfl ((if0 _ _).trans (feq hk0).2) (by decide) (by decide) q) ?_
    show OEnds p e below _ T (mkF m 19 #[.val (.int v), .val (.int (v &&& (3 : Int32))), .val (.int ch)] [])
    refine OEnds.go (fun _ q => XS.iloadN X0.here X0.hx rfl (hb hby d_method_3_19) rfl q) ?_
    show OEnds p e below _ T (mkF m 20 #[.val (.int v), .val (.int (v &&& (3 : Int32))), .val (.int ch)] [(.int (v &&& (3 : Int32)))])
    refine OEnds.go (fun _ q => XS.iconst X0.here X0.hx rfl (hb hby d_method_3_20) q) ?_
    show OEnds p e below _ T (mkF m 21 #[.val (.int v), .val (.int (v &&& (3 : Int32))), .val (.int ch)] [(.int (1 : Int32)), (.int (v &&& (3 : Int32)))])
    by_cases hk1 : (v &&& (3 : Int32)) = (1 : Int32)
    · skip
      refine OEnds.go (fun _ q => XS.icmpNo X0.here X0.hx rfl (hb hby d_method_3_21) rfl (teq hk1).2 q) ?_
      show OEnds p e below _ T (mkF m 24 #[.val (.int v), .val (.int (v &&& (3 : Int32))), .val (.int ch)] [])
      refine X0.newO (hw _ (List.mem_of_getElem? (i := 0) rfl)) (hw _ (List.mem_of_getElem? (i := 1) rfl)) (hw _ (List.mem_of_getElem? (i := 2) rfl)) (hb hby d_method_3_24) (by decide) (by decide) ?_
      intro T1 h3 a5 ga5 X2 E4 Aa5 Da5 Ua5
      have gza5 : Z.heap.size ≤ a5 := ga5 ▸ X0.old.1
      have EX_h3 := ext_trans EX0 E4
      have Fa5_value : Fld Z h3 a5 "java/lang/String" "value" "[B" .null := Da5 (Or.inr (hw _ (List.mem_of_getElem? (i := 16) rfl))) (ty := (FieldType.array FieldType.byte)) (by decide)
      have Fa5_coder : Fld Z h3 a5 "java/lang/String" "coder" "B" (.int (0 : Int32)) := Da5 (Or.inr (hw _ (List.mem_of_getElem? (i := 17) rfl))) (ty := FieldType.byte) (by decide)
      show OEnds p e below _ T1 (mkF m 27 #[.val (.int v), .val (.int (v &&& (3 : Int32))), .val (.int ch)] [(.ref a5)])
      refine OEnds.go (fun _ q => XS.dup X2.here X2.hx rfl (hb hby d_method_3_27) rfl rfl q) ?_
      show OEnds p e below _ T1 (mkF m 28 #[.val (.int v), .val (.int (v &&& (3 : Int32))), .val (.int ch)] [(.ref a5), (.ref a5)])
      refine OEnds.go (fun _ q => XS.iconst X2.here X2.hx rfl (hb hby d_method_3_28) q) ?_
      show OEnds p e below _ T1 (mkF m 29 #[.val (.int v), .val (.int (v &&& (3 : Int32))), .val (.int ch)] [(.int (0 : Int32)), (.ref a5), (.ref a5)])
      refine X2.newP (hw _ (List.mem_of_getElem? (i := 3) rfl)) (hb hby d_method_3_29) (by decide) (cap := 0) (by decide) (by decide) (by decide) (by decide) ?_
      intro T6 h8 a10 ka10 ga10 X7 E9 Ka10
      have gza10 : Z.heap.size ≤ a10 := ga10 ▸ X2.old.1
      have Aa5_h8 := Aa5.ext E9
      have Fa5_value_h8 := Fa5_value.ext E9
      have Fa5_coder_h8 := Fa5_coder.ext E9
      have EBa5_h8 := ext_trans E4 E9
      have EX_h8 := ext_trans EX_h3 E9
      have Ka10_0 : Arv Z h8 a10 ka10 .char (0 : Int32) [] (.int (0 : Int32)) := Ka10.pad (pad_rep [] (.int (0 : Int32)) 0)
      show OEnds p e below _ T6 (mkF m 31 #[.val (.int v), .val (.int (v &&& (3 : Int32))), .val (.int ch)] [(.ref a10), (.ref a5), (.ref a5)])
      refine X7.callI hE (con_strE H a5 a10 ka10 (.int (0 : Int32)) gza5 h8 Aa5_h8 Fa5_value_h8 Fa5_coder_h8 Ka10_0) (hw _ (List.mem_of_getElem? (i := 4) rfl)) (hw _ (List.mem_of_getElem? (i := 5) rfl)) (hw _ (List.mem_of_getElem? (i := 2) rfl)) (hw _ (List.mem_of_getElem? (i := 6) rfl)) rfl (by decide) (W := 1) (by decide) (by decide) (a := a5) (argsL := [(.ref a10)]) (rest := [(.ref a5)]) rfl (lenOf own_pd6 rfl) rfl (by rw [hml]; rfl) (Nat.le_of_eq rfl) (hb hby d_method_3_31) (by decide) (by decide) ?_
      intro v18 vm16 T13 h15 X14 C17 q19
      obtain ⟨rfl, K11, Str12⟩ := q19
      have EBa5_h15 := ext_keep EBa5_h8 K11 (allS (Nat.le_of_eq ga5) all0)
      have EX_h15 := ext_keep EX_h8 K11 (allS (Nat.le_trans EX0.1 (Nat.le_of_eq ga5)) all0)
      show OEnds p e below _ T13 (mkF m 34 #[.val (.int v), .val (.int (v &&& (3 : Int32))), .val (.int ch)] [(.ref a5)])
      exact X14.retRef hE hlk rfl (t := (FieldType.object "java/lang/String")) rfl hret (hb hby d_method_3_34) (by decide) (by decide) ⟨_, rfl, rfl, EX_h15⟩
    · skip
      refine OEnds.go (fun _ q => XS.icmpYes X0.here X0.hx rfl (pc0 := 21) (pc' := 35) rfl (hb hby d_method_3_21) rfl (feq hk1).2 (by decide) (by decide) q) ?_
      show OEnds p e below _ T (mkF m 35 #[.val (.int v), .val (.int (v &&& (3 : Int32))), .val (.int ch)] [])
      refine OEnds.go (fun _ q => XS.iloadN X0.here X0.hx rfl (hb hby d_method_3_35) rfl q) ?_
      show OEnds p e below _ T (mkF m 36 #[.val (.int v), .val (.int (v &&& (3 : Int32))), .val (.int ch)] [(.int (v &&& (3 : Int32)))])
      refine OEnds.go (fun _ q => XS.iconst X0.here X0.hx rfl (hb hby d_method_3_36) q) ?_
      show OEnds p e below _ T (mkF m 37 #[.val (.int v), .val (.int (v &&& (3 : Int32))), .val (.int ch)] [(.int (2 : Int32)), (.int (v &&& (3 : Int32)))])
      by_cases hk2 : (v &&& (3 : Int32)) = (2 : Int32)
      · skip
        refine OEnds.go (fun _ q => XS.icmpNo X0.here X0.hx rfl (hb hby d_method_3_37) rfl (teq hk2).2 q) ?_
        show OEnds p e below _ T (mkF m 40 #[.val (.int v), .val (.int (v &&& (3 : Int32))), .val (.int ch)] [])
        refine OEnds.go (fun _ q => XS.iloadN X0.here X0.hx rfl (hb hby d_method_3_40) rfl q) ?_
        show OEnds p e below _ T (mkF m 41 #[.val (.int v), .val (.int (v &&& (3 : Int32))), .val (.int ch)] [(.int ch)])
        refine X0.callS hE (con_valC H ch hchb h0) (hw _ (List.mem_of_getElem? (i := 61) rfl)) (hw _ (List.mem_of_getElem? (i := 62) rfl)) (hw _ (List.mem_of_getElem? (i := 2) rfl)) (hw _ (List.mem_of_getElem? (i := 63) rfl))  (by decide) (W := 0) (by decide) (by decide) (argsL := [(.int ch)]) (rest := []) rfl (lenOf own_pd7 rfl) rfl (by rw [hml]; rfl) (Nat.le_of_eq rfl) (hb hby d_method_3_41) (by decide) (by decide) ?_
        intro v28 vm26 T23 h25 X24 C27 q29
        obtain ⟨a20, rfl, E21, Str22⟩ := q29
        have EX_h25 := ext_trans EX0 E21
        show OEnds p e below _ T23 (mkF m 44 #[.val (.int v), .val (.int (v &&& (3 : Int32))), .val (.int ch)] [(.ref a20)])
        exact X24.retRef hE hlk rfl (t := (FieldType.object "java/lang/String")) rfl hret (hb hby d_method_3_44) (by decide) (by decide) ⟨_, rfl, rfl, EX_h25⟩
      · skip
        refine OEnds.go (fun _ q => XS.icmpYes X0.here X0.hx rfl (pc0 := 37) (pc' := 45) rfl (hb hby d_method_3_37) rfl (feq hk2).2 (by decide) (by decide) q) ?_
        show OEnds p e below _ T (mkF m 45 #[.val (.int v), .val (.int (v &&& (3 : Int32))), .val (.int ch)] [])
        refine X0.newO (hw _ (List.mem_of_getElem? (i := 0) rfl)) (hw _ (List.mem_of_getElem? (i := 1) rfl)) (hw _ (List.mem_of_getElem? (i := 2) rfl)) (hb hby d_method_3_45) (by decide) (by decide) ?_
        intro T30 h32 a34 ga34 X31 E33 Aa34 Da34 Ua34
        have gza34 : Z.heap.size ≤ a34 := ga34 ▸ X0.old.1
        have EX_h32 := ext_trans EX0 E33
        have Fa34_value : Fld Z h32 a34 "java/lang/String" "value" "[B" .null := Da34 (Or.inr (hw _ (List.mem_of_getElem? (i := 16) rfl))) (ty := (FieldType.array FieldType.byte)) (by decide)
        have Fa34_coder : Fld Z h32 a34 "java/lang/String" "coder" "B" (.int (0 : Int32)) := Da34 (Or.inr (hw _ (List.mem_of_getElem? (i := 17) rfl))) (ty := FieldType.byte) (by decide)
        show OEnds p e below _ T30 (mkF m 48 #[.val (.int v), .val (.int (v &&& (3 : Int32))), .val (.int ch)] [(.ref a34)])
        refine OEnds.go (fun _ q => XS.dup X31.here X31.hx rfl (hb hby d_method_3_48) rfl rfl q) ?_
        show OEnds p e below _ T30 (mkF m 49 #[.val (.int v), .val (.int (v &&& (3 : Int32))), .val (.int ch)] [(.ref a34), (.ref a34)])
        refine OEnds.go (fun _ q => XS.iconst X31.here X31.hx rfl (hb hby d_method_3_49) q) ?_
        show OEnds p e below _ T30 (mkF m 50 #[.val (.int v), .val (.int (v &&& (3 : Int32))), .val (.int ch)] [(.int (2 : Int32)), (.ref a34), (.ref a34)])
        refine X31.newP (hw _ (List.mem_of_getElem? (i := 3) rfl)) (hb hby d_method_3_50) (by decide) (cap := 2) (by decide) (by decide) (by decide) (by decide) ?_
        intro T35 h37 a39 ka39 ga39 X36 E38 Ka39
        have gza39 : Z.heap.size ≤ a39 := ga39 ▸ X31.old.1
        have Aa34_h37 := Aa34.ext E38
        have Fa34_value_h37 := Fa34_value.ext E38
        have Fa34_coder_h37 := Fa34_coder.ext E38
        have EBa34_h37 := ext_trans E33 E38
        have EX_h37 := ext_trans EX_h32 E38
        have Ka39_0 : Arv Z h37 a39 ka39 .char (2 : Int32) [.int (0 : Int32), .int (0 : Int32)] (.int (0 : Int32)) := Ka39.pad (pad_rep [] (.int (0 : Int32)) 2)
        show OEnds p e below _ T35 (mkF m 52 #[.val (.int v), .val (.int (v &&& (3 : Int32))), .val (.int ch)] [(.ref a39), (.ref a34), (.ref a34)])
        refine OEnds.go (fun _ q => XS.dup X36.here X36.hx rfl (hb hby d_method_3_52) rfl rfl q) ?_
        show OEnds p e below _ T35 (mkF m 53 #[.val (.int v), .val (.int (v &&& (3 : Int32))), .val (.int ch)] [(.ref a39), (.ref a39), (.ref a34), (.ref a34)])
        refine OEnds.go (fun _ q => XS.iconst X36.here X36.hx rfl (hb hby d_method_3_53) q) ?_
        show OEnds p e below _ T35 (mkF m 54 #[.val (.int v), .val (.int (v &&& (3 : Int32))), .val (.int ch)] [(.int (0 : Int32)), (.ref a39), (.ref a39), (.ref a34), (.ref a34)])
        refine OEnds.go (fun _ q => XS.iloadN X36.here X36.hx rfl (hb hby d_method_3_54) rfl q) ?_
        show OEnds p e below _ T35 (mkF m 55 #[.val (.int v), .val (.int (v &&& (3 : Int32))), .val (.int ch)] [(.int ch), (.int (0 : Int32)), (.ref a39), (.ref a39), (.ref a34), (.ref a34)])
        refine X36.stC Ka39_0 (by decide) (up255 hchb) (i := 0) rfl (Nat.le_of_ble_eq_true rfl) gza39 (hb hby d_method_3_55) ?_
        intro T40 h42 X41 W43 Ka39_h42x
        have Ka39_h42 : Arv Z h42 a39 ka39 .char (2 : Int32) [.int ch, .int (0 : Int32)] (.int (0 : Int32)) := Ka39_h42x
        have EBa39_h42 := ext_wr E38 W43 (Nat.le_of_eq ga39)
        have Aa34_h42 := Aa34.ext EBa39_h42
        have Fa34_value_h42 := Fa34_value.ext EBa39_h42
        have Fa34_coder_h42 := Fa34_coder.ext EBa39_h42
        have EX_h42 := ext_wr EX_h37 W43 (Nat.le_trans EX_h32.1 (Nat.le_of_eq ga39))
        have EBa34_h42 := ext_wr EBa34_h37 W43 (Nat.le_trans E33.1 (Nat.le_of_eq ga39))
        show OEnds p e below _ T40 (mkF m 56 #[.val (.int v), .val (.int (v &&& (3 : Int32))), .val (.int ch)] [(.ref a39), (.ref a34), (.ref a34)])
        refine OEnds.go (fun _ q => XS.dup X41.here X41.hx rfl (hb hby d_method_3_56) rfl rfl q) ?_
        show OEnds p e below _ T40 (mkF m 57 #[.val (.int v), .val (.int (v &&& (3 : Int32))), .val (.int ch)] [(.ref a39), (.ref a39), (.ref a34), (.ref a34)])
        refine OEnds.go (fun _ q => XS.iconst X41.here X41.hx rfl (hb hby d_method_3_57) q) ?_
        show OEnds p e below _ T40 (mkF m 58 #[.val (.int v), .val (.int (v &&& (3 : Int32))), .val (.int ch)] [(.int (1 : Int32)), (.ref a39), (.ref a39), (.ref a34), (.ref a34)])
        refine OEnds.go (fun _ q => XS.iloadN X41.here X41.hx rfl (hb hby d_method_3_58) rfl q) ?_
        show OEnds p e below _ T40 (mkF m 59 #[.val (.int v), .val (.int (v &&& (3 : Int32))), .val (.int ch)] [(.int ch), (.int (1 : Int32)), (.ref a39), (.ref a39), (.ref a34), (.ref a34)])
        refine X41.stC Ka39_h42 (by decide) (up255 hchb) (i := 1) rfl (Nat.le_of_ble_eq_true rfl) gza39 (hb hby d_method_3_59) ?_
        intro T44 h46 X45 W47 Ka39_h46x
        have Ka39_h46 : Arv Z h46 a39 ka39 .char (2 : Int32) [.int ch, .int ch] (.int (0 : Int32)) := Ka39_h46x
        have EBa39_h46 := ext_wr EBa39_h42 W47 (Nat.le_of_eq ga39)
        have Aa34_h46 := Aa34.ext EBa39_h46
        have Fa34_value_h46 := Fa34_value.ext EBa39_h46
        have Fa34_coder_h46 := Fa34_coder.ext EBa39_h46
        have EX_h46 := ext_wr EX_h42 W47 (Nat.le_trans EX_h32.1 (Nat.le_of_eq ga39))
        have EBa34_h46 := ext_wr EBa34_h42 W47 (Nat.le_trans E33.1 (Nat.le_of_eq ga39))
        show OEnds p e below _ T44 (mkF m 60 #[.val (.int v), .val (.int (v &&& (3 : Int32))), .val (.int ch)] [(.ref a39), (.ref a34), (.ref a34)])
        refine own_newStr H X45 (cs := [ch, ch]) (j := 2) gza34 Aa34_h46 Fa34_value_h46 Fa34_coder_h46 Ka39_h46 rfl rfl (by decide) (by decide) (all_cons hchb (all_cons hchb all_nil)) (hw _ (List.mem_of_getElem? (i := 4) rfl)) (W := 1) (by decide) (by decide) (by rw [hml]; rfl) (Nat.le_of_eq rfl) (hb hby d_method_3_60) (by decide) (by decide) ?_
        intro T48 h50 X49 K51 Str52
        have EBa34_h50 := ext_keep EBa34_h46 K51 (allS (Nat.le_of_eq ga34) all0)
        have EX_h50 := ext_keep EX_h46 K51 (allS (Nat.le_trans EX0.1 (Nat.le_of_eq ga34)) all0)
        show OEnds p e below _ T48 (mkF m 63 #[.val (.int v), .val (.int (v &&& (3 : Int32))), .val (.int ch)] [(.ref a34)])
        exact X49.retRef hE hlk rfl (t := (FieldType.object "java/lang/String")) rfl hret (hb hby d_method_3_63) (by decide) (by decide) ⟨_, rfl, rfl, EX_h50⟩
theorem con_law {l : Launch} {Z : State} {a0 : Array Value} {cz : Int32} {fm : Value} (H : Ctx Z a0 cz fm) (x0 x1 x2 x3 x4 x5 : Int32) (h0 : Heap)  :
    ConX l Z consts_1 x code maxLocals ret tables_1 room_1 #[(.int x0), (.int x1), (.int x2), (.int x3), (.int x4), (.int x5)] h0 (fun r h => r = some (.int 1)) := by
  obtain ⟨hw, hE, S0, hcz, S1, rf⟩ := id H
  refine ConX.of (plainFor_of_name own_pn4) ?_
  intro p e s m below meth c T hby hml hret hlk hnm X0
  have EX0 := ext_refl h0
  refine OEnds.cast (own_ef7 m x0 x1 x2 x3 x4 x5 ) ?_
  show OEnds p e below _ T (mkF m 0 #[.val (.int x0), .val (.int x1), .val (.int x2), .val (.int x3), .val (.int x4), .val (.int x5), .unset, .unset, .unset, .unset, .unset, .unset, .unset, .unset, .unset, .unset, .unset, .unset, .unset] [])
  refine OEnds.go (fun _ q => XS.iloadN X0.here X0.hx rfl (hb hby at_0) rfl q) ?_
  show OEnds p e below _ T (mkF m 1 #[.val (.int x0), .val (.int x1), .val (.int x2), .val (.int x3), .val (.int x4), .val (.int x5), .unset, .unset, .unset, .unset, .unset, .unset, .unset, .unset, .unset, .unset, .unset, .unset, .unset] [(.int x1)])
  refine OEnds.go (fun _ q => XS.sipush X0.here X0.hx rfl (hb hby at_1) q) ?_
  show OEnds p e below _ T (mkF m 4 #[.val (.int x0), .val (.int x1), .val (.int x2), .val (.int x3), .val (.int x4), .val (.int x5), .unset, .unset, .unset, .unset, .unset, .unset, .unset, .unset, .unset, .unset, .unset, .unset, .unset] [(.int (255 : Int32)), (.int x1)])
  refine OEnds.go (fun _ q => XS.iand X0.here X0.hx rfl (hb hby at_4) rfl q) ?_
  show OEnds p e below _ T (mkF m 5 #[.val (.int x0), .val (.int x1), .val (.int x2), .val (.int x3), .val (.int x4), .val (.int x5), .unset, .unset, .unset, .unset, .unset, .unset, .unset, .unset, .unset, .unset, .unset, .unset, .unset] [(.int (x1 &&& (255 : Int32)))])
  refine OEnds.go (fun _ q => XS.i2c X0.here X0.hx rfl (hb hby at_5) rfl q) ?_
  show OEnds p e below _ T (mkF m 6 #[.val (.int x0), .val (.int x1), .val (.int x2), .val (.int x3), .val (.int x4), .val (.int x5), .unset, .unset, .unset, .unset, .unset, .unset, .unset, .unset, .unset, .unset, .unset, .unset, .unset] [(.int ((x1 &&& (255 : Int32)).toUInt32.toUInt16.toUInt32.toInt32))])
  obtain ⟨ca, hca⟩ : ∃ z : Int32, z = ((x1 &&& (255 : Int32)).toUInt32.toUInt16.toUInt32.toInt32) := ⟨_, rfl⟩
  rw [← hca]
  show OEnds p e below _ T (mkF m 6 #[.val (.int x0), .val (.int x1), .val (.int x2), .val (.int x3), .val (.int x4), .val (.int x5), .unset, .unset, .unset, .unset, .unset, .unset, .unset, .unset, .unset, .unset, .unset, .unset, .unset] [(.int ca)])
  have hcab : ¬ ca < 0 ∧ ¬ (255 : Int32) < ca := hca ▸ ch255 x1
  refine OEnds.go (fun _ q => XS.istore X0.here X0.hx rfl (hb hby at_6) rfl (l' := #[.val (.int x0), .val (.int x1), .val (.int x2), .val (.int x3), .val (.int x4), .val (.int x5), .val (.int ca), .unset, .unset, .unset, .unset, .unset, .unset, .unset, .unset, .unset, .unset, .unset, .unset]) rfl q) ?_
  show OEnds p e below _ T (mkF m 8 #[.val (.int x0), .val (.int x1), .val (.int x2), .val (.int x3), .val (.int x4), .val (.int x5), .val (.int ca), .unset, .unset, .unset, .unset, .unset, .unset, .unset, .unset, .unset, .unset, .unset, .unset] [])
  refine OEnds.go (fun _ q => XS.iloadN X0.here X0.hx rfl (hb hby at_8) rfl q) ?_
  show OEnds p e below _ T (mkF m 9 #[.val (.int x0), .val (.int x1), .val (.int x2), .val (.int x3), .val (.int x4), .val (.int x5), .val (.int ca), .unset, .unset, .unset, .unset, .unset, .unset, .unset, .unset, .unset, .unset, .unset, .unset] [(.int x2)])
  refine OEnds.go (fun _ q => XS.sipush X0.here X0.hx rfl (hb hby at_9) q) ?_
  show OEnds p e below _ T (mkF m 12 #[.val (.int x0), .val (.int x1), .val (.int x2), .val (.int x3), .val (.int x4), .val (.int x5), .val (.int ca), .unset, .unset, .unset, .unset, .unset, .unset, .unset, .unset, .unset, .unset, .unset, .unset] [(.int (255 : Int32)), (.int x2)])
  refine OEnds.go (fun _ q => XS.iand X0.here X0.hx rfl (hb hby at_12) rfl q) ?_
  show OEnds p e below _ T (mkF m 13 #[.val (.int x0), .val (.int x1), .val (.int x2), .val (.int x3), .val (.int x4), .val (.int x5), .val (.int ca), .unset, .unset, .unset, .unset, .unset, .unset, .unset, .unset, .unset, .unset, .unset, .unset] [(.int (x2 &&& (255 : Int32)))])
  refine OEnds.go (fun _ q => XS.i2c X0.here X0.hx rfl (hb hby at_13) rfl q) ?_
  show OEnds p e below _ T (mkF m 14 #[.val (.int x0), .val (.int x1), .val (.int x2), .val (.int x3), .val (.int x4), .val (.int x5), .val (.int ca), .unset, .unset, .unset, .unset, .unset, .unset, .unset, .unset, .unset, .unset, .unset, .unset] [(.int ((x2 &&& (255 : Int32)).toUInt32.toUInt16.toUInt32.toInt32))])
  obtain ⟨cb, hcb⟩ : ∃ z : Int32, z = ((x2 &&& (255 : Int32)).toUInt32.toUInt16.toUInt32.toInt32) := ⟨_, rfl⟩
  rw [← hcb]
  show OEnds p e below _ T (mkF m 14 #[.val (.int x0), .val (.int x1), .val (.int x2), .val (.int x3), .val (.int x4), .val (.int x5), .val (.int ca), .unset, .unset, .unset, .unset, .unset, .unset, .unset, .unset, .unset, .unset, .unset, .unset] [(.int cb)])
  have hcbb : ¬ cb < 0 ∧ ¬ (255 : Int32) < cb := hcb ▸ ch255 x2
  refine OEnds.go (fun _ q => XS.istore X0.here X0.hx rfl (hb hby at_14) rfl (l' := #[.val (.int x0), .val (.int x1), .val (.int x2), .val (.int x3), .val (.int x4), .val (.int x5), .val (.int ca), .val (.int cb), .unset, .unset, .unset, .unset, .unset, .unset, .unset, .unset, .unset, .unset, .unset]) rfl q) ?_
  show OEnds p e below _ T (mkF m 16 #[.val (.int x0), .val (.int x1), .val (.int x2), .val (.int x3), .val (.int x4), .val (.int x5), .val (.int ca), .val (.int cb), .unset, .unset, .unset, .unset, .unset, .unset, .unset, .unset, .unset, .unset, .unset] [])
  refine OEnds.go (fun _ q => XS.iloadN X0.here X0.hx rfl (hb hby at_16) rfl q) ?_
  show OEnds p e below _ T (mkF m 17 #[.val (.int x0), .val (.int x1), .val (.int x2), .val (.int x3), .val (.int x4), .val (.int x5), .val (.int ca), .val (.int cb), .unset, .unset, .unset, .unset, .unset, .unset, .unset, .unset, .unset, .unset, .unset] [(.int x3)])
  refine OEnds.go (fun _ q => XS.sipush X0.here X0.hx rfl (hb hby at_17) q) ?_
  show OEnds p e below _ T (mkF m 20 #[.val (.int x0), .val (.int x1), .val (.int x2), .val (.int x3), .val (.int x4), .val (.int x5), .val (.int ca), .val (.int cb), .unset, .unset, .unset, .unset, .unset, .unset, .unset, .unset, .unset, .unset, .unset] [(.int (255 : Int32)), (.int x3)])
  refine OEnds.go (fun _ q => XS.iand X0.here X0.hx rfl (hb hby at_20) rfl q) ?_
  show OEnds p e below _ T (mkF m 21 #[.val (.int x0), .val (.int x1), .val (.int x2), .val (.int x3), .val (.int x4), .val (.int x5), .val (.int ca), .val (.int cb), .unset, .unset, .unset, .unset, .unset, .unset, .unset, .unset, .unset, .unset, .unset] [(.int (x3 &&& (255 : Int32)))])
  refine OEnds.go (fun _ q => XS.i2c X0.here X0.hx rfl (hb hby at_21) rfl q) ?_
  show OEnds p e below _ T (mkF m 22 #[.val (.int x0), .val (.int x1), .val (.int x2), .val (.int x3), .val (.int x4), .val (.int x5), .val (.int ca), .val (.int cb), .unset, .unset, .unset, .unset, .unset, .unset, .unset, .unset, .unset, .unset, .unset] [(.int ((x3 &&& (255 : Int32)).toUInt32.toUInt16.toUInt32.toInt32))])
  obtain ⟨cc, hcc⟩ : ∃ z : Int32, z = ((x3 &&& (255 : Int32)).toUInt32.toUInt16.toUInt32.toInt32) := ⟨_, rfl⟩
  rw [← hcc]
  show OEnds p e below _ T (mkF m 22 #[.val (.int x0), .val (.int x1), .val (.int x2), .val (.int x3), .val (.int x4), .val (.int x5), .val (.int ca), .val (.int cb), .unset, .unset, .unset, .unset, .unset, .unset, .unset, .unset, .unset, .unset, .unset] [(.int cc)])
  have hccb : ¬ cc < 0 ∧ ¬ (255 : Int32) < cc := hcc ▸ ch255 x3
  refine OEnds.go (fun _ q => XS.istore X0.here X0.hx rfl (hb hby at_22) rfl (l' := #[.val (.int x0), .val (.int x1), .val (.int x2), .val (.int x3), .val (.int x4), .val (.int x5), .val (.int ca), .val (.int cb), .val (.int cc), .unset, .unset, .unset, .unset, .unset, .unset, .unset, .unset, .unset, .unset]) rfl q) ?_
  show OEnds p e below _ T (mkF m 24 #[.val (.int x0), .val (.int x1), .val (.int x2), .val (.int x3), .val (.int x4), .val (.int x5), .val (.int ca), .val (.int cb), .val (.int cc), .unset, .unset, .unset, .unset, .unset, .unset, .unset, .unset, .unset, .unset] [])
  refine X0.newO (hw _ (List.mem_of_getElem? (i := 0) rfl)) (hw _ (List.mem_of_getElem? (i := 1) rfl)) (hw _ (List.mem_of_getElem? (i := 2) rfl)) (hb hby at_24) (by decide) (by decide) ?_
  intro T1 h3 a5 ga5 X2 E4 Aa5 Da5 Ua5
  have gza5 : Z.heap.size ≤ a5 := ga5 ▸ X0.old.1
  have EX_h3 := ext_trans EX0 E4
  have Fa5_value : Fld Z h3 a5 "java/lang/String" "value" "[B" .null := Da5 (Or.inr (hw _ (List.mem_of_getElem? (i := 16) rfl))) (ty := (FieldType.array FieldType.byte)) (by decide)
  have Fa5_coder : Fld Z h3 a5 "java/lang/String" "coder" "B" (.int (0 : Int32)) := Da5 (Or.inr (hw _ (List.mem_of_getElem? (i := 17) rfl))) (ty := FieldType.byte) (by decide)
  show OEnds p e below _ T1 (mkF m 27 #[.val (.int x0), .val (.int x1), .val (.int x2), .val (.int x3), .val (.int x4), .val (.int x5), .val (.int ca), .val (.int cb), .val (.int cc), .unset, .unset, .unset, .unset, .unset, .unset, .unset, .unset, .unset, .unset] [(.ref a5)])
  refine OEnds.go (fun _ q => XS.dup X2.here X2.hx rfl (hb hby at_27) rfl rfl q) ?_
  show OEnds p e below _ T1 (mkF m 28 #[.val (.int x0), .val (.int x1), .val (.int x2), .val (.int x3), .val (.int x4), .val (.int x5), .val (.int ca), .val (.int cb), .val (.int cc), .unset, .unset, .unset, .unset, .unset, .unset, .unset, .unset, .unset, .unset] [(.ref a5), (.ref a5)])
  refine OEnds.go (fun _ q => XS.iconst X2.here X2.hx rfl (hb hby at_28) q) ?_
  show OEnds p e below _ T1 (mkF m 29 #[.val (.int x0), .val (.int x1), .val (.int x2), .val (.int x3), .val (.int x4), .val (.int x5), .val (.int ca), .val (.int cb), .val (.int cc), .unset, .unset, .unset, .unset, .unset, .unset, .unset, .unset, .unset, .unset] [(.int (0 : Int32)), (.ref a5), (.ref a5)])
  refine X2.newP (hw _ (List.mem_of_getElem? (i := 3) rfl)) (hb hby at_29) (by decide) (cap := 0) (by decide) (by decide) (by decide) (by decide) ?_
  intro T6 h8 a10 ka10 ga10 X7 E9 Ka10
  have gza10 : Z.heap.size ≤ a10 := ga10 ▸ X2.old.1
  have Aa5_h8 := Aa5.ext E9
  have Fa5_value_h8 := Fa5_value.ext E9
  have Fa5_coder_h8 := Fa5_coder.ext E9
  have EBa5_h8 := ext_trans E4 E9
  have EX_h8 := ext_trans EX_h3 E9
  have Ka10_0 : Arv Z h8 a10 ka10 .char (0 : Int32) [] (.int (0 : Int32)) := Ka10.pad (pad_rep [] (.int (0 : Int32)) 0)
  show OEnds p e below _ T6 (mkF m 31 #[.val (.int x0), .val (.int x1), .val (.int x2), .val (.int x3), .val (.int x4), .val (.int x5), .val (.int ca), .val (.int cb), .val (.int cc), .unset, .unset, .unset, .unset, .unset, .unset, .unset, .unset, .unset, .unset] [(.ref a10), (.ref a5), (.ref a5)])
  refine X7.callI hE (con_strE H a5 a10 ka10 (.int (0 : Int32)) gza5 h8 Aa5_h8 Fa5_value_h8 Fa5_coder_h8 Ka10_0) (hw _ (List.mem_of_getElem? (i := 4) rfl)) (hw _ (List.mem_of_getElem? (i := 5) rfl)) (hw _ (List.mem_of_getElem? (i := 2) rfl)) (hw _ (List.mem_of_getElem? (i := 6) rfl)) rfl (by decide) (W := 1) (by decide) (by decide) (a := a5) (argsL := [(.ref a10)]) (rest := [(.ref a5)]) rfl (lenOf own_pd6 rfl) rfl (by rw [hml]; rfl) (Nat.le_of_eq rfl) (hb hby at_31) (by decide) (by decide) ?_
  intro v18 vm16 T13 h15 X14 C17 q19
  obtain ⟨rfl, K11, Str12⟩ := q19
  have EBa5_h15 := ext_keep EBa5_h8 K11 (allS (Nat.le_of_eq ga5) all0)
  have EX_h15 := ext_keep EX_h8 K11 (allS (Nat.le_trans EX0.1 (Nat.le_of_eq ga5)) all0)
  show OEnds p e below _ T13 (mkF m 34 #[.val (.int x0), .val (.int x1), .val (.int x2), .val (.int x3), .val (.int x4), .val (.int x5), .val (.int ca), .val (.int cb), .val (.int cc), .unset, .unset, .unset, .unset, .unset, .unset, .unset, .unset, .unset, .unset] [(.ref a5)])
  refine OEnds.go (fun _ q => XS.astore X14.here X14.hx rfl (hb hby at_34) rfl rfl (l' := #[.val (.int x0), .val (.int x1), .val (.int x2), .val (.int x3), .val (.int x4), .val (.int x5), .val (.int ca), .val (.int cb), .val (.int cc), .val (.ref a5), .unset, .unset, .unset, .unset, .unset, .unset, .unset, .unset, .unset]) rfl q) ?_
  show OEnds p e below _ T13 (mkF m 36 #[.val (.int x0), .val (.int x1), .val (.int x2), .val (.int x3), .val (.int x4), .val (.int x5), .val (.int ca), .val (.int cb), .val (.int cc), .val (.ref a5), .unset, .unset, .unset, .unset, .unset, .unset, .unset, .unset, .unset] [])
  refine X14.newO (hw _ (List.mem_of_getElem? (i := 0) rfl)) (hw _ (List.mem_of_getElem? (i := 1) rfl)) (hw _ (List.mem_of_getElem? (i := 2) rfl)) (hb hby at_36) (by decide) (by decide) ?_
  intro T20 h22 a24 ga24 X21 E23 Aa24 Da24 Ua24
  have gza24 : Z.heap.size ≤ a24 := ga24 ▸ X14.old.1
  have Str12_h22 := Str12.ext E23
  have EX_h22 := ext_trans EX_h15 E23
  have Fa24_value : Fld Z h22 a24 "java/lang/String" "value" "[B" .null := Da24 (Or.inr (hw _ (List.mem_of_getElem? (i := 16) rfl))) (ty := (FieldType.array FieldType.byte)) (by decide)
  have Fa24_coder : Fld Z h22 a24 "java/lang/String" "coder" "B" (.int (0 : Int32)) := Da24 (Or.inr (hw _ (List.mem_of_getElem? (i := 17) rfl))) (ty := FieldType.byte) (by decide)
  show OEnds p e below _ T20 (mkF m 39 #[.val (.int x0), .val (.int x1), .val (.int x2), .val (.int x3), .val (.int x4), .val (.int x5), .val (.int ca), .val (.int cb), .val (.int cc), .val (.ref a5), .unset, .unset, .unset, .unset, .unset, .unset, .unset, .unset, .unset] [(.ref a24)])
  refine OEnds.go (fun _ q => XS.dup X21.here X21.hx rfl (hb hby at_39) rfl rfl q) ?_
  show OEnds p e below _ T20 (mkF m 40 #[.val (.int x0), .val (.int x1), .val (.int x2), .val (.int x3), .val (.int x4), .val (.int x5), .val (.int ca), .val (.int cb), .val (.int cc), .val (.ref a5), .unset, .unset, .unset, .unset, .unset, .unset, .unset, .unset, .unset] [(.ref a24), (.ref a24)])
  refine OEnds.go (fun _ q => XS.iconst X21.here X21.hx rfl (hb hby at_40) q) ?_
  show OEnds p e below _ T20 (mkF m 41 #[.val (.int x0), .val (.int x1), .val (.int x2), .val (.int x3), .val (.int x4), .val (.int x5), .val (.int ca), .val (.int cb), .val (.int cc), .val (.ref a5), .unset, .unset, .unset, .unset, .unset, .unset, .unset, .unset, .unset] [(.int (1 : Int32)), (.ref a24), (.ref a24)])
  refine X21.newP (hw _ (List.mem_of_getElem? (i := 3) rfl)) (hb hby at_41) (by decide) (cap := 1) (by decide) (by decide) (by decide) (by decide) ?_
  intro T25 h27 a29 ka29 ga29 X26 E28 Ka29
  have gza29 : Z.heap.size ≤ a29 := ga29 ▸ X21.old.1
  have Str12_h27 := Str12_h22.ext E28
  have Aa24_h27 := Aa24.ext E28
  have Fa24_value_h27 := Fa24_value.ext E28
  have Fa24_coder_h27 := Fa24_coder.ext E28
  have EBa24_h27 := ext_trans E23 E28
  have EX_h27 := ext_trans EX_h22 E28
  have Ka29_0 : Arv Z h27 a29 ka29 .char (1 : Int32) [.int (0 : Int32)] (.int (0 : Int32)) := Ka29.pad (pad_rep [] (.int (0 : Int32)) 1)
  show OEnds p e below _ T25 (mkF m 43 #[.val (.int x0), .val (.int x1), .val (.int x2), .val (.int x3), .val (.int x4), .val (.int x5), .val (.int ca), .val (.int cb), .val (.int cc), .val (.ref a5), .unset, .unset, .unset, .unset, .unset, .unset, .unset, .unset, .unset] [(.ref a29), (.ref a24), (.ref a24)])
  refine OEnds.go (fun _ q => XS.dup X26.here X26.hx rfl (hb hby at_43) rfl rfl q) ?_
  show OEnds p e below _ T25 (mkF m 44 #[.val (.int x0), .val (.int x1), .val (.int x2), .val (.int x3), .val (.int x4), .val (.int x5), .val (.int ca), .val (.int cb), .val (.int cc), .val (.ref a5), .unset, .unset, .unset, .unset, .unset, .unset, .unset, .unset, .unset] [(.ref a29), (.ref a29), (.ref a24), (.ref a24)])
  refine OEnds.go (fun _ q => XS.iconst X26.here X26.hx rfl (hb hby at_44) q) ?_
  show OEnds p e below _ T25 (mkF m 45 #[.val (.int x0), .val (.int x1), .val (.int x2), .val (.int x3), .val (.int x4), .val (.int x5), .val (.int ca), .val (.int cb), .val (.int cc), .val (.ref a5), .unset, .unset, .unset, .unset, .unset, .unset, .unset, .unset, .unset] [(.int (0 : Int32)), (.ref a29), (.ref a29), (.ref a24), (.ref a24)])
  refine OEnds.go (fun _ q => XS.iload X26.here X26.hx rfl (hb hby at_45) rfl q) ?_
  show OEnds p e below _ T25 (mkF m 47 #[.val (.int x0), .val (.int x1), .val (.int x2), .val (.int x3), .val (.int x4), .val (.int x5), .val (.int ca), .val (.int cb), .val (.int cc), .val (.ref a5), .unset, .unset, .unset, .unset, .unset, .unset, .unset, .unset, .unset] [(.int ca), (.int (0 : Int32)), (.ref a29), (.ref a29), (.ref a24), (.ref a24)])
  refine X26.stC Ka29_0 (by decide) (up255 hcab) (i := 0) rfl (Nat.le_of_ble_eq_true rfl) gza29 (hb hby at_47) ?_
  intro T30 h32 X31 W33 Ka29_h32x
  have Ka29_h32 : Arv Z h32 a29 ka29 .char (1 : Int32) [.int ca] (.int (0 : Int32)) := Ka29_h32x
  have EBa29_h32 := ext_wr E28 W33 (Nat.le_of_eq ga29)
  have Str12_h32 := Str12_h22.ext EBa29_h32
  have Aa24_h32 := Aa24.ext EBa29_h32
  have Fa24_value_h32 := Fa24_value.ext EBa29_h32
  have Fa24_coder_h32 := Fa24_coder.ext EBa29_h32
  have EX_h32 := ext_wr EX_h27 W33 (Nat.le_trans EX_h22.1 (Nat.le_of_eq ga29))
  have EBa24_h32 := ext_wr EBa24_h27 W33 (Nat.le_trans E23.1 (Nat.le_of_eq ga29))
  show OEnds p e below _ T30 (mkF m 48 #[.val (.int x0), .val (.int x1), .val (.int x2), .val (.int x3), .val (.int x4), .val (.int x5), .val (.int ca), .val (.int cb), .val (.int cc), .val (.ref a5), .unset, .unset, .unset, .unset, .unset, .unset, .unset, .unset, .unset] [(.ref a29), (.ref a24), (.ref a24)])
  refine own_newStr H X31 (cs := [ca]) (j := 1) gza24 Aa24_h32 Fa24_value_h32 Fa24_coder_h32 Ka29_h32 rfl rfl (by decide) (by decide) (all_cons hcab all_nil) (hw _ (List.mem_of_getElem? (i := 4) rfl)) (W := 1) (by decide) (by decide) (by rw [hml]; rfl) (Nat.le_of_eq rfl) (hb hby at_48) (by decide) (by decide) ?_
  intro T34 h36 X35 K37 Str38
  have EBa24_h36 := ext_keep EBa24_h32 K37 (allS (Nat.le_of_eq ga24) all0)
  have Str12_h36 := Str12.ext EBa24_h36
  have EX_h36 := ext_keep EX_h32 K37 (allS (Nat.le_trans EX_h15.1 (Nat.le_of_eq ga24)) all0)
  show OEnds p e below _ T34 (mkF m 51 #[.val (.int x0), .val (.int x1), .val (.int x2), .val (.int x3), .val (.int x4), .val (.int x5), .val (.int ca), .val (.int cb), .val (.int cc), .val (.ref a5), .unset, .unset, .unset, .unset, .unset, .unset, .unset, .unset, .unset] [(.ref a24)])
  refine OEnds.go (fun _ q => XS.astore X35.here X35.hx rfl (hb hby at_51) rfl rfl (l' := #[.val (.int x0), .val (.int x1), .val (.int x2), .val (.int x3), .val (.int x4), .val (.int x5), .val (.int ca), .val (.int cb), .val (.int cc), .val (.ref a5), .val (.ref a24), .unset, .unset, .unset, .unset, .unset, .unset, .unset, .unset]) rfl q) ?_
  show OEnds p e below _ T34 (mkF m 53 #[.val (.int x0), .val (.int x1), .val (.int x2), .val (.int x3), .val (.int x4), .val (.int x5), .val (.int ca), .val (.int cb), .val (.int cc), .val (.ref a5), .val (.ref a24), .unset, .unset, .unset, .unset, .unset, .unset, .unset, .unset] [])
  refine X35.newO (hw _ (List.mem_of_getElem? (i := 0) rfl)) (hw _ (List.mem_of_getElem? (i := 1) rfl)) (hw _ (List.mem_of_getElem? (i := 2) rfl)) (hb hby at_53) (by decide) (by decide) ?_
  intro T39 h41 a43 ga43 X40 E42 Aa43 Da43 Ua43
  have gza43 : Z.heap.size ≤ a43 := ga43 ▸ X35.old.1
  have Str12_h41 := Str12_h36.ext E42
  have Str38_h41 := Str38.ext E42
  have EX_h41 := ext_trans EX_h36 E42
  have Fa43_value : Fld Z h41 a43 "java/lang/String" "value" "[B" .null := Da43 (Or.inr (hw _ (List.mem_of_getElem? (i := 16) rfl))) (ty := (FieldType.array FieldType.byte)) (by decide)
  have Fa43_coder : Fld Z h41 a43 "java/lang/String" "coder" "B" (.int (0 : Int32)) := Da43 (Or.inr (hw _ (List.mem_of_getElem? (i := 17) rfl))) (ty := FieldType.byte) (by decide)
  show OEnds p e below _ T39 (mkF m 56 #[.val (.int x0), .val (.int x1), .val (.int x2), .val (.int x3), .val (.int x4), .val (.int x5), .val (.int ca), .val (.int cb), .val (.int cc), .val (.ref a5), .val (.ref a24), .unset, .unset, .unset, .unset, .unset, .unset, .unset, .unset] [(.ref a43)])
  refine OEnds.go (fun _ q => XS.dup X40.here X40.hx rfl (hb hby at_56) rfl rfl q) ?_
  show OEnds p e below _ T39 (mkF m 57 #[.val (.int x0), .val (.int x1), .val (.int x2), .val (.int x3), .val (.int x4), .val (.int x5), .val (.int ca), .val (.int cb), .val (.int cc), .val (.ref a5), .val (.ref a24), .unset, .unset, .unset, .unset, .unset, .unset, .unset, .unset] [(.ref a43), (.ref a43)])
  refine OEnds.go (fun _ q => XS.iconst X40.here X40.hx rfl (hb hby at_57) q) ?_
  show OEnds p e below _ T39 (mkF m 58 #[.val (.int x0), .val (.int x1), .val (.int x2), .val (.int x3), .val (.int x4), .val (.int x5), .val (.int ca), .val (.int cb), .val (.int cc), .val (.ref a5), .val (.ref a24), .unset, .unset, .unset, .unset, .unset, .unset, .unset, .unset] [(.int (2 : Int32)), (.ref a43), (.ref a43)])
  refine X40.newP (hw _ (List.mem_of_getElem? (i := 3) rfl)) (hb hby at_58) (by decide) (cap := 2) (by decide) (by decide) (by decide) (by decide) ?_
  intro T44 h46 a48 ka48 ga48 X45 E47 Ka48
  have gza48 : Z.heap.size ≤ a48 := ga48 ▸ X40.old.1
  have Str12_h46 := Str12_h41.ext E47
  have Str38_h46 := Str38_h41.ext E47
  have Aa43_h46 := Aa43.ext E47
  have Fa43_value_h46 := Fa43_value.ext E47
  have Fa43_coder_h46 := Fa43_coder.ext E47
  have EBa43_h46 := ext_trans E42 E47
  have EX_h46 := ext_trans EX_h41 E47
  have Ka48_0 : Arv Z h46 a48 ka48 .char (2 : Int32) [.int (0 : Int32), .int (0 : Int32)] (.int (0 : Int32)) := Ka48.pad (pad_rep [] (.int (0 : Int32)) 2)
  show OEnds p e below _ T44 (mkF m 60 #[.val (.int x0), .val (.int x1), .val (.int x2), .val (.int x3), .val (.int x4), .val (.int x5), .val (.int ca), .val (.int cb), .val (.int cc), .val (.ref a5), .val (.ref a24), .unset, .unset, .unset, .unset, .unset, .unset, .unset, .unset] [(.ref a48), (.ref a43), (.ref a43)])
  refine OEnds.go (fun _ q => XS.dup X45.here X45.hx rfl (hb hby at_60) rfl rfl q) ?_
  show OEnds p e below _ T44 (mkF m 61 #[.val (.int x0), .val (.int x1), .val (.int x2), .val (.int x3), .val (.int x4), .val (.int x5), .val (.int ca), .val (.int cb), .val (.int cc), .val (.ref a5), .val (.ref a24), .unset, .unset, .unset, .unset, .unset, .unset, .unset, .unset] [(.ref a48), (.ref a48), (.ref a43), (.ref a43)])
  refine OEnds.go (fun _ q => XS.iconst X45.here X45.hx rfl (hb hby at_61) q) ?_
  show OEnds p e below _ T44 (mkF m 62 #[.val (.int x0), .val (.int x1), .val (.int x2), .val (.int x3), .val (.int x4), .val (.int x5), .val (.int ca), .val (.int cb), .val (.int cc), .val (.ref a5), .val (.ref a24), .unset, .unset, .unset, .unset, .unset, .unset, .unset, .unset] [(.int (0 : Int32)), (.ref a48), (.ref a48), (.ref a43), (.ref a43)])
  refine OEnds.go (fun _ q => XS.iload X45.here X45.hx rfl (hb hby at_62) rfl q) ?_
  show OEnds p e below _ T44 (mkF m 64 #[.val (.int x0), .val (.int x1), .val (.int x2), .val (.int x3), .val (.int x4), .val (.int x5), .val (.int ca), .val (.int cb), .val (.int cc), .val (.ref a5), .val (.ref a24), .unset, .unset, .unset, .unset, .unset, .unset, .unset, .unset] [(.int ca), (.int (0 : Int32)), (.ref a48), (.ref a48), (.ref a43), (.ref a43)])
  refine X45.stC Ka48_0 (by decide) (up255 hcab) (i := 0) rfl (Nat.le_of_ble_eq_true rfl) gza48 (hb hby at_64) ?_
  intro T49 h51 X50 W52 Ka48_h51x
  have Ka48_h51 : Arv Z h51 a48 ka48 .char (2 : Int32) [.int ca, .int (0 : Int32)] (.int (0 : Int32)) := Ka48_h51x
  have EBa48_h51 := ext_wr E47 W52 (Nat.le_of_eq ga48)
  have Str12_h51 := Str12_h41.ext EBa48_h51
  have Str38_h51 := Str38_h41.ext EBa48_h51
  have Aa43_h51 := Aa43.ext EBa48_h51
  have Fa43_value_h51 := Fa43_value.ext EBa48_h51
  have Fa43_coder_h51 := Fa43_coder.ext EBa48_h51
  have EX_h51 := ext_wr EX_h46 W52 (Nat.le_trans EX_h41.1 (Nat.le_of_eq ga48))
  have EBa43_h51 := ext_wr EBa43_h46 W52 (Nat.le_trans E42.1 (Nat.le_of_eq ga48))
  show OEnds p e below _ T49 (mkF m 65 #[.val (.int x0), .val (.int x1), .val (.int x2), .val (.int x3), .val (.int x4), .val (.int x5), .val (.int ca), .val (.int cb), .val (.int cc), .val (.ref a5), .val (.ref a24), .unset, .unset, .unset, .unset, .unset, .unset, .unset, .unset] [(.ref a48), (.ref a43), (.ref a43)])
  refine OEnds.go (fun _ q => XS.dup X50.here X50.hx rfl (hb hby at_65) rfl rfl q) ?_
  show OEnds p e below _ T49 (mkF m 66 #[.val (.int x0), .val (.int x1), .val (.int x2), .val (.int x3), .val (.int x4), .val (.int x5), .val (.int ca), .val (.int cb), .val (.int cc), .val (.ref a5), .val (.ref a24), .unset, .unset, .unset, .unset, .unset, .unset, .unset, .unset] [(.ref a48), (.ref a48), (.ref a43), (.ref a43)])
  refine OEnds.go (fun _ q => XS.iconst X50.here X50.hx rfl (hb hby at_66) q) ?_
  show OEnds p e below _ T49 (mkF m 67 #[.val (.int x0), .val (.int x1), .val (.int x2), .val (.int x3), .val (.int x4), .val (.int x5), .val (.int ca), .val (.int cb), .val (.int cc), .val (.ref a5), .val (.ref a24), .unset, .unset, .unset, .unset, .unset, .unset, .unset, .unset] [(.int (1 : Int32)), (.ref a48), (.ref a48), (.ref a43), (.ref a43)])
  refine OEnds.go (fun _ q => XS.iload X50.here X50.hx rfl (hb hby at_67) rfl q) ?_
  show OEnds p e below _ T49 (mkF m 69 #[.val (.int x0), .val (.int x1), .val (.int x2), .val (.int x3), .val (.int x4), .val (.int x5), .val (.int ca), .val (.int cb), .val (.int cc), .val (.ref a5), .val (.ref a24), .unset, .unset, .unset, .unset, .unset, .unset, .unset, .unset] [(.int cb), (.int (1 : Int32)), (.ref a48), (.ref a48), (.ref a43), (.ref a43)])
  refine X50.stC Ka48_h51 (by decide) (up255 hcbb) (i := 1) rfl (Nat.le_of_ble_eq_true rfl) gza48 (hb hby at_69) ?_
  intro T53 h55 X54 W56 Ka48_h55x
  have Ka48_h55 : Arv Z h55 a48 ka48 .char (2 : Int32) [.int ca, .int cb] (.int (0 : Int32)) := Ka48_h55x
  have EBa48_h55 := ext_wr EBa48_h51 W56 (Nat.le_of_eq ga48)
  have Str12_h55 := Str12_h41.ext EBa48_h55
  have Str38_h55 := Str38_h41.ext EBa48_h55
  have Aa43_h55 := Aa43.ext EBa48_h55
  have Fa43_value_h55 := Fa43_value.ext EBa48_h55
  have Fa43_coder_h55 := Fa43_coder.ext EBa48_h55
  have EX_h55 := ext_wr EX_h51 W56 (Nat.le_trans EX_h41.1 (Nat.le_of_eq ga48))
  have EBa43_h55 := ext_wr EBa43_h51 W56 (Nat.le_trans E42.1 (Nat.le_of_eq ga48))
  show OEnds p e below _ T53 (mkF m 70 #[.val (.int x0), .val (.int x1), .val (.int x2), .val (.int x3), .val (.int x4), .val (.int x5), .val (.int ca), .val (.int cb), .val (.int cc), .val (.ref a5), .val (.ref a24), .unset, .unset, .unset, .unset, .unset, .unset, .unset, .unset] [(.ref a48), (.ref a43), (.ref a43)])
  refine own_newStr H X54 (cs := [ca, cb]) (j := 2) gza43 Aa43_h55 Fa43_value_h55 Fa43_coder_h55 Ka48_h55 rfl rfl (by decide) (by decide) (all_cons hcab (all_cons hcbb all_nil)) (hw _ (List.mem_of_getElem? (i := 4) rfl)) (W := 1) (by decide) (by decide) (by rw [hml]; rfl) (Nat.le_of_eq rfl) (hb hby at_70) (by decide) (by decide) ?_
  intro T57 h59 X58 K60 Str61
  have EBa43_h59 := ext_keep EBa43_h55 K60 (allS (Nat.le_of_eq ga43) all0)
  have Str12_h59 := Str12_h36.ext EBa43_h59
  have Str38_h59 := Str38.ext EBa43_h59
  have EX_h59 := ext_keep EX_h55 K60 (allS (Nat.le_trans EX_h36.1 (Nat.le_of_eq ga43)) all0)
  show OEnds p e below _ T57 (mkF m 73 #[.val (.int x0), .val (.int x1), .val (.int x2), .val (.int x3), .val (.int x4), .val (.int x5), .val (.int ca), .val (.int cb), .val (.int cc), .val (.ref a5), .val (.ref a24), .unset, .unset, .unset, .unset, .unset, .unset, .unset, .unset] [(.ref a43)])
  refine OEnds.go (fun _ q => XS.astore X58.here X58.hx rfl (hb hby at_73) rfl rfl (l' := #[.val (.int x0), .val (.int x1), .val (.int x2), .val (.int x3), .val (.int x4), .val (.int x5), .val (.int ca), .val (.int cb), .val (.int cc), .val (.ref a5), .val (.ref a24), .val (.ref a43), .unset, .unset, .unset, .unset, .unset, .unset, .unset]) rfl q) ?_
  show OEnds p e below _ T57 (mkF m 75 #[.val (.int x0), .val (.int x1), .val (.int x2), .val (.int x3), .val (.int x4), .val (.int x5), .val (.int ca), .val (.int cb), .val (.int cc), .val (.ref a5), .val (.ref a24), .val (.ref a43), .unset, .unset, .unset, .unset, .unset, .unset, .unset] [])
  refine X58.newO (hw _ (List.mem_of_getElem? (i := 0) rfl)) (hw _ (List.mem_of_getElem? (i := 1) rfl)) (hw _ (List.mem_of_getElem? (i := 2) rfl)) (hb hby at_75) (by decide) (by decide) ?_
  intro T62 h64 a66 ga66 X63 E65 Aa66 Da66 Ua66
  have gza66 : Z.heap.size ≤ a66 := ga66 ▸ X58.old.1
  have Str12_h64 := Str12_h59.ext E65
  have Str38_h64 := Str38_h59.ext E65
  have Str61_h64 := Str61.ext E65
  have EX_h64 := ext_trans EX_h59 E65
  have Fa66_value : Fld Z h64 a66 "java/lang/String" "value" "[B" .null := Da66 (Or.inr (hw _ (List.mem_of_getElem? (i := 16) rfl))) (ty := (FieldType.array FieldType.byte)) (by decide)
  have Fa66_coder : Fld Z h64 a66 "java/lang/String" "coder" "B" (.int (0 : Int32)) := Da66 (Or.inr (hw _ (List.mem_of_getElem? (i := 17) rfl))) (ty := FieldType.byte) (by decide)
  show OEnds p e below _ T62 (mkF m 78 #[.val (.int x0), .val (.int x1), .val (.int x2), .val (.int x3), .val (.int x4), .val (.int x5), .val (.int ca), .val (.int cb), .val (.int cc), .val (.ref a5), .val (.ref a24), .val (.ref a43), .unset, .unset, .unset, .unset, .unset, .unset, .unset] [(.ref a66)])
  refine OEnds.go (fun _ q => XS.dup X63.here X63.hx rfl (hb hby at_78) rfl rfl q) ?_
  show OEnds p e below _ T62 (mkF m 79 #[.val (.int x0), .val (.int x1), .val (.int x2), .val (.int x3), .val (.int x4), .val (.int x5), .val (.int ca), .val (.int cb), .val (.int cc), .val (.ref a5), .val (.ref a24), .val (.ref a43), .unset, .unset, .unset, .unset, .unset, .unset, .unset] [(.ref a66), (.ref a66)])
  refine OEnds.go (fun _ q => XS.iconst X63.here X63.hx rfl (hb hby at_79) q) ?_
  show OEnds p e below _ T62 (mkF m 80 #[.val (.int x0), .val (.int x1), .val (.int x2), .val (.int x3), .val (.int x4), .val (.int x5), .val (.int ca), .val (.int cb), .val (.int cc), .val (.ref a5), .val (.ref a24), .val (.ref a43), .unset, .unset, .unset, .unset, .unset, .unset, .unset] [(.int (3 : Int32)), (.ref a66), (.ref a66)])
  refine X63.newP (hw _ (List.mem_of_getElem? (i := 3) rfl)) (hb hby at_80) (by decide) (cap := 3) (by decide) (by decide) (by decide) (by decide) ?_
  intro T67 h69 a71 ka71 ga71 X68 E70 Ka71
  have gza71 : Z.heap.size ≤ a71 := ga71 ▸ X63.old.1
  have Str12_h69 := Str12_h64.ext E70
  have Str38_h69 := Str38_h64.ext E70
  have Str61_h69 := Str61_h64.ext E70
  have Aa66_h69 := Aa66.ext E70
  have Fa66_value_h69 := Fa66_value.ext E70
  have Fa66_coder_h69 := Fa66_coder.ext E70
  have EBa66_h69 := ext_trans E65 E70
  have EX_h69 := ext_trans EX_h64 E70
  have Ka71_0 : Arv Z h69 a71 ka71 .char (3 : Int32) [.int (0 : Int32), .int (0 : Int32), .int (0 : Int32)] (.int (0 : Int32)) := Ka71.pad (pad_rep [] (.int (0 : Int32)) 3)
  show OEnds p e below _ T67 (mkF m 82 #[.val (.int x0), .val (.int x1), .val (.int x2), .val (.int x3), .val (.int x4), .val (.int x5), .val (.int ca), .val (.int cb), .val (.int cc), .val (.ref a5), .val (.ref a24), .val (.ref a43), .unset, .unset, .unset, .unset, .unset, .unset, .unset] [(.ref a71), (.ref a66), (.ref a66)])
  refine OEnds.go (fun _ q => XS.dup X68.here X68.hx rfl (hb hby at_82) rfl rfl q) ?_
  show OEnds p e below _ T67 (mkF m 83 #[.val (.int x0), .val (.int x1), .val (.int x2), .val (.int x3), .val (.int x4), .val (.int x5), .val (.int ca), .val (.int cb), .val (.int cc), .val (.ref a5), .val (.ref a24), .val (.ref a43), .unset, .unset, .unset, .unset, .unset, .unset, .unset] [(.ref a71), (.ref a71), (.ref a66), (.ref a66)])
  refine OEnds.go (fun _ q => XS.iconst X68.here X68.hx rfl (hb hby at_83) q) ?_
  show OEnds p e below _ T67 (mkF m 84 #[.val (.int x0), .val (.int x1), .val (.int x2), .val (.int x3), .val (.int x4), .val (.int x5), .val (.int ca), .val (.int cb), .val (.int cc), .val (.ref a5), .val (.ref a24), .val (.ref a43), .unset, .unset, .unset, .unset, .unset, .unset, .unset] [(.int (0 : Int32)), (.ref a71), (.ref a71), (.ref a66), (.ref a66)])
  refine OEnds.go (fun _ q => XS.iload X68.here X68.hx rfl (hb hby at_84) rfl q) ?_
  show OEnds p e below _ T67 (mkF m 86 #[.val (.int x0), .val (.int x1), .val (.int x2), .val (.int x3), .val (.int x4), .val (.int x5), .val (.int ca), .val (.int cb), .val (.int cc), .val (.ref a5), .val (.ref a24), .val (.ref a43), .unset, .unset, .unset, .unset, .unset, .unset, .unset] [(.int ca), (.int (0 : Int32)), (.ref a71), (.ref a71), (.ref a66), (.ref a66)])
  refine X68.stC Ka71_0 (by decide) (up255 hcab) (i := 0) rfl (Nat.le_of_ble_eq_true rfl) gza71 (hb hby at_86) ?_
  intro T72 h74 X73 W75 Ka71_h74x
  have Ka71_h74 : Arv Z h74 a71 ka71 .char (3 : Int32) [.int ca, .int (0 : Int32), .int (0 : Int32)] (.int (0 : Int32)) := Ka71_h74x
  have EBa71_h74 := ext_wr E70 W75 (Nat.le_of_eq ga71)
  have Str12_h74 := Str12_h64.ext EBa71_h74
  have Str38_h74 := Str38_h64.ext EBa71_h74
  have Str61_h74 := Str61_h64.ext EBa71_h74
  have Aa66_h74 := Aa66.ext EBa71_h74
  have Fa66_value_h74 := Fa66_value.ext EBa71_h74
  have Fa66_coder_h74 := Fa66_coder.ext EBa71_h74
  have EX_h74 := ext_wr EX_h69 W75 (Nat.le_trans EX_h64.1 (Nat.le_of_eq ga71))
  have EBa66_h74 := ext_wr EBa66_h69 W75 (Nat.le_trans E65.1 (Nat.le_of_eq ga71))
  show OEnds p e below _ T72 (mkF m 87 #[.val (.int x0), .val (.int x1), .val (.int x2), .val (.int x3), .val (.int x4), .val (.int x5), .val (.int ca), .val (.int cb), .val (.int cc), .val (.ref a5), .val (.ref a24), .val (.ref a43), .unset, .unset, .unset, .unset, .unset, .unset, .unset] [(.ref a71), (.ref a66), (.ref a66)])
  refine OEnds.go (fun _ q => XS.dup X73.here X73.hx rfl (hb hby at_87) rfl rfl q) ?_
  show OEnds p e below _ T72 (mkF m 88 #[.val (.int x0), .val (.int x1), .val (.int x2), .val (.int x3), .val (.int x4), .val (.int x5), .val (.int ca), .val (.int cb), .val (.int cc), .val (.ref a5), .val (.ref a24), .val (.ref a43), .unset, .unset, .unset, .unset, .unset, .unset, .unset] [(.ref a71), (.ref a71), (.ref a66), (.ref a66)])
  refine OEnds.go (fun _ q => XS.iconst X73.here X73.hx rfl (hb hby at_88) q) ?_
  show OEnds p e below _ T72 (mkF m 89 #[.val (.int x0), .val (.int x1), .val (.int x2), .val (.int x3), .val (.int x4), .val (.int x5), .val (.int ca), .val (.int cb), .val (.int cc), .val (.ref a5), .val (.ref a24), .val (.ref a43), .unset, .unset, .unset, .unset, .unset, .unset, .unset] [(.int (1 : Int32)), (.ref a71), (.ref a71), (.ref a66), (.ref a66)])
  refine OEnds.go (fun _ q => XS.iload X73.here X73.hx rfl (hb hby at_89) rfl q) ?_
  show OEnds p e below _ T72 (mkF m 91 #[.val (.int x0), .val (.int x1), .val (.int x2), .val (.int x3), .val (.int x4), .val (.int x5), .val (.int ca), .val (.int cb), .val (.int cc), .val (.ref a5), .val (.ref a24), .val (.ref a43), .unset, .unset, .unset, .unset, .unset, .unset, .unset] [(.int cb), (.int (1 : Int32)), (.ref a71), (.ref a71), (.ref a66), (.ref a66)])
  refine X73.stC Ka71_h74 (by decide) (up255 hcbb) (i := 1) rfl (Nat.le_of_ble_eq_true rfl) gza71 (hb hby at_91) ?_
  intro T76 h78 X77 W79 Ka71_h78x
  have Ka71_h78 : Arv Z h78 a71 ka71 .char (3 : Int32) [.int ca, .int cb, .int (0 : Int32)] (.int (0 : Int32)) := Ka71_h78x
  have EBa71_h78 := ext_wr EBa71_h74 W79 (Nat.le_of_eq ga71)
  have Str12_h78 := Str12_h64.ext EBa71_h78
  have Str38_h78 := Str38_h64.ext EBa71_h78
  have Str61_h78 := Str61_h64.ext EBa71_h78
  have Aa66_h78 := Aa66.ext EBa71_h78
  have Fa66_value_h78 := Fa66_value.ext EBa71_h78
  have Fa66_coder_h78 := Fa66_coder.ext EBa71_h78
  have EX_h78 := ext_wr EX_h74 W79 (Nat.le_trans EX_h64.1 (Nat.le_of_eq ga71))
  have EBa66_h78 := ext_wr EBa66_h74 W79 (Nat.le_trans E65.1 (Nat.le_of_eq ga71))
  show OEnds p e below _ T76 (mkF m 92 #[.val (.int x0), .val (.int x1), .val (.int x2), .val (.int x3), .val (.int x4), .val (.int x5), .val (.int ca), .val (.int cb), .val (.int cc), .val (.ref a5), .val (.ref a24), .val (.ref a43), .unset, .unset, .unset, .unset, .unset, .unset, .unset] [(.ref a71), (.ref a66), (.ref a66)])
  refine OEnds.go (fun _ q => XS.dup X77.here X77.hx rfl (hb hby at_92) rfl rfl q) ?_
  show OEnds p e below _ T76 (mkF m 93 #[.val (.int x0), .val (.int x1), .val (.int x2), .val (.int x3), .val (.int x4), .val (.int x5), .val (.int ca), .val (.int cb), .val (.int cc), .val (.ref a5), .val (.ref a24), .val (.ref a43), .unset, .unset, .unset, .unset, .unset, .unset, .unset] [(.ref a71), (.ref a71), (.ref a66), (.ref a66)])
  refine OEnds.go (fun _ q => XS.iconst X77.here X77.hx rfl (hb hby at_93) q) ?_
  show OEnds p e below _ T76 (mkF m 94 #[.val (.int x0), .val (.int x1), .val (.int x2), .val (.int x3), .val (.int x4), .val (.int x5), .val (.int ca), .val (.int cb), .val (.int cc), .val (.ref a5), .val (.ref a24), .val (.ref a43), .unset, .unset, .unset, .unset, .unset, .unset, .unset] [(.int (2 : Int32)), (.ref a71), (.ref a71), (.ref a66), (.ref a66)])
  refine OEnds.go (fun _ q => XS.iload X77.here X77.hx rfl (hb hby at_94) rfl q) ?_
  show OEnds p e below _ T76 (mkF m 96 #[.val (.int x0), .val (.int x1), .val (.int x2), .val (.int x3), .val (.int x4), .val (.int x5), .val (.int ca), .val (.int cb), .val (.int cc), .val (.ref a5), .val (.ref a24), .val (.ref a43), .unset, .unset, .unset, .unset, .unset, .unset, .unset] [(.int cc), (.int (2 : Int32)), (.ref a71), (.ref a71), (.ref a66), (.ref a66)])
  refine X77.stC Ka71_h78 (by decide) (up255 hccb) (i := 2) rfl (Nat.le_of_ble_eq_true rfl) gza71 (hb hby at_96) ?_
  intro T80 h82 X81 W83 Ka71_h82x
  have Ka71_h82 : Arv Z h82 a71 ka71 .char (3 : Int32) [.int ca, .int cb, .int cc] (.int (0 : Int32)) := Ka71_h82x
  have EBa71_h82 := ext_wr EBa71_h78 W83 (Nat.le_of_eq ga71)
  have Str12_h82 := Str12_h64.ext EBa71_h82
  have Str38_h82 := Str38_h64.ext EBa71_h82
  have Str61_h82 := Str61_h64.ext EBa71_h82
  have Aa66_h82 := Aa66.ext EBa71_h82
  have Fa66_value_h82 := Fa66_value.ext EBa71_h82
  have Fa66_coder_h82 := Fa66_coder.ext EBa71_h82
  have EX_h82 := ext_wr EX_h78 W83 (Nat.le_trans EX_h64.1 (Nat.le_of_eq ga71))
  have EBa66_h82 := ext_wr EBa66_h78 W83 (Nat.le_trans E65.1 (Nat.le_of_eq ga71))
  show OEnds p e below _ T80 (mkF m 97 #[.val (.int x0), .val (.int x1), .val (.int x2), .val (.int x3), .val (.int x4), .val (.int x5), .val (.int ca), .val (.int cb), .val (.int cc), .val (.ref a5), .val (.ref a24), .val (.ref a43), .unset, .unset, .unset, .unset, .unset, .unset, .unset] [(.ref a71), (.ref a66), (.ref a66)])
  refine own_newStr H X81 (cs := [ca, cb, cc]) (j := 3) gza66 Aa66_h82 Fa66_value_h82 Fa66_coder_h82 Ka71_h82 rfl rfl (by decide) (by decide) (all_cons hcab (all_cons hcbb (all_cons hccb all_nil))) (hw _ (List.mem_of_getElem? (i := 4) rfl)) (W := 1) (by decide) (by decide) (by rw [hml]; rfl) (Nat.le_of_eq rfl) (hb hby at_97) (by decide) (by decide) ?_
  intro T84 h86 X85 K87 Str88
  have EBa66_h86 := ext_keep EBa66_h82 K87 (allS (Nat.le_of_eq ga66) all0)
  have Str12_h86 := Str12_h59.ext EBa66_h86
  have Str38_h86 := Str38_h59.ext EBa66_h86
  have Str61_h86 := Str61.ext EBa66_h86
  have EX_h86 := ext_keep EX_h82 K87 (allS (Nat.le_trans EX_h59.1 (Nat.le_of_eq ga66)) all0)
  show OEnds p e below _ T84 (mkF m 100 #[.val (.int x0), .val (.int x1), .val (.int x2), .val (.int x3), .val (.int x4), .val (.int x5), .val (.int ca), .val (.int cb), .val (.int cc), .val (.ref a5), .val (.ref a24), .val (.ref a43), .unset, .unset, .unset, .unset, .unset, .unset, .unset] [(.ref a66)])
  refine OEnds.go (fun _ q => XS.astore X85.here X85.hx rfl (hb hby at_100) rfl rfl (l' := #[.val (.int x0), .val (.int x1), .val (.int x2), .val (.int x3), .val (.int x4), .val (.int x5), .val (.int ca), .val (.int cb), .val (.int cc), .val (.ref a5), .val (.ref a24), .val (.ref a43), .val (.ref a66), .unset, .unset, .unset, .unset, .unset, .unset]) rfl q) ?_
  show OEnds p e below _ T84 (mkF m 102 #[.val (.int x0), .val (.int x1), .val (.int x2), .val (.int x3), .val (.int x4), .val (.int x5), .val (.int ca), .val (.int cb), .val (.int cc), .val (.ref a5), .val (.ref a24), .val (.ref a43), .val (.ref a66), .unset, .unset, .unset, .unset, .unset, .unset] [])
  refine OEnds.go (fun _ q => XS.iloadN X85.here X85.hx rfl (hb hby at_102) rfl q) ?_
  show OEnds p e below _ T84 (mkF m 103 #[.val (.int x0), .val (.int x1), .val (.int x2), .val (.int x3), .val (.int x4), .val (.int x5), .val (.int ca), .val (.int cb), .val (.int cc), .val (.ref a5), .val (.ref a24), .val (.ref a43), .val (.ref a66), .unset, .unset, .unset, .unset, .unset, .unset] [(.int x0)])
  refine X85.ldcI (hw _ (List.mem_of_getElem? (i := 33) rfl)) (hb hby at_103) ?_
  show OEnds p e below _ T84 (mkF m 105 #[.val (.int x0), .val (.int x1), .val (.int x2), .val (.int x3), .val (.int x4), .val (.int x5), .val (.int ca), .val (.int cb), .val (.int cc), .val (.ref a5), .val (.ref a24), .val (.ref a43), .val (.ref a66), .unset, .unset, .unset, .unset, .unset, .unset] [(.int (2147483647 : Int32)), (.int x0)])
  refine OEnds.go (fun _ q => XS.iand X85.here X85.hx rfl (hb hby at_105) rfl q) ?_
  show OEnds p e below _ T84 (mkF m 106 #[.val (.int x0), .val (.int x1), .val (.int x2), .val (.int x3), .val (.int x4), .val (.int x5), .val (.int ca), .val (.int cb), .val (.int cc), .val (.ref a5), .val (.ref a24), .val (.ref a43), .val (.ref a66), .unset, .unset, .unset, .unset, .unset, .unset] [(.int (x0 &&& (2147483647 : Int32)))])
  refine OEnds.go (fun _ q => XS.iconst X85.here X85.hx rfl (hb hby at_106) q) ?_
  show OEnds p e below _ T84 (mkF m 107 #[.val (.int x0), .val (.int x1), .val (.int x2), .val (.int x3), .val (.int x4), .val (.int x5), .val (.int ca), .val (.int cb), .val (.int cc), .val (.ref a5), .val (.ref a24), .val (.ref a43), .val (.ref a66), .unset, .unset, .unset, .unset, .unset, .unset] [(.int (5 : Int32)), (.int (x0 &&& (2147483647 : Int32)))])
  refine OEnds.go (fun _ q => own_irem X85.here X85.hx rfl (hb hby at_107) rfl (by decide) q) ?_
  show OEnds p e below _ T84 (mkF m 108 #[.val (.int x0), .val (.int x1), .val (.int x2), .val (.int x3), .val (.int x4), .val (.int x5), .val (.int ca), .val (.int cb), .val (.int cc), .val (.ref a5), .val (.ref a24), .val (.ref a43), .val (.ref a66), .unset, .unset, .unset, .unset, .unset, .unset] [(.int ((x0 &&& (2147483647 : Int32)) % (5 : Int32)))])
  obtain ⟨kd, hkd⟩ : ∃ z : Int32, z = ((x0 &&& (2147483647 : Int32)) % (5 : Int32)) := ⟨_, rfl⟩
  rw [← hkd]
  show OEnds p e below _ T84 (mkF m 108 #[.val (.int x0), .val (.int x1), .val (.int x2), .val (.int x3), .val (.int x4), .val (.int x5), .val (.int ca), .val (.int cb), .val (.int cc), .val (.ref a5), .val (.ref a24), .val (.ref a43), .val (.ref a66), .unset, .unset, .unset, .unset, .unset, .unset] [(.int kd)])
  refine OEnds.go (fun _ q => XS.istore X85.here X85.hx rfl (hb hby at_108) rfl (l' := #[.val (.int x0), .val (.int x1), .val (.int x2), .val (.int x3), .val (.int x4), .val (.int x5), .val (.int ca), .val (.int cb), .val (.int cc), .val (.ref a5), .val (.ref a24), .val (.ref a43), .val (.ref a66), .val (.int kd), .unset, .unset, .unset, .unset, .unset]) rfl q) ?_
  show OEnds p e below _ T84 (mkF m 110 #[.val (.int x0), .val (.int x1), .val (.int x2), .val (.int x3), .val (.int x4), .val (.int x5), .val (.int ca), .val (.int cb), .val (.int cc), .val (.ref a5), .val (.ref a24), .val (.ref a43), .val (.ref a66), .val (.int kd), .unset, .unset, .unset, .unset, .unset] [])
  refine OEnds.go (fun _ q => XS.iload X85.here X85.hx rfl (hb hby at_110) rfl q) ?_
  show OEnds p e below _ T84 (mkF m 112 #[.val (.int x0), .val (.int x1), .val (.int x2), .val (.int x3), .val (.int x4), .val (.int x5), .val (.int ca), .val (.int cb), .val (.int cc), .val (.ref a5), .val (.ref a24), .val (.ref a43), .val (.ref a66), .val (.int kd), .unset, .unset, .unset, .unset, .unset] [(.int kd)])
  have J0 : ∀ (vmj89 : Vm) (Tj89 : State) (hj89 : Heap) , OSt p l e room_1 s m #[(.int x0), (.int x1), (.int x2), (.int x3), (.int x4), (.int x5)] below meth c "com/example/vouchgate/vouchgate/token/SealedTokenIsMissingPinLaw" Z consts_1 vmj89 Tj89 hj89 15 36 → kd = 0 → OEnds p e below (GW Z consts_1 s (fun r h => r = some (.int 1)) room_1.cells room_1.slots) Tj89 (mkF m 164 #[.val (.int x0), .val (.int x1), .val (.int x2), .val (.int x3), .val (.int x4), .val (.int x5), .val (.int ca), .val (.int cb), .val (.int cc), .val (.ref a5), .val (.ref a24), .val (.ref a43), .val (.ref a66), .val (.int kd), .val (.null), .unset, .unset, .unset, .unset] []) := by
    intro vmj89 Tj89 hj89  Xj89 hkd0
    refine OEnds.go (fun _ q => XS.iload Xj89.here Xj89.hx rfl (hb hby at_164) rfl q) ?_
    show OEnds p e below _ Tj89 (mkF m 166 #[.val (.int x0), .val (.int x1), .val (.int x2), .val (.int x3), .val (.int x4), .val (.int x5), .val (.int ca), .val (.int cb), .val (.int cc), .val (.ref a5), .val (.ref a24), .val (.ref a43), .val (.ref a66), .val (.int kd), .val (.null), .unset, .unset, .unset, .unset] [(.int x4)])
    refine Xj89.callS hE (con_pick H x4 hj89) (hw _ (List.mem_of_getElem? (i := 34) rfl)) (hw _ (List.mem_of_getElem? (i := 35) rfl)) (hw _ (List.mem_of_getElem? (i := 36) rfl)) (hw _ (List.mem_of_getElem? (i := 37) rfl))  (by decide) (W := 0) (by decide) (by decide) (argsL := [(.int x4)]) (rest := []) rfl (lenOf own_pd8 rfl) rfl (by rw [hml]; rfl) (Nat.le_of_eq rfl) (hb hby at_166) (by decide) (by decide) ?_
    intro v95 vm93 T90 h92 X91 C94 q96
    obtain ⟨mv, rfl, rmv, Emv⟩ := q96
    show OEnds p e below _ T90 (mkF m 169 #[.val (.int x0), .val (.int x1), .val (.int x2), .val (.int x3), .val (.int x4), .val (.int x5), .val (.int ca), .val (.int cb), .val (.int cc), .val (.ref a5), .val (.ref a24), .val (.ref a43), .val (.ref a66), .val (.int kd), .val (.null), .unset, .unset, .unset, .unset] [(mv)])
    refine OEnds.go (fun _ q => XS.astore X91.here X91.hx rfl (hb hby at_169) rfl rmv (l' := #[.val (.int x0), .val (.int x1), .val (.int x2), .val (.int x3), .val (.int x4), .val (.int x5), .val (.int ca), .val (.int cb), .val (.int cc), .val (.ref a5), .val (.ref a24), .val (.ref a43), .val (.ref a66), .val (.int kd), .val (.null), .val (mv), .unset, .unset, .unset]) (XS.store1 (o := .unset) rfl (Or.inl rfl) (own_cat rmv)) q) ?_
    show OEnds p e below _ T90 (mkF m 171 #[.val (.int x0), .val (.int x1), .val (.int x2), .val (.int x3), .val (.int x4), .val (.int x5), .val (.int ca), .val (.int cb), .val (.int cc), .val (.ref a5), .val (.ref a24), .val (.ref a43), .val (.ref a66), .val (.int kd), .val (.null), .val (mv), .unset, .unset, .unset] [])
    refine OEnds.go (fun _ q => XS.iload X91.here X91.hx rfl (hb hby at_171) rfl q) ?_
    show OEnds p e below _ T90 (mkF m 173 #[.val (.int x0), .val (.int x1), .val (.int x2), .val (.int x3), .val (.int x4), .val (.int x5), .val (.int ca), .val (.int cb), .val (.int cc), .val (.ref a5), .val (.ref a24), .val (.ref a43), .val (.ref a66), .val (.int kd), .val (.null), .val (mv), .unset, .unset, .unset] [(.int x5)])
    refine X91.callS hE (con_pick H x5 h92) (hw _ (List.mem_of_getElem? (i := 34) rfl)) (hw _ (List.mem_of_getElem? (i := 35) rfl)) (hw _ (List.mem_of_getElem? (i := 36) rfl)) (hw _ (List.mem_of_getElem? (i := 37) rfl))  (by decide) (W := 0) (by decide) (by decide) (argsL := [(.int x5)]) (rest := []) rfl (lenOf own_pd8 rfl) rfl (by rw [hml]; rfl) (Nat.le_of_eq rfl) (hb hby at_173) (by decide) (by decide) ?_
    intro v102 vm100 T97 h99 X98 C101 q103
    obtain ⟨av, rfl, rav, Eav⟩ := q103
    show OEnds p e below _ T97 (mkF m 176 #[.val (.int x0), .val (.int x1), .val (.int x2), .val (.int x3), .val (.int x4), .val (.int x5), .val (.int ca), .val (.int cb), .val (.int cc), .val (.ref a5), .val (.ref a24), .val (.ref a43), .val (.ref a66), .val (.int kd), .val (.null), .val (mv), .unset, .unset, .unset] [(av)])
    refine OEnds.go (fun _ q => XS.astore X98.here X98.hx rfl (hb hby at_176) rfl rav (l' := #[.val (.int x0), .val (.int x1), .val (.int x2), .val (.int x3), .val (.int x4), .val (.int x5), .val (.int ca), .val (.int cb), .val (.int cc), .val (.ref a5), .val (.ref a24), .val (.ref a43), .val (.ref a66), .val (.int kd), .val (.null), .val (mv), .val (av), .unset, .unset]) (XS.store1 (o := .unset) rfl (Or.inl rfl) (own_cat rav)) q) ?_
    show OEnds p e below _ T97 (mkF m 178 #[.val (.int x0), .val (.int x1), .val (.int x2), .val (.int x3), .val (.int x4), .val (.int x5), .val (.int ca), .val (.int cb), .val (.int cc), .val (.ref a5), .val (.ref a24), .val (.ref a43), .val (.ref a66), .val (.int kd), .val (.null), .val (mv), .val (av), .unset, .unset] [])
    refine X98.newO (hw _ (List.mem_of_getElem? (i := 38) rfl)) (hw _ (List.mem_of_getElem? (i := 39) rfl)) (hw _ (List.mem_of_getElem? (i := 40) rfl)) (hb hby at_178) (by decide) (by decide) ?_
    intro T104 h106 a108 ga108 X105 E107 Aa108 Da108 Ua108
    have gza108 : Z.heap.size ≤ a108 := ga108 ▸ X98.old.1
    have Fa108_text : Fld Z h106 a108 "com/example/vouchgate/vouchgate/token/SealedToken" "text" "Ljava/lang/String;" .null := Da108 (Or.inr (hw _ (List.mem_of_getElem? (i := 51) rfl))) (ty := (FieldType.object "java/lang/String")) (by decide)
    have Fa108_mode : Fld Z h106 a108 "com/example/vouchgate/vouchgate/token/SealedToken" "mode" "Ljava/lang/String;" .null := Da108 (Or.inr (hw _ (List.mem_of_getElem? (i := 53) rfl))) (ty := (FieldType.object "java/lang/String")) (by decide)
    have Fa108_associatedData : Fld Z h106 a108 "com/example/vouchgate/vouchgate/token/SealedToken" "associatedData" "Ljava/lang/String;" .null := Da108 (Or.inr (hw _ (List.mem_of_getElem? (i := 55) rfl))) (ty := (FieldType.object "java/lang/String")) (by decide)
    show OEnds p e below _ T104 (mkF m 181 #[.val (.int x0), .val (.int x1), .val (.int x2), .val (.int x3), .val (.int x4), .val (.int x5), .val (.int ca), .val (.int cb), .val (.int cc), .val (.ref a5), .val (.ref a24), .val (.ref a43), .val (.ref a66), .val (.int kd), .val (.null), .val (mv), .val (av), .unset, .unset] [(.ref a108)])
    refine OEnds.go (fun _ q => XS.dup X105.here X105.hx rfl (hb hby at_181) rfl rfl q) ?_
    show OEnds p e below _ T104 (mkF m 182 #[.val (.int x0), .val (.int x1), .val (.int x2), .val (.int x3), .val (.int x4), .val (.int x5), .val (.int ca), .val (.int cb), .val (.int cc), .val (.ref a5), .val (.ref a24), .val (.ref a43), .val (.ref a66), .val (.int kd), .val (.null), .val (mv), .val (av), .unset, .unset] [(.ref a108), (.ref a108)])
    refine OEnds.go (fun _ q => XS.aload X105.here X105.hx rfl (hb hby at_182) rfl rfl q) ?_
    show OEnds p e below _ T104 (mkF m 184 #[.val (.int x0), .val (.int x1), .val (.int x2), .val (.int x3), .val (.int x4), .val (.int x5), .val (.int ca), .val (.int cb), .val (.int cc), .val (.ref a5), .val (.ref a24), .val (.ref a43), .val (.ref a66), .val (.int kd), .val (.null), .val (mv), .val (av), .unset, .unset] [(.null), (.ref a108), (.ref a108)])
    refine OEnds.go (fun _ q => XS.aload X105.here X105.hx rfl (hb hby at_184) rfl rmv q) ?_
    show OEnds p e below _ T104 (mkF m 186 #[.val (.int x0), .val (.int x1), .val (.int x2), .val (.int x3), .val (.int x4), .val (.int x5), .val (.int ca), .val (.int cb), .val (.int cc), .val (.ref a5), .val (.ref a24), .val (.ref a43), .val (.ref a66), .val (.int kd), .val (.null), .val (mv), .val (av), .unset, .unset] [(mv), (.null), (.ref a108), (.ref a108)])
    refine OEnds.go (fun _ q => XS.aload X105.here X105.hx rfl (hb hby at_186) rfl rav q) ?_
    show OEnds p e below _ T104 (mkF m 188 #[.val (.int x0), .val (.int x1), .val (.int x2), .val (.int x3), .val (.int x4), .val (.int x5), .val (.int ca), .val (.int cb), .val (.int cc), .val (.ref a5), .val (.ref a24), .val (.ref a43), .val (.ref a66), .val (.int kd), .val (.null), .val (mv), .val (av), .unset, .unset] [(av), (mv), (.null), (.ref a108), (.ref a108)])
    refine X105.callI hE (con_tok H a108 .null mv av rfl rmv rav gza108 h106 Aa108 Fa108_text Fa108_mode Fa108_associatedData) (hw _ (List.mem_of_getElem? (i := 41) rfl)) (hw _ (List.mem_of_getElem? (i := 42) rfl)) (hw _ (List.mem_of_getElem? (i := 40) rfl)) (hw _ (List.mem_of_getElem? (i := 43) rfl)) rfl (by decide) (W := 1) (by decide) (by decide) (a := a108) (argsL := [(.null), (mv), (av)]) (rest := [(.ref a108)]) rfl (lenOf own_pd9 rfl) rfl (by rw [hml]; rfl) (Nat.le_of_eq rfl) (hb hby at_188) (by decide) (by decide) ?_
    intro v119 vm117 T114 h116 X115 C118 q120
    obtain ⟨rfl, K109, E110, Ff111_text, Ff112_mode, Ff113_associatedData⟩ := q120
    have EBa108_h116 := ext_keep E107 K109 (allS (Nat.le_of_eq ga108) all0)
    show OEnds p e below _ T114 (mkF m 191 #[.val (.int x0), .val (.int x1), .val (.int x2), .val (.int x3), .val (.int x4), .val (.int x5), .val (.int ca), .val (.int cb), .val (.int cc), .val (.ref a5), .val (.ref a24), .val (.ref a43), .val (.ref a66), .val (.int kd), .val (.null), .val (mv), .val (av), .unset, .unset] [(.ref a108)])
    refine OEnds.go (fun _ q => XS.astore X115.here X115.hx rfl (hb hby at_191) rfl rfl (l' := #[.val (.int x0), .val (.int x1), .val (.int x2), .val (.int x3), .val (.int x4), .val (.int x5), .val (.int ca), .val (.int cb), .val (.int cc), .val (.ref a5), .val (.ref a24), .val (.ref a43), .val (.ref a66), .val (.int kd), .val (.null), .val (mv), .val (av), .val (.ref a108), .unset]) rfl q) ?_
    show OEnds p e below _ T114 (mkF m 193 #[.val (.int x0), .val (.int x1), .val (.int x2), .val (.int x3), .val (.int x4), .val (.int x5), .val (.int ca), .val (.int cb), .val (.int cc), .val (.ref a5), .val (.ref a24), .val (.ref a43), .val (.ref a66), .val (.int kd), .val (.null), .val (mv), .val (av), .val (.ref a108), .unset] [])
    refine OEnds.go (fun _ q => XS.iload X115.here X115.hx rfl (hb hby at_193) rfl q) ?_
    show OEnds p e below _ T114 (mkF m 195 #[.val (.int x0), .val (.int x1), .val (.int x2), .val (.int x3), .val (.int x4), .val (.int x5), .val (.int ca), .val (.int cb), .val (.int cc), .val (.ref a5), .val (.ref a24), .val (.ref a43), .val (.ref a66), .val (.int kd), .val (.null), .val (mv), .val (av), .val (.ref a108), .unset] [(.int kd)])
    refine OEnds.go (fun _ q => XS.iconst X115.here X115.hx rfl (hb hby at_195) q) ?_
    show OEnds p e below _ T114 (mkF m 196 #[.val (.int x0), .val (.int x1), .val (.int x2), .val (.int x3), .val (.int x4), .val (.int x5), .val (.int ca), .val (.int cb), .val (.int cc), .val (.ref a5), .val (.ref a24), .val (.ref a43), .val (.ref a66), .val (.int kd), .val (.null), .val (mv), .val (av), .val (.ref a108), .unset] [(.int (1 : Int32)), (.int kd)])
    refine OEnds.go (fun _ q => XS.icmpNo X115.here X115.hx rfl (hb hby at_196) rfl (flt (by rw [hkd0]; decide)).2.2.1 q) ?_
    show OEnds p e below _ T114 (mkF m 199 #[.val (.int x0), .val (.int x1), .val (.int x2), .val (.int x3), .val (.int x4), .val (.int x5), .val (.int ca), .val (.int cb), .val (.int cc), .val (.ref a5), .val (.ref a24), .val (.ref a43), .val (.ref a66), .val (.int kd), .val (.null), .val (mv), .val (av), .val (.ref a108), .unset] [])
    refine OEnds.go (fun _ q => XS.iconst X115.here X115.hx rfl (hb hby at_199) q) ?_
    show OEnds p e below _ T114 (mkF m 200 #[.val (.int x0), .val (.int x1), .val (.int x2), .val (.int x3), .val (.int x4), .val (.int x5), .val (.int ca), .val (.int cb), .val (.int cc), .val (.ref a5), .val (.ref a24), .val (.ref a43), .val (.ref a66), .val (.int kd), .val (.null), .val (mv), .val (av), .val (.ref a108), .unset] [(.int (1 : Int32))])
    refine OEnds.go (fun _ q => XS.goto X115.here X115.hx rfl (pc0 := 200) (pc' := 204) rfl (hb hby at_200) (by decide) (by decide) q) ?_
    show OEnds p e below _ T114 (mkF m 204 #[.val (.int x0), .val (.int x1), .val (.int x2), .val (.int x3), .val (.int x4), .val (.int x5), .val (.int ca), .val (.int cb), .val (.int cc), .val (.ref a5), .val (.ref a24), .val (.ref a43), .val (.ref a66), .val (.int kd), .val (.null), .val (mv), .val (av), .val (.ref a108), .unset] [(.int (1 : Int32))])
    refine OEnds.go (fun _ q => XS.istore X115.here X115.hx rfl (hb hby at_204) rfl (l' := #[.val (.int x0), .val (.int x1), .val (.int x2), .val (.int x3), .val (.int x4), .val (.int x5), .val (.int ca), .val (.int cb), .val (.int cc), .val (.ref a5), .val (.ref a24), .val (.ref a43), .val (.ref a66), .val (.int kd), .val (.null), .val (mv), .val (av), .val (.ref a108), .val (.int (1 : Int32))]) rfl q) ?_
    show OEnds p e below _ T114 (mkF m 206 #[.val (.int x0), .val (.int x1), .val (.int x2), .val (.int x3), .val (.int x4), .val (.int x5), .val (.int ca), .val (.int cb), .val (.int cc), .val (.ref a5), .val (.ref a24), .val (.ref a43), .val (.ref a66), .val (.int kd), .val (.null), .val (mv), .val (av), .val (.ref a108), .val (.int (1 : Int32))] [])
    refine OEnds.go (fun _ q => XS.aload X115.here X115.hx rfl (hb hby at_206) rfl rfl q) ?_
    show OEnds p e below _ T114 (mkF m 208 #[.val (.int x0), .val (.int x1), .val (.int x2), .val (.int x3), .val (.int x4), .val (.int x5), .val (.int ca), .val (.int cb), .val (.int cc), .val (.ref a5), .val (.ref a24), .val (.ref a43), .val (.ref a66), .val (.int kd), .val (.null), .val (mv), .val (av), .val (.ref a108), .val (.int (1 : Int32))] [(.ref a108)])
    refine X115.callV hE (con_mis0 H a108 h116 Ff111_text) (hw _ (List.mem_of_getElem? (i := 56) rfl)) (hw _ (List.mem_of_getElem? (i := 57) rfl)) (hw _ (List.mem_of_getElem? (i := 59) rfl)) (hw _ (List.mem_of_getElem? (i := 58) rfl)) (hw _ (List.mem_of_getElem? (i := 40) rfl)) (hw _ (List.mem_of_getElem? (i := 60) rfl)) (X115.nf (hw _ (List.mem_of_getElem? (i := 59) rfl))) (by decide) (W := 0) (by decide) (by decide) E110 (argsL := []) (rest := []) rfl (lenOf own_pd5 rfl) rfl (by rw [hml]; rfl) (Nat.le_of_eq rfl) (hb hby at_208) (by decide) (by decide) ?_
    intro v126 vm124 T121 h123 X122 C125 q127
    obtain ⟨rfl, rfl⟩ := q127
    show OEnds p e below _ T121 (mkF m 211 #[.val (.int x0), .val (.int x1), .val (.int x2), .val (.int x3), .val (.int x4), .val (.int x5), .val (.int ca), .val (.int cb), .val (.int cc), .val (.ref a5), .val (.ref a24), .val (.ref a43), .val (.ref a66), .val (.int kd), .val (.null), .val (mv), .val (av), .val (.ref a108), .val (.int (1 : Int32))] [(.int (1 : Int32))])
    refine OEnds.go (fun _ q => XS.iload X122.here X122.hx rfl (hb hby at_211) rfl q) ?_
    show OEnds p e below _ T121 (mkF m 213 #[.val (.int x0), .val (.int x1), .val (.int x2), .val (.int x3), .val (.int x4), .val (.int x5), .val (.int ca), .val (.int cb), .val (.int cc), .val (.ref a5), .val (.ref a24), .val (.ref a43), .val (.ref a66), .val (.int kd), .val (.null), .val (mv), .val (av), .val (.ref a108), .val (.int (1 : Int32))] [(.int (1 : Int32)), (.int (1 : Int32))])
    refine OEnds.go (fun _ q => XS.icmpNo X122.here X122.hx rfl (hb hby at_213) rfl (teq (rfl : (1 : Int32) = 1)).2 q) ?_
    show OEnds p e below _ T121 (mkF m 216 #[.val (.int x0), .val (.int x1), .val (.int x2), .val (.int x3), .val (.int x4), .val (.int x5), .val (.int ca), .val (.int cb), .val (.int cc), .val (.ref a5), .val (.ref a24), .val (.ref a43), .val (.ref a66), .val (.int kd), .val (.null), .val (mv), .val (av), .val (.ref a108), .val (.int (1 : Int32))] [])
    refine OEnds.go (fun _ q => XS.iconst X122.here X122.hx rfl (hb hby at_216) q) ?_
    show OEnds p e below _ T121 (mkF m 217 #[.val (.int x0), .val (.int x1), .val (.int x2), .val (.int x3), .val (.int x4), .val (.int x5), .val (.int ca), .val (.int cb), .val (.int cc), .val (.ref a5), .val (.ref a24), .val (.ref a43), .val (.ref a66), .val (.int kd), .val (.null), .val (mv), .val (av), .val (.ref a108), .val (.int (1 : Int32))] [(.int (1 : Int32))])
    refine OEnds.go (fun _ q => XS.goto X122.here X122.hx rfl (pc0 := 217) (pc' := 221) rfl (hb hby at_217) (by decide) (by decide) q) ?_
    show OEnds p e below _ T121 (mkF m 221 #[.val (.int x0), .val (.int x1), .val (.int x2), .val (.int x3), .val (.int x4), .val (.int x5), .val (.int ca), .val (.int cb), .val (.int cc), .val (.ref a5), .val (.ref a24), .val (.ref a43), .val (.ref a66), .val (.int kd), .val (.null), .val (mv), .val (av), .val (.ref a108), .val (.int (1 : Int32))] [(.int (1 : Int32))])
    exact X122.retBool hE hlk (by first | exact Or.inl rfl | exact Or.inr rfl | assumption) hret (hb hby at_221) (by decide) (by decide) rfl
  have J1 : ∀ (vmj128 : Vm) (Tj128 : State) (hj128 : Heap) (tx : Addr) (cs : List Int32), OSt p l e room_1 s m #[(.int x0), (.int x1), (.int x2), (.int x3), (.int x4), (.int x5)] below meth c "com/example/vouchgate/vouchgate/token/SealedTokenIsMissingPinLaw" Z consts_1 vmj128 Tj128 hj128 15 36 → OStr Z hj128 tx cs → (cs.length = 0 ↔ ¬ (1 : Int32) < kd) → OEnds p e below (GW Z consts_1 s (fun r h => r = some (.int 1)) room_1.cells room_1.slots) Tj128 (mkF m 164 #[.val (.int x0), .val (.int x1), .val (.int x2), .val (.int x3), .val (.int x4), .val (.int x5), .val (.int ca), .val (.int cb), .val (.int cc), .val (.ref a5), .val (.ref a24), .val (.ref a43), .val (.ref a66), .val (.int kd), .val (.ref tx), .unset, .unset, .unset, .unset] []) := by
    intro vmj128 Tj128 hj128 tx cs Xj128 Stx hiff
    refine OEnds.go (fun _ q => XS.iload Xj128.here Xj128.hx rfl (hb hby at_164) rfl q) ?_
    show OEnds p e below _ Tj128 (mkF m 166 #[.val (.int x0), .val (.int x1), .val (.int x2), .val (.int x3), .val (.int x4), .val (.int x5), .val (.int ca), .val (.int cb), .val (.int cc), .val (.ref a5), .val (.ref a24), .val (.ref a43), .val (.ref a66), .val (.int kd), .val (.ref tx), .unset, .unset, .unset, .unset] [(.int x4)])
    refine Xj128.callS hE (con_pick H x4 hj128) (hw _ (List.mem_of_getElem? (i := 34) rfl)) (hw _ (List.mem_of_getElem? (i := 35) rfl)) (hw _ (List.mem_of_getElem? (i := 36) rfl)) (hw _ (List.mem_of_getElem? (i := 37) rfl))  (by decide) (W := 0) (by decide) (by decide) (argsL := [(.int x4)]) (rest := []) rfl (lenOf own_pd8 rfl) rfl (by rw [hml]; rfl) (Nat.le_of_eq rfl) (hb hby at_166) (by decide) (by decide) ?_
    intro v134 vm132 T129 h131 X130 C133 q135
    obtain ⟨mv, rfl, rmv, Emv⟩ := q135
    have Stx_h131 := Stx.ext Emv
    show OEnds p e below _ T129 (mkF m 169 #[.val (.int x0), .val (.int x1), .val (.int x2), .val (.int x3), .val (.int x4), .val (.int x5), .val (.int ca), .val (.int cb), .val (.int cc), .val (.ref a5), .val (.ref a24), .val (.ref a43), .val (.ref a66), .val (.int kd), .val (.ref tx), .unset, .unset, .unset, .unset] [(mv)])
    refine OEnds.go (fun _ q => XS.astore X130.here X130.hx rfl (hb hby at_169) rfl rmv (l' := #[.val (.int x0), .val (.int x1), .val (.int x2), .val (.int x3), .val (.int x4), .val (.int x5), .val (.int ca), .val (.int cb), .val (.int cc), .val (.ref a5), .val (.ref a24), .val (.ref a43), .val (.ref a66), .val (.int kd), .val (.ref tx), .val (mv), .unset, .unset, .unset]) (XS.store1 (o := .unset) rfl (Or.inl rfl) (own_cat rmv)) q) ?_
    show OEnds p e below _ T129 (mkF m 171 #[.val (.int x0), .val (.int x1), .val (.int x2), .val (.int x3), .val (.int x4), .val (.int x5), .val (.int ca), .val (.int cb), .val (.int cc), .val (.ref a5), .val (.ref a24), .val (.ref a43), .val (.ref a66), .val (.int kd), .val (.ref tx), .val (mv), .unset, .unset, .unset] [])
    refine OEnds.go (fun _ q => XS.iload X130.here X130.hx rfl (hb hby at_171) rfl q) ?_
    show OEnds p e below _ T129 (mkF m 173 #[.val (.int x0), .val (.int x1), .val (.int x2), .val (.int x3), .val (.int x4), .val (.int x5), .val (.int ca), .val (.int cb), .val (.int cc), .val (.ref a5), .val (.ref a24), .val (.ref a43), .val (.ref a66), .val (.int kd), .val (.ref tx), .val (mv), .unset, .unset, .unset] [(.int x5)])
    refine X130.callS hE (con_pick H x5 h131) (hw _ (List.mem_of_getElem? (i := 34) rfl)) (hw _ (List.mem_of_getElem? (i := 35) rfl)) (hw _ (List.mem_of_getElem? (i := 36) rfl)) (hw _ (List.mem_of_getElem? (i := 37) rfl))  (by decide) (W := 0) (by decide) (by decide) (argsL := [(.int x5)]) (rest := []) rfl (lenOf own_pd8 rfl) rfl (by rw [hml]; rfl) (Nat.le_of_eq rfl) (hb hby at_173) (by decide) (by decide) ?_
    intro v141 vm139 T136 h138 X137 C140 q142
    obtain ⟨av, rfl, rav, Eav⟩ := q142
    have Stx_h138 := Stx_h131.ext Eav
    show OEnds p e below _ T136 (mkF m 176 #[.val (.int x0), .val (.int x1), .val (.int x2), .val (.int x3), .val (.int x4), .val (.int x5), .val (.int ca), .val (.int cb), .val (.int cc), .val (.ref a5), .val (.ref a24), .val (.ref a43), .val (.ref a66), .val (.int kd), .val (.ref tx), .val (mv), .unset, .unset, .unset] [(av)])
    refine OEnds.go (fun _ q => XS.astore X137.here X137.hx rfl (hb hby at_176) rfl rav (l' := #[.val (.int x0), .val (.int x1), .val (.int x2), .val (.int x3), .val (.int x4), .val (.int x5), .val (.int ca), .val (.int cb), .val (.int cc), .val (.ref a5), .val (.ref a24), .val (.ref a43), .val (.ref a66), .val (.int kd), .val (.ref tx), .val (mv), .val (av), .unset, .unset]) (XS.store1 (o := .unset) rfl (Or.inl rfl) (own_cat rav)) q) ?_
    show OEnds p e below _ T136 (mkF m 178 #[.val (.int x0), .val (.int x1), .val (.int x2), .val (.int x3), .val (.int x4), .val (.int x5), .val (.int ca), .val (.int cb), .val (.int cc), .val (.ref a5), .val (.ref a24), .val (.ref a43), .val (.ref a66), .val (.int kd), .val (.ref tx), .val (mv), .val (av), .unset, .unset] [])
    refine X137.newO (hw _ (List.mem_of_getElem? (i := 38) rfl)) (hw _ (List.mem_of_getElem? (i := 39) rfl)) (hw _ (List.mem_of_getElem? (i := 40) rfl)) (hb hby at_178) (by decide) (by decide) ?_
    intro T143 h145 a147 ga147 X144 E146 Aa147 Da147 Ua147
    have gza147 : Z.heap.size ≤ a147 := ga147 ▸ X137.old.1
    have Stx_h145 := Stx_h138.ext E146
    have Fa147_text : Fld Z h145 a147 "com/example/vouchgate/vouchgate/token/SealedToken" "text" "Ljava/lang/String;" .null := Da147 (Or.inr (hw _ (List.mem_of_getElem? (i := 51) rfl))) (ty := (FieldType.object "java/lang/String")) (by decide)
    have Fa147_mode : Fld Z h145 a147 "com/example/vouchgate/vouchgate/token/SealedToken" "mode" "Ljava/lang/String;" .null := Da147 (Or.inr (hw _ (List.mem_of_getElem? (i := 53) rfl))) (ty := (FieldType.object "java/lang/String")) (by decide)
    have Fa147_associatedData : Fld Z h145 a147 "com/example/vouchgate/vouchgate/token/SealedToken" "associatedData" "Ljava/lang/String;" .null := Da147 (Or.inr (hw _ (List.mem_of_getElem? (i := 55) rfl))) (ty := (FieldType.object "java/lang/String")) (by decide)
    show OEnds p e below _ T143 (mkF m 181 #[.val (.int x0), .val (.int x1), .val (.int x2), .val (.int x3), .val (.int x4), .val (.int x5), .val (.int ca), .val (.int cb), .val (.int cc), .val (.ref a5), .val (.ref a24), .val (.ref a43), .val (.ref a66), .val (.int kd), .val (.ref tx), .val (mv), .val (av), .unset, .unset] [(.ref a147)])
    refine OEnds.go (fun _ q => XS.dup X144.here X144.hx rfl (hb hby at_181) rfl rfl q) ?_
    show OEnds p e below _ T143 (mkF m 182 #[.val (.int x0), .val (.int x1), .val (.int x2), .val (.int x3), .val (.int x4), .val (.int x5), .val (.int ca), .val (.int cb), .val (.int cc), .val (.ref a5), .val (.ref a24), .val (.ref a43), .val (.ref a66), .val (.int kd), .val (.ref tx), .val (mv), .val (av), .unset, .unset] [(.ref a147), (.ref a147)])
    refine OEnds.go (fun _ q => XS.aload X144.here X144.hx rfl (hb hby at_182) rfl rfl q) ?_
    show OEnds p e below _ T143 (mkF m 184 #[.val (.int x0), .val (.int x1), .val (.int x2), .val (.int x3), .val (.int x4), .val (.int x5), .val (.int ca), .val (.int cb), .val (.int cc), .val (.ref a5), .val (.ref a24), .val (.ref a43), .val (.ref a66), .val (.int kd), .val (.ref tx), .val (mv), .val (av), .unset, .unset] [(.ref tx), (.ref a147), (.ref a147)])
    refine OEnds.go (fun _ q => XS.aload X144.here X144.hx rfl (hb hby at_184) rfl rmv q) ?_
    show OEnds p e below _ T143 (mkF m 186 #[.val (.int x0), .val (.int x1), .val (.int x2), .val (.int x3), .val (.int x4), .val (.int x5), .val (.int ca), .val (.int cb), .val (.int cc), .val (.ref a5), .val (.ref a24), .val (.ref a43), .val (.ref a66), .val (.int kd), .val (.ref tx), .val (mv), .val (av), .unset, .unset] [(mv), (.ref tx), (.ref a147), (.ref a147)])
    refine OEnds.go (fun _ q => XS.aload X144.here X144.hx rfl (hb hby at_186) rfl rav q) ?_
    show OEnds p e below _ T143 (mkF m 188 #[.val (.int x0), .val (.int x1), .val (.int x2), .val (.int x3), .val (.int x4), .val (.int x5), .val (.int ca), .val (.int cb), .val (.int cc), .val (.ref a5), .val (.ref a24), .val (.ref a43), .val (.ref a66), .val (.int kd), .val (.ref tx), .val (mv), .val (av), .unset, .unset] [(av), (mv), (.ref tx), (.ref a147), (.ref a147)])
    refine X144.callI hE (con_tok H a147 (.ref tx) mv av rfl rmv rav gza147 h145 Aa147 Fa147_text Fa147_mode Fa147_associatedData) (hw _ (List.mem_of_getElem? (i := 41) rfl)) (hw _ (List.mem_of_getElem? (i := 42) rfl)) (hw _ (List.mem_of_getElem? (i := 40) rfl)) (hw _ (List.mem_of_getElem? (i := 43) rfl)) rfl (by decide) (W := 1) (by decide) (by decide) (a := a147) (argsL := [(.ref tx), (mv), (av)]) (rest := [(.ref a147)]) rfl (lenOf own_pd9 rfl) rfl (by rw [hml]; rfl) (Nat.le_of_eq rfl) (hb hby at_188) (by decide) (by decide) ?_
    intro v158 vm156 T153 h155 X154 C157 q159
    obtain ⟨rfl, K148, E149, Ff150_text, Ff151_mode, Ff152_associatedData⟩ := q159
    have EBa147_h155 := ext_keep E146 K148 (allS (Nat.le_of_eq ga147) all0)
    have Stx_h155 := Stx_h138.ext EBa147_h155
    show OEnds p e below _ T153 (mkF m 191 #[.val (.int x0), .val (.int x1), .val (.int x2), .val (.int x3), .val (.int x4), .val (.int x5), .val (.int ca), .val (.int cb), .val (.int cc), .val (.ref a5), .val (.ref a24), .val (.ref a43), .val (.ref a66), .val (.int kd), .val (.ref tx), .val (mv), .val (av), .unset, .unset] [(.ref a147)])
    refine OEnds.go (fun _ q => XS.astore X154.here X154.hx rfl (hb hby at_191) rfl rfl (l' := #[.val (.int x0), .val (.int x1), .val (.int x2), .val (.int x3), .val (.int x4), .val (.int x5), .val (.int ca), .val (.int cb), .val (.int cc), .val (.ref a5), .val (.ref a24), .val (.ref a43), .val (.ref a66), .val (.int kd), .val (.ref tx), .val (mv), .val (av), .val (.ref a147), .unset]) rfl q) ?_
    show OEnds p e below _ T153 (mkF m 193 #[.val (.int x0), .val (.int x1), .val (.int x2), .val (.int x3), .val (.int x4), .val (.int x5), .val (.int ca), .val (.int cb), .val (.int cc), .val (.ref a5), .val (.ref a24), .val (.ref a43), .val (.ref a66), .val (.int kd), .val (.ref tx), .val (mv), .val (av), .val (.ref a147), .unset] [])
    refine OEnds.go (fun _ q => XS.iload X154.here X154.hx rfl (hb hby at_193) rfl q) ?_
    show OEnds p e below _ T153 (mkF m 195 #[.val (.int x0), .val (.int x1), .val (.int x2), .val (.int x3), .val (.int x4), .val (.int x5), .val (.int ca), .val (.int cb), .val (.int cc), .val (.ref a5), .val (.ref a24), .val (.ref a43), .val (.ref a66), .val (.int kd), .val (.ref tx), .val (mv), .val (av), .val (.ref a147), .unset] [(.int kd)])
    refine OEnds.go (fun _ q => XS.iconst X154.here X154.hx rfl (hb hby at_195) q) ?_
    show OEnds p e below _ T153 (mkF m 196 #[.val (.int x0), .val (.int x1), .val (.int x2), .val (.int x3), .val (.int x4), .val (.int x5), .val (.int ca), .val (.int cb), .val (.int cc), .val (.ref a5), .val (.ref a24), .val (.ref a43), .val (.ref a66), .val (.int kd), .val (.ref tx), .val (mv), .val (av), .val (.ref a147), .unset] [(.int (1 : Int32)), (.int kd)])
    by_cases hq : (1 : Int32) < kd
    · skip
      refine OEnds.go (fun _ q => XS.icmpYes X154.here X154.hx rfl (pc0 := 196) (pc' := 203) rfl (hb hby at_196) rfl (tlt hq).2.2.1 (by decide) (by decide) q) ?_
      show OEnds p e below _ T153 (mkF m 203 #[.val (.int x0), .val (.int x1), .val (.int x2), .val (.int x3), .val (.int x4), .val (.int x5), .val (.int ca), .val (.int cb), .val (.int cc), .val (.ref a5), .val (.ref a24), .val (.ref a43), .val (.ref a66), .val (.int kd), .val (.ref tx), .val (mv), .val (av), .val (.ref a147), .unset] [])
      refine OEnds.go (fun _ q => XS.iconst X154.here X154.hx rfl (hb hby at_203) q) ?_
      show OEnds p e below _ T153 (mkF m 204 #[.val (.int x0), .val (.int x1), .val (.int x2), .val (.int x3), .val (.int x4), .val (.int x5), .val (.int ca), .val (.int cb), .val (.int cc), .val (.ref a5), .val (.ref a24), .val (.ref a43), .val (.ref a66), .val (.int kd), .val (.ref tx), .val (mv), .val (av), .val (.ref a147), .unset] [(.int (0 : Int32))])
      refine OEnds.go (fun _ q => XS.istore X154.here X154.hx rfl (hb hby at_204) rfl (l' := #[.val (.int x0), .val (.int x1), .val (.int x2), .val (.int x3), .val (.int x4), .val (.int x5), .val (.int ca), .val (.int cb), .val (.int cc), .val (.ref a5), .val (.ref a24), .val (.ref a43), .val (.ref a66), .val (.int kd), .val (.ref tx), .val (mv), .val (av), .val (.ref a147), .val (.int (0 : Int32))]) rfl q) ?_
      show OEnds p e below _ T153 (mkF m 206 #[.val (.int x0), .val (.int x1), .val (.int x2), .val (.int x3), .val (.int x4), .val (.int x5), .val (.int ca), .val (.int cb), .val (.int cc), .val (.ref a5), .val (.ref a24), .val (.ref a43), .val (.ref a66), .val (.int kd), .val (.ref tx), .val (mv), .val (av), .val (.ref a147), .val (.int (0 : Int32))] [])
      refine OEnds.go (fun _ q => XS.aload X154.here X154.hx rfl (hb hby at_206) rfl rfl q) ?_
      show OEnds p e below _ T153 (mkF m 208 #[.val (.int x0), .val (.int x1), .val (.int x2), .val (.int x3), .val (.int x4), .val (.int x5), .val (.int ca), .val (.int cb), .val (.int cc), .val (.ref a5), .val (.ref a24), .val (.ref a43), .val (.ref a66), .val (.int kd), .val (.ref tx), .val (mv), .val (av), .val (.ref a147), .val (.int (0 : Int32))] [(.ref a147)])
      refine X154.callV hE (con_mis1 H a147 tx cs h155 Ff150_text Stx_h155) (hw _ (List.mem_of_getElem? (i := 56) rfl)) (hw _ (List.mem_of_getElem? (i := 57) rfl)) (hw _ (List.mem_of_getElem? (i := 59) rfl)) (hw _ (List.mem_of_getElem? (i := 58) rfl)) (hw _ (List.mem_of_getElem? (i := 40) rfl)) (hw _ (List.mem_of_getElem? (i := 60) rfl)) (X154.nf (hw _ (List.mem_of_getElem? (i := 59) rfl))) (by decide) (W := 0) (by decide) (by decide) E149 (argsL := []) (rest := []) rfl (lenOf own_pd5 rfl) rfl (by rw [hml]; rfl) (Nat.le_of_eq rfl) (hb hby at_208) (by decide) (by decide) ?_
      intro v165 vm163 T160 h162 X161 C164 q166
      obtain ⟨rfl, rfl⟩ := q166
      show OEnds p e below _ T160 (mkF m 211 #[.val (.int x0), .val (.int x1), .val (.int x2), .val (.int x3), .val (.int x4), .val (.int x5), .val (.int ca), .val (.int cb), .val (.int cc), .val (.ref a5), .val (.ref a24), .val (.ref a43), .val (.ref a66), .val (.int kd), .val (.ref tx), .val (mv), .val (av), .val (.ref a147), .val (.int (0 : Int32))] [(.int (if cs.length = 0 then 1 else 0))])
      refine OEnds.go (fun _ q => XS.iload X161.here X161.hx rfl (hb hby at_211) rfl q) ?_
      show OEnds p e below _ T160 (mkF m 213 #[.val (.int x0), .val (.int x1), .val (.int x2), .val (.int x3), .val (.int x4), .val (.int x5), .val (.int ca), .val (.int cb), .val (.int cc), .val (.ref a5), .val (.ref a24), .val (.ref a43), .val (.ref a66), .val (.int kd), .val (.ref tx), .val (mv), .val (av), .val (.ref a147), .val (.int (0 : Int32))] [(.int (0 : Int32)), (.int (if cs.length = 0 then 1 else 0))])
      refine OEnds.go (fun _ q => XS.icmpNo X161.here X161.hx rfl (hb hby at_213) rfl (teq (if_neg (fun q => absurd hq (hiff.mp q)))).2 q) ?_
      show OEnds p e below _ T160 (mkF m 216 #[.val (.int x0), .val (.int x1), .val (.int x2), .val (.int x3), .val (.int x4), .val (.int x5), .val (.int ca), .val (.int cb), .val (.int cc), .val (.ref a5), .val (.ref a24), .val (.ref a43), .val (.ref a66), .val (.int kd), .val (.ref tx), .val (mv), .val (av), .val (.ref a147), .val (.int (0 : Int32))] [])
      refine OEnds.go (fun _ q => XS.iconst X161.here X161.hx rfl (hb hby at_216) q) ?_
      show OEnds p e below _ T160 (mkF m 217 #[.val (.int x0), .val (.int x1), .val (.int x2), .val (.int x3), .val (.int x4), .val (.int x5), .val (.int ca), .val (.int cb), .val (.int cc), .val (.ref a5), .val (.ref a24), .val (.ref a43), .val (.ref a66), .val (.int kd), .val (.ref tx), .val (mv), .val (av), .val (.ref a147), .val (.int (0 : Int32))] [(.int (1 : Int32))])
      refine OEnds.go (fun _ q => XS.goto X161.here X161.hx rfl (pc0 := 217) (pc' := 221) rfl (hb hby at_217) (by decide) (by decide) q) ?_
      show OEnds p e below _ T160 (mkF m 221 #[.val (.int x0), .val (.int x1), .val (.int x2), .val (.int x3), .val (.int x4), .val (.int x5), .val (.int ca), .val (.int cb), .val (.int cc), .val (.ref a5), .val (.ref a24), .val (.ref a43), .val (.ref a66), .val (.int kd), .val (.ref tx), .val (mv), .val (av), .val (.ref a147), .val (.int (0 : Int32))] [(.int (1 : Int32))])
      exact X161.retBool hE hlk (by first | exact Or.inl rfl | exact Or.inr rfl | assumption) hret (hb hby at_221) (by decide) (by decide) rfl
    · skip
      refine OEnds.go (fun _ q => XS.icmpNo X154.here X154.hx rfl (hb hby at_196) rfl (flt hq).2.2.1 q) ?_
      show OEnds p e below _ T153 (mkF m 199 #[.val (.int x0), .val (.int x1), .val (.int x2), .val (.int x3), .val (.int x4), .val (.int x5), .val (.int ca), .val (.int cb), .val (.int cc), .val (.ref a5), .val (.ref a24), .val (.ref a43), .val (.ref a66), .val (.int kd), .val (.ref tx), .val (mv), .val (av), .val (.ref a147), .unset] [])
      refine OEnds.go (fun _ q => XS.iconst X154.here X154.hx rfl (hb hby at_199) q) ?_
      show OEnds p e below _ T153 (mkF m 200 #[.val (.int x0), .val (.int x1), .val (.int x2), .val (.int x3), .val (.int x4), .val (.int x5), .val (.int ca), .val (.int cb), .val (.int cc), .val (.ref a5), .val (.ref a24), .val (.ref a43), .val (.ref a66), .val (.int kd), .val (.ref tx), .val (mv), .val (av), .val (.ref a147), .unset] [(.int (1 : Int32))])
      refine OEnds.go (fun _ q => XS.goto X154.here X154.hx rfl (pc0 := 200) (pc' := 204) rfl (hb hby at_200) (by decide) (by decide) q) ?_
      show OEnds p e below _ T153 (mkF m 204 #[.val (.int x0), .val (.int x1), .val (.int x2), .val (.int x3), .val (.int x4), .val (.int x5), .val (.int ca), .val (.int cb), .val (.int cc), .val (.ref a5), .val (.ref a24), .val (.ref a43), .val (.ref a66), .val (.int kd), .val (.ref tx), .val (mv), .val (av), .val (.ref a147), .unset] [(.int (1 : Int32))])
      refine OEnds.go (fun _ q => XS.istore X154.here X154.hx rfl (hb hby at_204) rfl (l' := #[.val (.int x0), .val (.int x1), .val (.int x2), .val (.int x3), .val (.int x4), .val (.int x5), .val (.int ca), .val (.int cb), .val (.int cc), .val (.ref a5), .val (.ref a24), .val (.ref a43), .val (.ref a66), .val (.int kd), .val (.ref tx), .val (mv), .val (av), .val (.ref a147), .val (.int (1 : Int32))]) rfl q) ?_
      show OEnds p e below _ T153 (mkF m 206 #[.val (.int x0), .val (.int x1), .val (.int x2), .val (.int x3), .val (.int x4), .val (.int x5), .val (.int ca), .val (.int cb), .val (.int cc), .val (.ref a5), .val (.ref a24), .val (.ref a43), .val (.ref a66), .val (.int kd), .val (.ref tx), .val (mv), .val (av), .val (.ref a147), .val (.int (1 : Int32))] [])
      refine OEnds.go (fun _ q => XS.aload X154.here X154.hx rfl (hb hby at_206) rfl rfl q) ?_
      show OEnds p e below _ T153 (mkF m 208 #[.val (.int x0), .val (.int x1), .val (.int x2), .val (.int x3), .val (.int x4), .val (.int x5), .val (.int ca), .val (.int cb), .val (.int cc), .val (.ref a5), .val (.ref a24), .val (.ref a43), .val (.ref a66), .val (.int kd), .val (.ref tx), .val (mv), .val (av), .val (.ref a147), .val (.int (1 : Int32))] [(.ref a147)])
      refine X154.callV hE (con_mis1 H a147 tx cs h155 Ff150_text Stx_h155) (hw _ (List.mem_of_getElem? (i := 56) rfl)) (hw _ (List.mem_of_getElem? (i := 57) rfl)) (hw _ (List.mem_of_getElem? (i := 59) rfl)) (hw _ (List.mem_of_getElem? (i := 58) rfl)) (hw _ (List.mem_of_getElem? (i := 40) rfl)) (hw _ (List.mem_of_getElem? (i := 60) rfl)) (X154.nf (hw _ (List.mem_of_getElem? (i := 59) rfl))) (by decide) (W := 0) (by decide) (by decide) E149 (argsL := []) (rest := []) rfl (lenOf own_pd5 rfl) rfl (by rw [hml]; rfl) (Nat.le_of_eq rfl) (hb hby at_208) (by decide) (by decide) ?_
      intro v172 vm170 T167 h169 X168 C171 q173
      obtain ⟨rfl, rfl⟩ := q173
      show OEnds p e below _ T167 (mkF m 211 #[.val (.int x0), .val (.int x1), .val (.int x2), .val (.int x3), .val (.int x4), .val (.int x5), .val (.int ca), .val (.int cb), .val (.int cc), .val (.ref a5), .val (.ref a24), .val (.ref a43), .val (.ref a66), .val (.int kd), .val (.ref tx), .val (mv), .val (av), .val (.ref a147), .val (.int (1 : Int32))] [(.int (if cs.length = 0 then 1 else 0))])
      refine OEnds.go (fun _ q => XS.iload X168.here X168.hx rfl (hb hby at_211) rfl q) ?_
      show OEnds p e below _ T167 (mkF m 213 #[.val (.int x0), .val (.int x1), .val (.int x2), .val (.int x3), .val (.int x4), .val (.int x5), .val (.int ca), .val (.int cb), .val (.int cc), .val (.ref a5), .val (.ref a24), .val (.ref a43), .val (.ref a66), .val (.int kd), .val (.ref tx), .val (mv), .val (av), .val (.ref a147), .val (.int (1 : Int32))] [(.int (1 : Int32)), (.int (if cs.length = 0 then 1 else 0))])
      refine OEnds.go (fun _ q => XS.icmpNo X168.here X168.hx rfl (hb hby at_213) rfl (teq (if_pos (hiff.mpr hq))).2 q) ?_
      show OEnds p e below _ T167 (mkF m 216 #[.val (.int x0), .val (.int x1), .val (.int x2), .val (.int x3), .val (.int x4), .val (.int x5), .val (.int ca), .val (.int cb), .val (.int cc), .val (.ref a5), .val (.ref a24), .val (.ref a43), .val (.ref a66), .val (.int kd), .val (.ref tx), .val (mv), .val (av), .val (.ref a147), .val (.int (1 : Int32))] [])
      refine OEnds.go (fun _ q => XS.iconst X168.here X168.hx rfl (hb hby at_216) q) ?_
      show OEnds p e below _ T167 (mkF m 217 #[.val (.int x0), .val (.int x1), .val (.int x2), .val (.int x3), .val (.int x4), .val (.int x5), .val (.int ca), .val (.int cb), .val (.int cc), .val (.ref a5), .val (.ref a24), .val (.ref a43), .val (.ref a66), .val (.int kd), .val (.ref tx), .val (mv), .val (av), .val (.ref a147), .val (.int (1 : Int32))] [(.int (1 : Int32))])
      refine OEnds.go (fun _ q => XS.goto X168.here X168.hx rfl (pc0 := 217) (pc' := 221) rfl (hb hby at_217) (by decide) (by decide) q) ?_
      show OEnds p e below _ T167 (mkF m 221 #[.val (.int x0), .val (.int x1), .val (.int x2), .val (.int x3), .val (.int x4), .val (.int x5), .val (.int ca), .val (.int cb), .val (.int cc), .val (.ref a5), .val (.ref a24), .val (.ref a43), .val (.ref a66), .val (.int kd), .val (.ref tx), .val (mv), .val (av), .val (.ref a147), .val (.int (1 : Int32))] [(.int (1 : Int32))])
      exact X168.retBool hE hlk (by first | exact Or.inl rfl | exact Or.inr rfl | assumption) hret (hb hby at_221) (by decide) (by decide) rfl
  by_cases hk0 : kd = (0 : Int32)
  · skip
    refine OEnds.go (fun _ q => XS.ifNo X85.here X85.hx rfl (hb hby at_112) rfl ((if0 _ _).trans (teq hk0).2) q) ?_
    show OEnds p e below _ T84 (mkF m 115 #[.val (.int x0), .val (.int x1), .val (.int x2), .val (.int x3), .val (.int x4), .val (.int x5), .val (.int ca), .val (.int cb), .val (.int cc), .val (.ref a5), .val (.ref a24), .val (.ref a43), .val (.ref a66), .val (.int kd), .unset, .unset, .unset, .unset, .unset] [])
    refine OEnds.go (fun _ q => XS.aconstNull X85.here X85.hx rfl (hb hby at_115) q) ?_
    show OEnds p e below _ T84 (mkF m 116 #[.val (.int x0), .val (.int x1), .val (.int x2), .val (.int x3), .val (.int x4), .val (.int x5), .val (.int ca), .val (.int cb), .val (.int cc), .val (.ref a5), .val (.ref a24), .val (.ref a43), .val (.ref a66), .val (.int kd), .unset, .unset, .unset, .unset, .unset] [(.null)])
    refine OEnds.go (fun _ q => XS.astore X85.here X85.hx rfl (hb hby at_116) rfl rfl (l' := #[.val (.int x0), .val (.int x1), .val (.int x2), .val (.int x3), .val (.int x4), .val (.int x5), .val (.int ca), .val (.int cb), .val (.int cc), .val (.ref a5), .val (.ref a24), .val (.ref a43), .val (.ref a66), .val (.int kd), .val (.null), .unset, .unset, .unset, .unset]) rfl q) ?_
    show OEnds p e below _ T84 (mkF m 118 #[.val (.int x0), .val (.int x1), .val (.int x2), .val (.int x3), .val (.int x4), .val (.int x5), .val (.int ca), .val (.int cb), .val (.int cc), .val (.ref a5), .val (.ref a24), .val (.ref a43), .val (.ref a66), .val (.int kd), .val (.null), .unset, .unset, .unset, .unset] [])
    refine OEnds.go (fun _ q => XS.goto X85.here X85.hx rfl (pc0 := 118) (pc' := 164) rfl (hb hby at_118) (by decide) (by decide) q) ?_
    show OEnds p e below _ T84 (mkF m 164 #[.val (.int x0), .val (.int x1), .val (.int x2), .val (.int x3), .val (.int x4), .val (.int x5), .val (.int ca), .val (.int cb), .val (.int cc), .val (.ref a5), .val (.ref a24), .val (.ref a43), .val (.ref a66), .val (.int kd), .val (.null), .unset, .unset, .unset, .unset] [])
    exact J0 _ _ _  (X85.mono (by decide) (by decide)) hk0 
  · skip
    refine OEnds.go (fun _ q => XS.ifYes X85.here X85.hx rfl (pc0 := 112) (pc' := 121) rfl (hb hby at_112) rfl ((if0 _ _).trans (feq hk0).2) (by decide) (by decide) q) ?_
    show OEnds p e below _ T84 (mkF m 121 #[.val (.int x0), .val (.int x1), .val (.int x2), .val (.int x3), .val (.int x4), .val (.int x5), .val (.int ca), .val (.int cb), .val (.int cc), .val (.ref a5), .val (.ref a24), .val (.ref a43), .val (.ref a66), .val (.int kd), .unset, .unset, .unset, .unset, .unset] [])
    refine OEnds.go (fun _ q => XS.iload X85.here X85.hx rfl (hb hby at_121) rfl q) ?_
    show OEnds p e below _ T84 (mkF m 123 #[.val (.int x0), .val (.int x1), .val (.int x2), .val (.int x3), .val (.int x4), .val (.int x5), .val (.int ca), .val (.int cb), .val (.int cc), .val (.ref a5), .val (.ref a24), .val (.ref a43), .val (.ref a66), .val (.int kd), .unset, .unset, .unset, .unset, .unset] [(.int kd)])
    refine OEnds.go (fun _ q => XS.iconst X85.here X85.hx rfl (hb hby at_123) q) ?_
    show OEnds p e below _ T84 (mkF m 124 #[.val (.int x0), .val (.int x1), .val (.int x2), .val (.int x3), .val (.int x4), .val (.int x5), .val (.int ca), .val (.int cb), .val (.int cc), .val (.ref a5), .val (.ref a24), .val (.ref a43), .val (.ref a66), .val (.int kd), .unset, .unset, .unset, .unset, .unset] [(.int (1 : Int32)), (.int kd)])
    by_cases hk1 : kd = (1 : Int32)
    · skip
      refine OEnds.go (fun _ q => XS.icmpNo X85.here X85.hx rfl (hb hby at_124) rfl (teq hk1).2 q) ?_
      show OEnds p e below _ T84 (mkF m 127 #[.val (.int x0), .val (.int x1), .val (.int x2), .val (.int x3), .val (.int x4), .val (.int x5), .val (.int ca), .val (.int cb), .val (.int cc), .val (.ref a5), .val (.ref a24), .val (.ref a43), .val (.ref a66), .val (.int kd), .unset, .unset, .unset, .unset, .unset] [])
      refine OEnds.go (fun _ q => XS.aload X85.here X85.hx rfl (hb hby at_127) rfl rfl q) ?_
      show OEnds p e below _ T84 (mkF m 129 #[.val (.int x0), .val (.int x1), .val (.int x2), .val (.int x3), .val (.int x4), .val (.int x5), .val (.int ca), .val (.int cb), .val (.int cc), .val (.ref a5), .val (.ref a24), .val (.ref a43), .val (.ref a66), .val (.int kd), .unset, .unset, .unset, .unset, .unset] [(.ref a5)])
      refine OEnds.go (fun _ q => XS.astore X85.here X85.hx rfl (hb hby at_129) rfl rfl (l' := #[.val (.int x0), .val (.int x1), .val (.int x2), .val (.int x3), .val (.int x4), .val (.int x5), .val (.int ca), .val (.int cb), .val (.int cc), .val (.ref a5), .val (.ref a24), .val (.ref a43), .val (.ref a66), .val (.int kd), .val (.ref a5), .unset, .unset, .unset, .unset]) rfl q) ?_
      show OEnds p e below _ T84 (mkF m 131 #[.val (.int x0), .val (.int x1), .val (.int x2), .val (.int x3), .val (.int x4), .val (.int x5), .val (.int ca), .val (.int cb), .val (.int cc), .val (.ref a5), .val (.ref a24), .val (.ref a43), .val (.ref a66), .val (.int kd), .val (.ref a5), .unset, .unset, .unset, .unset] [])
      refine OEnds.go (fun _ q => XS.goto X85.here X85.hx rfl (pc0 := 131) (pc' := 164) rfl (hb hby at_131) (by decide) (by decide) q) ?_
      show OEnds p e below _ T84 (mkF m 164 #[.val (.int x0), .val (.int x1), .val (.int x2), .val (.int x3), .val (.int x4), .val (.int x5), .val (.int ca), .val (.int cb), .val (.int cc), .val (.ref a5), .val (.ref a24), .val (.ref a43), .val (.ref a66), .val (.int kd), .val (.ref a5), .unset, .unset, .unset, .unset] [])
      exact J1 _ _ _ a5 _ (X85.mono (by decide) (by decide)) Str12_h86 (by rw [hk1]; decide) 
    · skip
      refine OEnds.go (fun _ q => XS.icmpYes X85.here X85.hx rfl (pc0 := 124) (pc' := 134) rfl (hb hby at_124) rfl (feq hk1).2 (by decide) (by decide) q) ?_
      show OEnds p e below _ T84 (mkF m 134 #[.val (.int x0), .val (.int x1), .val (.int x2), .val (.int x3), .val (.int x4), .val (.int x5), .val (.int ca), .val (.int cb), .val (.int cc), .val (.ref a5), .val (.ref a24), .val (.ref a43), .val (.ref a66), .val (.int kd), .unset, .unset, .unset, .unset, .unset] [])
      refine OEnds.go (fun _ q => XS.iload X85.here X85.hx rfl (hb hby at_134) rfl q) ?_
      show OEnds p e below _ T84 (mkF m 136 #[.val (.int x0), .val (.int x1), .val (.int x2), .val (.int x3), .val (.int x4), .val (.int x5), .val (.int ca), .val (.int cb), .val (.int cc), .val (.ref a5), .val (.ref a24), .val (.ref a43), .val (.ref a66), .val (.int kd), .unset, .unset, .unset, .unset, .unset] [(.int kd)])
      refine OEnds.go (fun _ q => XS.iconst X85.here X85.hx rfl (hb hby at_136) q) ?_
      show OEnds p e below _ T84 (mkF m 137 #[.val (.int x0), .val (.int x1), .val (.int x2), .val (.int x3), .val (.int x4), .val (.int x5), .val (.int ca), .val (.int cb), .val (.int cc), .val (.ref a5), .val (.ref a24), .val (.ref a43), .val (.ref a66), .val (.int kd), .unset, .unset, .unset, .unset, .unset] [(.int (2 : Int32)), (.int kd)])
      by_cases hk2 : kd = (2 : Int32)
      · skip
        refine OEnds.go (fun _ q => XS.icmpNo X85.here X85.hx rfl (hb hby at_137) rfl (teq hk2).2 q) ?_
        show OEnds p e below _ T84 (mkF m 140 #[.val (.int x0), .val (.int x1), .val (.int x2), .val (.int x3), .val (.int x4), .val (.int x5), .val (.int ca), .val (.int cb), .val (.int cc), .val (.ref a5), .val (.ref a24), .val (.ref a43), .val (.ref a66), .val (.int kd), .unset, .unset, .unset, .unset, .unset] [])
        refine OEnds.go (fun _ q => XS.aload X85.here X85.hx rfl (hb hby at_140) rfl rfl q) ?_
        show OEnds p e below _ T84 (mkF m 142 #[.val (.int x0), .val (.int x1), .val (.int x2), .val (.int x3), .val (.int x4), .val (.int x5), .val (.int ca), .val (.int cb), .val (.int cc), .val (.ref a5), .val (.ref a24), .val (.ref a43), .val (.ref a66), .val (.int kd), .unset, .unset, .unset, .unset, .unset] [(.ref a24)])
        refine OEnds.go (fun _ q => XS.astore X85.here X85.hx rfl (hb hby at_142) rfl rfl (l' := #[.val (.int x0), .val (.int x1), .val (.int x2), .val (.int x3), .val (.int x4), .val (.int x5), .val (.int ca), .val (.int cb), .val (.int cc), .val (.ref a5), .val (.ref a24), .val (.ref a43), .val (.ref a66), .val (.int kd), .val (.ref a24), .unset, .unset, .unset, .unset]) rfl q) ?_
        show OEnds p e below _ T84 (mkF m 144 #[.val (.int x0), .val (.int x1), .val (.int x2), .val (.int x3), .val (.int x4), .val (.int x5), .val (.int ca), .val (.int cb), .val (.int cc), .val (.ref a5), .val (.ref a24), .val (.ref a43), .val (.ref a66), .val (.int kd), .val (.ref a24), .unset, .unset, .unset, .unset] [])
        refine OEnds.go (fun _ q => XS.goto X85.here X85.hx rfl (pc0 := 144) (pc' := 164) rfl (hb hby at_144) (by decide) (by decide) q) ?_
        show OEnds p e below _ T84 (mkF m 164 #[.val (.int x0), .val (.int x1), .val (.int x2), .val (.int x3), .val (.int x4), .val (.int x5), .val (.int ca), .val (.int cb), .val (.int cc), .val (.ref a5), .val (.ref a24), .val (.ref a43), .val (.ref a66), .val (.int kd), .val (.ref a24), .unset, .unset, .unset, .unset] [])
        exact J1 _ _ _ a24 _ (X85.mono (by decide) (by decide)) Str38_h86 ⟨fun q => absurd q (Nat.succ_ne_zero _), fun q => absurd (by rw [hk2]; decide) q⟩ 
      · skip
        refine OEnds.go (fun _ q => XS.icmpYes X85.here X85.hx rfl (pc0 := 137) (pc' := 147) rfl (hb hby at_137) rfl (feq hk2).2 (by decide) (by decide) q) ?_
        show OEnds p e below _ T84 (mkF m 147 #[.val (.int x0), .val (.int x1), .val (.int x2), .val (.int x3), .val (.int x4), .val (.int x5), .val (.int ca), .val (.int cb), .val (.int cc), .val (.ref a5), .val (.ref a24), .val (.ref a43), .val (.ref a66), .val (.int kd), .unset, .unset, .unset, .unset, .unset] [])
        refine OEnds.go (fun _ q => XS.iload X85.here X85.hx rfl (hb hby at_147) rfl q) ?_
        show OEnds p e below _ T84 (mkF m 149 #[.val (.int x0), .val (.int x1), .val (.int x2), .val (.int x3), .val (.int x4), .val (.int x5), .val (.int ca), .val (.int cb), .val (.int cc), .val (.ref a5), .val (.ref a24), .val (.ref a43), .val (.ref a66), .val (.int kd), .unset, .unset, .unset, .unset, .unset] [(.int kd)])
        refine OEnds.go (fun _ q => XS.iconst X85.here X85.hx rfl (hb hby at_149) q) ?_
        show OEnds p e below _ T84 (mkF m 150 #[.val (.int x0), .val (.int x1), .val (.int x2), .val (.int x3), .val (.int x4), .val (.int x5), .val (.int ca), .val (.int cb), .val (.int cc), .val (.ref a5), .val (.ref a24), .val (.ref a43), .val (.ref a66), .val (.int kd), .unset, .unset, .unset, .unset, .unset] [(.int (3 : Int32)), (.int kd)])
        by_cases hk3 : kd = (3 : Int32)
        · skip
          refine OEnds.go (fun _ q => XS.icmpNo X85.here X85.hx rfl (hb hby at_150) rfl (teq hk3).2 q) ?_
          show OEnds p e below _ T84 (mkF m 153 #[.val (.int x0), .val (.int x1), .val (.int x2), .val (.int x3), .val (.int x4), .val (.int x5), .val (.int ca), .val (.int cb), .val (.int cc), .val (.ref a5), .val (.ref a24), .val (.ref a43), .val (.ref a66), .val (.int kd), .unset, .unset, .unset, .unset, .unset] [])
          refine OEnds.go (fun _ q => XS.aload X85.here X85.hx rfl (hb hby at_153) rfl rfl q) ?_
          show OEnds p e below _ T84 (mkF m 155 #[.val (.int x0), .val (.int x1), .val (.int x2), .val (.int x3), .val (.int x4), .val (.int x5), .val (.int ca), .val (.int cb), .val (.int cc), .val (.ref a5), .val (.ref a24), .val (.ref a43), .val (.ref a66), .val (.int kd), .unset, .unset, .unset, .unset, .unset] [(.ref a43)])
          refine OEnds.go (fun _ q => XS.astore X85.here X85.hx rfl (hb hby at_155) rfl rfl (l' := #[.val (.int x0), .val (.int x1), .val (.int x2), .val (.int x3), .val (.int x4), .val (.int x5), .val (.int ca), .val (.int cb), .val (.int cc), .val (.ref a5), .val (.ref a24), .val (.ref a43), .val (.ref a66), .val (.int kd), .val (.ref a43), .unset, .unset, .unset, .unset]) rfl q) ?_
          show OEnds p e below _ T84 (mkF m 157 #[.val (.int x0), .val (.int x1), .val (.int x2), .val (.int x3), .val (.int x4), .val (.int x5), .val (.int ca), .val (.int cb), .val (.int cc), .val (.ref a5), .val (.ref a24), .val (.ref a43), .val (.ref a66), .val (.int kd), .val (.ref a43), .unset, .unset, .unset, .unset] [])
          refine OEnds.go (fun _ q => XS.goto X85.here X85.hx rfl (pc0 := 157) (pc' := 164) rfl (hb hby at_157) (by decide) (by decide) q) ?_
          show OEnds p e below _ T84 (mkF m 164 #[.val (.int x0), .val (.int x1), .val (.int x2), .val (.int x3), .val (.int x4), .val (.int x5), .val (.int ca), .val (.int cb), .val (.int cc), .val (.ref a5), .val (.ref a24), .val (.ref a43), .val (.ref a66), .val (.int kd), .val (.ref a43), .unset, .unset, .unset, .unset] [])
          exact J1 _ _ _ a43 _ (X85.mono (by decide) (by decide)) Str61_h86 ⟨fun q => absurd q (Nat.succ_ne_zero _), fun q => absurd (by rw [hk3]; decide) q⟩ 
        · skip
          refine OEnds.go (fun _ q => XS.icmpYes X85.here X85.hx rfl (pc0 := 150) (pc' := 160) rfl (hb hby at_150) rfl (feq hk3).2 (by decide) (by decide) q) ?_
          show OEnds p e below _ T84 (mkF m 160 #[.val (.int x0), .val (.int x1), .val (.int x2), .val (.int x3), .val (.int x4), .val (.int x5), .val (.int ca), .val (.int cb), .val (.int cc), .val (.ref a5), .val (.ref a24), .val (.ref a43), .val (.ref a66), .val (.int kd), .unset, .unset, .unset, .unset, .unset] [])
          refine OEnds.go (fun _ q => XS.aload X85.here X85.hx rfl (hb hby at_160) rfl rfl q) ?_
          show OEnds p e below _ T84 (mkF m 162 #[.val (.int x0), .val (.int x1), .val (.int x2), .val (.int x3), .val (.int x4), .val (.int x5), .val (.int ca), .val (.int cb), .val (.int cc), .val (.ref a5), .val (.ref a24), .val (.ref a43), .val (.ref a66), .val (.int kd), .unset, .unset, .unset, .unset, .unset] [(.ref a66)])
          refine OEnds.go (fun _ q => XS.astore X85.here X85.hx rfl (hb hby at_162) rfl rfl (l' := #[.val (.int x0), .val (.int x1), .val (.int x2), .val (.int x3), .val (.int x4), .val (.int x5), .val (.int ca), .val (.int cb), .val (.int cc), .val (.ref a5), .val (.ref a24), .val (.ref a43), .val (.ref a66), .val (.int kd), .val (.ref a66), .unset, .unset, .unset, .unset]) rfl q) ?_
          show OEnds p e below _ T84 (mkF m 164 #[.val (.int x0), .val (.int x1), .val (.int x2), .val (.int x3), .val (.int x4), .val (.int x5), .val (.int ca), .val (.int cb), .val (.int cc), .val (.ref a5), .val (.ref a24), .val (.ref a43), .val (.ref a66), .val (.int kd), .val (.ref a66), .unset, .unset, .unset, .unset] [])
          have hkd := own_kd hkd
          exact J1 _ _ _ a66 _ (X85.mono (by decide) (by decide)) Str88 (own_k4 hkd hk0 hk1) 
theorem comes_1 {Post : Tables → Env → Array Value → State → Outcome → State → Prop} (hpost : ∀ tb e args s v u, (limb_1_1.after args s (.returned v) u = true ∧ limb_1_2.after args s (.returned v) u = true ∧ True) → ReturnedEndW s (.returned v) u (Jvm.fieldLocs frame_1_writes args s ++ Jvm.arrayLocs frame_1_arrays args s ++ Jvm.staticLocs frame_1_statics s) 48 1216 → Post tb e args s (.returned v) u) :
    ArmFor flags0 classFile x code maxLocals ret World_1 tables_1 room_1 Calls_1 rest_1 Pre_1 Post := by
  intro l hfl _ _ p e ha hc hk s m args below hf hA hF happ hP
  obtain ⟨hcalls, hrest, hpre⟩ := hP
  obtain ⟨-, -, -, hnamed, -, -, -, hat⟩ := (Spec.applies_iff hf).mp happ
  obtain ⟨hg, hn⟩ := and_e (Cond.before_iff.mp (show (Jvm.Cond.and given_1 narrow_1).before args s = true from hpre))
  obtain ⟨g0, gr⟩ := and_e hg
  obtain ⟨ga0, gr⟩ := and_e gr
  obtain ⟨ga1, gr⟩ := and_e gr
  obtain ⟨ga2, gr⟩ := and_e gr
  obtain ⟨ga3, gr⟩ := and_e gr
  obtain ⟨ga4, gr⟩ := and_e gr
  obtain ⟨w0, w1, w2, w3, w4, w5, rfl⟩ : ∃ w0 w1 w2 w3 w4 w5 : Value, args = #[w0, w1, w2, w3, w4, w5] := by
    have hs : args.size = 6 := by simpa [Cond.value, given_1] using g0
    obtain ⟨L⟩ := args
    match L, hs with
    | [w0, w1, w2, w3, w4, w5], _ => exact ⟨w0, w1, w2, w3, w4, w5, rfl⟩
  have hw := fun d (hd : d ∈ tables_1) => atoms_spec (ws := Jvm.Cond.code x code maxLocals ret :: tables_1) hat d (List.mem_cons_of_mem _ hd)
  obtain ⟨hsets, hown0⟩ := atoms_of _ (rest_1_c_eq ▸ (show rest_1_c.before _ s = true from hrest))
  have hfit : Fit s := fun {y c} hc i hi => by
    obtain ⟨ha, rfl⟩ := Array.getElem?_eq_some_iff.mp hc
    have q := List.all_eq_true.mp ((Array.all_eq_true_iff_forall_mem.mp hF) _ (Array.getElem_mem ha)) i (List.mem_range.mpr hi)
    simpa [Array.getElem?_eq_getElem hi] using q
  obtain ⟨i0, e0⟩ := is_v ga0
  obtain rfl : w0 = (.int i0) := Option.some.inj e0
  obtain ⟨i1, e1⟩ := is_v ga1
  obtain rfl : w1 = (.int i1) := Option.some.inj e1
  obtain ⟨i2, e2⟩ := is_v ga2
  obtain rfl : w2 = (.int i2) := Option.some.inj e2
  obtain ⟨i3, e3⟩ := is_v ga3
  obtain rfl : w3 = (.int i3) := Option.some.inj e3
  obtain ⟨i4, e4⟩ := is_v ga4
  obtain rfl : w4 = (.int i4) := Option.some.inj e4
  obtain ⟨i5, e5⟩ := is_v gr
  obtain rfl : w5 = (.int i5) := Option.some.inj e5
  obtain ⟨cz, ecz⟩ := is_v (Cond.before_iff.mp (hsets _ (List.mem_of_getElem? (i := 1) rfl)))
  have S0 : Sta s s.heap "java/lang/String" "COMPACT_STRINGS" "Z" (.int cz) := Sta.start ecz (Or.inl (hsets _ (List.mem_of_getElem? (i := 0) rfl)))
  have hcz : ¬ (cz = (0 : Int32)) := gotF (Cond.eq_ints ecz (Term.int_eval (0))) (not_v (Cond.before_iff.mp (hsets _ (List.mem_of_getElem? (i := 2) rfl))))
  obtain ⟨fm, efm, rf⟩ := isR_v (Cond.before_iff.mp (hsets _ (List.mem_of_getElem? (i := 8) rfl)))
  have S1 : Sta s s.heap "jdk/internal/util/Preconditions" "SIOOBE_FORMATTER" "Ljava/util/function/BiFunction;" fm := Sta.start efm (Or.inl (hsets _ (List.mem_of_getElem? (i := 7) rfl)))
  have hE : EW s #[.int i0, .int i1, .int i2, .int i3, .int i4, .int i5] consts_1 := EW.cons (hw _ (List.mem_of_getElem? (i := 14) rfl)) (by decide) (EW.nil)
  have hCH : CHv s consts_1 s.vm s.heap := CHv.start hE hcalls.1 (hsets _ (List.mem_of_getElem? (i := 2) rfl)) (hw _ (List.mem_of_getElem? (i := 15) rfl)) (hw _ (List.mem_of_getElem? (i := 1) rfl))
  obtain ⟨n, o, h1, h2, h3, v, L, rfl, ⟨rfl, N, -⟩, hq⟩ := con_law (l := l) (Z := s) (a0 := _) ⟨hw, hE, S0, hcz, S1, rf⟩ i0 i1 i2 i3 i4 i5 s.heap (ext_refl _) p e ha hc hk s m _ below hf ((Spec.applies_iff_loose hf).mp happ).1 ⟨rfl, State.Warmed39.refl s, rfl, hCH⟩ trivial
  refine ⟨n, _, h1, h2, h3, hpost _ _ _ _ _ _ ⟨Cond.after_iff.mpr rfl, Cond.after_iff.mpr (eq_i res_at (Term.int_eval (1)) rfl), trivial⟩ ⟨hq.2.1, hq.2.2.1, hq.2.2.2.1, (hq.2.2.2.2.sift fun y hy => Or.inr (N y hy)).mono (by decide) (by decide)⟩⟩
theorem main_1_1 : Claimed_1_1 := comes_1 fun _ _ _ _ _ _ h hF => ⟨h.1, hF⟩
theorem main_1_2 : Claimed_1_2 := comes_1 fun _ _ _ _ _ _ h hF => ⟨h.2.1, hF⟩
end Jvm.Pilot.@@N@@
namespace Jvm.Pilot.@@N@@
open Jvm Jvm.ClassFile Sem Op Lib Jvm.Free Jvm.Stand Jvm.Pilot.@@N@@.Jvm.D
/-! MADE BY PROGRAM (witnessworld.py) out of the Statement's table words and the real class files: 21 classes; the members and pool entries that the words name. The judged class is class 1, her method 1. -/
namespace start1
open Jvm.ClassFile
def u (s : String) : CpInfo := .utf8 (stringToUtf16 s)
/-- a pool by its gaps: so many unusable entries, then the entry; so many at the end -/
def gap : Nat → List CpInfo → List CpInfo
  | 0, r => r
  | n + 1, r => .unusable :: gap n r
def poolList (es : List (Nat × CpInfo)) (last : Nat) : List CpInfo := es.foldr (fun e r => gap e.1 (e.2 :: r)) (gap last [])
def pool (es : List (Nat × CpInfo)) (last : Nat) : Array CpInfo := ⟨poolList es last⟩
def fileOf (pool : Array CpInfo) (this : Nat) (attrs : Array Attribute := #[]) (ms : Array MethodInfo := #[]) (fl : Nat := 33) (sup : Nat := 0) (ifs : Array Nat := #[]) (fds : Array FieldInfo := #[]) : ClassFile where
  minorVersion := 0
  majorVersion := 65
  constantPool := pool
  accessFlags := fl
  thisClass := this
  superClass := sup
  interfaces := ifs
  fields := fds
  methods := ms
  attributes := attrs
def plain (name : String) (sup : Option ClassId) : Class where
  name := name
  kind := .ordinary
  loader := none
  accessFlags := 33
  super := sup
  interfaces := #[]
  cf := none
  fields := #[]
  methods := #[]
  instanceTypes := #[]
  staticTypes := #[]
  resolved := #[]
  callSites := []
  init := .initialized
  statics := none
  mirror := none

def pool0 : Array CpInfo := pool [(5, u "<init>"), (0, u "()V"), (1, .class_ 10), (1, u "java/lang/Object")] 113

def k0c0 : Code := { maxStack := 0, maxLocals := 1, code := object_method_1_code, exceptionTable := #[], attributes := #[] }
def k0m0 : Method := { name := "<init>", desc := "()V", sig := { parameters := [], returnType := none }, accessFlags := 1, code := some k0c0 }
/-- java/lang/Object -/
def k0 : Class := { plain "java/lang/Object" none with
  accessFlags := 33
  interfaces := #[]
  cf := some (fileOf pool0 8 #[] #[{ accessFlags := 1, nameIndex := 5, descriptorIndex := 6, attributes := #[] }] 33 0 #[] #[])
  fields := #[]
  methods := #[k0m0]
  instanceTypes := #[]
  staticTypes := #[]
  resolved := Array.replicate 124 none
  statics := none }

def pool1 : Array CpInfo := pool [(2, .class_ 4), (1, u "java/lang/Object"), (0, u "<init>"), (0, u "()V"), (0, .class_ 8), (0, u "java/lang/String"), (0, .methodref 7 10), (0, .nameAndType 5 11), (0, u "([C)V"), (0, .integer 2147483647), (0, .methodref 14 15), (0, .class_ 16), (0, .nameAndType 17 18), (0, u "com/example/vouchgate/vouchgate/token/SealedTokenIsMissingPinLaw"), (0, u "pick"), (0, u "(I)Ljava/lang/String;"), (0, .class_ 20), (0, u "com/example/vouchgate/vouchgate/token/SealedToken"), (0, .methodref 19 22), (0, .nameAndType 5 23), (0, u "(Ljava/lang/String;Ljava/lang/String;Ljava/lang/String;)V"), (0, .methodref 19 25), (0, .nameAndType 26 27), (0, u "isMissing"), (0, u "()Z"), (0, .methodref 7 29), (0, .nameAndType 30 31), (0, u "valueOf"), (0, u "(C)Ljava/lang/String;"), (2, u "law"), (0, u "(IIIIII)Z")] 3

def k1m0 : Method := { name := "<init>", desc := "()V", sig := { parameters := [], returnType := none }, accessFlags := 1, code := none }
def k1c1 : Code := { maxStack := 6, maxLocals := 19, code := code, exceptionTable := #[], attributes := #[] }
def k1m1 : Method := { name := "law", desc := "(IIIIII)Z", sig := { parameters := [.int, .int, .int, .int, .int, .int], returnType := some .boolean }, accessFlags := 9, code := some k1c1 }
def k1c2 : Code := { maxStack := 6, maxLocals := 3, code := method_3_code, exceptionTable := #[], attributes := #[] }
def k1m2 : Method := { name := "pick", desc := "(I)Ljava/lang/String;", sig := { parameters := [.int], returnType := some (.object "java/lang/String") }, accessFlags := 10, code := some k1c2 }
/-- com/example/vouchgate/vouchgate/token/SealedTokenIsMissingPinLaw -/
def k1 : Class := { plain "com/example/vouchgate/vouchgate/token/SealedTokenIsMissingPinLaw" (some 0) with
  accessFlags := 49
  interfaces := #[]
  cf := some (fileOf pool1 14 #[] #[{ accessFlags := 1, nameIndex := 5, descriptorIndex := 6, attributes := #[] }, { accessFlags := 9, nameIndex := 34, descriptorIndex := 35, attributes := #[] }, { accessFlags := 10, nameIndex := 17, descriptorIndex := 18, attributes := #[] }] 49 2 #[] #[])
  fields := #[]
  methods := #[k1m0, k1m1, k1m2]
  instanceTypes := #[]
  staticTypes := #[]
  resolved := Array.replicate 39 none
  statics := none }

def pool2 : Array CpInfo := pool [(1, .class_ 2), (0, u "java/io/Serializable"), (0, .class_ 4), (0, u "java/lang/Object")] 2

/-- java/io/Serializable -/
def k2 : Class := { plain "java/io/Serializable" (some 0) with
  accessFlags := 1537
  interfaces := #[]
  cf := some (fileOf pool2 1 #[] #[] 1537 3 #[] #[])
  fields := #[]
  methods := #[]
  instanceTypes := #[]
  staticTypes := #[]
  resolved := Array.replicate 7 none
  statics := none }

def pool3 : Array CpInfo := pool [(1, .class_ 2), (0, u "java/lang/Comparable"), (0, .class_ 4), (0, u "java/lang/Object")] 7

/-- java/lang/Comparable -/
def k3 : Class := { plain "java/lang/Comparable" (some 0) with
  accessFlags := 1537
  interfaces := #[]
  cf := some (fileOf pool3 1 #[] #[] 1537 3 #[] #[])
  fields := #[]
  methods := #[]
  instanceTypes := #[]
  staticTypes := #[]
  resolved := Array.replicate 12 none
  statics := none }

def pool4 : Array CpInfo := pool [(2, .class_ 4), (1, u "java/lang/CharSequence"), (42, .class_ 48), (0, u "java/lang/CharSequence$1CodePointIterator"), (10, .class_ 60), (0, u "java/lang/CharSequence$1CharIterator"), (5, .class_ 67), (0, u "java/lang/Object")] 63

/-- java/lang/CharSequence -/
def k4 : Class := { plain "java/lang/CharSequence" (some 0) with
  accessFlags := 1537
  interfaces := #[]
  cf := some (fileOf pool4 2 #[.nestMembers #[47, 59]] #[] 1537 66 #[] #[])
  fields := #[]
  methods := #[]
  instanceTypes := #[]
  staticTypes := #[]
  resolved := Array.replicate 131 none
  statics := none }

def pool5 : Array CpInfo := pool [(1, .class_ 2), (0, u "java/lang/constant/Constable"), (0, .class_ 4), (0, u "java/lang/Object")] 6

/-- java/lang/constant/Constable -/
def k5 : Class := { plain "java/lang/constant/Constable" (some 0) with
  accessFlags := 1537
  interfaces := #[]
  cf := some (fileOf pool5 1 #[] #[] 1537 3 #[] #[])
  fields := #[]
  methods := #[]
  instanceTypes := #[]
  staticTypes := #[]
  resolved := Array.replicate 11 none
  statics := none }

def pool6 : Array CpInfo := pool [(1, .class_ 2), (0, u "java/lang/constant/ConstantDesc"), (0, .class_ 4), (0, u "java/lang/Object")] 32

/-- java/lang/constant/ConstantDesc -/
def k6 : Class := { plain "java/lang/constant/ConstantDesc" (some 0) with
  accessFlags := 1537
  interfaces := #[]
  cf := some (fileOf pool6 1 #[] #[] 1537 3 #[] #[])
  fields := #[]
  methods := #[]
  instanceTypes := #[]
  staticTypes := #[]
  resolved := Array.replicate 37 none
  statics := none }

def pool7 : Array CpInfo := pool [(1, .methodref 2 3), (0, .class_ 4), (0, .nameAndType 5 6), (0, u "java/lang/Object"), (0, u "<init>"), (0, u "()V"), (0, .string 8), (0, u ""), (0, .fieldref 10 11), (0, .class_ 12), (0, .nameAndType 13 14), (0, u "java/lang/String"), (0, u "value"), (0, u "[B"), (0, .fieldref 10 16), (0, .nameAndType 17 18), (0, u "coder"), (0, u "B"), (2, u "hash"), (0, u "I"), (2, u "hashIsZero"), (0, u "Z"), (0, .methodref 10 28), (0, .nameAndType 5 29), (0, u "([CIILjava/lang/Void;)V"), (8, .fieldref 10 39), (0, .nameAndType 40 26), (0, u "COMPACT_STRINGS"), (1, .class_ 44), (1, u "java/lang/StringUTF16"), (0, u "compress"), (1, .methodref 42 48), (0, .nameAndType 49 50), (0, u "coderFromArrayLen"), (0, u "([BI)B"), (2, u "toBytes"), (53, .class_ 109), (1, u "java/lang/StringLatin1"), (32, u "()Z"), (34, .methodref 42 178), (0, .nameAndType 45 179), (0, u "([CII)[B"), (29, .methodref 10 210), (0, .nameAndType 5 211), (0, u "([BB)V"), (157, u "(C)Z"), (205, .class_ 576), (0, u "java/lang/CharSequence"), (22, u "CASE_INSENSITIVE_ORDER"), (0, u "Ljava/util/Comparator;"), (91, u "isEmpty"), (89, u "valueOf"), (0, u "(C)Ljava/lang/String;"), (226, u "([C)V"), (4, .methodref 107 1016), (0, .nameAndType 1017 369), (0, u "canEncode"), (0, .methodref 107 1019), (0, .nameAndType 53 1020), (0, u "(C)[B"), (80, u "serialPersistentFields"), (0, u "[Ljava/io/ObjectStreamField;"), (0, .class_ 1104), (0, u "java/lang/String$CaseInsensitiveComparator"), (1, .class_ 1107), (0, u "java/io/Serializable"), (0, .class_ 1109), (0, u "java/lang/Comparable"), (0, .class_ 1111), (0, u "java/lang/constant/Constable"), (0, .class_ 1113), (0, u "java/lang/constant/ConstantDesc"), (2, u "serialVersionUID"), (0, u "J"), (3, u "REPL"), (0, u "C"), (2, u "LATIN1"), (1, u "UTF16")] 323

def k7m0 : Method := { name := "<init>", desc := "()V", sig := { parameters := [], returnType := none }, accessFlags := 1, code := none }
def k7c1 : Code := { maxStack := 5, maxLocals := 2, code := jdk_42_method_3_code, exceptionTable := #[], attributes := #[] }
def k7m1 : Method := { name := "<init>", desc := "([C)V", sig := { parameters := [(.array .char)], returnType := none }, accessFlags := 1, code := some k7c1 }
def k7c2 : Code := { maxStack := 1, maxLocals := 1, code := jdk_42_method_55_code, exceptionTable := #[], attributes := #[] }
def k7m2 : Method := { name := "isEmpty", desc := "()Z", sig := { parameters := [], returnType := some .boolean }, accessFlags := 1, code := some k7c2 }
def k7c3 : Code := { maxStack := 4, maxLocals := 1, code := jdk_42_method_139_code, exceptionTable := #[], attributes := #[] }
def k7m3 : Method := { name := "valueOf", desc := "(C)Ljava/lang/String;", sig := { parameters := [.char], returnType := some (.object "java/lang/String") }, accessFlags := 9, code := some k7c3 }
def k7c4 : Code := { maxStack := 4, maxLocals := 6, code := jdk_42_method_149_code, exceptionTable := #[], attributes := #[] }
def k7m4 : Method := { name := "<init>", desc := "([CIILjava/lang/Void;)V", sig := { parameters := [(.array .char), .int, .int, (.object "java/lang/Void")], returnType := none }, accessFlags := 2, code := some k7c4 }
def k7c5 : Code := { maxStack := 2, maxLocals := 3, code := jdk_42_method_151_code, exceptionTable := #[], attributes := #[] }
def k7m5 : Method := { name := "<init>", desc := "([BB)V", sig := { parameters := [(.array .byte), .byte], returnType := none }, accessFlags := 0, code := some k7c5 }
/-- java/lang/String -/
def k7 : Class := { plain "java/lang/String" (some 0) with
  accessFlags := 49
  interfaces := #[2, 3, 4, 5, 6]
  cf := some (fileOf pool7 10 #[.nestMembers #[1103]] #[{ accessFlags := 1, nameIndex := 5, descriptorIndex := 6, attributes := #[] }, { accessFlags := 1, nameIndex := 5, descriptorIndex := 1010, attributes := #[] }, { accessFlags := 1, nameIndex := 692, descriptorIndex := 142, attributes := #[] }, { accessFlags := 9, nameIndex := 782, descriptorIndex := 783, attributes := #[] }, { accessFlags := 2, nameIndex := 5, descriptorIndex := 29, attributes := #[] }, { accessFlags := 0, nameIndex := 5, descriptorIndex := 211, attributes := #[] }] 49 2 #[1106, 1108, 575, 1110, 1112] #[{ accessFlags := 18, nameIndex := 13, descriptorIndex := 14, attributes := #[] }, { accessFlags := 18, nameIndex := 17, descriptorIndex := 18, attributes := #[] }, { accessFlags := 2, nameIndex := 21, descriptorIndex := 22, attributes := #[] }, { accessFlags := 2, nameIndex := 25, descriptorIndex := 26, attributes := #[] }, { accessFlags := 26, nameIndex := 1116, descriptorIndex := 1117, attributes := #[] }, { accessFlags := 24, nameIndex := 40, descriptorIndex := 26, attributes := #[] }, { accessFlags := 26, nameIndex := 1101, descriptorIndex := 1102, attributes := #[] }, { accessFlags := 26, nameIndex := 1121, descriptorIndex := 1122, attributes := #[] }, { accessFlags := 25, nameIndex := 599, descriptorIndex := 600, attributes := #[] }, { accessFlags := 24, nameIndex := 1125, descriptorIndex := 18, attributes := #[] }, { accessFlags := 24, nameIndex := 1127, descriptorIndex := 18, attributes := #[] }])
  fields := #[{ name := "value", type := (.array .byte), accessFlags := 18, slot := 0, constantValue := 0 }, { name := "coder", type := .byte, accessFlags := 18, slot := 1, constantValue := 0 }, { name := "hash", type := .int, accessFlags := 2, slot := 2, constantValue := 0 }, { name := "hashIsZero", type := .boolean, accessFlags := 2, slot := 3, constantValue := 0 }, { name := "serialVersionUID", type := .long, accessFlags := 26, slot := 0, constantValue := 0 }, { name := "COMPACT_STRINGS", type := .boolean, accessFlags := 24, slot := 1, constantValue := 0 }, { name := "serialPersistentFields", type := (.array (.object "java/io/ObjectStreamField")), accessFlags := 26, slot := 2, constantValue := 0 }, { name := "REPL", type := .char, accessFlags := 26, slot := 3, constantValue := 0 }, { name := "CASE_INSENSITIVE_ORDER", type := (.object "java/util/Comparator"), accessFlags := 25, slot := 4, constantValue := 0 }, { name := "LATIN1", type := .byte, accessFlags := 24, slot := 5, constantValue := 0 }, { name := "UTF16", type := .byte, accessFlags := 24, slot := 6, constantValue := 0 }]
  methods := #[k7m0, k7m1, k7m2, k7m3, k7m4, k7m5]
  instanceTypes := #[(.array .byte), .byte, .int, .boolean]
  staticTypes := #[.long, .boolean, (.array (.object "java/io/ObjectStreamField")), .char, (.object "java/util/Comparator"), .byte, .byte]
  resolved := Array.replicate 1451 none
  statics := some 0 }

def pool8 : Array CpInfo := pool [(6, .class_ 8), (1, u "java/lang/Object"), (0, u "<init>"), (0, u "()V"), (1, .class_ 14), (1, u "java/lang/StringUTF16"), (31, u "$assertionsDisabled"), (0, u "Z"), (13, u "HI_BYTE_SHIFT"), (0, u "I"), (2, u "LO_BYTE_SHIFT"), (49, .methodref 12 116), (0, .nameAndType 117 118), (0, u "compress"), (0, u "([CI[BII)I"), (3, u "([CII)[B"), (138, u "coderFromArrayLen"), (0, u "([BI)B"), (106, .class_ 371), (1, u "java/lang/StringUTF16$LinesSpliterator"), (58, u "MAX_LENGTH"), (196, .class_ 628), (0, u "java/lang/StringUTF16$CodePointsSpliterator"), (0, .class_ 630), (0, u "java/lang/StringUTF16$CharsSpliterator")] 4

def k8m0 : Method := { name := "<init>", desc := "()V", sig := { parameters := [], returnType := none }, accessFlags := 0, code := none }
def k8c1 : Code := { maxStack := 2, maxLocals := 2, code := jdk_52_method_15_code, exceptionTable := #[], attributes := #[] }
def k8m1 : Method := { name := "coderFromArrayLen", desc := "([BI)B", sig := { parameters := [(.array .byte), .int], returnType := some .byte }, accessFlags := 8, code := some k8c1 }
def k8c2 : Code := { maxStack := 5, maxLocals := 6, code := jdk_52_method_16_code, exceptionTable := #[], attributes := #[] }
def k8m2 : Method := { name := "compress", desc := "([CII)[B", sig := { parameters := [(.array .char), .int, .int], returnType := some (.array .byte) }, accessFlags := 9, code := some k8c2 }
def k8c3 : Code := { maxStack := 3, maxLocals := 7, code := jdk_52_method_21_code, exceptionTable := #[], attributes := #[] }
def k8m3 : Method := { name := "compress", desc := "([CI[BII)I", sig := { parameters := [(.array .char), .int, (.array .byte), .int, .int], returnType := some .int }, accessFlags := 9, code := some k8c3 }
/-- java/lang/StringUTF16 -/
def k8 : Class := { plain "java/lang/StringUTF16" (some 0) with
  accessFlags := 48
  interfaces := #[]
  cf := some (fileOf pool8 12 #[.nestMembers #[627, 629, 369]] #[{ accessFlags := 0, nameIndex := 9, descriptorIndex := 10, attributes := #[] }, { accessFlags := 8, nameIndex := 261, descriptorIndex := 262, attributes := #[] }, { accessFlags := 9, nameIndex := 117, descriptorIndex := 122, attributes := #[] }, { accessFlags := 9, nameIndex := 117, descriptorIndex := 118, attributes := #[] }] 48 6 #[] #[{ accessFlags := 26, nameIndex := 61, descriptorIndex := 62, attributes := #[] }, { accessFlags := 26, nameIndex := 65, descriptorIndex := 62, attributes := #[] }, { accessFlags := 24, nameIndex := 430, descriptorIndex := 62, attributes := #[] }, { accessFlags := 4120, nameIndex := 46, descriptorIndex := 47, attributes := #[] }])
  fields := #[{ name := "HI_BYTE_SHIFT", type := .int, accessFlags := 26, slot := 0, constantValue := 0 }, { name := "LO_BYTE_SHIFT", type := .int, accessFlags := 26, slot := 1, constantValue := 0 }, { name := "MAX_LENGTH", type := .int, accessFlags := 24, slot := 2, constantValue := 0 }, { name := "$assertionsDisabled", type := .boolean, accessFlags := 4120, slot := 3, constantValue := 0 }]
  methods := #[k8m0, k8m1, k8m2, k8m3]
  instanceTypes := #[]
  staticTypes := #[.int, .int, .int, .boolean]
  resolved := Array.replicate 635 none
  statics := none }

def pool9 : Array CpInfo := pool [(1, .methodref 2 3), (0, .class_ 4), (0, .nameAndType 5 6), (0, u "java/lang/Object"), (0, u "<init>"), (0, u "()V"), (0, .class_ 8), (0, u "java/lang/Record")] 13

def k9c0 : Code := { maxStack := 1, maxLocals := 1, code := jdk_30_method_1_code, exceptionTable := #[], attributes := #[] }
def k9m0 : Method := { name := "<init>", desc := "()V", sig := { parameters := [], returnType := none }, accessFlags := 4, code := some k9c0 }
/-- java/lang/Record -/
def k9 : Class := { plain "java/lang/Record" (some 0) with
  accessFlags := 1057
  interfaces := #[]
  cf := some (fileOf pool9 7 #[] #[{ accessFlags := 4, nameIndex := 5, descriptorIndex := 6, attributes := #[] }] 1057 2 #[] #[])
  fields := #[]
  methods := #[k9m0]
  instanceTypes := #[]
  staticTypes := #[]
  resolved := Array.replicate 22 none
  statics := none }

def pool10 : Array CpInfo := pool [(1, .methodref 2 3), (0, .class_ 4), (0, .nameAndType 5 6), (0, u "java/lang/Record"), (0, u "<init>"), (0, u "()V"), (0, .fieldref 8 9), (0, .class_ 10), (0, .nameAndType 11 12), (0, u "com/example/vouchgate/vouchgate/token/SealedToken"), (0, u "text"), (0, u "Ljava/lang/String;"), (0, .fieldref 8 14), (0, .nameAndType 15 12), (0, u "mode"), (0, .fieldref 8 17), (0, .nameAndType 18 12), (0, u "associatedData"), (0, .methodref 20 21), (0, .class_ 22), (0, .nameAndType 23 24), (0, u "java/lang/String"), (0, u "isEmpty"), (0, u "()Z"), (6, u "isMissing"), (88, u "PLAINTEXT"), (0, u "Ljava/util/regex/Pattern;"), (47, u "MIN_SECRET_BYTES"), (0, u "I"), (2, u "MAX_SECRET_BYTES"), (1, u "MAX_ASSOCIATED_DATA_CHARS"), (1, u "(Ljava/lang/String;Ljava/lang/String;Ljava/lang/String;)V")] 57

def k10c0 : Code := { maxStack := 2, maxLocals := 4, code := prog_46_method_1_code, exceptionTable := #[], attributes := #[] }
def k10m0 : Method := { name := "<init>", desc := "(Ljava/lang/String;Ljava/lang/String;Ljava/lang/String;)V", sig := { parameters := [(.object "java/lang/String"), (.object "java/lang/String"), (.object "java/lang/String")], returnType := none }, accessFlags := 1, code := some k10c0 }
def k10c1 : Code := { maxStack := 1, maxLocals := 1, code := prog_46_method_2_code, exceptionTable := #[], attributes := #[] }
def k10m1 : Method := { name := "isMissing", desc := "()Z", sig := { parameters := [], returnType := some .boolean }, accessFlags := 1, code := some k10c1 }
/-- com/example/vouchgate/vouchgate/token/SealedToken -/
def k10 : Class := { plain "com/example/vouchgate/vouchgate/token/SealedToken" (some 9) with
  accessFlags := 49
  interfaces := #[]
  cf := some (fileOf pool10 8 #[] #[{ accessFlags := 1, nameIndex := 5, descriptorIndex := 177, attributes := #[] }, { accessFlags := 1, nameIndex := 31, descriptorIndex := 24, attributes := #[] }] 49 2 #[] #[{ accessFlags := 18, nameIndex := 11, descriptorIndex := 12, attributes := #[] }, { accessFlags := 18, nameIndex := 15, descriptorIndex := 12, attributes := #[] }, { accessFlags := 18, nameIndex := 18, descriptorIndex := 12, attributes := #[] }, { accessFlags := 25, nameIndex := 169, descriptorIndex := 170, attributes := #[] }, { accessFlags := 25, nameIndex := 173, descriptorIndex := 170, attributes := #[] }, { accessFlags := 24, nameIndex := 175, descriptorIndex := 170, attributes := #[] }, { accessFlags := 26, nameIndex := 120, descriptorIndex := 121, attributes := #[] }])
  fields := #[{ name := "text", type := (.object "java/lang/String"), accessFlags := 18, slot := 0, constantValue := 0 }, { name := "mode", type := (.object "java/lang/String"), accessFlags := 18, slot := 1, constantValue := 0 }, { name := "associatedData", type := (.object "java/lang/String"), accessFlags := 18, slot := 2, constantValue := 0 }, { name := "MIN_SECRET_BYTES", type := .int, accessFlags := 25, slot := 0, constantValue := 0 }, { name := "MAX_SECRET_BYTES", type := .int, accessFlags := 25, slot := 1, constantValue := 0 }, { name := "MAX_ASSOCIATED_DATA_CHARS", type := .int, accessFlags := 24, slot := 2, constantValue := 0 }, { name := "PLAINTEXT", type := (.object "java/util/regex/Pattern"), accessFlags := 26, slot := 3, constantValue := 0 }]
  methods := #[k10m0, k10m1]
  instanceTypes := #[(.object "java/lang/String"), (.object "java/lang/String"), (.object "java/lang/String")]
  staticTypes := #[.int, .int, .int, (.object "java/util/regex/Pattern")]
  resolved := Array.replicate 235 none
  statics := none }

def pool11 : Array CpInfo := pool [(4, .class_ 6), (1, u "java/lang/Object"), (0, u "<init>"), (0, u "()V"), (5, .class_ 16), (1, u "java/lang/StringLatin1"), (73, u "canEncode"), (14, u "(C)Z"), (15, u "$assertionsDisabled"), (0, u "Z"), (98, .class_ 223), (1, u "java/lang/StringLatin1$LinesSpliterator"), (156, u "toBytes"), (1, u "(C)[B"), (7, .class_ 391), (0, u "java/lang/StringLatin1$CharsSpliterator")] 3

def k11m0 : Method := { name := "<init>", desc := "()V", sig := { parameters := [], returnType := none }, accessFlags := 0, code := none }
def k11c1 : Code := { maxStack := 2, maxLocals := 1, code := jdk_43_method_3_code, exceptionTable := #[], attributes := #[] }
def k11m1 : Method := { name := "canEncode", desc := "(C)Z", sig := { parameters := [.char], returnType := some .boolean }, accessFlags := 9, code := some k11c1 }
def k11c2 : Code := { maxStack := 4, maxLocals := 1, code := jdk_43_method_46_code, exceptionTable := #[], attributes := #[] }
def k11m2 : Method := { name := "toBytes", desc := "(C)[B", sig := { parameters := [.char], returnType := some (.array .byte) }, accessFlags := 9, code := some k11c2 }
/-- java/lang/StringLatin1 -/
def k11 : Class := { plain "java/lang/StringLatin1" (some 0) with
  accessFlags := 48
  interfaces := #[]
  cf := some (fileOf pool11 14 #[.nestMembers #[390, 221]] #[{ accessFlags := 0, nameIndex := 7, descriptorIndex := 8, attributes := #[] }, { accessFlags := 9, nameIndex := 90, descriptorIndex := 105, attributes := #[] }, { accessFlags := 9, nameIndex := 380, descriptorIndex := 382, attributes := #[] }] 48 4 #[] #[{ accessFlags := 4120, nameIndex := 121, descriptorIndex := 122, attributes := #[] }])
  fields := #[{ name := "$assertionsDisabled", type := .boolean, accessFlags := 4120, slot := 0, constantValue := 0 }]
  methods := #[k11m0, k11m1, k11m2]
  instanceTypes := #[]
  staticTypes := #[.boolean]
  resolved := Array.replicate 395 none
  statics := none }

def pool12 : Array CpInfo := pool [(2, .class_ 4), (1, u "java/lang/Object"), (0, u "<init>"), (0, u "()V"), (17, .class_ 26), (1, u "jdk/internal/util/Preconditions"), (28, .class_ 56), (0, u "jdk/internal/util/Preconditions$4"), (57, .class_ 115), (0, u "jdk/internal/util/Preconditions$1"), (7, u "SIOOBE_FORMATTER"), (0, u "Ljava/util/function/BiFunction;"), (0, .class_ 126), (0, u "jdk/internal/util/Preconditions$2"), (3, u "AIOOBE_FORMATTER"), (0, .class_ 132), (0, u "jdk/internal/util/Preconditions$3"), (3, u "IOOBE_FORMATTER")] 57

def k12m0 : Method := { name := "<init>", desc := "()V", sig := { parameters := [], returnType := none }, accessFlags := 1, code := none }
/-- jdk/internal/util/Preconditions -/
def k12 : Class := { plain "jdk/internal/util/Preconditions" (some 0) with
  accessFlags := 33
  interfaces := #[]
  cf := some (fileOf pool12 24 #[.nestMembers #[55, 131, 125, 114]] #[{ accessFlags := 1, nameIndex := 5, descriptorIndex := 6, attributes := #[] }] 33 2 #[] #[{ accessFlags := 25, nameIndex := 123, descriptorIndex := 124, attributes := #[] }, { accessFlags := 25, nameIndex := 130, descriptorIndex := 124, attributes := #[] }, { accessFlags := 25, nameIndex := 136, descriptorIndex := 124, attributes := #[] }])
  fields := #[{ name := "SIOOBE_FORMATTER", type := (.object "java/util/function/BiFunction"), accessFlags := 25, slot := 0, constantValue := 0 }, { name := "AIOOBE_FORMATTER", type := (.object "java/util/function/BiFunction"), accessFlags := 25, slot := 1, constantValue := 0 }, { name := "IOOBE_FORMATTER", type := (.object "java/util/function/BiFunction"), accessFlags := 25, slot := 2, constantValue := 0 }]
  methods := #[k12m0]
  instanceTypes := #[]
  staticTypes := #[(.object "java/util/function/BiFunction"), (.object "java/util/function/BiFunction"), (.object "java/util/function/BiFunction")]
  resolved := Array.replicate 194 none
  statics := some 1 }

def pool13 : Array CpInfo := pool [(9, u "<init>"), (6, .class_ 18), (1, u "java/lang/Object"), (0, u "()V"), (1, .class_ 23), (1, u "jdk/internal/util/ArraysSupport"), (0, u "LOG2_ARRAY_LONG_INDEX_SCALE"), (0, u "I"), (2, u "U"), (0, u "Ljdk/internal/misc/Unsafe;"), (8, u "BIG_ENDIAN"), (0, u "Z"), (8, u "LOG2_BYTE_BIT_SIZE"), (4, u "LOG2_ARRAY_INT_INDEX_SCALE"), (54, u "JLA"), (0, u "Ljdk/internal/access/JavaLangAccess;"), (11, u "LOG2_ARRAY_BOOLEAN_INDEX_SCALE"), (9, u "LOG2_ARRAY_BYTE_INDEX_SCALE"), (5, u "LOG2_ARRAY_CHAR_INDEX_SCALE"), (5, u "LOG2_ARRAY_SHORT_INDEX_SCALE"), (18, u "LOG2_ARRAY_FLOAT_INDEX_SCALE"), (24, u "LOG2_ARRAY_DOUBLE_INDEX_SCALE"), (89, u "T_BOOLEAN"), (2, u "T_CHAR"), (1, u "T_FLOAT"), (1, u "T_DOUBLE"), (1, u "T_BYTE"), (1, u "T_SHORT"), (1, u "T_INT"), (1, u "T_LONG"), (1, u "SOFT_MAX_ARRAY_LENGTH")] 83

def k13m0 : Method := { name := "<init>", desc := "()V", sig := { parameters := [], returnType := none }, accessFlags := 2, code := none }
/-- jdk/internal/util/ArraysSupport -/
def k13 : Class := { plain "jdk/internal/util/ArraysSupport" (some 0) with
  accessFlags := 33
  interfaces := #[]
  cf := some (fileOf pool13 21 #[] #[{ accessFlags := 2, nameIndex := 9, descriptorIndex := 19, attributes := #[] }] 33 16 #[] #[{ accessFlags := 24, nameIndex := 28, descriptorIndex := 29, attributes := #[] }, { accessFlags := 26, nameIndex := 38, descriptorIndex := 39, attributes := #[] }, { accessFlags := 25, nameIndex := 121, descriptorIndex := 25, attributes := #[] }, { accessFlags := 25, nameIndex := 131, descriptorIndex := 25, attributes := #[] }, { accessFlags := 25, nameIndex := 137, descriptorIndex := 25, attributes := #[] }, { accessFlags := 25, nameIndex := 143, descriptorIndex := 25, attributes := #[] }, { accessFlags := 25, nameIndex := 53, descriptorIndex := 25, attributes := #[] }, { accessFlags := 25, nameIndex := 24, descriptorIndex := 25, attributes := #[] }, { accessFlags := 25, nameIndex := 162, descriptorIndex := 25, attributes := #[] }, { accessFlags := 25, nameIndex := 187, descriptorIndex := 25, attributes := #[] }, { accessFlags := 26, nameIndex := 48, descriptorIndex := 25, attributes := #[] }, { accessFlags := 25, nameIndex := 277, descriptorIndex := 25, attributes := #[] }, { accessFlags := 25, nameIndex := 280, descriptorIndex := 25, attributes := #[] }, { accessFlags := 25, nameIndex := 282, descriptorIndex := 25, attributes := #[] }, { accessFlags := 25, nameIndex := 284, descriptorIndex := 25, attributes := #[] }, { accessFlags := 25, nameIndex := 286, descriptorIndex := 25, attributes := #[] }, { accessFlags := 25, nameIndex := 288, descriptorIndex := 25, attributes := #[] }, { accessFlags := 25, nameIndex := 290, descriptorIndex := 25, attributes := #[] }, { accessFlags := 25, nameIndex := 292, descriptorIndex := 25, attributes := #[] }, { accessFlags := 26, nameIndex := 108, descriptorIndex := 109, attributes := #[] }, { accessFlags := 25, nameIndex := 294, descriptorIndex := 25, attributes := #[] }])
  fields := #[{ name := "U", type := (.object "jdk/internal/misc/Unsafe"), accessFlags := 24, slot := 0, constantValue := 0 }, { name := "BIG_ENDIAN", type := .boolean, accessFlags := 26, slot := 1, constantValue := 0 }, { name := "LOG2_ARRAY_BOOLEAN_INDEX_SCALE", type := .int, accessFlags := 25, slot := 2, constantValue := 0 }, { name := "LOG2_ARRAY_BYTE_INDEX_SCALE", type := .int, accessFlags := 25, slot := 3, constantValue := 0 }, { name := "LOG2_ARRAY_CHAR_INDEX_SCALE", type := .int, accessFlags := 25, slot := 4, constantValue := 0 }, { name := "LOG2_ARRAY_SHORT_INDEX_SCALE", type := .int, accessFlags := 25, slot := 5, constantValue := 0 }, { name := "LOG2_ARRAY_INT_INDEX_SCALE", type := .int, accessFlags := 25, slot := 6, constantValue := 0 }, { name := "LOG2_ARRAY_LONG_INDEX_SCALE", type := .int, accessFlags := 25, slot := 7, constantValue := 0 }, { name := "LOG2_ARRAY_FLOAT_INDEX_SCALE", type := .int, accessFlags := 25, slot := 8, constantValue := 0 }, { name := "LOG2_ARRAY_DOUBLE_INDEX_SCALE", type := .int, accessFlags := 25, slot := 9, constantValue := 0 }, { name := "LOG2_BYTE_BIT_SIZE", type := .int, accessFlags := 26, slot := 10, constantValue := 0 }, { name := "T_BOOLEAN", type := .int, accessFlags := 25, slot := 11, constantValue := 0 }, { name := "T_CHAR", type := .int, accessFlags := 25, slot := 12, constantValue := 0 }, { name := "T_FLOAT", type := .int, accessFlags := 25, slot := 13, constantValue := 0 }, { name := "T_DOUBLE", type := .int, accessFlags := 25, slot := 14, constantValue := 0 }, { name := "T_BYTE", type := .int, accessFlags := 25, slot := 15, constantValue := 0 }, { name := "T_SHORT", type := .int, accessFlags := 25, slot := 16, constantValue := 0 }, { name := "T_INT", type := .int, accessFlags := 25, slot := 17, constantValue := 0 }, { name := "T_LONG", type := .int, accessFlags := 25, slot := 18, constantValue := 0 }, { name := "JLA", type := (.object "jdk/internal/access/JavaLangAccess"), accessFlags := 26, slot := 19, constantValue := 0 }, { name := "SOFT_MAX_ARRAY_LENGTH", type := .int, accessFlags := 25, slot := 20, constantValue := 0 }]
  methods := #[k13m0]
  instanceTypes := #[]
  staticTypes := #[(.object "jdk/internal/misc/Unsafe"), .boolean, .int, .int, .int, .int, .int, .int, .int, .int, .int, .int, .int, .int, .int, .int, .int, .int, .int, (.object "jdk/internal/access/JavaLangAccess"), .int]
  resolved := Array.replicate 378 none
  statics := none }

def pool14 : Array CpInfo := pool [(1, u "java/lang/Cloneable"), (0, .class_ 1), (0, u "java/lang/Object"), (0, .class_ 3)] 3

/-- java/lang/Cloneable -/
def k14 : Class := { plain "java/lang/Cloneable" (some 0) with
  accessFlags := 1537
  interfaces := #[]
  cf := some (fileOf pool14 2 #[] #[] 1537 4 #[] #[])
  fields := #[]
  methods := #[]
  instanceTypes := #[]
  staticTypes := #[]
  resolved := Array.replicate 8 none
  statics := none }

/-- the primitive byte -/
def k15 : Class := { plain "byte" none with kind := .primitive 'B', accessFlags := 0x411 }
/-- [B -/
def k16 : Class := { plain "[B" (some 0) with kind := .array 15 .byte, interfaces := #[14, 2], accessFlags := 1041 }

/-- the primitive char -/
def k17 : Class := { plain "char" none with kind := .primitive 'C', accessFlags := 0x411 }
/-- [C -/
def k18 : Class := { plain "[C" (some 0) with kind := .array 17 .char, interfaces := #[14, 2], accessFlags := 1041 }

/-- the primitive int -/
def k19 : Class := { plain "int" none with kind := .primitive 'I', accessFlags := 0x411 }
/-- [I -/
def k20 : Class := { plain "[I" (some 0) with kind := .array 19 .int, interfaces := #[14, 2], accessFlags := 1041 }

def heap : Heap := #[{ cls := 7, slots := #[.long 0, .int 1, .null, .int 0, .null, .int 0, .int 0], vm := .statics 7 },
  { cls := 12, slots := #[.null, .null, .null], vm := .statics 12 }]
def classes : Array Class := #[k0, k1, k2, k3, k4, k5, k6, k7, k8, k9, k10, k11, k12, k13, k14, k15, k16, k17, k18, k19, k20]
def interned : List (Array UInt16 × Addr) := []
def slotsUsed : Nat := 10
def theMethod : MethodId := ⟨1, 1⟩
def args0 : Array Value := #[.int 5, .int 7, .int 8, .int 2, .int 3, .int 4]
def aboutOver (below : List Frame) : State where
  vm := { classes := classes, interned := interned.toArray }
  heap := heap
  slotsUsed := slotsUsed
  threads := #[{ frames := .invoking theMethod args0 :: below }]
def below0 : List Frame := [.native { method := ⟨0, 0⟩, args := #[] }]
def about1 : State := aboutOver below0
def p0 : Program := .bare "" "" ""
def e0 : Env := launch0.env 0 0 0
theorem w_frames : about1.frames = Frame.invoking theMethod args0 :: below0 := rfl
set_option maxRecDepth 65536 in
theorem w_args : argsFit about1.vm theMethod args0 = true := by decide +kernel
set_option maxRecDepth 65536 in
theorem w_heap : heapFits about1 = true := by decide +kernel
set_option maxRecDepth 65536 in
theorem w_runnable : about1.curStatus? = some .runnable := by decide +kernel
set_option maxRecDepth 65536 in
theorem w_alone : about1.alone = true := by decide +kernel
set_option maxRecDepth 65536 in
theorem w_named : about1.methodNamed? x = some theMethod := by decide +kernel
set_option maxRecDepth 65536 in
theorem w_hears : about1.hears theMethod below0 = true := by decide +kernel
set_option maxRecDepth 65536 in
theorem w_ripe : about1.ripe theMethod args0 below0 = true := by decide +kernel
theorem w_running : about1.status = .running := rfl
set_option maxRecDepth 65536 in
theorem w_room : about1.hasRoom e0.platform room_1 = true :=
  launch0.hasRoom_least _ room_1 (by decide +kernel) (by decide +kernel) (by decide +kernel) (by decide +kernel) (by decide +kernel) (by decide +kernel)
theorem allAtoms_all (ts : List Jvm.Cond) (a : Array Jvm.Value) (st : Jvm.State) : (allAtoms ts).before a st = ts.all (fun c => c.before a st) := by
  induction ts with
  | nil => rfl
  | cons c t ih =>
    show (Jvm.Cond.and c (allAtoms t)).before a st = _
    rw [Jvm.Cond.before_and, ih, List.all_cons]
def words1 : List Jvm.Cond := Jvm.Cond.code x code maxLocals ret :: tables_1
/-- a 'code' word, met by the world's own term for the bytes: nothing is compared byte by byte -/
theorem code_word {y : MethodName} {bytes : ByteArray} {mx : Nat} {rt : Option FieldType} {a : Array Value} {s : State} {m : MethodId} {meth : Method} {c : Code} (h1 : s.methodNamed? y = some m) (h2 : s.vm.method? m = some meth) (h3 : meth.code = some c) (h4 : c.code = bytes)
    (h5 : (c.maxLocals == mx && c.exceptionTable.isEmpty && decide (c.maxStack ≤ mostOperands) && decide (meth.sig.returnType = rt) && !meth.locks && decide (parseMethodDescriptor y.desc = some meth.sig)) = true) : (Jvm.Cond.code y bytes mx rt).before a s = true := by
  simp only [Bool.and_eq_true, beq_iff_eq, Bool.not_eq_true', decide_eq_true_eq] at h5
  obtain ⟨⟨⟨⟨⟨g1, g2⟩, g3⟩, g4⟩, g5⟩, g6⟩ := h5
  simp [Cond.before, Cond.holds, Cond.value, h1, h2, h3, h4, g1, g2, g3, g4, g5, g6]
def isCode : Jvm.Cond → Bool
  | .code _ _ _ _ => true
  | _ => false
theorem all_split {L : List Jvm.Cond} {P : Jvm.Cond → Bool} (h1 : L.all (fun c => isCode c || P c) = true) (h2 : ∀ c ∈ L.filter isCode, P c = true) : L.all P = true := by
  refine List.all_eq_true.mpr fun c hc => ?_
  have h := List.all_eq_true.mp h1 c hc
  rcases Bool.eq_false_or_eq_true (isCode c) with hi | hi
  · exact h2 c (List.mem_filter.mpr ⟨hc, hi⟩)
  · simpa [hi] using h
set_option maxRecDepth 65536 in
theorem w_c0 : (Jvm.Cond.code x code maxLocals ret).before args0 about1 = true := code_word (m := ⟨1, 1⟩) (meth := k1m1) (c := k1c1) (by decide +kernel) rfl rfl rfl (by decide +kernel)
set_option maxRecDepth 65536 in
theorem w_c1 : (Jvm.Cond.code ({ cls := "java/lang/String", name := "<init>", desc := "([C)V" } : Jvm.MethodName) jdk_42_method_3_code (2 : Nat) (Option.none : Option Jvm.ClassFile.FieldType)).before args0 about1 = true := code_word (m := ⟨7, 1⟩) (meth := k7m1) (c := k7c1) (by decide +kernel) rfl rfl rfl (by decide +kernel)
set_option maxRecDepth 65536 in
theorem w_c2 : (Jvm.Cond.code ({ cls := "java/lang/String", name := "<init>", desc := "([CIILjava/lang/Void;)V" } : Jvm.MethodName) jdk_42_method_149_code (6 : Nat) (Option.none : Option Jvm.ClassFile.FieldType)).before args0 about1 = true := code_word (m := ⟨7, 4⟩) (meth := k7m4) (c := k7c4) (by decide +kernel) rfl rfl rfl (by decide +kernel)
set_option maxRecDepth 65536 in
theorem w_c3 : (Jvm.Cond.code ({ cls := "java/lang/Object", name := "<init>", desc := "()V" } : Jvm.MethodName) object_method_1_code (1 : Nat) (Option.none : Option Jvm.ClassFile.FieldType)).before args0 about1 = true := code_word (m := ⟨0, 0⟩) (meth := k0m0) (c := k0c0) (by decide +kernel) rfl rfl rfl (by decide +kernel)
set_option maxRecDepth 65536 in
theorem w_c4 : (Jvm.Cond.code ({ cls := "java/lang/StringUTF16", name := "compress", desc := "([CII)[B" } : Jvm.MethodName) jdk_52_method_16_code (6 : Nat) (Option.some (Jvm.ClassFile.FieldType.array Jvm.ClassFile.FieldType.byte))).before args0 about1 = true := code_word (m := ⟨8, 2⟩) (meth := k8m2) (c := k8c2) (by decide +kernel) rfl rfl rfl (by decide +kernel)
set_option maxRecDepth 65536 in
theorem w_c5 : (Jvm.Cond.code ({ cls := "java/lang/StringUTF16", name := "compress", desc := "([CI[BII)I" } : Jvm.MethodName) jdk_52_method_21_code (7 : Nat) (Option.some Jvm.ClassFile.FieldType.int)).before args0 about1 = true := code_word (m := ⟨8, 3⟩) (meth := k8m3) (c := k8c3) (by decide +kernel) rfl rfl rfl (by decide +kernel)
set_option maxRecDepth 65536 in
theorem w_c6 : (Jvm.Cond.code ({ cls := "java/lang/StringUTF16", name := "coderFromArrayLen", desc := "([BI)B" } : Jvm.MethodName) jdk_52_method_15_code (2 : Nat) (Option.some Jvm.ClassFile.FieldType.byte)).before args0 about1 = true := code_word (m := ⟨8, 1⟩) (meth := k8m1) (c := k8c1) (by decide +kernel) rfl rfl rfl (by decide +kernel)
set_option maxRecDepth 65536 in
theorem w_c7 : (Jvm.Cond.code ({ cls := "com/example/vouchgate/vouchgate/token/SealedTokenIsMissingPinLaw", name := "pick", desc := "(I)Ljava/lang/String;" } : Jvm.MethodName) method_3_code (3 : Nat) (Option.some (Jvm.ClassFile.FieldType.object "java/lang/String"))).before args0 about1 = true := code_word (m := ⟨1, 2⟩) (meth := k1m2) (c := k1c2) (by decide +kernel) rfl rfl rfl (by decide +kernel)
set_option maxRecDepth 65536 in
theorem w_c8 : (Jvm.Cond.code ({ cls := "com/example/vouchgate/vouchgate/token/SealedToken", name := "<init>", desc := "(Ljava/lang/String;Ljava/lang/String;Ljava/lang/String;)V" } : Jvm.MethodName) prog_46_method_1_code (4 : Nat) (Option.none : Option Jvm.ClassFile.FieldType)).before args0 about1 = true := code_word (m := ⟨10, 0⟩) (meth := k10m0) (c := k10c0) (by decide +kernel) rfl rfl rfl (by decide +kernel)
set_option maxRecDepth 65536 in
theorem w_c9 : (Jvm.Cond.code ({ cls := "java/lang/Record", name := "<init>", desc := "()V" } : Jvm.MethodName) jdk_30_method_1_code (1 : Nat) (Option.none : Option Jvm.ClassFile.FieldType)).before args0 about1 = true := code_word (m := ⟨9, 0⟩) (meth := k9m0) (c := k9c0) (by decide +kernel) rfl rfl rfl (by decide +kernel)
set_option maxRecDepth 65536 in
theorem w_c10 : (Jvm.Cond.code ({ cls := "com/example/vouchgate/vouchgate/token/SealedToken", name := "isMissing", desc := "()Z" } : Jvm.MethodName) prog_46_method_2_code (1 : Nat) (Option.some Jvm.ClassFile.FieldType.boolean)).before args0 about1 = true := code_word (m := ⟨10, 1⟩) (meth := k10m1) (c := k10c1) (by decide +kernel) rfl rfl rfl (by decide +kernel)
set_option maxRecDepth 65536 in
theorem w_c11 : (Jvm.Cond.code ({ cls := "java/lang/String", name := "valueOf", desc := "(C)Ljava/lang/String;" } : Jvm.MethodName) jdk_42_method_139_code (1 : Nat) (Option.some (Jvm.ClassFile.FieldType.object "java/lang/String"))).before args0 about1 = true := code_word (m := ⟨7, 3⟩) (meth := k7m3) (c := k7c3) (by decide +kernel) rfl rfl rfl (by decide +kernel)
set_option maxRecDepth 65536 in
theorem w_c12 : (Jvm.Cond.code ({ cls := "java/lang/StringLatin1", name := "canEncode", desc := "(C)Z" } : Jvm.MethodName) jdk_43_method_3_code (1 : Nat) (Option.some Jvm.ClassFile.FieldType.boolean)).before args0 about1 = true := code_word (m := ⟨11, 1⟩) (meth := k11m1) (c := k11c1) (by decide +kernel) rfl rfl rfl (by decide +kernel)
set_option maxRecDepth 65536 in
theorem w_c13 : (Jvm.Cond.code ({ cls := "java/lang/StringLatin1", name := "toBytes", desc := "(C)[B" } : Jvm.MethodName) jdk_43_method_46_code (1 : Nat) (Option.some (Jvm.ClassFile.FieldType.array Jvm.ClassFile.FieldType.byte))).before args0 about1 = true := code_word (m := ⟨11, 2⟩) (meth := k11m2) (c := k11c2) (by decide +kernel) rfl rfl rfl (by decide +kernel)
set_option maxRecDepth 65536 in
theorem w_c14 : (Jvm.Cond.code ({ cls := "java/lang/String", name := "<init>", desc := "([BB)V" } : Jvm.MethodName) jdk_42_method_151_code (3 : Nat) (Option.none : Option Jvm.ClassFile.FieldType)).before args0 about1 = true := code_word (m := ⟨7, 5⟩) (meth := k7m5) (c := k7c5) (by decide +kernel) rfl rfl rfl (by decide +kernel)
set_option maxRecDepth 65536 in
theorem w_c15 : (Jvm.Cond.code ({ cls := "java/lang/String", name := "isEmpty", desc := "()Z" } : Jvm.MethodName) jdk_42_method_55_code (1 : Nat) (Option.some Jvm.ClassFile.FieldType.boolean)).before args0 about1 = true := code_word (m := ⟨7, 2⟩) (meth := k7m2) (c := k7c2) (by decide +kernel) rfl rfl rfl (by decide +kernel)
def codes1 : List Jvm.Cond := [Jvm.Cond.code x code maxLocals ret, Jvm.Cond.code ({ cls := "java/lang/String", name := "<init>", desc := "([C)V" } : Jvm.MethodName) jdk_42_method_3_code (2 : Nat) (Option.none : Option Jvm.ClassFile.FieldType), Jvm.Cond.code ({ cls := "java/lang/String", name := "<init>", desc := "([CIILjava/lang/Void;)V" } : Jvm.MethodName) jdk_42_method_149_code (6 : Nat) (Option.none : Option Jvm.ClassFile.FieldType), Jvm.Cond.code ({ cls := "java/lang/Object", name := "<init>", desc := "()V" } : Jvm.MethodName) object_method_1_code (1 : Nat) (Option.none : Option Jvm.ClassFile.FieldType), Jvm.Cond.code ({ cls := "java/lang/StringUTF16", name := "compress", desc := "([CII)[B" } : Jvm.MethodName) jdk_52_method_16_code (6 : Nat) (Option.some (Jvm.ClassFile.FieldType.array Jvm.ClassFile.FieldType.byte)), Jvm.Cond.code ({ cls := "java/lang/StringUTF16", name := "compress", desc := "([CI[BII)I" } : Jvm.MethodName) jdk_52_method_21_code (7 : Nat) (Option.some Jvm.ClassFile.FieldType.int), Jvm.Cond.code ({ cls := "java/lang/StringUTF16", name := "coderFromArrayLen", desc := "([BI)B" } : Jvm.MethodName) jdk_52_method_15_code (2 : Nat) (Option.some Jvm.ClassFile.FieldType.byte), Jvm.Cond.code ({ cls := "com/example/vouchgate/vouchgate/token/SealedTokenIsMissingPinLaw", name := "pick", desc := "(I)Ljava/lang/String;" } : Jvm.MethodName) method_3_code (3 : Nat) (Option.some (Jvm.ClassFile.FieldType.object "java/lang/String")), Jvm.Cond.code ({ cls := "com/example/vouchgate/vouchgate/token/SealedToken", name := "<init>", desc := "(Ljava/lang/String;Ljava/lang/String;Ljava/lang/String;)V" } : Jvm.MethodName) prog_46_method_1_code (4 : Nat) (Option.none : Option Jvm.ClassFile.FieldType), Jvm.Cond.code ({ cls := "java/lang/Record", name := "<init>", desc := "()V" } : Jvm.MethodName) jdk_30_method_1_code (1 : Nat) (Option.none : Option Jvm.ClassFile.FieldType), Jvm.Cond.code ({ cls := "com/example/vouchgate/vouchgate/token/SealedToken", name := "isMissing", desc := "()Z" } : Jvm.MethodName) prog_46_method_2_code (1 : Nat) (Option.some Jvm.ClassFile.FieldType.boolean), Jvm.Cond.code ({ cls := "java/lang/String", name := "valueOf", desc := "(C)Ljava/lang/String;" } : Jvm.MethodName) jdk_42_method_139_code (1 : Nat) (Option.some (Jvm.ClassFile.FieldType.object "java/lang/String")), Jvm.Cond.code ({ cls := "java/lang/StringLatin1", name := "canEncode", desc := "(C)Z" } : Jvm.MethodName) jdk_43_method_3_code (1 : Nat) (Option.some Jvm.ClassFile.FieldType.boolean), Jvm.Cond.code ({ cls := "java/lang/StringLatin1", name := "toBytes", desc := "(C)[B" } : Jvm.MethodName) jdk_43_method_46_code (1 : Nat) (Option.some (Jvm.ClassFile.FieldType.array Jvm.ClassFile.FieldType.byte)), Jvm.Cond.code ({ cls := "java/lang/String", name := "<init>", desc := "([BB)V" } : Jvm.MethodName) jdk_42_method_151_code (3 : Nat) (Option.none : Option Jvm.ClassFile.FieldType), Jvm.Cond.code ({ cls := "java/lang/String", name := "isEmpty", desc := "()Z" } : Jvm.MethodName) jdk_42_method_55_code (1 : Nat) (Option.some Jvm.ClassFile.FieldType.boolean)]
set_option maxRecDepth 65536 in
theorem codes_eq : words1.filter isCode = codes1 := rfl
theorem w_codes : ∀ c ∈ words1.filter isCode, c.before args0 about1 = true := by
  rw [codes_eq]
  intro c hc
  simp only [codes1, List.mem_cons, List.not_mem_nil, or_false] at hc
  rcases hc with rfl | rfl | rfl | rfl | rfl | rfl | rfl | rfl | rfl | rfl | rfl | rfl | rfl | rfl | rfl | rfl
  · exact w_c0
  · exact w_c1
  · exact w_c2
  · exact w_c3
  · exact w_c4
  · exact w_c5
  · exact w_c6
  · exact w_c7
  · exact w_c8
  · exact w_c9
  · exact w_c10
  · exact w_c11
  · exact w_c12
  · exact w_c13
  · exact w_c14
  · exact w_c15
set_option maxRecDepth 65536 in
theorem w_t1 : (words1.take 24).all (fun c => isCode c || c.before args0 about1) = true := by decide +kernel
set_option maxRecDepth 65536 in
theorem w_t2 : ((words1.drop 24).take 24).all (fun c => isCode c || c.before args0 about1) = true := by decide +kernel
set_option maxRecDepth 65536 in
theorem w_t3 : (((words1.drop 24).drop 24).take 24).all (fun c => isCode c || c.before args0 about1) = true := by decide +kernel
set_option maxRecDepth 65536 in
theorem w_t4 : (((words1.drop 24).drop 24).drop 24).all (fun c => isCode c || c.before args0 about1) = true := by decide +kernel
theorem w_tables : (allAtoms (Jvm.Cond.code x code maxLocals ret :: tables_1)).before args0 about1 = true := by
  rw [allAtoms_all]
  show words1.all (fun c => c.before args0 about1) = true
  refine all_split ?_ w_codes
  rw [← List.take_append_drop 24 words1, List.all_append, w_t1, ← List.take_append_drop 24 (words1.drop 24), List.all_append, w_t2, ← List.take_append_drop 24 ((words1.drop 24).drop 24), List.all_append, w_t3, w_t4]
  rfl
set_option maxRecDepth 65536 in
theorem w_rest : rest_1_c.before args0 about1 = true := by decide +kernel
set_option maxRecDepth 65536 in
theorem w_case : (Jvm.Cond.and given_1 narrow_1).before args0 about1 = true := by decide +kernel
set_option maxRecDepth 65536 in
theorem w_consts : constsHeld consts_1 about1 := Jvm.Lit.constsHeldB_iff.mp (by decide +kernel)
theorem w_applies : (headSpec (Jvm.Cond.code x code maxLocals ret :: tables_1) room_1).applies x e0.platform about1 = true :=
  (Spec.applies_iff w_frames).mpr ⟨w_running, w_runnable, w_alone, w_named, w_hears, w_ripe, w_room, w_tables⟩
theorem atStart : AtStart classFile x code maxLocals ret World_1 tables_1 room_1 Calls_1 rest_1 Pre_1 launch0 p0 e0 about1 theMethod args0 below0 :=
  ⟨lists_1, trivial, launch0.admits_env _ _ _, launch0.least_env, fairChoices_fair.cas, fairChoices_fair.clock, w_frames, w_args, w_heap, w_applies, ⟨w_consts, trivial⟩, w_rest, w_case⟩
end start1
theorem witness_1 : WitnessClaimed_1 := ⟨start1.p0, start1.e0, start1.about1, start1.theMethod, start1.args0, start1.below0, start1.atStart⟩
end Jvm.Pilot.@@N@@
