import JvmDerived
import JvmDerived.Pilot.@@N@@Statement
import JvmDerived.Pilot.@@N@@Code
set_option linter.unusedVariables false
set_option linter.unusedSimpArgs false
set_option maxRecDepth 65536
set_option maxHeartbeats 40000000
namespace Jvm.Own
open Sem ClassFile Op Lib Bundle Jvm.Stand Jvm.Free Jvm.LawKit Jvm.RoadKit
section Base
variable {p : Program} {l : Launch} {e : Env} {R : Room} {s : State} {m : MethodId} {args : Array Value} {below : List Frame} {meth : Method} {c : Code} {own : String} {Z : State} {a0 : Array Value} {EL : List (String × Nat)} {vm0 vm1 : Vm} {T T' : State} {h h' h1 : Heap} {k n : Nat} {G : Outcome → State → Prop} {pc : Nat} {Ls : Array Slot} {rest : List Value}
/-- the walk comes to an end that G allows -/
def OEnds (p : Program) (e : Env) (below : List Frame) (G : Outcome → State → Prop) (T : State) (g : JFrame) : Prop := ∃ (s₂ : State) (o : Outcome), Steps p.tables e below (T.setTop g) s₂ ∧ s₂.status = .running ∧ Ended s₂ below o ∧ G o s₂
theorem OEnds.go {g g' : JFrame} (st : ∀ t, Steps p.tables e below (T'.setTop g') t → Steps p.tables e below (T.setTop g) t) (q : OEnds p e below G T' g') : OEnds p e below G T g := by
  obtain ⟨s₂, o, h1, r⟩ := q; exact ⟨s₂, o, st _ h1, r⟩
theorem OEnds.tr {g g' : JFrame} (st : Steps p.tables e below (T.setTop g) (T'.setTop g')) (q : OEnds p e below G T' g') : OEnds p e below G T g := by
  obtain ⟨s₂, o, h1, r⟩ := q; exact ⟨s₂, o, st.trans h1, r⟩
theorem OEnds.cast {g g' : JFrame} (q : g = g') (r : OEnds p e below G T g') : OEnds p e below G T g := q ▸ r
theorem ext_refl (h : Heap) : Ext h h := ⟨Nat.le_refl _, fun _ _ q => q⟩
theorem ext_trans (A : Ext h h1) (B : Ext h1 h') : Ext h h' := ⟨Nat.le_trans A.1 B.1, fun a c q => B.2 a c (A.2 a c q)⟩
/-- what was written lies above h: h stands -/
theorem ext_keep {ws : List Addr} (A : Ext h h1) (K : Keep h1 h' ws) (q : ∀ x ∈ ws, h.size ≤ x) : Ext h h' := ⟨Nat.le_trans A.1 K.1, fun a c r => K.2.1 a c (A.2 a c r) fun z => absurd (Array.getElem?_eq_some_iff.mp r).1 (Nat.not_lt.mpr (q a z))⟩
theorem ext_wr {a : Addr} {sl : Nat} {v : Value} (A : Ext h h1) (W : Wr h1 h' a sl v) (q : h.size ≤ a) : Ext h h' := ext_keep A (Keep.of_wr W) (allS q all0)
/-- where the walk stands: the tables vm0, the heap h, at most k cells and n slots made -/
def OSt (p : Program) (l : Launch) (e : Env) (R : Room) (s : State) (m : MethodId) (args : Array Value) (below : List Frame) (meth : Method) (c : Code) (own : String) (Z : State) (EL : List (String × Nat)) (vm0 : Vm) (T : State) (h : Heap) (k n : Nat) : Prop :=
  ∃ locs : List Loc, Stand p l e R (s.setVm vm0) m args below meth c T locs k n ∧ Fr Z.heap.size locs ∧ T.heap = h ∧ (∃ k0, s.Since vm0 k0 ∧ k0 ≤ h.size) ∧ Z.Warmed39 vm0 ∧ vm0.findClass own = some m.cls ∧ CHr Z EL s.vm s.heap vm0 h ∧ Ext Z.heap h ∧ p.tables.exec = Jvm.exec
theorem OSt.here (X : OSt p l e R s m args below meth c own Z EL vm0 T h k n) : At T m c below := by obtain ⟨_, X, _⟩ := X; exact X.here
theorem OSt.hx (X : OSt p l e R s m args below meth c own Z EL vm0 T h k n) : p.tables.exec = Jvm.exec := by obtain ⟨_, _, _, _, _, _, _, _, _, q⟩ := X; exact q
theorem OSt.old (X : OSt p l e R s m args below meth c own Z EL vm0 T h k n) : Ext Z.heap h := by obtain ⟨_, _, _, _, _, _, _, _, q, _⟩ := X; exact q
theorem OSt.hZ (X : OSt p l e R s m args below meth c own Z EL vm0 T h k n) : Z.Warmed39 vm0 := by obtain ⟨_, _, _, _, _, q, _⟩ := X; exact q
theorem OSt.al (X : OSt p l e R s m args below meth c own Z EL vm0 T h k n) : Z.vm.Alike vm0 := X.hZ.alike
theorem OSt.chr (X : OSt p l e R s m args below meth c own Z EL vm0 T h k n) : CHr Z EL s.vm s.heap vm0 h := by obtain ⟨_, _, _, _, _, _, _, q, _⟩ := X; exact q
theorem OSt.chv (X : OSt p l e R s m args below meth c own Z EL vm0 T h k n) : CHv Z EL vm0 h := X.chr.1
theorem OSt.mono (X : OSt p l e R s m args below meth c own Z EL vm0 T h k n) {k' n' : Nat} (hk : k ≤ k') (hn : n ≤ n') : OSt p l e R s m args below meth c own Z EL vm0 T h k' n' := by
  obtain ⟨L, X, r⟩ := X; exact ⟨L, X.mono hk hn, r⟩
theorem OSt.getF (X : OSt p l e R s m args below meth c own Z EL vm0 T h k n) {R0 O nm d : String} {index : Nat} (w : (Cond.fieldLink own index R0 nm d).before a0 Z = true) (via : Via Z R0 O nm d) {a : Addr} {v : Value} (F : Fld Z h a O nm d v) (hd : decode c.code pc = .ok (.getfield index, 3))
    (q : ∀ T', OSt p l e R s m args below meth c own Z EL vm0 T' h k n → OEnds p e below G T' (mkF m (pc + 3) Ls (v :: rest))) : OEnds p e below G T (mkF m pc Ls (.ref a :: rest)) := by
  obtain ⟨L, X, hF, hh, hS, hZ, ho, hC, hO, hx⟩ := X
  obtain ⟨T', X', e', st⟩ := RoadKit.getF (host := "") X hx hZ ho (Or.inl w) via hh F (g := mkF m pc Ls (.ref a :: rest)) rfl rfl hd
  exact (q T' ⟨L, X', hF, e', hS, hZ, ho, hC, hO, hx⟩).go st
theorem OSt.getS (X : OSt p l e R s m args below meth c own Z EL vm0 T h k n) {R0 O nm d : String} {index : Nat} (w : (Cond.fieldLink own index R0 nm d).before a0 Z = true) (via : Via Z R0 O nm d) {v : Value} (F : Sta Z h O nm d v) (hd : decode c.code pc = .ok (.getstatic index, 3))
    (q : ∀ T', OSt p l e R s m args below meth c own Z EL vm0 T' h k n → OEnds p e below G T' (mkF m (pc + 3) Ls (v :: rest))) : OEnds p e below G T (mkF m pc Ls rest) := by
  obtain ⟨L, X, hF, hh, hS, hZ, ho, hC, hO, hx⟩ := X
  obtain ⟨T', X', e', st⟩ := RoadKit.getS (host := "") X hx hZ ho w via hh F (g := mkF m pc Ls rest) rfl hd
  exact (q T' ⟨L, X', hF, e', hS, hZ, ho, hC, hO, hx⟩).go st
theorem Since_le {k0 : Nat} (hk : k0 ≤ h.size) (q : h.size ≤ h'.size) : k0 ≤ h'.size := Nat.le_trans hk q
theorem OSt.putF (X : OSt p l e R s m args below meth c own Z EL vm0 T h k n) {R0 O nm d C : String} {index kk : Nat} {ty : FieldType} (w : (Cond.fieldLink own index R0 nm d).before a0 Z = true) (via : Via Z R0 O nm d) {a : Addr} {v old : Value} (F : Fld Z h a O nm d old) (E : Exa Z h a C)
    (Lw : (Cond.lays C O nm d).before a0 Z = true ∨ ((Cond.laysFinal C O nm d).before a0 Z = true ∧ own = O ∧ meth.name = "<init>")) (wi : (Cond.instantiable C kk).before a0 Z = true) (hty : parseFieldDescriptor d = some ty) (hn : narrow ty v = v) (hf : fits ty v = true)
    (hS : Safe Z EL vm0 h a) (ha : Z.heap.size ≤ a) (hd : decode c.code pc = .ok (.putfield index, 3))
    (q : ∀ T' h', OSt p l e R s m args below meth c own Z EL vm0 T' h' k n → Wr h h' a (Jvm.RoadKit.slotOf Z O nm d) v → OEnds p e below G T' (mkF m (pc + 3) Ls rest)) : OEnds p e below G T (mkF m pc Ls (v :: .ref a :: rest)) := by
  obtain ⟨L, X, hF, hh, ⟨k0, hS0, hk0⟩, hZ, ho, hC, hO, hx⟩ := X
  obtain ⟨T', h', X', e', W, st⟩ := RoadKit.putF (host := "") X hx hZ ho (Or.inl w) via hh F E Lw wi hty hn hf (g := mkF m pc Ls (v :: .ref a :: rest)) rfl rfl hd
  exact (q T' h' ⟨_, X', Fr.snoc X' hF ha, e', ⟨k0, hS0, by rw [W.size]; exact hk0⟩, hZ, ho, hC.trans (CHr.wr W hS hC.1), ext_wr hO W ha, hx⟩ W).go st
theorem OSt.newO (X : OSt p l e R s m args below meth c own Z EL vm0 T h k n) {C : String} {index j : Nat} (w : (Cond.classLink own index C).before a0 Z = true) (wi : (Cond.instantiable C j).before a0 Z = true) (wz : (Cond.initialized C).before a0 Z = true) (hd : decode c.code pc = .ok (.new index, 3)) (hc : k + 1 ≤ R.cells) (hl : n + j ≤ R.slots)
    (q : ∀ T' h' a, h.size = a → OSt p l e R s m args below meth c own Z EL vm0 T' h' (k + 1) (n + j) → Ext h h' → Exa Z h' a C → (∀ {O nm d : String} {ty : FieldType}, Laid Z a0 C O nm d → parseFieldDescriptor d = some ty → Fld Z h' a O nm d (defaultValue ty)) → Unt h' a → OEnds p e below G T' (mkF m (pc + 3) Ls (.ref a :: rest))) : OEnds p e below G T (mkF m pc Ls rest) := by
  obtain ⟨L, X, hF, hh, ⟨k0, hS0, hk0⟩, hZ, ho, hC, hO, hx⟩ := X
  obtain ⟨T', h', X', e', E, A, D, U, st⟩ := RoadKit.newO X hx hZ ho w wi wz hh (g := mkF m pc Ls rest) rfl hd hc hl
  exact (q T' h' _ rfl ⟨_, X', hF, e', ⟨k0, hS0, Nat.le_trans hk0 E.1⟩, hZ, ho, hC.trans (CHr.ext E hC.1), ext_trans hO E, hx⟩ E A D U).go st
theorem OSt.newP (X : OSt p l e R s m args below meth c own Z EL vm0 T h k n) {aty : ArrayType} (w : (Cond.arrayClass (newarray.typeOf aty)).before a0 Z = true) {z : Int32} (hd : decode c.code pc = .ok (.newarray aty, 2)) (hz : ¬ z < 0) {cap : Nat} (hcap : z.toNatClampNeg ≤ cap) (hb : cap * 8 ≤ 536870912) (hc : k + 1 ≤ R.cells) (hl : n + cap ≤ R.slots)
    (q : ∀ T' h' a kc, h.size = a → OSt p l e R s m args below meth c own Z EL vm0 T' h' (k + 1) (n + cap) → Ext h h' → Arv Z h' a kc (newarray.typeOf aty) z [] (defaultValue (newarray.typeOf aty)) → OEnds p e below G T' (mkF m (pc + 2) Ls (.ref a :: rest))) : OEnds p e below G T (mkF m pc Ls (.int z :: rest)) := by
  obtain ⟨L, X, hF, hh, ⟨k0, hS0, hk0⟩, hZ, ho, hC, hO, hx⟩ := X
  obtain ⟨T', h', kc, X', e', E, A, st⟩ := RoadKit.newP X hx hZ w hh (g := mkF m pc Ls (.int z :: rest)) rfl hd rfl hz hcap hb hc hl
  exact (q T' h' _ kc rfl ⟨_, X', hF, e', ⟨k0, hS0, Nat.le_trans hk0 E.1⟩, hZ, ho, hC.trans (CHr.ext E hC.1), ext_trans hO E, hx⟩ E (Arv.new A hz)).go st
theorem OSt.castY (X : OSt p l e R s m args below meth c own Z EL vm0 T h k n) {K : String} {index : Nat} (w : (Cond.classLink own index K).before a0 Z = true) {a : Addr} (F : Ins Z h a K true) (hd : decode c.code pc = .ok (.checkcast index, 3))
    (q : ∀ T', OSt p l e R s m args below meth c own Z EL vm0 T' h k n → OEnds p e below G T' (mkF m (pc + 3) Ls (.ref a :: rest))) : OEnds p e below G T (mkF m pc Ls (.ref a :: rest)) := by
  obtain ⟨L, X, hF, hh, hS, hZ, ho, hC, hO, hx⟩ := X
  obtain ⟨T', X', e', st⟩ := RoadKit.castY X hx hZ ho w hh F (g := mkF m pc Ls (.ref a :: rest)) rfl rfl hd
  exact (q T' ⟨L, X', hF, e', hS, hZ, ho, hC, hO, hx⟩).go st
theorem OSt.instY (X : OSt p l e R s m args below meth c own Z EL vm0 T h k n) {K : String} {index : Nat} (w : (Cond.classLink own index K).before a0 Z = true) {a : Addr} (F : Ins Z h a K true) (hd : decode c.code pc = .ok (.instanceof index, 3))
    (q : ∀ T', OSt p l e R s m args below meth c own Z EL vm0 T' h k n → OEnds p e below G T' (mkF m (pc + 3) Ls (.int 1 :: rest))) : OEnds p e below G T (mkF m pc Ls (.ref a :: rest)) := by
  obtain ⟨L, X, hF, hh, hS, hZ, ho, hC, hO, hx⟩ := X
  obtain ⟨T', X', e', st⟩ := RoadKit.instY X hx hZ ho w hh F (g := mkF m pc Ls (.ref a :: rest)) rfl rfl hd
  exact (q T' ⟨L, X', hF, e', hS, hZ, ho, hC, hO, hx⟩).go st
theorem OSt.instNo (X : OSt p l e R s m args below meth c own Z EL vm0 T h k n) {K C : String} {index : Nat} (w : (Cond.classLink own index K).before a0 Z = true) {a : Addr} (E : Exa Z h a C) (F : ∃ c t, Z.vm.findClass C = some c ∧ Z.vm.findClass K = some t ∧ Z.vm.assignable c t = false) (hd : decode c.code pc = .ok (.instanceof index, 3))
    (q : ∀ T', OSt p l e R s m args below meth c own Z EL vm0 T' h k n → OEnds p e below G T' (mkF m (pc + 3) Ls (.int 0 :: rest))) : OEnds p e below G T (mkF m pc Ls (.ref a :: rest)) := by
  obtain ⟨L, X, hF, hh, hS, hZ, ho, hC, hO, hx⟩ := X
  obtain ⟨T', X', e', st⟩ := RoadKit.instNo X hx hZ ho w hh E F (g := mkF m pc Ls (.ref a :: rest)) rfl rfl hd
  exact (q T' ⟨L, X', hF, e', hS, hZ, ho, hC, hO, hx⟩).go st
theorem OSt.initO (X : OSt p l e R s m args below meth c own Z EL vm0 T h k n) {idx : Nat} (w1 : (Cond.methodLink own idx Lib.objectInit).before a0 Z = true) (w2 : (Cond.instanceMethod Lib.objectInit).before a0 Z = true) (w3 : (Cond.code Lib.objectInit ⟨#[0xb1]⟩ 1 none).before a0 Z = true) {a : Addr} (hsize : Ls.size = c.maxLocals) (hd : decode c.code pc = .ok (.invokespecial idx, 3)) (hf : 1 ≤ R.frames) {W : Nat} (hW : (rest.map fun v => v.category).sum ≤ W) (hl : W + 12 ≤ R.locals)
    (q : ∀ T', OSt p l e R s m args below meth c own Z EL vm0 T' h k n → OEnds p e below G T' (mkF m (pc + 3) Ls rest)) : OEnds p e below G T (mkF m pc Ls (.ref a :: rest)) := by
  obtain ⟨L, X, hF, hh, hS, hZ, ho, hC, hO, hx⟩ := X
  obtain ⟨T', X', e', st⟩ := RoadKit.initO X hx hZ ho w1 w2 w3 hh (g := mkF m pc Ls (.ref a :: rest)) rfl hsize rfl hd hf (W := W) (by show 2 * 0 + _ ≤ _; rw [Nat.mul_zero, Nat.zero_add]; exact hW) hl
  exact (q T' ⟨L, X', hF, e', hS, hZ, ho, hC, hO, hx⟩).go st
end Base
end Jvm.Own
namespace Jvm.Own
open Sem ClassFile Op Lib Bundle Jvm.Stand Jvm.Free Jvm.LawKit Jvm.RoadKit
section Arrays
variable {p : Program} {l : Launch} {e : Env} {R : Room} {s : State} {m : MethodId} {args : Array Value} {below : List Frame} {meth : Method} {c : Code} {own : String} {Z : State} {a0 : Array Value} {EL : List (String × Nat)} {vm0 vm1 : Vm} {T T' : State} {h h' h1 : Heap} {k n : Nat} {G : Outcome → State → Prop} {pc : Nat} {Ls : Array Slot} {rest : List Value}
theorem i2c_id {x : Int32} (h0 : ¬ x < 0) (h1 : ¬ 65535 < x) : x.toUInt32.toUInt16.toUInt32.toInt32 = x := by
  have q := c_i2c x
  have r : (0 : Int32).toInt = 0 := rfl
  have r' : (65535 : Int32).toInt = 65535 := rfl
  simp only [Int32.lt_iff_toInt_lt, r, r'] at h0 h1
  apply Int32.toInt_inj.mp
  omega
theorem OSt.ldcI (X : OSt p l e R s m args below meth c own Z EL vm0 T h k n) {index : Nat} {v : Int32} (w : (Cond.constant own index v).before a0 Z = true) (hd : decode c.code pc = .ok (.ldc index, 2)) (q : OEnds p e below G T (mkF m (pc + 2) Ls (.int v :: rest))) : OEnds p e below G T (mkF m pc Ls rest) := by
  obtain ⟨L, X, hF, hh, hS, hZ, ho, hC, hO, hx⟩ := X
  exact q.go fun t => X.ldcInt hx ho (mvT (s := s.setVm vm0) hZ w) (g := mkF m pc Ls rest) rfl hd t
theorem OSt.ldcJ (X : OSt p l e R s m args below meth c own Z EL vm0 T h k n) {index : Nat} {v : Int64} (w : (Cond.constantLong own index v).before a0 Z = true) (hd : decode c.code pc = .ok (.ldc2_w index, 3)) (q : OEnds p e below G T (mkF m (pc + 3) Ls (.long v :: rest))) : OEnds p e below G T (mkF m pc Ls rest) := by
  obtain ⟨L, X, hF, hh, hS, hZ, ho, hC, hO, hx⟩ := X
  exact q.go fun t => X.ldc2Long hx ho (mvT (s := s.setVm vm0) hZ w) (g := mkF m pc Ls rest) rfl hd t
theorem OSt.alen (X : OSt p l e R s m args below meth c own Z EL vm0 T h k n) {a : Addr} {kc : ClassId} {ty : FieldType} {z : Int32} {vs : List Value} {d : Value} (K : Arv Z h a kc ty z vs d) (hd : decode c.code pc = .ok (.arraylength, 1)) (q : OEnds p e below G T (mkF m (pc + 1) Ls (.int z :: rest))) : OEnds p e below G T (mkF m pc Ls (.ref a :: rest)) := by
  obtain ⟨L, X, hF, hh, hS, hZ, ho, hC, hO, hx⟩ := X
  obtain ⟨cl, A, -, S, hz, -, -⟩ := K
  refine q.go fun t r => X.arraylength hx (by rw [hh]; exact A.1) (State.isArrayOf_alike hZ.alike A.2.1) (g := mkF m pc Ls (.ref a :: rest)) rfl rfl hd t ?_
  rw [len_of S hz]; exact r
theorem OSt.cald (X : OSt p l e R s m args below meth c own Z EL vm0 T h k n) {a : Addr} {kc : ClassId} {z j : Int32} {vs : List Value} {d v : Value} (K : Arv Z h a kc .char z vs d) (hj : ¬ j < 0 ∧ j < z) (u : vs.getD j.toNatClampNeg d = v) (hd : decode c.code pc = .ok (.caload, 1)) (q : OEnds p e below G T (mkF m (pc + 1) Ls (v :: rest))) : OEnds p e below G T (mkF m pc Ls (.int j :: .ref a :: rest)) := by
  obtain ⟨L, X, hF, hh, hS, hZ, ho, hC, hO, hx⟩ := X
  obtain ⟨cl, A, -, S, hz, H, -⟩ := K
  exact q.go fun t => X.caload hx (by rw [hh]; exact A.1) (State.isArrayOf_alike hZ.alike A.2.1) A.2.2 (inb_of S hj) (H.at (inb_of S hj) u) (g := mkF m pc Ls (.int j :: .ref a :: rest)) rfl rfl hd t
theorem OSt.bald (X : OSt p l e R s m args below meth c own Z EL vm0 T h k n) {a : Addr} {kc : ClassId} {z j : Int32} {vs : List Value} {d v : Value} (K : Arv Z h a kc .byte z vs d) (hj : ¬ j < 0 ∧ j < z) (u : vs.getD j.toNatClampNeg d = v) (hd : decode c.code pc = .ok (.baload, 1)) (q : OEnds p e below G T (mkF m (pc + 1) Ls (v :: rest))) : OEnds p e below G T (mkF m pc Ls (.int j :: .ref a :: rest)) := by
  obtain ⟨L, X, hF, hh, hS, hZ, ho, hC, hO, hx⟩ := X
  obtain ⟨cl, A, -, S, hz, H, -⟩ := K
  exact q.go fun t => X.baloadBytes hx (by rw [hh]; exact A.1) (State.isArrayOf_alike hZ.alike A.2.1) A.2.2 (inb_of S hj) (H.at (inb_of S hj) u) (g := mkF m pc Ls (.int j :: .ref a :: rest)) rfl rfl hd t
theorem OSt.stC (X : OSt p l e R s m args below meth c own Z EL vm0 T h k n) {a : Addr} {kc : ClassId} {z j x : Int32} {vs : List Value} {d : Value} (K : Arv Z h a kc .char z vs d) (hj : ¬ j < 0 ∧ j < z) (hx1 : ¬ x < 0 ∧ ¬ 65535 < x) {i : Nat} (hi : j.toNatClampNeg = i) (hl : i < vs.length) (ha : Z.heap.size ≤ a) (hd : decode c.code pc = .ok (.castore, 1))
    (q : ∀ T' h', OSt p l e R s m args below meth c own Z EL vm0 T' h' k n → Wr h h' a i (.int x) → Arv Z h' a kc .char z (vs.set i (.int x)) d → OEnds p e below G T' (mkF m (pc + 1) Ls rest)) : OEnds p e below G T (mkF m pc Ls (.int x :: .int j :: .ref a :: rest)) := by
  have hSf : Safe Z EL vm0 h a := Safe.arv X.al K (by decide)
  obtain ⟨L, X, hF, hh, ⟨k0, hS0, hk0⟩, hZ, ho, hC, hO, hx⟩ := X
  obtain ⟨cl, A, e1, S, hz, H, Gf⟩ := K
  obtain ⟨T', h', X', e', W, st⟩ := RoadKit.stC X hx hZ hh A (inb_of S hj) (x := x) (g := mkF m pc Ls (.int x :: .int j :: .ref a :: rest)) rfl rfl hd
  have hn : nar .char x = x := i2c_id hx1.1 hx1.2
  have hfit : fits .char (.int x) = true := by have := fits_nar_char x; rwa [hn] at this
  rw [hn] at W
  subst hi
  exact (q T' h' ⟨_, X', Fr.snoc X' hF ha, e', ⟨k0, hS0, by rw [W.size]; exact hk0⟩, hZ, ho, hC.trans (CHr.wr W hSf hC.1), ext_wr hO W ha, hx⟩ W (Arv.set A e1 S hz H Gf hfit W _ rfl hl)).go st
theorem OSt.stB (X : OSt p l e R s m args below meth c own Z EL vm0 T h k n) {a : Addr} {kc : ClassId} {z j x : Int32} {vs : List Value} {d : Value} (K : Arv Z h a kc .byte z vs d) (hSf : Safe Z EL vm0 h a) (hj : ¬ j < 0 ∧ j < z) {i : Nat} (hi : j.toNatClampNeg = i) (hl : i < vs.length) (ha : Z.heap.size ≤ a) (hd : decode c.code pc = .ok (.bastore, 1))
    (q : ∀ T' h', OSt p l e R s m args below meth c own Z EL vm0 T' h' k n → Wr h h' a i (.int x.toInt8.toInt32) → Arv Z h' a kc .byte z (vs.set i (.int x.toInt8.toInt32)) d → OEnds p e below G T' (mkF m (pc + 1) Ls rest)) : OEnds p e below G T (mkF m pc Ls (.int x :: .int j :: .ref a :: rest)) := by
  obtain ⟨L, X, hF, hh, ⟨k0, hS0, hk0⟩, hZ, ho, hC, hO, hx⟩ := X
  obtain ⟨cl, A, e1, S, hz, H, Gf⟩ := K
  obtain ⟨T', h', X', e', W, st⟩ := RoadKit.stB X hx hZ hh A (inb_of S hj) (x := x) (g := mkF m pc Ls (.int x :: .int j :: .ref a :: rest)) rfl rfl hd
  subst hi
  exact (q T' h' ⟨_, X', Fr.snoc X' hF ha, e', ⟨k0, hS0, by rw [W.size]; exact hk0⟩, hZ, ho, hC.trans (CHr.wr W hSf hC.1), ext_wr hO W ha, hx⟩ W (Arv.set A e1 S hz H Gf (fits_nar_byte x) W _ rfl hl)).go st
/-- ldc of a String constant whose text is read -/
theorem OSt.ldcR (X : OSt p l e R s m args below meth c own Z EL vm0 T h k n) (hE : EW Z a0 EL) {index : Nat} {text : String} (w : (Cond.stringLink own index text).before a0 Z = true) (wS : ∀ a ∈ Bundle.stringAtoms, a.before a0 Z = true) (hmem : (own, index) ∈ EL)
    {vs : List Value} {z : Int32} (ht : (∀ c ∈ text.toList, c.toNat < 256) ∧ text.toList.map (fun c => Value.int (Jvm.Lit.byteI c.toNat.toUInt16)) = vs) (hz : ¬ z < 0) (hl : z.toNatClampNeg = vs.length) (hd : decode c.code pc = .ok (.ldc index, 2)) {j : Nat} (hj : 4 * text.toList.length ≤ j) (hbig : j ≤ 536870912) (hc : k + 2 ≤ R.cells) (hl' : n + (j + 4) ≤ R.slots)
    (q : ∀ vm1 T' h' a b kb, OSt p l e R s m args below meth c own Z EL vm1 T' h' (k + 2) (n + (j + 4)) → Ext h h' → CHr Z EL vm0 h vm1 h' → Exa Z h' a "java/lang/String" → Fld Z h' a "java/lang/String" "coder" "B" (.int 0) → Fld Z h' a "java/lang/String" "value" "[B" (.ref b) → Arv Z h' b kb .byte z vs (.int 0) → (∀ x, Safe Z EL vm1 h' x → x ≠ a ∧ x ≠ b) → OEnds p e below G T' (mkF m (pc + 2) Ls (.ref a :: rest))) : OEnds p e below G T (mkF m pc Ls rest) := by
  obtain ⟨L, X, hF, hh, ⟨k0, hS0, hk0⟩, hZ, ho, hC, hO, hx⟩ := X
  obtain ⟨a, T', h', k1, b, kb, X', e', E, hS1, hk1, hZ1, ho1, E1, C1, V1, K1, -, -, hC1, -, hne, st⟩ := ldcCH X hx hZ ho w wS hh hS0 hk0 hE hmem hC.1 ht hz hl (g := mkF m pc Ls rest) rfl hd hj hbig hc hl'
  exact (q T'.vm T' h' a b kb ⟨_, X', hF, e', ⟨k1, hS1, hk1⟩, hZ1, ho1, hC.trans hC1, ext_trans hO E, hx⟩ E hC1 E1 C1 V1 K1 hne).go st
/-- ldc of a String constant whose text isn't read -/
theorem OSt.ldcO (X : OSt p l e R s m args below meth c own Z EL vm0 T h k n) (hE : EW Z a0 EL) {index : Nat} {text : String} (w : (Cond.stringLink own index text).before a0 Z = true) (wS : ∀ a ∈ Bundle.stringAtoms, a.before a0 Z = true) (hd : decode c.code pc = .ok (.ldc index, 2)) {j : Nat} (hj : 4 * text.toList.length ≤ j) (hbig : j ≤ 536870912) (hc : k + 2 ≤ R.cells) (hl' : n + (j + 4) ≤ R.slots)
    (q : ∀ vm1 T' h' a, OSt p l e R s m args below meth c own Z EL vm1 T' h' (k + 2) (n + (j + 4)) → Ext h h' → CHr Z EL vm0 h vm1 h' → OEnds p e below G T' (mkF m (pc + 2) Ls (.ref a :: rest))) : OEnds p e below G T (mkF m pc Ls rest) := by
  obtain ⟨L, X, hF, hh, ⟨k0, hS0, hk0⟩, hZ, ho, hC, hO, hx⟩ := X
  obtain ⟨a, T', h', k1, X', e', E, hS1, hk1, hZ1, ho1, hC1, -, st⟩ := ldcOH X hx hZ ho w wS hh hS0 hk0 hE hC.1 (g := mkF m pc Ls rest) rfl hd hj hbig hc hl'
  exact (q T'.vm T' h' a ⟨_, X', hF, e', ⟨k1, hS1, hk1⟩, hZ1, ho1, hC.trans hC1, ext_trans hO E, hx⟩ E hC1).go st
end Arrays
section Ret
variable {p : Program} {l : Launch} {e : Env} {R : Room} {s : State} {m : MethodId} {args : Array Value} {below : List Frame} {meth : Method} {c : Code} {own : String} {Z : State} {a0 : Array Value} {EL : List (String × Nat)} {vm0 vm1 : Vm} {T T' : State} {h h' h1 : Heap} {k n k' n' : Nat} {pc : Nat} {Ls : Array Slot} {rest : List Value} {Q : Option Value → Heap → Prop}
/-- how a walk over s ends: the answer and the heap by Q; the wide frame -/
def GW (Z : State) (EL : List (String × Nat)) (s : State) (Q : Option Value → Heap → Prop) (k n : Nat) (o : Outcome) (u : State) : Prop :=
  ∃ v L, o = .returned v ∧ (Q v u.heap ∧ Fr Z.heap.size L ∧ Ext Z.heap u.heap) ∧ CHr Z EL s.vm s.heap u.vm u.heap ∧ ReturnedEndW s o u L k n
theorem rew_mono {u : State} {o : Outcome} {L : List Loc} (q : ReturnedEndW s o u L k n) (hk : k ≤ k') (hn : n ≤ n') : ReturnedEndW s o u L k' n' := ⟨q.1, q.2.1, q.2.2.1, q.2.2.2.mono hk hn⟩
theorem OSt.retV (X : OSt p l e R s m args below meth c own Z EL vm0 T h k n) (hE : EW Z a0 EL) (hlk : meth.locks = false) {w : Value} {t : FieldType} {i : Instr} (hret : meth.sig.returnType = some t) (hn : narrow t w = w)
    (hi : (i = .ireturn ∧ (t = .int ∨ t = .boolean ∨ t = .byte ∨ t = .char ∨ t = .short) ∧ ∃ z, w = .int z) ∨ (i = .lreturn ∧ t = .long ∧ ∃ z, w = .long z) ∨ (i = .dreturn ∧ t = .double ∧ ∃ z, w = .double z) ∨ (i = .freturn ∧ t = .float ∧ ∃ z, w = .float z) ∨ (i = .areturn ∧ t.isReference = true ∧ w.isRef = true))
    (hd : decode c.code pc = .ok (i, 1)) (hk : k ≤ k') (hn' : n ≤ n') (hQ : Q (some w) h) : OEnds p e below (GW Z EL s Q k' n') T (mkF m pc Ls (w :: rest)) := by
  obtain ⟨L, X, hF, hh, ⟨k0, hS0, hk0⟩, hZ, ho, hC, hO, hx⟩ := X
  have hA := CHv.at X hZ hE hC.1
  obtain ⟨fs, hr, hrun, hended, hend⟩ := X.leaveW hS0 (by rw [hh]; exact hk0) (v := some w) (fun q => by rw [hret] at q; cases q) hlk
  refine ⟨_, _, retOut X hx hret hn hi hd hr, hrun, hended, _, L, rfl, ⟨?_, hF, ?_⟩, ?_, rew_mono hend hk hn'⟩
  · show Q _ T.heap; rw [hh]; exact hQ
  · show Ext _ T.heap; rw [hh]; exact hO
  · show CHr Z EL s.vm s.heap T.vm T.heap; rw [hh]; exact hC.trans hA
theorem OSt.retInt (X : OSt p l e R s m args below meth c own Z EL vm0 T h k n) (hE : EW Z a0 EL) (hlk : meth.locks = false) {z : Int32} (hret : meth.sig.returnType = some .int) (hd : decode c.code pc = .ok (.ireturn, 1)) (hk : k ≤ k') (hn' : n ≤ n') (hQ : Q (some (.int z)) h) : OEnds p e below (GW Z EL s Q k' n') T (mkF m pc Ls (.int z :: rest)) :=
  X.retV hE hlk hret rfl (Or.inl ⟨rfl, Or.inl rfl, z, rfl⟩) hd hk hn' hQ
theorem OSt.retBool (X : OSt p l e R s m args below meth c own Z EL vm0 T h k n) (hE : EW Z a0 EL) (hlk : meth.locks = false) {z : Int32} (hz : z = 0 ∨ z = 1) (hret : meth.sig.returnType = some .boolean) (hd : decode c.code pc = .ok (.ireturn, 1)) (hk : k ≤ k') (hn' : n ≤ n') (hQ : Q (some (.int z)) h) : OEnds p e below (GW Z EL s Q k' n') T (mkF m pc Ls (.int z :: rest)) :=
  X.retV hE hlk hret (by rcases hz with rfl | rfl <;> rfl) (Or.inl ⟨rfl, Or.inr (Or.inl rfl), z, rfl⟩) hd hk hn' hQ
theorem OSt.retByte (X : OSt p l e R s m args below meth c own Z EL vm0 T h k n) (hE : EW Z a0 EL) (hlk : meth.locks = false) {z : Int32} (hz : z.toInt8.toInt32 = z) (hret : meth.sig.returnType = some .byte) (hd : decode c.code pc = .ok (.ireturn, 1)) (hk : k ≤ k') (hn' : n ≤ n') (hQ : Q (some (.int z)) h) : OEnds p e below (GW Z EL s Q k' n') T (mkF m pc Ls (.int z :: rest)) :=
  X.retV hE hlk hret (by show Value.int z.toInt8.toInt32 = _; rw [hz]) (Or.inl ⟨rfl, Or.inr (Or.inr (Or.inl rfl)), z, rfl⟩) hd hk hn' hQ
theorem OSt.retChar (X : OSt p l e R s m args below meth c own Z EL vm0 T h k n) (hE : EW Z a0 EL) (hlk : meth.locks = false) {z : Int32} (hz : ¬ z < 0 ∧ ¬ 65535 < z) (hret : meth.sig.returnType = some .char) (hd : decode c.code pc = .ok (.ireturn, 1)) (hk : k ≤ k') (hn' : n ≤ n') (hQ : Q (some (.int z)) h) : OEnds p e below (GW Z EL s Q k' n') T (mkF m pc Ls (.int z :: rest)) :=
  X.retV hE hlk hret (by show Value.int z.toUInt32.toUInt16.toUInt32.toInt32 = _; rw [i2c_id hz.1 hz.2]) (Or.inl ⟨rfl, Or.inr (Or.inr (Or.inr (Or.inl rfl))), z, rfl⟩) hd hk hn' hQ
theorem narrow_obj {t : FieldType} {w : Value} (h1 : t.isReference = true) : narrow t w = w := by cases t <;> first | rfl | cases h1
theorem OSt.retRef (X : OSt p l e R s m args below meth c own Z EL vm0 T h k n) (hE : EW Z a0 EL) (hlk : meth.locks = false) {w : Value} (hw : w.isRef = true) {t : FieldType} (ht : t.isReference = true) (hret : meth.sig.returnType = some t) (hd : decode c.code pc = .ok (.areturn, 1)) (hk : k ≤ k') (hn' : n ≤ n') (hQ : Q (some w) h) : OEnds p e below (GW Z EL s Q k' n') T (mkF m pc Ls (w :: rest)) :=
  X.retV hE hlk hret (narrow_obj ht) (Or.inr (Or.inr (Or.inr (Or.inr ⟨rfl, ht, hw⟩)))) hd hk hn' hQ
theorem OSt.ret0 (X : OSt p l e R s m args below meth c own Z EL vm0 T h k n) (hE : EW Z a0 EL) (hlk : meth.locks = false) (hret : meth.sig.returnType = none) (hd : decode c.code pc = .ok (.return_, 1)) (hk : k ≤ k') (hn' : n ≤ n') (hQ : Q none h) : OEnds p e below (GW Z EL s Q k' n') T (mkF m pc Ls []) := by
  obtain ⟨L, X, hF, hh, ⟨k0, hS0, hk0⟩, hZ, ho, hC, hO, hx⟩ := X
  have hA := CHv.at X hZ hE hC.1
  obtain ⟨fs, hr, hrun, hended, hend⟩ := X.leaveW hS0 (by rw [hh]; exact hk0) (v := none) (fun _ => rfl) hlk
  refine ⟨_, _, X.returnOut hx hret hd hr, hrun, hended, _, L, rfl, ⟨?_, hF, ?_⟩, ?_, rew_mono hend hk hn'⟩
  · show Q _ T.heap; rw [hh]; exact hQ
  · show Ext _ T.heap; rw [hh]; exact hO
  · show CHr Z EL s.vm s.heap T.vm T.heap; rw [hh]; exact hC.trans hA
end Ret
section Cons
variable {p : Program} {l : Launch} {e : Env} {R : Room} {s : State} {m : MethodId} {args : Array Value} {below : List Frame} {meth : Method} {c : Code} {own : String} {Z : State} {a0 : Array Value} {EL : List (String × Nat)} {vm0 vm1 : Vm} {T T' : State} {h h' h1 : Heap} {k n k' n' : Nat} {G : Outcome → State → Prop} {pc : Nat} {Ls : Array Slot} {rest : List Value} {Q : Option Value → Heap → Prop}
  {y : MethodName} {bytes : ByteArray} {maxL : Nat} {ret : Option FieldType} {rm : Room} {as' : Array Value} {ws : List Cond}
/-- a method's contract, of one call: the arguments as', the heap h at the call -/
def ConX (l : Launch) (Z : State) (EL : List (String × Nat)) (y : MethodName) (bytes : ByteArray) (maxL : Nat) (ret : Option FieldType) (ws : List Cond) (rm : Room) (as' : Array Value) (h : Heap) (Q : Option Value → Heap → Prop) : Prop := Ext Z.heap h →
  MetFree l y (head1 (Cond.code y bytes maxL ret :: ws) rm) (fun a U => a = as' ∧ Z.Warmed39 U.vm ∧ U.heap = h ∧ CHv Z EL U.vm h) (fun _ _ _ _ _ => True) (fun _ U o U' => ∃ v L, o = .returned v ∧ (Q v U'.heap ∧ Fr Z.heap.size L ∧ Ext Z.heap U'.heap) ∧ CHr Z EL U.vm U.heap U'.vm U'.heap ∧ ReturnedEndW U o U' L rm.cells rm.slots)
abbrev Con (l : Launch) (Z : State) (EL : List (String × Nat)) (y : MethodName) (bytes : ByteArray) (maxL : Nat) (ret : Option FieldType) (rm : Room) (as' : Array Value) (h : Heap) (Q : Option Value → Heap → Prop) : Prop := ConX l Z EL y bytes maxL ret [] rm as' h Q
theorem ConX.of (hy : plainFor y = true) (body : ∀ (p : Program) (e : Env) (s : State) (m : MethodId) (below : List Frame) (meth : Method) (c : Code) (T : State), c.code = bytes → c.maxLocals = maxL → meth.sig.returnType = ret → meth.locks = false → meth.name = y.name → OSt p l e rm s m as' below meth c y.cls Z EL s.vm T h 0 0 → OEnds p e below (GW Z EL s Q rm.cells rm.slots) T (entryFrame m as' maxL)) :
    ConX l Z EL y bytes maxL ret ws rm as' h Q := by
  intro hO
  refine MetFree.of_bodySF hy hisR ?_
  intro p e s m args below meth c s₁ Bd hml hP _
  obtain ⟨rfl, hZ, hh, hC⟩ := hP
  have e0 : s₁.heap = h := by rw [← hh, Bd.state]; rfl
  have X0 : Stand p l e rm s m args below meth c s₁ [] 0 0 := Stand.of_body Bd
  have hown : s.vm.findClass y.cls = some m.cls := findClass_of_methodNamed Bd.named
  obtain ⟨s₂, o, h1, h2, h3, v, L, rfl, h4, h5, h6⟩ := body p e s m below meth c s₁ Bd.bytes hml Bd.returns Bd.notSynchronized (name_of_methodNamed Bd.named Bd.method).1
    ⟨[], X0, Fr.nil _, e0, ⟨_, (State.WarmedH.refl s).since 0, Nat.zero_le _⟩, hZ, hown, by rw [hh]; exact CHr.refl hC, hO, Bd.exec⟩
  exact ⟨s₂, _, h1, h2, h3, v, L, rfl, h4, h5, h6⟩
/-- the shape of a payer's premise and answer -/
abbrev PreB (R : Room) (as' : Array Value) (h : Heap) (kc ns : Nat) (A : Pt) (a : Array Value) : Prop := a = as' ∧ A.U.heap = h ∧ A.cells + kc ≤ R.cells ∧ A.slots + ns ≤ R.slots
abbrev PostB (Q : Option Value → Heap → List Loc → Prop) (kc ns : Nat) (A : Pt) (_ : Array Value) (v : Option Value) (B : Pt) : Prop := ∃ L, Q v B.U.heap L ∧ B.locs = A.locs ++ L ∧ B.cells = A.cells + kc ∧ B.slots = A.slots + ns
abbrev PostS (Q : Option Value → Heap → Prop) (Z : State) (EL : List (String × Nat)) (vm0 : Vm) (h : Heap) (kc ns : Nat) (A : Pt) (_ : Array Value) (v : Option Value) (B : Pt) : Prop :=
  ∃ L, (Q v B.U.heap ∧ Fr Z.heap.size L ∧ Ext Z.heap B.U.heap) ∧ B.locs = A.locs ++ L ∧ B.cells = A.cells + kc ∧ B.slots = A.slots + ns ∧ CHr Z EL vm0 h B.U.vm B.U.heap
/-- what a call by contract asks of the caller -/
theorem Con.back {W len : Nat} (K : Con l Z EL y bytes maxL ret rm as' h Q) (hO : Ext Z.heap h) (hZ : Z.Warmed39 vm0) (hE : EW Z a0 EL) (hC : CHv Z EL vm0 h) (wc : (Cond.code y bytes maxL ret).before a0 Z = true) (wz : (Cond.initialized y.cls).before a0 Z = true) (hf : rm.frames + 1 ≤ R.frames) (hl : W + (maxL + 11) + rm.locals ≤ R.locals) :
    BackS l R p e below (s.setVm vm0) args y len W (PreB R as' h rm.cells rm.slots) (PostS Q Z EL vm0 h rm.cells rm.slots) :=
  backOfSH (Q := fun v h' L => Q v h' ∧ Fr Z.heap.size L ∧ Ext Z.heap h') (K hO) hZ wc wz hf hl hE hC
/-- OSt behind a payer that may have interned -/
theorem OSt.behindS (X : OSt p l e R s m args below meth c own Z EL vm0 T h k n) {B : Pt} {v : Option Value} {L0 L : List Loc} (hF0 : Fr Z.heap.size L0) (X' : Stand p l e R (s.setVm B.U.vm) m args below meth c B.U B.locs B.cells B.slots) (hS : (s.setVm vm0).Since B.U.vm B.U.heap.size) (hg : T.heap.size ≤ B.U.heap.size)
    (hF : Fr Z.heap.size L) (hO : Ext Z.heap B.U.heap) (e1 : B.locs = L0 ++ L) (e2 : B.cells = k') (e3 : B.slots = n') (hC' : CHr Z EL vm0 h B.U.vm B.U.heap) : OSt p l e R s m args below meth c own Z EL B.U.vm B.U B.U.heap k' n' := by
  obtain ⟨_, X, -, hh, ⟨k0, hS0, hk0⟩, hZ, ho, hC, -, hx⟩ := X
  obtain ⟨r1, r2, r3, r4⟩ := rebS (own := own) hS0 hk0 X' hS (by rw [← hh]; exact hg) hZ ho
  subst e2 e3
  rw [e1] at r1
  exact ⟨_, r1, hF0.app hF, rfl, ⟨_, r2, Nat.le_refl _⟩, r3, r4, hC.trans hC', hO, hx⟩
theorem OSt.callS (X : OSt p l e R s m args below meth c own Z EL vm0 T h k n) (hE : EW Z a0 EL) (K : Con l Z EL y bytes maxL ret rm as' h Q) {index : Nat} (w1 : (Cond.methodLink own index y).before a0 Z = true) (w2 : (Cond.static y).before a0 Z = true) (wz : (Cond.initialized y.cls).before a0 Z = true) (wc : (Cond.code y bytes maxL ret).before a0 Z = true)
    (hy : y.cls ≠ "java/lang/invoke/MethodHandle" ∧ y.cls ≠ "java/lang/invoke/VarHandle") {W : Nat} (hf : rm.frames + 1 ≤ R.frames) (hl : W + (maxL + 11) + rm.locals ≤ R.locals) {argsL stack : List Value} (ha : argsL.toArray = as') (hlen : ∀ sig, parseMethodDescriptor y.desc = some sig → argsL.length = sig.parameters.length) (hst : stack = argsL.reverse ++ rest) (hsize : Ls.size = c.maxLocals) (hW : (rest.map fun v => v.category).sum ≤ W)
    (hd : decode c.code pc = .ok (.invokestatic index, 3)) (hk : k + rm.cells ≤ R.cells) (hn : n + rm.slots ≤ R.slots)
    (q : ∀ v vm1 T' h', OSt p l e R s m args below meth c own Z EL vm1 T' h' (k + rm.cells) (n + rm.slots) → CHr Z EL vm0 h vm1 h' → Q v h' → OEnds p e below G T' (mkF m (pc + 3) Ls (v.toList ++ rest))) : OEnds p e below G T (mkF m pc Ls stack) := by
  have X1 := X
  obtain ⟨L, X, hF, hh, ⟨k0, hS0, hk0⟩, hZ, ho, hC, hO, hx⟩ := X
  obtain ⟨v, vmx, B, -, X', hS, hgr, ⟨L', ⟨hq, hF', hO'⟩, e1, e2, e3, hC'⟩, st⟩ := callSS X hx ho (mvT (s := s.setVm vm0) hZ w1) (mvT (s := s.setVm vm0) hZ w2) (mvT (s := s.setVm vm0) hZ wz) (mvT (s := s.setVm vm0) hZ wc) hy (K.back hO hZ hE hC.1 wc wz hf hl) (g := mkF m pc Ls stack) rfl hsize (argsL := argsL) (rest := rest) hlen hst (by show 2 * 0 + _ ≤ _; rw [Nat.mul_zero, Nat.zero_add]; exact hW) hd (fun _ _ => ⟨ha, hh, hk, hn⟩)
  exact (q v _ _ _ (X1.behindS (v := v) hF X' hS hgr hF' hO' e1 e2 e3 hC') hC' hq).tr st
theorem OSt.callI (X : OSt p l e R s m args below meth c own Z EL vm0 T h k n) (hE : EW Z a0 EL) (K : Con l Z EL y bytes maxL none rm as' h Q) {index : Nat} (w1 : (Cond.methodLink own index y).before a0 Z = true) (w2 : (Cond.instanceMethod y).before a0 Z = true) (wz : (Cond.initialized y.cls).before a0 Z = true) (wc : (Cond.code y bytes maxL none).before a0 Z = true)
    (hi : y.name = "<init>") (hy : y.cls ≠ "java/lang/invoke/MethodHandle" ∧ y.cls ≠ "java/lang/invoke/VarHandle") {W : Nat} (hf : rm.frames + 1 ≤ R.frames) (hl : W + (maxL + 11) + rm.locals ≤ R.locals) {a : Addr} {argsL stack : List Value} (ha : (.ref a :: argsL).toArray = as') (hlen : ∀ sig, parseMethodDescriptor y.desc = some sig → argsL.length = sig.parameters.length) (hst : stack = argsL.reverse ++ .ref a :: rest) (hsize : Ls.size = c.maxLocals) (hW : (rest.map fun v => v.category).sum ≤ W)
    (hd : decode c.code pc = .ok (.invokespecial index, 3)) (hk : k + rm.cells ≤ R.cells) (hn : n + rm.slots ≤ R.slots)
    (q : ∀ v vm1 T' h', OSt p l e R s m args below meth c own Z EL vm1 T' h' (k + rm.cells) (n + rm.slots) → CHr Z EL vm0 h vm1 h' → Q v h' → OEnds p e below G T' (mkF m (pc + 3) Ls (v.toList ++ rest))) : OEnds p e below G T (mkF m pc Ls stack) := by
  have X1 := X
  obtain ⟨L, X, hF, hh, ⟨k0, hS0, hk0⟩, hZ, ho, hC, hO, hx⟩ := X
  obtain ⟨v, vmx, B, -, X', hS, hgr, ⟨L', ⟨hq, hF', hO'⟩, e1, e2, e3, hC'⟩, st⟩ := X.specialBackS hx hi ho (mvT (s := s.setVm vm0) hZ w1) (mvT (s := s.setVm vm0) hZ w2) (mvT (s := s.setVm vm0) hZ wc) hy (K.back hO hZ hE hC.1 wc wz hf hl) (g := mkF m pc Ls stack) rfl hsize (Steps.refl _) (a := a) (argsL := argsL) (rest := rest) hlen hst (by show 2 * 0 + _ ≤ _; rw [Nat.mul_zero, Nat.zero_add]; exact hW) hd (fun _ _ => ⟨ha, hh, hk, hn⟩)
  exact (q v _ _ _ (X1.behindS (v := v) hF X' hS hgr hF' hO' e1 e2 e3 hC') hC' hq).tr st
theorem OSt.callV (X : OSt p l e R s m args below meth c own Z EL vm0 T h k n) (hE : EW Z a0 EL) {z : MethodName} (K : Con l Z EL z bytes maxL ret rm as' h Q) {C : String} {index : Nat} (w1 : (Cond.methodLink own index y).before a0 Z = true) (w2 : (Cond.declares y).before a0 Z = true) (w3 : (Cond.selects C y z).before a0 Z = true) (w4 : (Cond.instanceMethod z).before a0 Z = true) (wz : (Cond.initialized z.cls).before a0 Z = true) (wc : (Cond.code z bytes maxL ret).before a0 Z = true) (nf : NotFace (s.setVm vm0) y)
    (hy : y.cls ≠ "java/lang/invoke/MethodHandle" ∧ y.cls ≠ "java/lang/invoke/VarHandle") {W : Nat} (hf : rm.frames + 1 ≤ R.frames) (hl : W + (maxL + 11) + rm.locals ≤ R.locals) {a : Addr} (E : Exa Z h a C) {argsL stack : List Value} (ha : (.ref a :: argsL).toArray = as') (hlen : ∀ sig, parseMethodDescriptor y.desc = some sig → argsL.length = sig.parameters.length) (hst : stack = argsL.reverse ++ .ref a :: rest) (hsize : Ls.size = c.maxLocals) (hW : (rest.map fun v => v.category).sum ≤ W)
    (hd : decode c.code pc = .ok (.invokevirtual index, 3)) (hk : k + rm.cells ≤ R.cells) (hn : n + rm.slots ≤ R.slots)
    (q : ∀ v vm1 T' h', OSt p l e R s m args below meth c own Z EL vm1 T' h' (k + rm.cells) (n + rm.slots) → CHr Z EL vm0 h vm1 h' → Q v h' → OEnds p e below G T' (mkF m (pc + 3) Ls (v.toList ++ rest))) : OEnds p e below G T (mkF m pc Ls stack) := by
  have X1 := X
  obtain ⟨L, X, hF, hh, ⟨k0, hS0, hk0⟩, hZ, ho, hC, hO, hx⟩ := X
  obtain ⟨cB, kB, q1, -, q3⟩ := isOf (s := s.setVm vm0) hZ hh E
  obtain ⟨v, vmx, B, -, X', hS, hgr, ⟨L', ⟨hq, hF', hO'⟩, e1, e2, e3, hC'⟩, st⟩ := X.virtualBackS hx ho (mvT (s := s.setVm vm0) hZ w1) (mvT (s := s.setVm vm0) hZ w2) nf (mvT (s := s.setVm vm0) hZ w3) (mvT (s := s.setVm vm0) hZ w4) hy (K.back hO hZ hE hC.1 wc wz hf hl) q1 q3 (g := mkF m pc Ls stack) rfl hsize (Steps.refl _) (argsL := argsL) (rest := rest) hlen hst (by show 2 * 0 + _ ≤ _; rw [Nat.mul_zero, Nat.zero_add]; exact hW) hd (fun _ _ => ⟨ha, hh, hk, hn⟩)
  exact (q v _ _ _ (X1.behindS (v := v) hF X' hS hgr hF' hO' e1 e2 e3 hC') hC' hq).tr st
end Cons
end Jvm.Own
namespace Jvm.Own
open Sem ClassFile Op Lib Bundle Jvm.Stand Jvm.Free Jvm.LawKit Jvm.RoadKit
section Pay
variable {p : Program} {l : Launch} {e : Env} {R : Room} {s : State} {m : MethodId} {args : Array Value} {below : List Frame} {meth : Method} {c : Code} {own : String} {Z : State} {a0 : Array Value} {EL : List (String × Nat)} {vm0 vm1 : Vm} {T T' : State} {h h' h1 : Heap} {k n k' n' : Nat} {G : Outcome → State → Prop} {pc : Nat} {Ls : Array Slot} {rest : List Value} {Q : Option Value → Heap → Prop} {Q3 : Option Value → Heap → List Loc → Prop} {kc ns : Nat}
  {y : MethodName} {bytes : ByteArray} {maxL : Nat} {ret : Option FieldType} {rm : Room} {as' : Array Value} {ws : List Cond}
/-- what the walk must know of a payer's answer -/
abbrev OkB (Z : State) (EL : List (String × Nat)) (vm0 : Vm) (h : Heap) (Q3 : Option Value → Heap → List Loc → Prop) : Prop := ∀ v h' L, Q3 v h' L → Fr Z.heap.size L ∧ Ext Z.heap h' ∧ CHr Z EL vm0 h vm0 h'
theorem OSt.behind (X : OSt p l e R s m args below meth c own Z EL vm0 T h k n) {B : Pt} {L0 L : List Loc} (hF0 : Fr Z.heap.size L0) (X' : Stand p l e R (s.setVm vm0) m args below meth c B.U B.locs B.cells B.slots)
    (hF : Fr Z.heap.size L) (hO : Ext Z.heap B.U.heap) (e1 : B.locs = L0 ++ L) (e2 : B.cells = k') (e3 : B.slots = n') (hC' : CHr Z EL vm0 h vm0 B.U.heap) : OSt p l e R s m args below meth c own Z EL vm0 B.U B.U.heap k' n' := by
  obtain ⟨_, X, -, hh, ⟨k0, hS0, hk0⟩, hZ, ho, hC, -, hx⟩ := X
  subst e2 e3
  rw [e1] at X'
  exact ⟨_, X', hF0.app hF, rfl, ⟨_, hS0, Nat.le_trans hk0 hC'.2.1⟩, hZ, ho, hC.trans hC', hO, hx⟩
theorem OSt.payS (X : OSt p l e R s m args below meth c own Z EL vm0 T h k n) {W : Nat} (K : Back l R p e below (s.setVm vm0) args y 3 W (PreB R as' h kc ns) (PostB Q3 kc ns)) (hK : OkB Z EL vm0 h Q3) {index : Nat} (w1 : (Cond.methodLink own index y).before a0 Z = true) (w2 : (Cond.static y).before a0 Z = true) (wz : (Cond.initialized y.cls).before a0 Z = true) (wc : (Cond.code y bytes maxL ret).before a0 Z = true)
    (hy : y.cls ≠ "java/lang/invoke/MethodHandle" ∧ y.cls ≠ "java/lang/invoke/VarHandle") {argsL stack : List Value} (ha : argsL.toArray = as') (hlen : ∀ sig, parseMethodDescriptor y.desc = some sig → argsL.length = sig.parameters.length) (hst : stack = argsL.reverse ++ rest) (hsize : Ls.size = c.maxLocals) (hW : (rest.map fun v => v.category).sum ≤ W)
    (hd : decode c.code pc = .ok (.invokestatic index, 3)) (hk : k + kc ≤ R.cells) (hn : n + ns ≤ R.slots)
    (q : ∀ v T' h' L, OSt p l e R s m args below meth c own Z EL vm0 T' h' (k + kc) (n + ns) → Q3 v h' L → OEnds p e below G T' (mkF m (pc + 3) Ls (v.toList ++ rest))) : OEnds p e below G T (mkF m pc Ls stack) := by
  have X1 := X
  obtain ⟨L, X, hF, hh, ⟨k0, hS0, hk0⟩, hZ, ho, hC, hO, hx⟩ := X
  obtain ⟨v, vmx, B, -, X', ⟨L', hq, e1, e2, e3⟩, st⟩ := Jvm.LawKit.callS X hx ho (mvT (s := s.setVm vm0) hZ w1) (mvT (s := s.setVm vm0) hZ w2) (mvT (s := s.setVm vm0) hZ wz) (mvT (s := s.setVm vm0) hZ wc) hy K (g := mkF m pc Ls stack) rfl hsize (argsL := argsL) (rest := rest) hlen hst (by show 2 * 0 + _ ≤ _; rw [Nat.mul_zero, Nat.zero_add]; exact hW) hd (fun _ _ => ⟨ha, hh, hk, hn⟩)
  obtain ⟨r1, r2, r3⟩ := hK _ _ _ hq
  exact (q v _ _ _ (X1.behind hF X' r1 r2 e1 e2 e3 r3) hq).go st
theorem OSt.payI (X : OSt p l e R s m args below meth c own Z EL vm0 T h k n) {W : Nat} (K : Back l R p e below (s.setVm vm0) args y 3 W (PreB R as' h kc ns) (PostB Q3 kc ns)) (hK : OkB Z EL vm0 h Q3) {index : Nat} (w1 : (Cond.methodLink own index y).before a0 Z = true) (w2 : (Cond.instanceMethod y).before a0 Z = true) (wc : (Cond.code y bytes maxL none).before a0 Z = true)
    (hi : y.name = "<init>") (hy : y.cls ≠ "java/lang/invoke/MethodHandle" ∧ y.cls ≠ "java/lang/invoke/VarHandle") {a : Addr} {argsL stack : List Value} (ha : (.ref a :: argsL).toArray = as') (hlen : ∀ sig, parseMethodDescriptor y.desc = some sig → argsL.length = sig.parameters.length) (hst : stack = argsL.reverse ++ .ref a :: rest) (hsize : Ls.size = c.maxLocals) (hW : (rest.map fun v => v.category).sum ≤ W)
    (hd : decode c.code pc = .ok (.invokespecial index, 3)) (hk : k + kc ≤ R.cells) (hn : n + ns ≤ R.slots)
    (q : ∀ v T' h' L, OSt p l e R s m args below meth c own Z EL vm0 T' h' (k + kc) (n + ns) → Q3 v h' L → OEnds p e below G T' (mkF m (pc + 3) Ls (v.toList ++ rest))) : OEnds p e below G T (mkF m pc Ls stack) := by
  have X1 := X
  obtain ⟨L, X, hF, hh, ⟨k0, hS0, hk0⟩, hZ, ho, hC, hO, hx⟩ := X
  obtain ⟨v, vmx, B, -, X', ⟨L', hq, e1, e2, e3⟩, st⟩ := X.specialBack hx hi ho (mvT (s := s.setVm vm0) hZ w1) (mvT (s := s.setVm vm0) hZ w2) (mvT (s := s.setVm vm0) hZ wc) hy K (g := mkF m pc Ls stack) rfl hsize (Steps.refl _) (a := a) (argsL := argsL) (rest := rest) hlen hst (by show 2 * 0 + _ ≤ _; rw [Nat.mul_zero, Nat.zero_add]; exact hW) hd (fun _ _ => ⟨ha, hh, hk, hn⟩)
  obtain ⟨r1, r2, r3⟩ := hK _ _ _ hq
  exact (q v _ _ _ (X1.behind hF X' r1 r2 e1 e2 e3 r3) hq).tr st
theorem OSt.payV (X : OSt p l e R s m args below meth c own Z EL vm0 T h k n) {z : MethodName} {W : Nat} (K : Back l R p e below (s.setVm vm0) args z 3 W (PreB R as' h kc ns) (PostB Q3 kc ns)) (hK : OkB Z EL vm0 h Q3) {C : String} {index : Nat} (w1 : (Cond.methodLink own index y).before a0 Z = true) (w2 : (Cond.declares y).before a0 Z = true) (w3 : (Cond.selects C y z).before a0 Z = true) (w4 : (Cond.instanceMethod z).before a0 Z = true) (nf : NotFace (s.setVm vm0) y)
    (hy : y.cls ≠ "java/lang/invoke/MethodHandle" ∧ y.cls ≠ "java/lang/invoke/VarHandle") {a : Addr} (E : Exa Z h a C) {argsL stack : List Value} (ha : (.ref a :: argsL).toArray = as') (hlen : ∀ sig, parseMethodDescriptor y.desc = some sig → argsL.length = sig.parameters.length) (hst : stack = argsL.reverse ++ .ref a :: rest) (hsize : Ls.size = c.maxLocals) (hW : (rest.map fun v => v.category).sum ≤ W)
    (hd : decode c.code pc = .ok (.invokevirtual index, 3)) (hk : k + kc ≤ R.cells) (hn : n + ns ≤ R.slots)
    (q : ∀ v T' h' L, OSt p l e R s m args below meth c own Z EL vm0 T' h' (k + kc) (n + ns) → Q3 v h' L → OEnds p e below G T' (mkF m (pc + 3) Ls (v.toList ++ rest))) : OEnds p e below G T (mkF m pc Ls stack) := by
  have X1 := X
  obtain ⟨L, X, hF, hh, ⟨k0, hS0, hk0⟩, hZ, ho, hC, hO, hx⟩ := X
  obtain ⟨cB, kB, q1, -, q3⟩ := isOf (s := s.setVm vm0) hZ hh E
  obtain ⟨v, vmx, B, -, X', ⟨L', hq, e1, e2, e3⟩, st⟩ := X.virtualBack hx ho (mvT (s := s.setVm vm0) hZ w1) (mvT (s := s.setVm vm0) hZ w2) nf (mvT (s := s.setVm vm0) hZ w3) (mvT (s := s.setVm vm0) hZ w4) hy K q1 q3 (g := mkF m pc Ls stack) rfl hsize (Steps.refl _) (argsL := argsL) (rest := rest) hlen hst (by show 2 * 0 + _ ≤ _; rw [Nat.mul_zero, Nat.zero_add]; exact hW) hd (fun _ _ => ⟨ha, hh, hk, hn⟩)
  obtain ⟨r1, r2, r3⟩ := hK _ _ _ hq
  exact (q v _ _ _ (X1.behind hF X' r1 r2 e1 e2 e3 r3) hq).tr st
theorem OSt.nf (X : OSt p l e R s m args below meth c own Z EL vm0 T h k n) {C : String} (w : (Cond.selects C y y).before a0 Z = true) : NotFace (s.setVm vm0) y := notFace_of_selects (args := #[]) (mvT (s := s.setVm vm0) X.hZ w)
/-- a payer that leaves the heap as it was -/
theorem okPure {Q2 : Option Value → Prop} (X : OSt p l e R s m args below meth c own Z EL vm0 T h k n) : OkB Z EL vm0 h (fun v h' L => Q2 v ∧ L = [] ∧ h' = h) := fun v h' L ⟨_, e1, e2⟩ => by
  subst e1 e2; exact ⟨Fr.nil _, X.old, CHr.refl X.chv⟩
theorem chr_nil {vm : Vm} (q : h.size ≤ h'.size) : CHr Z [] vm h vm h' := ⟨(fun _ hp => (nomatch hp)), q, fun _ B => (by obtain ⟨_, hp, _⟩ := B; cases hp)⟩
theorem safe_nil {vm : Vm} {x : Addr} : Safe Z [] vm h x := fun B => by obtain ⟨_, hp, _⟩ := B; cases hp
end Pay
section Narrow
variable {p : Program} {l : Launch} {e : Env} {R : Room} {s : State} {m : MethodId} {args : Array Value} {below : List Frame} {meth : Method} {c : Code} {own : String} {Z : State} {a0 : Array Value} {vm0 vm1 : Vm} {T T' : State} {h h' h1 : Heap} {k n k' n' : Nat} {G : Outcome → State → Prop} {pc : Nat} {Ls : Array Slot} {rest : List Value} {Q : Option Value → Heap → Prop}
  {y : MethodName} {bytes : ByteArray} {maxL : Nat} {ret : Option FieldType} {rm : Room} {as' : Array Value} {ws : List Cond}
/-- how a walk over s ends, under the narrow frame -/
def GN (Z : State) (s : State) (Q : Option Value → Heap → Prop) (k n : Nat) (o : Outcome) (u : State) : Prop :=
  ∃ v L, o = .returned v ∧ (Q v u.heap ∧ Fr Z.heap.size L ∧ Ext Z.heap u.heap) ∧ FrameEnd s o u L k n
theorem OSt.retVN (X : OSt p l e R s m args below meth c own Z [] s.vm T h k n) (hlk : meth.locks = false) {w : Value} {t : FieldType} {i : Instr} (hret : meth.sig.returnType = some t) (hn : narrow t w = w)
    (hi : (i = .ireturn ∧ (t = .int ∨ t = .boolean ∨ t = .byte ∨ t = .char ∨ t = .short) ∧ ∃ z, w = .int z) ∨ (i = .lreturn ∧ t = .long ∧ ∃ z, w = .long z) ∨ (i = .dreturn ∧ t = .double ∧ ∃ z, w = .double z) ∨ (i = .freturn ∧ t = .float ∧ ∃ z, w = .float z) ∨ (i = .areturn ∧ t.isReference = true ∧ w.isRef = true))
    (hd : decode c.code pc = .ok (i, 1)) (hk : k ≤ k') (hn' : n ≤ n') (hQ : Q (some w) h) : OEnds p e below (GN Z s Q k' n') T (mkF m pc Ls (w :: rest)) := by
  obtain ⟨L, X, hF, hh, ⟨k0, hS0, hk0⟩, hZ, ho, hC, hO, hx⟩ := X
  obtain ⟨fs, hr, hrun, hended, hW, hsame⟩ := Stand.leave (s := s) X (v := some w) (fun q => by rw [hret] at q; cases q) hlk
  refine ⟨_, _, retOut X hx hret hn hi hd hr, hrun, hended, _, L, rfl, ⟨?_, hF, ?_⟩, ⟨_, rfl⟩, hW, hsame.mono hk hn'⟩
  · show Q _ T.heap; rw [hh]; exact hQ
  · show Ext _ T.heap; rw [hh]; exact hO
theorem OSt.retIntN (X : OSt p l e R s m args below meth c own Z [] s.vm T h k n) (hlk : meth.locks = false) {z : Int32} (hret : meth.sig.returnType = some .int) (hd : decode c.code pc = .ok (.ireturn, 1)) (hk : k ≤ k') (hn' : n ≤ n') (hQ : Q (some (.int z)) h) : OEnds p e below (GN Z s Q k' n') T (mkF m pc Ls (.int z :: rest)) :=
  X.retVN hlk hret rfl (Or.inl ⟨rfl, Or.inl rfl, z, rfl⟩) hd hk hn' hQ
theorem OSt.retBoolN (X : OSt p l e R s m args below meth c own Z [] s.vm T h k n) (hlk : meth.locks = false) {z : Int32} (hz : z = 0 ∨ z = 1) (hret : meth.sig.returnType = some .boolean) (hd : decode c.code pc = .ok (.ireturn, 1)) (hk : k ≤ k') (hn' : n ≤ n') (hQ : Q (some (.int z)) h) : OEnds p e below (GN Z s Q k' n') T (mkF m pc Ls (.int z :: rest)) :=
  X.retVN hlk hret (by rcases hz with rfl | rfl <;> rfl) (Or.inl ⟨rfl, Or.inr (Or.inl rfl), z, rfl⟩) hd hk hn' hQ
theorem OSt.retRefN (X : OSt p l e R s m args below meth c own Z [] s.vm T h k n) (hlk : meth.locks = false) {w : Value} (hw : w.isRef = true) {t : FieldType} (ht : t.isReference = true) (hret : meth.sig.returnType = some t) (hd : decode c.code pc = .ok (.areturn, 1)) (hk : k ≤ k') (hn' : n ≤ n') (hQ : Q (some w) h) : OEnds p e below (GN Z s Q k' n') T (mkF m pc Ls (w :: rest)) :=
  X.retVN hlk hret (narrow_obj ht) (Or.inr (Or.inr (Or.inr (Or.inr ⟨rfl, ht, hw⟩)))) hd hk hn' hQ
theorem OSt.ret0N (X : OSt p l e R s m args below meth c own Z [] s.vm T h k n) (hlk : meth.locks = false) (hret : meth.sig.returnType = none) (hd : decode c.code pc = .ok (.return_, 1)) (hk : k ≤ k') (hn' : n ≤ n') (hQ : Q none h) : OEnds p e below (GN Z s Q k' n') T (mkF m pc Ls []) := by
  obtain ⟨L, X, hF, hh, ⟨k0, hS0, hk0⟩, hZ, ho, hC, hO, hx⟩ := X
  obtain ⟨fs, hr, hrun, hended, hW, hsame⟩ := Stand.leave (s := s) X (v := none) (fun _ => rfl) hlk
  refine ⟨_, _, X.returnOut hx hret hd hr, hrun, hended, _, L, rfl, ⟨?_, hF, ?_⟩, ⟨_, rfl⟩, hW, hsame.mono hk hn'⟩
  · show Q _ T.heap; rw [hh]; exact hQ
  · show Ext _ T.heap; rw [hh]; exact hO
def ConN (l : Launch) (Z : State) (y : MethodName) (bytes : ByteArray) (maxL : Nat) (ret : Option FieldType) (ws : List Cond) (rm : Room) (as' : Array Value) (h : Heap) (Q : Option Value → Heap → Prop) : Prop := Ext Z.heap h →
  MetFree l y (head1 (Cond.code y bytes maxL ret :: ws) rm) (fun a U => a = as' ∧ Z.Warmed39 U.vm ∧ U.heap = h) (fun _ _ _ _ _ => True) (fun _ U o U' => ∃ v L, o = .returned v ∧ (Q v U'.heap ∧ Fr Z.heap.size L ∧ Ext Z.heap U'.heap) ∧ FrameEnd U o U' L rm.cells rm.slots)
theorem ConN.of (hy : plainFor y = true) (body : ∀ (p : Program) (e : Env) (s : State) (m : MethodId) (below : List Frame) (meth : Method) (c : Code) (T : State), c.code = bytes → c.maxLocals = maxL → meth.sig.returnType = ret → meth.locks = false → meth.name = y.name → OSt p l e rm s m as' below meth c y.cls Z [] s.vm T h 0 0 → OEnds p e below (GN Z s Q rm.cells rm.slots) T (entryFrame m as' maxL)) :
    ConN l Z y bytes maxL ret ws rm as' h Q := by
  intro hO
  refine MetFree.of_bodySF hy hisR ?_
  intro p e s m args below meth c s₁ Bd hml hP _
  obtain ⟨rfl, hZ, hh⟩ := hP
  have e0 : s₁.heap = h := by rw [← hh, Bd.state]; rfl
  have X0 : Stand p l e rm s m args below meth c s₁ [] 0 0 := Stand.of_body Bd
  have hown : s.vm.findClass y.cls = some m.cls := findClass_of_methodNamed Bd.named
  obtain ⟨s₂, o, h1, h2, h3, v, L, rfl, h4, h5⟩ := body p e s m below meth c s₁ Bd.bytes hml Bd.returns Bd.notSynchronized (name_of_methodNamed Bd.named Bd.method).1
    ⟨[], X0, Fr.nil _, e0, ⟨_, (State.WarmedH.refl s).since 0, Nat.zero_le _⟩, hZ, hown, by rw [hh]; exact chr_nil (Nat.le_refl _), hO, Bd.exec⟩
  exact ⟨s₂, _, h1, h2, h3, v, L, rfl, h4, h5⟩
theorem ConN.back {W len : Nat} (K : ConN l Z y bytes maxL ret [] rm as' h Q) (hO : Ext Z.heap h) (hZ : Z.Warmed39 vm0) (wc : (Cond.code y bytes maxL ret).before a0 Z = true) (wz : (Cond.initialized y.cls).before a0 Z = true) (hf : rm.frames + 1 ≤ R.frames) (hl : W + (maxL + 11) + rm.locals ≤ R.locals) :
    Back l R p e below (s.setVm vm0) args y len W (PreB R as' h rm.cells rm.slots) (PostB (fun v h' L => Q v h' ∧ Fr Z.heap.size L ∧ Ext Z.heap h') rm.cells rm.slots) :=
  backOf (Q := fun v h' L => Q v h' ∧ Fr Z.heap.size L ∧ Ext Z.heap h') (K hO) hZ wc wz hf hl
theorem okN (hq : ∀ v h', Q v h' → h.size ≤ h'.size) : OkB Z [] vm0 h (fun v h' L => Q v h' ∧ Fr Z.heap.size L ∧ Ext Z.heap h') := fun v h' L r => ⟨r.2.1, r.2.2, chr_nil (hq v h' r.1)⟩
end Narrow
end Jvm.Own
namespace Jvm.Own
open Sem ClassFile Op Lib Bundle Jvm.Stand Jvm.Free Jvm.LawKit Jvm.RoadKit
section More
variable {p : Program} {l : Launch} {e : Env} {R : Room} {s : State} {m : MethodId} {args : Array Value} {below : List Frame} {meth : Method} {c : Code} {own : String} {Z : State} {a0 : Array Value} {EL : List (String × Nat)} {vm0 : Vm} {T : State} {h : Heap} {k n : Nat} {G : Outcome → State → Prop} {pc : Nat} {Ls : Array Slot} {rest : List Value}
theorem OSt.instNull (X : OSt p l e R s m args below meth c own Z EL vm0 T h k n) {index : Nat} (hd : decode c.code pc = .ok (.instanceof index, 3)) (q : OEnds p e below G T (mkF m (pc + 3) Ls (.int 0 :: rest))) : OEnds p e below G T (mkF m pc Ls (.null :: rest)) := by
  obtain ⟨L, X, hF, hh, hS, hZ, ho, hC, hO, hx⟩ := X
  exact q.go fun t => X.instanceofNull hx (g := mkF m pc Ls (.null :: rest)) rfl rfl hd t
theorem nsRoot {O K : String} {j : Nat} (wr : (Cond.noSuperclass O).before a0 Z = true) (wi : (Cond.instantiable K j).before a0 Z = true) (hn : O ≠ K) : NS Z O K := by
  obtain ⟨t, k', g0, -⟩ := Cond.instantiable_spec wi
  obtain ⟨cO, kO, o1, o2, o3, -, -⟩ := Cond.noSuperclass_spec wr
  have ne := ids_ne o1 g0 hn
  refine ⟨cO, t, o1, g0, fun fuel => ?_⟩
  cases fuel with
  | zero => rfl
  | succ f => simp [Vm.isSubclassAux, ne, o2, o3]
/-- an object of the class C isn't one of the class K, which can be made -/
theorem nsNo {C S K : String} {j : Nat} (w : (Cond.superclass C S).before a0 Z = true) (wi : (Cond.instantiable K j).before a0 Z = true) (n : NS Z C K) (hn : C ≠ K) : ∃ c t, Z.vm.findClass C = some c ∧ Z.vm.findClass K = some t ∧ Z.vm.assignable c t = false := by
  obtain ⟨c, t, h0, g0, n3⟩ := n
  obtain ⟨t', k', g0', g2, g5, g7, -, -⟩ := Cond.instantiable_spec wi
  cases g0.symm.trans g0'
  obtain ⟨p, k, kp, h1, h2, h3, h4, h5, -, h7⟩ := Cond.superclass_spec h0 w
  have ne := ids_ne h0 g0 hn
  have g8 : k'.isInterface = false := (Bool.or_eq_false_iff.mp g7).1
  refine ⟨c, t, h0, g0, ?_⟩
  show Z.vm.assignableAux (255 + 1) c t = false
  simp [Vm.assignableAux, ne, h2, g2, h5, g5, g8, Vm.isSubclass, n3]
end More
end Jvm.Own
namespace Jvm.Own
open Sem ClassFile Op Lib Bundle Jvm.Stand Jvm.Free Jvm.LawKit Jvm.RoadKit
section Small
variable {Z : State} {h h' : Heap} {EL : List (String × Nat)} {vm : Vm}
theorem own_irem {tb : Tables} [Ours tb] {e : Env} {below : List Frame} {T target : State} {m : MethodId} {c : Code} {g : JFrame} (h : At T m c below) (hx : tb.exec = Jvm.exec) (hg : g.method = m) {x y : Int32} {rest : List Value} (hd : decode c.code g.pc = .ok (.irem, 1)) (hs : g.stack = .int y :: .int x :: rest) (hy : y ≠ 0)
    (hr : Steps tb e below (T.setTop { g with pc := g.pc + 1, stack := .int (x % y) :: rest }) target) : Steps tb e below (T.setTop g) target := by
  have q : x - x / y * y = x % y := irem_eq_mod x y
  exact XS.irem h hx hg hd hs hy (by rw [q]; exact hr)
theorem own_lrem {tb : Tables} [Ours tb] {e : Env} {below : List Frame} {T target : State} {m : MethodId} {c : Code} {g : JFrame} (h : At T m c below) (hx : tb.exec = Jvm.exec) (hg : g.method = m) {x y : Int64} {rest : List Value} (hd : decode c.code g.pc = .ok (.lrem, 1)) (hs : g.stack = .long y :: .long x :: rest) (hy : y ≠ 0)
    (hr : Steps tb e below (T.setTop { g with pc := g.pc + 1, stack := .long (x % y) :: rest }) target) : Steps tb e below (T.setTop g) target := by
  have q : x - (x / y) * y = x % y := lrem_mod x y
  exact XS.lrem h hx hg hd hs hy (by rw [q]; exact hr)
theorem own_acneY {x y : Value} (h1 : x.isRef = true) (h2 : y.isRef = true) (q : decide (x = y) = false) : XT.acmp .ne x y = true := by simpa [XT.acmp] using q
theorem own_acneN {x y : Value} (h1 : x.isRef = true) (h2 : y.isRef = true) (q : decide (x = y) = true) : XT.acmp .ne x y = false := by simpa [XT.acmp] using q
theorem own_aceqY {x y : Value} (h1 : x.isRef = true) (h2 : y.isRef = true) (q : decide (x = y) = true) : XT.acmp .eq x y = true := by simpa [XT.acmp] using q
theorem own_aceqN {x y : Value} (h1 : x.isRef = true) (h2 : y.isRef = true) (q : decide (x = y) = false) : XT.acmp .eq x y = false := by simpa [XT.acmp] using q
theorem own_cat {v : Value} (h : v.isRef = true) : v.category = 1 := by rcases ref_cases h with rfl | ⟨_, rfl⟩ <;> rfl
theorem own_fits {t : FieldType} {v : Value} (h1 : t.isReference = true) (h2 : v.isRef = true) : fits t v = true := by
  rcases ref_cases h2 with rfl | ⟨a, rfl⟩ <;> cases t <;> first | rfl | cases h1
abbrev lo8 (c : Int32) : Int32 := c.toInt8.toInt32
/-- the object x is a String that spells cs, each from 0 to 255 -/
def OStr (Z : State) (h : Heap) (x : Addr) (cs : List Int32) : Prop := Exa Z h x "java/lang/String" ∧ Fld Z h x "java/lang/String" "coder" "B" (.int 0) ∧ (∃ (t : Addr) (kb : ClassId), Fld Z h x "java/lang/String" "value" "[B" (.ref t) ∧ Arv Z h t kb .byte (Int32.ofNat cs.length) ((cs.map lo8).map Value.int) (.int 0)) ∧ (∀ c ∈ cs, ¬ c < 0 ∧ ¬ (255 : Int32) < c) ∧ cs.length ≤ 4000
theorem OStr.ext {x : Addr} {cs : List Int32} (F : OStr Z h x cs) (E : Ext h h') : OStr Z h' x cs := by
  obtain ⟨h1, h2, ⟨t, kb, h3, h4⟩, r⟩ := F; exact ⟨h1.ext E, h2.ext E, ⟨t, kb, h3.ext E, h4.ext E⟩, r⟩
theorem OStr.keepX {x a : Addr} {cs : List Int32} {C : String} {j : Nat} {a0 : Array Value} (F : OStr Z h x cs) (K : Keep h h' [a]) (E : Exa Z h a C) (wi : (Cond.instantiable C j).before a0 Z = true) (hc : "java/lang/String" ≠ C) : OStr Z h' x cs := by
  obtain ⟨h1, h2, ⟨t, kb, h3, h4⟩, r⟩ := F
  have n1 : x ≠ a := Exa.ne h1 E hc
  have n2 : t ≠ a := fun q => Exa.neArv E h4 wi q.symm
  exact ⟨h1.keep K, h2.keep K (ninS n1 nin0), ⟨t, kb, h3.keep K (ninS n1 nin0), h4.keep K (ninS n2 nin0)⟩, r⟩
theorem OStr.exa {x : Addr} {cs : List Int32} (F : OStr Z h x cs) : Exa Z h x "java/lang/String" := F.1
theorem OStr.lt {x : Addr} {cs : List Int32} (F : OStr Z h x cs) : x < h.size := F.1.lt
theorem all_nil {P : Int32 → Prop} : ∀ c ∈ ([] : List Int32), P c := fun _ q => nomatch q
theorem all_cons {P : Int32 → Prop} {c : Int32} {cs : List Int32} (h1 : P c) (h2 : ∀ c ∈ cs, P c) : ∀ x ∈ c :: cs, P x := fun x q => (List.mem_cons.mp q).elim (fun u => u ▸ h1) (h2 x)
theorem up255 {c : Int32} (h : ¬ c < 0 ∧ ¬ (255 : Int32) < c) : ¬ c < 0 ∧ ¬ (65535 : Int32) < c := by
  have r : (0 : Int32).toInt = 0 := rfl
  have r1 : (255 : Int32).toInt = 255 := rfl
  have r2 : (65535 : Int32).toInt = 65535 := rfl
  simp only [Int32.lt_iff_toInt_lt, r, r1, r2] at h ⊢; omega
theorem and255 (x : Int32) : ¬ (x &&& 255) < 0 ∧ ¬ (255 : Int32) < (x &&& 255) := by
  have q := c_and x 255 (by decide)
  have r : (0 : Int32).toInt = 0 := rfl
  have r1 : (255 : Int32).toInt = 255 := rfl
  simp only [Int32.lt_iff_toInt_lt, r, r1] at q ⊢; omega
theorem ch255 (x : Int32) : ¬ ((x &&& 255).toUInt32.toUInt16.toUInt32.toInt32) < 0 ∧ ¬ (255 : Int32) < ((x &&& 255).toUInt32.toUInt16.toUInt32.toInt32) := by
  rw [i2c_mask]; exact and255 x
/-- a String that has only been made holds no array: no constant is booked at it -/
theorem safe_blank {x : Addr} (hal : Z.vm.Alike vm) (E : Exa Z h x "java/lang/String") (V : Fld Z h x "java/lang/String" "value" "[B" .null) : Safe Z EL vm h x := fun B => by
  obtain ⟨cell, kk, e1, e2, e3, -, -⟩ := E
  obtain ⟨cell', cf, kx, i, f, v1, v2, -, -, -, -, v7⟩ := V
  cases e1.symm.trans v1
  obtain ⟨p, -, u, a, -, q, -, F, hy⟩ := B
  rcases hy with rfl | rfl
  · cases (show h[q.sa]? = some q.sC from F.ha).symm.trans e1
    obtain ⟨cS, ⟨⟨-, -, -, ⟨c1, k1, i1, f1, -⟩, -, -, -, w1, -⟩, -⟩, -⟩ := F
    obtain ⟨k3, e4⟩ := ff_back (U := Wst Z vm h) hal f1
    cases e4.symm.trans v2
    have := w1.symm.trans v7
    cases this
  · cases (show h[q.sd]? = some q.SA from F.hd).symm.trans e1
    obtain ⟨cS, -, -, f4, -⟩ := F
    have f5 : vm.findClass "[B" = some q.SA.cls := f4
    rw [hal.findClass] at f5
    obtain ⟨k5, q5, q6⟩ := Vm.findClass_spec f5
    obtain ⟨k6, q7, q8⟩ := Vm.findClass_spec e2
    cases q5.symm.trans q7
    exact absurd (q6.symm.trans q8) (by decide)
end Small
end Jvm.Own
namespace Jvm.Own
open Sem ClassFile Op Lib Bundle Jvm.Stand Jvm.Free Jvm.LawKit Jvm.RoadKit
section Copy
variable {p : Program} {l : Launch} {e : Env} {R : Room} {s : State} {m : MethodId} {args : Array Value} {below : List Frame} {meth : Method} {c : Code} {own : String} {Z : State} {a0 : Array Value} {EL : List (String × Nat)} {vm0 : Vm} {T : State} {h : Heap} {k n : Nat} {G : Outcome → State → Prop} {pc : Nat} {Ls : Array Slot} {rest : List Value}
/-- System.arraycopy between two byte arrays -/
theorem OSt.cpB (X : OSt p l e R s m args below meth c own Z EL vm0 T h k n) {index : Nat} (w1 : (Cond.methodLink own index Jvm.Stand.acN).before a0 Z = true) (w2 : (Cond.native Jvm.Stand.acN).before a0 Z = true) (w3 : (Cond.static Jvm.Stand.acN).before a0 Z = true) (w4 : (Cond.initialized "java/lang/System").before a0 Z = true)
    {a b : Addr} {ka kb : ClassId} {z z' sp dp nn : Int32} {vs vd us : List Value} {dv dd : Value} (A : Arv Z h a ka .byte z vs dv) (B : Arv Z h b kb .byte z' vd dd) (h1 : ¬ sp < 0) (h2 : ¬ dp < 0) (h3 : ¬ nn < 0) (h4 : sp.toNatClampNeg + nn.toNatClampNeg ≤ z.toNatClampNeg) (h5 : dp.toNatClampNeg + nn.toNatClampNeg ≤ z'.toNatClampNeg)
    (hus : us = (List.range nn.toNatClampNeg).map fun i => vs.getD (sp.toNatClampNeg + i) dv) (hl : dp.toNatClampNeg + nn.toNatClampNeg ≤ vd.length) (hSf : Safe Z EL vm0 h b) (ge : Z.heap.size ≤ b) (hsize : Ls.size = c.maxLocals) (hd : decode c.code pc = .ok (.invokestatic index, 3))
    (hf : 1 ≤ R.frames) {W : Nat} (hW : (rest.map fun v => v.category).sum ≤ W) (hlo : W + (nativeFrameWords "java/lang/System" "arraycopy" 5 + 11) ≤ R.locals)
    (q : ∀ T' h', OSt p l e R s m args below meth c own Z EL vm0 T' h' k n → Keep h h' [b] → Arv Z h' b kb .byte z' (vd.take dp.toNatClampNeg ++ us ++ vd.drop (dp.toNatClampNeg + nn.toNatClampNeg)) dd → OEnds p e below G T' (mkF m (pc + 3) Ls rest)) : OEnds p e below G T (mkF m pc Ls (.int nn :: .int dp :: .ref b :: .int sp :: .ref a :: rest)) := by
  obtain ⟨L, X, hF, hh, ⟨k0, hS0, hk0⟩, hZ, ho, hC, hO, hx⟩ := X
  obtain ⟨T', h', L', X', e', F', K, B', st⟩ := RoadKit.cpA X hx hZ ho w1 w2 w3 w4 hh A B (Or.inl ⟨rfl, rfl⟩) h1 h2 h3 h4 h5 hus hl hF ge (g := mkF m pc Ls (.int nn :: .int dp :: .ref b :: .int sp :: .ref a :: rest)) rfl hsize rfl hd hf (W := W) (by show 2 * 0 + _ ≤ _; rw [Nat.mul_zero, Nat.zero_add]; exact hW) hlo
  exact (q T' h' ⟨L', X', F', e', ⟨k0, hS0, Nat.le_trans hk0 K.1⟩, hZ, ho, hC.trans (CHr.keep K (fun x hx => by cases List.mem_singleton.mp hx; exact hSf) hC.1), ext_keep hO K (allS ge all0), hx⟩ K B').go st
end Copy
end Jvm.Own
namespace Jvm.Own
open Sem ClassFile Op Lib Bundle Jvm.Stand Jvm.Free Jvm.LawKit Jvm.RoadKit
theorem ofN {n : Nat} (h : n < 2147483648) : (Int32.ofNat n).toInt = n := Int32.toInt_ofNat_small h
theorem ofN_lt {a b : Nat} (ha : a < 2147483648) (hb : b < 2147483648) : Int32.ofNat a < Int32.ofNat b ↔ a < b := by
  rw [Int32.lt_iff_toInt_lt, ofN ha, ofN hb]; omega
theorem ofN_eq {a b : Nat} (ha : a < 2147483648) (hb : b < 2147483648) : Int32.ofNat a = Int32.ofNat b ↔ a = b := by
  rw [← Int32.toInt_inj, ofN ha, ofN hb]; omega
theorem ofN_neg {a : Nat} (ha : a < 2147483648) : ¬ Int32.ofNat a < 0 := by
  rw [Int32.lt_iff_toInt_lt, ofN ha]; have : (0 : Int32).toInt = 0 := rfl
  omega
theorem ofN_nat {a : Nat} (ha : a < 2147483648) : (Int32.ofNat a).toNatClampNeg = a := by
  rw [Int32.toNatClampNeg, ofN ha]; omega
theorem ofN_sub {a b : Nat} (ha : a < 2147483648) (h : b ≤ a) : Int32.ofNat a - Int32.ofNat b = Int32.ofNat (a - b) := by
  apply Int32.toInt_inj.mp
  have q := c_isub (Int32.ofNat a) (Int32.ofNat b)
  have r := rng32 (Int32.ofNat a - Int32.ofNat b)
  rw [ofN ha, ofN (by omega)] at q
  rw [ofN (by omega)]; omega
theorem ofN_add {a b : Nat} (h : a + b < 2147483648) : Int32.ofNat a + Int32.ofNat b = Int32.ofNat (a + b) := by
  apply Int32.toInt_inj.mp
  have q := c_iadd (Int32.ofNat a) (Int32.ofNat b)
  have r := rng32 (Int32.ofNat a + Int32.ofNat b)
  rw [ofN (by omega), ofN (by omega)] at q
  rw [ofN h]; omega
theorem ofN_of {x : Int32} (h : ¬ x < 0) : x = Int32.ofNat x.toNatClampNeg ∧ x.toNatClampNeg < 2147483648 := by
  have r := rng32 x
  have z : (0 : Int32).toInt = 0 := rfl
  rw [Int32.lt_iff_toInt_lt, z] at h
  have e : x.toNatClampNeg < 2147483648 := by rw [Int32.toNatClampNeg]; omega
  refine ⟨Int32.toInt_inj.mp ?_, e⟩
  rw [ofN e, Int32.toNatClampNeg]; omega
end Jvm.Own
namespace Jvm.Own
open Sem ClassFile Op Lib Bundle Jvm.Stand Jvm.Free Jvm.LawKit Jvm.RoadKit
section Again
variable {p : Program} {l : Launch} {e : Env} {R : Room} {s : State} {m : MethodId} {args : Array Value} {below : List Frame} {meth : Method} {c : Code} {own : String} {Z : State} {a0 : Array Value} {EL : List (String × Nat)} {vm0 vm1 : Vm} {T T' : State} {h h' : Heap} {k n : Nat} {G : Outcome → State → Prop} {pc : Nat} {Ls : Array Slot} {rest : List Value} {Q : Option Value → Heap → Prop}
  {y : MethodName} {bytes : ByteArray} {maxL : Nat} {ret : Option FieldType} {rm : Room} {as' : Array Value}
/-- the tables vm book the String a for the entry index of the class own -/
def LitV (Z : State) (own : String) (index : Nat) (a : Addr) (vm : Vm) : Prop := Lit (Z.setVm vm) own index a
theorem LitV.stays {index : Nat} {a : Addr} (L : LitV Z own index a vm0) (hW : (s.setVm vm0).Warmed39 vm1) : LitV Z own index a vm1 := Lit.stays (s := s) L hW
/-- ldc of a String constant whose text is read; and what the tables book -/
theorem OSt.ldcRL (X : OSt p l e R s m args below meth c own Z EL vm0 T h k n) (hE : EW Z a0 EL) {index : Nat} {text : String} (w : (Cond.stringLink own index text).before a0 Z = true) (wS : ∀ a ∈ Bundle.stringAtoms, a.before a0 Z = true) (hmem : (own, index) ∈ EL)
    {vs : List Value} {z : Int32} (ht : (∀ c ∈ text.toList, c.toNat < 256) ∧ text.toList.map (fun c => Value.int (Jvm.Lit.byteI c.toNat.toUInt16)) = vs) (hz : ¬ z < 0) (hl : z.toNatClampNeg = vs.length) (hd : decode c.code pc = .ok (.ldc index, 2)) {j : Nat} (hj : 4 * text.toList.length ≤ j) (hbig : j ≤ 536870912) (hc : k + 2 ≤ R.cells) (hl' : n + (j + 4) ≤ R.slots)
    (q : ∀ vm1 T' h' a b kb, OSt p l e R s m args below meth c own Z EL vm1 T' h' (k + 2) (n + (j + 4)) → Ext h h' → CHr Z EL vm0 h vm1 h' → Exa Z h' a "java/lang/String" → Fld Z h' a "java/lang/String" "coder" "B" (.int 0) → Fld Z h' a "java/lang/String" "value" "[B" (.ref b) → Arv Z h' b kb .byte z vs (.int 0) → LitV Z own index a vm1 → OEnds p e below G T' (mkF m (pc + 2) Ls (.ref a :: rest))) : OEnds p e below G T (mkF m pc Ls rest) := by
  obtain ⟨L, X, hF, hh, ⟨k0, hS0, hk0⟩, hZ, ho, hC, hO, hx⟩ := X
  obtain ⟨a, T', h', k1, b, kb, X', e', E, hS1, hk1, hZ1, ho1, E1, C1, V1, K1, -, -, hC1, hL, -, st⟩ := ldcCH X hx hZ ho w wS hh hS0 hk0 hE hmem hC.1 ht hz hl (g := mkF m pc Ls rest) rfl hd hj hbig hc hl'
  exact (q T'.vm T' h' a b kb ⟨_, X', hF, e', ⟨k1, hS1, hk1⟩, hZ1, ho1, hC.trans hC1, ext_trans hO E, hx⟩ E hC1 E1 C1 V1 K1 hL).go st
/-- ldc of a constant that the tables book -/
theorem OSt.ldcA (X : OSt p l e R s m args below meth c own Z EL vm0 T h k n) {index : Nat} {text : String} (w : (Cond.stringLink own index text).before a0 Z = true) {a : Addr} (L : LitV Z own index a vm0) (hd : decode c.code pc = .ok (.ldc index, 2)) (q : OEnds p e below G T (mkF m (pc + 2) Ls (.ref a :: rest))) : OEnds p e below G T (mkF m pc Ls rest) := by
  obtain ⟨_, X, hF, hh, hS, hZ, ho, hC, hO, hx⟩ := X
  exact q.go (ldcAgain (s := s) X hx hZ ho w (a := a) L (g := mkF m pc Ls rest) rfl hd)
/-- a contract under the narrow frame that asks the tables something -/
def ConNV (l : Launch) (Z : State) (y : MethodName) (bytes : ByteArray) (maxL : Nat) (ret : Option FieldType) (rm : Room) (as' : Array Value) (h : Heap) (V : Vm → Prop) (Q : Option Value → Heap → Prop) : Prop := Ext Z.heap h →
  MetFree l y (head1 [Cond.code y bytes maxL ret] rm) (fun a U => a = as' ∧ Z.Warmed39 U.vm ∧ U.heap = h ∧ V U.vm) (fun _ _ _ _ _ => True) (fun _ U o U' => ∃ v L, o = .returned v ∧ (Q v U'.heap ∧ Fr Z.heap.size L ∧ Ext Z.heap U'.heap) ∧ FrameEnd U o U' L rm.cells rm.slots)
theorem ConNV.of {V : Vm → Prop} (hy : plainFor y = true) (body : ∀ (p : Program) (e : Env) (s : State) (m : MethodId) (below : List Frame) (meth : Method) (c : Code) (T : State), c.code = bytes → c.maxLocals = maxL → meth.sig.returnType = ret → meth.locks = false → meth.name = y.name → OSt p l e rm s m as' below meth c y.cls Z [] s.vm T h 0 0 → V s.vm → OEnds p e below (GN Z s Q rm.cells rm.slots) T (entryFrame m as' maxL)) :
    ConNV l Z y bytes maxL ret rm as' h V Q := by
  intro hO
  refine MetFree.of_bodySF hy hisR ?_
  intro p e s m args below meth c s₁ Bd hml hP _
  obtain ⟨rfl, hZ, hh, hV⟩ := hP
  have e0 : s₁.heap = h := by rw [← hh, Bd.state]; rfl
  have X0 : Stand p l e rm s m args below meth c s₁ [] 0 0 := Stand.of_body Bd
  have hown : s.vm.findClass y.cls = some m.cls := findClass_of_methodNamed Bd.named
  obtain ⟨s₂, o, h1, h2, h3, v, L, rfl, h4, h5⟩ := body p e s m below meth c s₁ Bd.bytes hml Bd.returns Bd.notSynchronized (name_of_methodNamed Bd.named Bd.method).1
    ⟨[], X0, Fr.nil _, e0, ⟨_, (State.WarmedH.refl s).since 0, Nat.zero_le _⟩, hZ, hown, by rw [hh]; exact chr_nil (Nat.le_refl _), hO, Bd.exec⟩ hV
  exact ⟨s₂, _, h1, h2, h3, v, L, rfl, h4, h5⟩
theorem ConNV.back {V : Vm → Prop} {W len : Nat} (K : ConNV l Z y bytes maxL ret rm as' h V Q) (hO : Ext Z.heap h) (hZ : Z.Warmed39 vm0) (hV : ∀ vm', (s.setVm vm0).WarmedH vm' → V vm') (wc : (Cond.code y bytes maxL ret).before a0 Z = true) (wz : (Cond.initialized y.cls).before a0 Z = true) (hf : rm.frames + 1 ≤ R.frames) (hl : W + (maxL + 11) + rm.locals ≤ R.locals) :
    Back l R p e below (s.setVm vm0) args y len W (PreB R as' h rm.cells rm.slots) (PostB (fun v h' L => Q v h' ∧ Fr Z.heap.size L ∧ Ext Z.heap h') rm.cells rm.slots) :=
  Back.of_free (bytes := bytes) (maxL := maxL) (ret := ret) (E := fun _ _ o t L k n => k = rm.cells ∧ n = rm.slots ∧ ∃ v, o = .returned v ∧ (Q v t.heap ∧ Fr Z.heap.size L ∧ Ext Z.heap t.heap)) (K hO) hf hl
    (fun m meth c A a Y hp => have hU : Z.Warmed39 A.U.vm := wtrans (s := s.setVm vm0) hZ Y.warmed
      ⟨by show (Cond.and _ .tt).before a A.U = true; rw [Cond.before_and, mv hU wc]; rfl, mv hU wc, mv hU wz, hp.2.2.1, hp.2.2.2⟩)
    (fun m meth c A a g mk Y hp => ⟨hp.1, wtrans (s := s.setVm vm0) hZ Y.warmed, hp.2.1, hV _ Y.warmed⟩) (fun _ _ _ _ _ _ _ _ _ => trivial)
    (fun _ _ _ _ ⟨v, L, h1, h2, h3⟩ => ⟨L, _, _, h3, rfl, rfl, v, h1, h2⟩)
    (fun m meth c A a g mk v t L k n Y hp _ _ ⟨e1, e2, v', e3, e4⟩ => by cases e3; subst e1 e2; exact ⟨L, e4, rfl, rfl, rfl⟩)
/-- an answer that leaves the heap as it was -/
theorem okV {Q2 : Option Value → Prop} (X : OSt p l e R s m args below meth c own Z EL vm0 T h k n) : OkB Z EL vm0 h (fun v h' L => (Q2 v ∧ h = h') ∧ Fr Z.heap.size L ∧ Ext Z.heap h') := fun v h' L ⟨⟨_, e1⟩, r1, r2⟩ => by
  subst e1; exact ⟨r1, r2, CHr.refl X.chv⟩
/-- how a walk ends whose answer also speaks of the tables -/
def GWV (Z : State) (EL : List (String × Nat)) (s : State) (Q : Option Value → Heap → Vm → Prop) (k n : Nat) (o : Outcome) (u : State) : Prop :=
  ∃ v L, o = .returned v ∧ (Q v u.heap u.vm ∧ Fr Z.heap.size L ∧ Ext Z.heap u.heap) ∧ CHr Z EL s.vm s.heap u.vm u.heap ∧ ReturnedEndW s o u L k n
theorem OSt.retCharV {QV : Option Value → Heap → Vm → Prop} {k' n' : Nat} (X : OSt p l e R s m args below meth c own Z EL vm0 T h k n) (hE : EW Z a0 EL) (hlk : meth.locks = false) {z : Int32} (hz : ¬ z < 0 ∧ ¬ 65535 < z) (hret : meth.sig.returnType = some .char) (hd : decode c.code pc = .ok (.ireturn, 1)) (hk : k ≤ k') (hn' : n ≤ n') (hQ : ∀ vm', (s.setVm vm0).Warmed39 vm' → QV (some (.int z)) h vm') : OEnds p e below (GWV Z EL s QV k' n') T (mkF m pc Ls (.int z :: rest)) := by
  obtain ⟨L, X, hF, hh, ⟨k0, hS0, hk0⟩, hZ, ho, hC, hO, hx⟩ := X
  have hA := CHv.at X hZ hE hC.1
  obtain ⟨fs, hr, hrun, hended, hend⟩ := X.leaveW hS0 (by rw [hh]; exact hk0) (v := some (.int z)) (fun q => by rw [hret] at q; cases q) hlk
  refine ⟨_, _, retOut X hx hret (by show Value.int z.toUInt32.toUInt16.toUInt32.toInt32 = _; rw [i2c_id hz.1 hz.2]) (Or.inl ⟨rfl, Or.inr (Or.inr (Or.inr (Or.inl rfl))), z, rfl⟩) hd hr, hrun, hended, _, L, rfl, ⟨?_, hF, ?_⟩, ?_, rew_mono hend hk hn'⟩
  · show QV _ T.heap T.vm; rw [hh]; exact hQ _ X.warmed.wide
  · show Ext _ T.heap; rw [hh]; exact hO
  · show CHr Z EL s.vm s.heap T.vm T.heap; rw [hh]; exact hC.trans hA
def ConW (l : Launch) (Z : State) (EL : List (String × Nat)) (y : MethodName) (bytes : ByteArray) (maxL : Nat) (ret : Option FieldType) (rm : Room) (as' : Array Value) (h : Heap) (Q : Option Value → Heap → Vm → Prop) : Prop := Ext Z.heap h →
  MetFree l y (head1 [Cond.code y bytes maxL ret] rm) (fun a U => a = as' ∧ Z.Warmed39 U.vm ∧ U.heap = h ∧ CHv Z EL U.vm h) (fun _ _ _ _ _ => True) (fun _ U o U' => ∃ v L, o = .returned v ∧ (Q v U'.heap U'.vm ∧ Fr Z.heap.size L ∧ Ext Z.heap U'.heap) ∧ CHr Z EL U.vm U.heap U'.vm U'.heap ∧ ReturnedEndW U o U' L rm.cells rm.slots)
theorem ConW.of {QV : Option Value → Heap → Vm → Prop} (hy : plainFor y = true) (body : ∀ (p : Program) (e : Env) (s : State) (m : MethodId) (below : List Frame) (meth : Method) (c : Code) (T : State), c.code = bytes → c.maxLocals = maxL → meth.sig.returnType = ret → meth.locks = false → meth.name = y.name → OSt p l e rm s m as' below meth c y.cls Z EL s.vm T h 0 0 → OEnds p e below (GWV Z EL s QV rm.cells rm.slots) T (entryFrame m as' maxL)) :
    ConW l Z EL y bytes maxL ret rm as' h QV := by
  intro hO
  refine MetFree.of_bodySF hy hisR ?_
  intro p e s m args below meth c s₁ Bd hml hP _
  obtain ⟨rfl, hZ, hh, hC⟩ := hP
  have e0 : s₁.heap = h := by rw [← hh, Bd.state]; rfl
  have X0 : Stand p l e rm s m args below meth c s₁ [] 0 0 := Stand.of_body Bd
  have hown : s.vm.findClass y.cls = some m.cls := findClass_of_methodNamed Bd.named
  obtain ⟨s₂, o, h1, h2, h3, v, L, rfl, h4, h5, h6⟩ := body p e s m below meth c s₁ Bd.bytes hml Bd.returns Bd.notSynchronized (name_of_methodNamed Bd.named Bd.method).1
    ⟨[], X0, Fr.nil _, e0, ⟨_, (State.WarmedH.refl s).since 0, Nat.zero_le _⟩, hZ, hown, by rw [hh]; exact CHr.refl hC, hO, Bd.exec⟩
  exact ⟨s₂, _, h1, h2, h3, v, L, rfl, h4, h5, h6⟩
theorem OSt.callSW {QV : Option Value → Heap → Vm → Prop} (X : OSt p l e R s m args below meth c own Z EL vm0 T h k n) (hE : EW Z a0 EL) (K : ConW l Z EL y bytes maxL ret rm as' h QV) {index : Nat} (w1 : (Cond.methodLink own index y).before a0 Z = true) (w2 : (Cond.static y).before a0 Z = true) (wz : (Cond.initialized y.cls).before a0 Z = true) (wc : (Cond.code y bytes maxL ret).before a0 Z = true)
    (hy : y.cls ≠ "java/lang/invoke/MethodHandle" ∧ y.cls ≠ "java/lang/invoke/VarHandle") {W : Nat} (hf : rm.frames + 1 ≤ R.frames) (hl : W + (maxL + 11) + rm.locals ≤ R.locals) {argsL stack : List Value} (ha : argsL.toArray = as') (hlen : ∀ sig, parseMethodDescriptor y.desc = some sig → argsL.length = sig.parameters.length) (hst : stack = argsL.reverse ++ rest) (hsize : Ls.size = c.maxLocals) (hW : (rest.map fun v => v.category).sum ≤ W)
    (hd : decode c.code pc = .ok (.invokestatic index, 3)) (hk : k + rm.cells ≤ R.cells) (hn : n + rm.slots ≤ R.slots)
    (q : ∀ v vm1 T' h', OSt p l e R s m args below meth c own Z EL vm1 T' h' (k + rm.cells) (n + rm.slots) → CHr Z EL vm0 h vm1 h' → QV v h' vm1 → OEnds p e below G T' (mkF m (pc + 3) Ls (v.toList ++ rest))) : OEnds p e below G T (mkF m pc Ls stack) := by
  have X1 := X
  obtain ⟨L, X, hF, hh, ⟨k0, hS0, hk0⟩, hZ, ho, hC, hO, hx⟩ := X
  have B : BackS l R p e below (s.setVm vm0) args y 3 W (PreB R as' h rm.cells rm.slots) (fun A _ v B => ∃ L, (QV v B.U.heap B.U.vm ∧ Fr Z.heap.size L ∧ Ext Z.heap B.U.heap) ∧ B.locs = A.locs ++ L ∧ B.cells = A.cells + rm.cells ∧ B.slots = A.slots + rm.slots ∧ CHr Z EL vm0 h B.U.vm B.U.heap) :=
    BackS.of_freeW (bytes := bytes) (maxL := maxL) (ret := ret) (E := fun _ first o t L k n => k = rm.cells ∧ n = rm.slots ∧ (∃ v, o = .returned v ∧ (QV v t.heap t.vm ∧ Fr Z.heap.size L ∧ Ext Z.heap t.heap)) ∧ CHr Z EL first.vm first.heap t.vm t.heap) (K hO) hf hl
      (fun m meth c A a Y hp => have hU : Z.Warmed39 A.U.vm := wtrans (s := s.setVm vm0) hZ Y.warmed
        ⟨by show (Cond.and _ .tt).before a A.U = true; rw [Cond.before_and, mv hU wc]; rfl, mv hU wc, mv hU wz, hp.2.2.1, hp.2.2.2⟩)
      (fun m meth c A a g mk Y hp => ⟨hp.1, wtrans (s := s.setVm vm0) hZ Y.warmed, hp.2.1, (CHv.at Y hZ hE hC.1).1⟩) (fun _ _ _ _ _ _ _ _ _ => trivial)
      (fun _ _ _ _ ⟨v, L, h1, h2, h3, h4⟩ => ⟨L, _, _, h4, rfl, rfl, ⟨v, h1, h2⟩, h3⟩)
      (fun m meth c A a g mk v t L k n Y hp _ _ ⟨e1, e2, ⟨v', e3, e4⟩, e5⟩ => by
        cases e3; subst e1 e2
        refine ⟨L, e4, rfl, rfl, rfl, (CHv.at Y hZ hE hC.1).trans ?_⟩
        rw [← hp.2.1]; exact e5)
  obtain ⟨v, vmx, B, -, X', hS, hgr, ⟨L', ⟨hq, hF', hO'⟩, e1, e2, e3, hC'⟩, st⟩ := callSS X hx ho (mvT (s := s.setVm vm0) hZ w1) (mvT (s := s.setVm vm0) hZ w2) (mvT (s := s.setVm vm0) hZ wz) (mvT (s := s.setVm vm0) hZ wc) hy B (g := mkF m pc Ls stack) rfl hsize (argsL := argsL) (rest := rest) hlen hst (by show 2 * 0 + _ ≤ _; rw [Nat.mul_zero, Nat.zero_add]; exact hW) hd (fun _ _ => ⟨ha, hh, hk, hn⟩)
  exact (q v _ _ _ (X1.behindS (v := v) hF X' hS hgr hF' hO' e1 e2 e3 hC') hC' hq).tr st
theorem OSt.retCharN {k' n' : Nat} (X : OSt p l e R s m args below meth c own Z [] s.vm T h k n) (hlk : meth.locks = false) {z : Int32} (hz : ¬ z < 0 ∧ ¬ 65535 < z) (hret : meth.sig.returnType = some .char) (hd : decode c.code pc = .ok (.ireturn, 1)) (hk : k ≤ k') (hn' : n ≤ n') (hQ : Q (some (.int z)) h) : OEnds p e below (GN Z s Q k' n') T (mkF m pc Ls (.int z :: rest)) :=
  X.retVN hlk hret (by show Value.int z.toUInt32.toUInt16.toUInt32.toInt32 = _; rw [i2c_id hz.1 hz.2]) (Or.inl ⟨rfl, Or.inr (Or.inr (Or.inr (Or.inl rfl))), z, rfl⟩) hd hk hn' hQ
theorem OSt.retByteN {k' n' : Nat} (X : OSt p l e R s m args below meth c own Z [] s.vm T h k n) (hlk : meth.locks = false) {z : Int32} (hz : z.toInt8.toInt32 = z) (hret : meth.sig.returnType = some .byte) (hd : decode c.code pc = .ok (.ireturn, 1)) (hk : k ≤ k') (hn' : n ≤ n') (hQ : Q (some (.int z)) h) : OEnds p e below (GN Z s Q k' n') T (mkF m pc Ls (.int z :: rest)) :=
  X.retVN hlk hret (by show Value.int z.toInt8.toInt32 = _; rw [hz]) (Or.inl ⟨rfl, Or.inr (Or.inr (Or.inl rfl)), z, rfl⟩) hd hk hn' hQ
end Again
end Jvm.Own
namespace Jvm.Own
open Sem ClassFile Op Lib Bundle Jvm.Stand Jvm.Free Jvm.LawKit Jvm.RoadKit
section Six
variable {p : Program} {l : Launch} {e : Env} {R : Room} {s : State} {m : MethodId} {args : Array Value} {below : List Frame} {meth : Method} {c : Code} {own : String} {Z : State} {a0 : Array Value} {EL : List (String × Nat)} {vm0 vm1 : Vm} {T T' : State} {h h' : Heap} {k n : Nat} {G : Outcome → State → Prop} {pc : Nat} {Ls : Array Slot} {rest : List Value} {Q3 : Option Value → Heap → List Loc → Prop} {kc ns : Nat}
  {y z : MethodName} {bytes : ByteArray} {maxL : Nat} {ret : Option FieldType} {rm : Room} {as' : Array Value} {C : String}
theorem decl_of (wi : (Cond.instanceMethod y).before a0 Z = true) (wc : (Cond.code y bytes maxL ret).before a0 Z = true) : (Cond.declares y).before a0 Z = true := by
  obtain ⟨mk, methM, hnamed, hmethM, hstM, habM⟩ := Cond.instanceMethod_spec wi
  obtain ⟨m2, cM, q1, -, -, -, -, -, -, hsig⟩ := Cond.code_spec hnamed wc
  cases hmethM.symm.trans q1
  simp [Cond.before, Cond.holds, Cond.value, hnamed, hmethM, hstM, hsig]
theorem nf_of (ws : (Cond.selects C z z).before a0 Z = true) (hc : y.cls = z.cls) : NotFace Z y := fun r0 h0 => by
  obtain ⟨c2, r2, m2, q1, q2, q3, q4, kP, hkP, hkPi⟩ := Cond.selects_spec ws
  have f1 := findClass_of_methodNamed h0
  have f2 := findClass_of_methodNamed q3
  rw [hc] at f1
  have f3 : r0.cls = m2.cls := Option.some.inj (f1.symm.trans f2)
  rw [f3]; exact ⟨kP, hkP, hkPi⟩
theorem OSt.nf2 (X : OSt p l e R s m args below meth c own Z EL vm0 T h k n) (w : (Cond.selects C z z).before a0 Z = true) (hc : y.cls = z.cls) : NotFace (s.setVm vm0) y := nf_of (a0 := #[]) (mvT (s := s.setVm vm0) X.hZ w) hc
theorem same_of (wd : (Cond.declares y).before a0 Z = true) (ws : (Cond.selects C z z).before a0 Z = true) (hc : y.cls = z.cls) (hy : y.cls ≠ "java/lang/invoke/MethodHandle" ∧ y.cls ≠ "java/lang/invoke/VarHandle") : (Cond.sameMethod y.cls y.cls y.name y.desc).before a0 Z = true := by
  obtain ⟨mk, meth, hnamed, hmeth, -, -⟩ := Cond.declares_spec wd
  have hf := State.methodFound?_of_named hnamed hy
  obtain ⟨kk, hk, hki⟩ := nf_of ws hc mk hnamed
  have hfc := findClass_of_methodNamed hnamed
  have hn : Z.methodNamed? ⟨y.cls, y.name, y.desc⟩ = some mk := hnamed
  simp [Cond.before, Cond.holds, Cond.value, hfc, hf, hn, hk, hki]
/-- super.name(..) -/
theorem OSt.paySup (X : OSt p l e R s m args below meth c own Z EL vm0 T h k n) {W : Nat} (K : Back l R p e below (s.setVm vm0) args y 3 W (PreB R as' h kc ns) (PostB Q3 kc ns)) (hK : OkB Z EL vm0 h Q3) {index : Nat} (w1 : (Cond.methodLink own index y).before a0 Z = true) (w2 : (Cond.sameMethod y.cls y.cls y.name y.desc).before a0 Z = true) (w3 : (Cond.instanceMethod y).before a0 Z = true) (w4 : (Cond.superclass own y.cls).before a0 Z = true) (hnn : y.name ≠ "<init>") (wc : (Cond.code y bytes maxL ret).before a0 Z = true)
    {a : Addr} (E : Exa Z h a C) {argsL stack : List Value} (ha : (.ref a :: argsL).toArray = as') (hlen : ∀ sig, parseMethodDescriptor y.desc = some sig → argsL.length = sig.parameters.length) (hst : stack = argsL.reverse ++ .ref a :: rest) (hsize : Ls.size = c.maxLocals) (hW : (rest.map fun v => v.category).sum ≤ W)
    (hd : decode c.code pc = .ok (.invokespecial index, 3)) (hk : k + kc ≤ R.cells) (hn : n + ns ≤ R.slots)
    (q : ∀ v T' h' L, OSt p l e R s m args below meth c own Z EL vm0 T' h' (k + kc) (n + ns) → Q3 v h' L → OEnds p e below G T' (mkF m (pc + 3) Ls (v.toList ++ rest))) : OEnds p e below G T (mkF m pc Ls stack) := by
  have X1 := X
  obtain ⟨L, X, hF, hh, ⟨k0, hS0, hk0⟩, hZ, ho, hC, hO, hx⟩ := X
  obtain ⟨v, vmx, B, -, X', ⟨L', hq, e1, e2, e3⟩, st⟩ := superBack X hx hZ ho w1 w2 w3 w4 hnn K hh (Ins.self E) (g := mkF m pc Ls stack) rfl hsize wc (argsL := argsL) (rest := rest) hlen hst (by show 2 * 0 + _ ≤ _; rw [Nat.mul_zero, Nat.zero_add]; exact hW) hd (fun _ _ => ⟨ha, hh, hk, hn⟩)
  obtain ⟨r1, r2, r3⟩ := hK _ _ _ hq
  exact (q v _ _ _ (X1.behind hF X' r1 r2 e1 e2 e3 r3) hq).tr st
theorem OSt.newPE (X : OSt p l e R s m args below meth c own Z EL vm0 T h k n) {aty : ArrayType} (w : (Cond.arrayClass (newarray.typeOf aty)).before a0 Z = true) {z : Int32} (hd : decode c.code pc = .ok (.newarray aty, 2)) (hz : ¬ z < 0) {cap : Nat} (hcap : z.toNatClampNeg ≤ cap) (hb : cap * 8 ≤ 536870912) (hc : k + 1 ≤ R.cells) (hl : n + cap ≤ R.slots) {ad : String} (had : "[" ++ (newarray.typeOf aty).toString = ad)
    (q : ∀ T' h' a kc, h.size = a → OSt p l e R s m args below meth c own Z EL vm0 T' h' (k + 1) (n + cap) → Ext h h' → Arv Z h' a kc (newarray.typeOf aty) z [] (defaultValue (newarray.typeOf aty)) → Exa Z h' a ad → OEnds p e below G T' (mkF m (pc + 2) Ls (.ref a :: rest))) : OEnds p e below G T (mkF m pc Ls (.int z :: rest)) := by
  obtain ⟨L, X, hF, hh, ⟨k0, hS0, hk0⟩, hZ, ho, hC, hO, hx⟩ := X
  obtain ⟨T', h', kc, X', e', E, A, A2, st⟩ := RoadKit.newPE X hx hZ w hh (g := mkF m pc Ls (.int z :: rest)) rfl hd rfl hz hcap hb hc hl had
  exact (q T' h' _ kc rfl ⟨_, X', hF, e', ⟨k0, hS0, Nat.le_trans hk0 E.1⟩, hZ, ho, hC.trans (CHr.ext E hC.1), ext_trans hO E, hx⟩ E (Arv.new A hz) A2).go st
/-- clone() of an array of bytes -/
theorem OSt.cloneB (X : OSt p l e R s m args below meth c own Z EL vm0 T h k n) {index : Nat} (w1 : (Cond.methodLink own index ⟨"[B", "clone", "()Ljava/lang/Object;"⟩).before a0 Z = true) (w2 : (Cond.sameMethod "[B" "java/lang/Object" "clone" "()Ljava/lang/Object;").before a0 Z = true) (w3 : (Cond.native XT.objClone).before a0 Z = true) (w4 : (Cond.instanceMethod XT.objClone).before a0 Z = true) (w5 : (Cond.selects "[B" ⟨"[B", "clone", "()Ljava/lang/Object;"⟩ XT.objClone).before a0 Z = true) (w6 : (Cond.castable "[B" "java/lang/Cloneable").before a0 Z = true)
    {a : Addr} {ka : ClassId} {z : Int32} {vs : List Value} {dv : Value} (E : Exa Z h a "[B") (A : Arv Z h a ka .byte z vs dv) (hsize : Ls.size = c.maxLocals) (hd : decode c.code pc = .ok (.invokevirtual index, 3)) {W : Nat} (hW : (rest.map fun v => v.category).sum ≤ W) (hf : 1 ≤ R.frames) (hlo : W + 14 ≤ R.locals) {cap : Nat} (hcap : z.toNatClampNeg ≤ cap) (hc : k + 1 ≤ R.cells) (hl : n + cap ≤ R.slots)
    (q : ∀ T' h' b, h.size = b → OSt p l e R s m args below meth c own Z EL vm0 T' h' (k + 1) (n + cap) → Ext h h' → Arv Z h' b ka .byte z vs dv → Exa Z h' b "[B" → OEnds p e below G T' (mkF m (pc + 3) Ls (.ref b :: rest))) : OEnds p e below G T (mkF m pc Ls (.ref a :: rest)) := by
  obtain ⟨L, X, hF, hh, ⟨k0, hS0, hk0⟩, hZ, ho, hC, hO, hx⟩ := X
  obtain ⟨cl, A1, A2, A3, A4, A5, A6⟩ := A
  obtain ⟨cell, kk, e1, e2, e3, e4, e5⟩ := E
  cases e1.symm.trans A1.1
  subst hh
  have hA : XT.Arr .byte a cl T := ⟨A1.1, State.isArrayOf_alike (hZ.alike.trans X.warmed.alike) A1.2.1, A1.2.2, by
    rw [A3]; have := rng32 z; simp only [Int32.toNatClampNeg]; omega⟩
  have hty : XT.Typed .byte cl := fun i v hv => by
    have hi : i < cl.slots.size := (Array.getElem?_eq_some_iff.mp hv).1
    have q1 := A5 i hi
    rw [hv] at q1
    cases q1
    exact A6 i hi
  have hw : ∀ w ∈ XT.cloneW own index "[B", w.before args (s.setVm vm0) = true := by
    intro w hw
    simp only [XT.cloneW, List.mem_cons, List.not_mem_nil, or_false] at hw
    rcases hw with rfl | rfl | rfl | rfl | rfl | rfl
    · exact mvT (s := s.setVm vm0) hZ w1
    · exact mvT (s := s.setVm vm0) hZ w2
    · exact mvT (s := s.setVm vm0) hZ w3
    · exact mvT (s := s.setVm vm0) hZ w4
    · exact mvT (s := s.setVm vm0) hZ w5
    · exact mvT (s := s.setVm vm0) hZ w6
  obtain ⟨T', B, X', hB, b1, b2, b3, b4, b5, st⟩ := X.aclone hx ho hw hA (by show vm0.findClass "[B" = _; rw [hZ.alike.findClass]; exact e2) hty (g := mkF m pc Ls (.ref a :: rest)) rfl hsize rfl hd (W := W) (by show 2 * 0 + _ ≤ _; rw [Nat.mul_zero, Nat.zero_add]; exact hW) hf hlo hc (by rw [A3]; omega)
  have E : Ext T.heap T'.heap := ⟨by rw [b4]; simp, fun x cx hx => by rw [b4, Array.getElem?_push_lt (Array.getElem?_eq_some_iff.mp hx).1]; exact (Array.getElem?_eq_getElem _).symm.trans hx⟩
  have hN : T'.heap[T.heap.size]? = some B := hB.1
  refine (q T' T'.heap T.heap.size rfl ⟨L, X'.more (Nat.le_refl _) (by rw [A3]; omega), hF, rfl, ⟨k0, hS0, Nat.le_trans hk0 E.1⟩, hZ, ho, hC.trans (CHr.ext E hC.1), ext_trans hO E, hx⟩ E
    ⟨B, ⟨hN, ⟨(fun k q => by rw [b3] at q; cases q), by rw [b2]; exact A1.2.1.2⟩, (by rw [b3]; intro q; cases q)⟩, b2.trans A2, by rw [b1]; exact A3, A4, fun i hi => by rw [b1] at hi ⊢; exact A5 i hi, fun i hi => by rw [b1] at hi; exact A6 i hi⟩
    ⟨B, kk, hN, by rw [b2]; exact e2, by rw [b2]; exact e3, by rw [b3]; rfl, fun q => by rw [b1]; exact e5 q⟩).go st
end Six
end Jvm.Own
/- laws to paste: Road.backV, Road.lenW, Road.chN, Road.codOf (cut by pick.py; bodies as the Statement names them) -/
namespace Jvm.Pilot.@@N@@
namespace StrChars
open Jvm Sem ClassFile Op Lib Jvm.Stand Jvm.Free.XT Jvm.Free.ALB Jvm.Free.JM Jvm.Free
open Jvm.Lib.Cold (StaticIs)
/-- a char array whose places are chars -/
def Ch (a : Addr) (A : Cell) (U : State) : Prop := Arr .char a A U ∧ Typed .char A
theorem Ch.mv {a : Addr} {A : Cell} {U U' : State} (h : Ch a A U) (hal : U.vm.Alike U'.vm) (hh : U'.heap = U.heap) : Ch a A U' := ⟨h.1.mv hal hh, h.2⟩
theorem Ch.keep {a : Addr} {A : Cell} {U U' : State} (h : Ch a A U) (hal : U.vm.Alike U'.vm) (hk : U'.heap[a]? = some A) : Ch a A U' := ⟨h.1.keep hal hk, h.2⟩
/-- what place i of a char[]'s cell holds -/
def cv (A : Cell) (i : Nat) : Int32 := match A.slots[i]? with | some (.int x) => x | _ => 0
theorem Ch.get {a : Addr} {A : Cell} {U : State} (h : Ch a A U) {i : Nat} (hi : i < A.slots.size) : A.slots[i]? = some (.int (cv A i)) := by
  have e := Array.getElem?_eq_getElem hi
  have f := h.2 i _ e
  unfold cv; rw [e]
  generalize A.slots[i] = v at f
  cases v <;> simp [fits] at f ⊢
/-- the byte that i2b leaves of a char -/
def lo8 (x : Int32) : Int32 := x.toInt8.toInt32
theorem fits_lo8 (y : Int32) : fits .byte (.int (lo8 y)) = true := by
  have h1 := y.toInt8.le_toInt
  have h2 := y.toInt8.toInt_lt
  simp only [lo8, fits, Bool.and_eq_true, decide_eq_true_eq, Int32.le_iff_toInt_le, Int8.toInt_toInt32, show (-128 : Int32).toInt = -128 from by decide, show (127 : Int32).toInt = 127 from by decide]
  omega
/-- A' is A but that each place j of lo .. hi - 1 holds f j -/
def Laid (A A' : Cell) (lo hi : Nat) (f : Nat → Value) : Prop := A'.cls = A.cls ∧ A'.vm = A.vm ∧ A'.slots.size = A.slots.size ∧ ∀ i, A'.slots[i]? = if lo ≤ i ∧ i < hi then some (f i) else A.slots[i]?
theorem Laid.zero (A : Cell) (lo : Nat) (f : Nat → Value) : Laid A A lo (lo + 0) f := ⟨rfl, rfl, rfl, fun i => by rw [if_neg (by omega)]⟩
theorem Laid.step {A Ak : Cell} {lo k : Nat} {f : Nat → Value} {v : Value} (h : Laid A Ak lo k f) (hlo : lo ≤ k) (hk : k < Ak.slots.size) (hv : v = f k) : Laid A (Ak.setSlot k v) lo (k + 1) f := by
  refine ⟨h.1, h.2.1, by simpa [Cell.setSlot] using h.2.2.1, fun i => ?_⟩
  by_cases e : k = i
  · subst e; rw [Cell.slots_setSlot_self v hk, if_pos (by omega), hv]
  · rw [Cell.slots_setSlot_ne v e, h.2.2.2 i]
    by_cases q : lo ≤ i ∧ i < k
    · rw [if_pos q, if_pos (by omega)]
    · rw [if_neg q, if_neg (by omega)]
def U16 : String := "java/lang/StringUTF16"
namespace Cmp5
def yN : MethodName := ⟨"java/lang/StringUTF16", "compress", "([CI[BII)I"⟩
abbrev yB : ByteArray := jdk_52_method_21_code
theorem d0 : decode yB 0 = .ok (.iconst 0, 1) := by decide +kernel
theorem d1 : decode yB 1 = .ok (.istore 5, 2) := by decide +kernel
theorem d3 : decode yB 3 = .ok (.iload 5, 2) := by decide +kernel
theorem d5 : decode yB 5 = .ok (.iload 4, 2) := by decide +kernel
theorem d7 : decode yB 7 = .ok (.if_icmp (.ge) 37, 3) := by decide +kernel
theorem d10 : decode yB 10 = .ok (.aload_n 0, 1) := by decide +kernel
theorem d11 : decode yB 11 = .ok (.iload_n 1, 1) := by decide +kernel
theorem d12 : decode yB 12 = .ok (.caload, 1) := by decide +kernel
theorem d13 : decode yB 13 = .ok (.istore 6, 2) := by decide +kernel
theorem d15 : decode yB 15 = .ok (.iload 6, 2) := by decide +kernel
theorem d17 : decode yB 17 = .ok (.sipush 255, 3) := by decide +kernel
theorem d20 : decode yB 20 = .ok (.if_icmp (.le) 6, 3) := by decide +kernel
theorem d26 : decode yB 26 = .ok (.aload_n 2, 1) := by decide +kernel
theorem d27 : decode yB 27 = .ok (.iload_n 3, 1) := by decide +kernel
theorem d28 : decode yB 28 = .ok (.iload 6, 2) := by decide +kernel
theorem d30 : decode yB 30 = .ok (.i2b, 1) := by decide +kernel
theorem d31 : decode yB 31 = .ok (.bastore, 1) := by decide +kernel
theorem d32 : decode yB 32 = .ok (.iinc 1 1, 3) := by decide +kernel
theorem d35 : decode yB 35 = .ok (.iinc 3 1, 3) := by decide +kernel
theorem d38 : decode yB 38 = .ok (.iinc 5 1, 3) := by decide +kernel
theorem d41 : decode yB 41 = .ok (.goto (-38), 3) := by decide +kernel
theorem d44 : decode yB 44 = .ok (.iload 4, 2) := by decide +kernel
theorem d46 : decode yB 46 = .ok (.ireturn, 1) := by decide +kernel
def site : List Cond := []
def tab : Cond := tabOf yN yB 7 (some .int) site
def P (b : Addr) (A : Cell) (d : Addr) (B : Cell) (o q len : Nat) (args : Array Value) (s : State) : Prop := args = #[.ref b, .int (Int32.ofNat o), .ref d, .int (Int32.ofNat q), .int (Int32.ofNat len)] ∧ Ch b A s ∧ Arr .byte d B s ∧ b ≠ d ∧ o + len ≤ A.slots.size ∧ q + len ≤ B.slots.size ∧ ∀ i, i < len → ¬ 255 < cv A (o + i)
def E (b : Addr) (A : Cell) (d : Addr) (B : Cell) (o q len : Nat) (r : Option Value) (s u : State) : Prop := r = some (.int (Int32.ofNat len)) ∧ ∃ B', Put d B' s u ∧ Laid B B' q (q + len) (fun j => Value.int (lo8 (cv A (o + (j - q)))))
/-- no char of the range above 255: len; the places written hold each char's low byte -/
theorem law (l : Launch) (b : Addr) (A : Cell) (d : Addr) (B : Cell) (o q len : Nat) : Law l yN 5 5 0 0 yB 7 (some .int) site (P b A d B o q len) (E b A d B o q len) (copyLocs d q len) 0 0 := by
  refine Law.of_walk (plainFor_of_name (by decide +kernel)) (by decide +kernel) (by decide +kernel) (by decide) (fun _ _ h => by rw [h.1]; rfl) (fun _ U U' hal hh h => ⟨h.1, h.2.1.mv hal hh, h.2.2.1.mv hal hh, h.2.2.2⟩) (fun r U U' V V' h1 hal h2 h => ⟨h.1, h.2.elim fun B' q => ⟨B', q.1.mv h1 h2, q.2⟩⟩) ?_
  intro p e s m args below meth c s₁ X0 hexec hbytes hml hret hlk hnm hown hh0 W hP
  obtain ⟨rfl, hA, hB, hne, l1, l2, hp⟩ := hP
  have c1 : Steps p.tables e below (s₁.setTop (entryFrame m #[.ref b, .int (Int32.ofNat o), .ref d, .int (Int32.ofNat q), .int (Int32.ofNat len)] 7)) (s₁.setTop (mkF m 0 #[.val (.ref b), .val (.int (Int32.ofNat o)), .val (.ref d), .val (.int (Int32.ofNat q)), .val (.int (Int32.ofNat len)), .unset, .unset] [])) := entry rfl
  have hA0 := hA.1.mv X0.warmed.alike hh0
  have hB0 := hB.mv X0.warmed.alike hh0
  have a31 := hA.1.2.2.2
  have c2 : Steps p.tables e below (s₁.setTop (entryFrame m #[.ref b, .int (Int32.ofNat o), .ref d, .int (Int32.ofNat q), .int (Int32.ofNat len)] 7)) (s₁.setTop (mkF m 3 #[.val (.ref b), .val (.int (Int32.ofNat o)), .val (.ref d), .val (.int (Int32.ofNat q)), .val (.int (Int32.ofNat len)), .val (.int 0), .unset] [])) := c1.trans (by
    refine iconstV X0.here hexec rfl 0 (hb hbytes d0) (by decide) ?_
    refine XS.istore X0.here hexec rfl (hb hbytes d1) rfl rfl ?_
    exact Steps.refl _)
  have loop : ∀ (r i : Nat), i + r = len → ∀ (z : Slot), (z = .unset ∨ ∃ w, z = .val w ∧ w.category = 1) → ∀ (Tl : State) (Bk : Cell), Stand p l e { frames := 0, locals := 0, cells := 0, slots := 0 } s m #[.ref b, .int (Int32.ofNat o), .ref d, .int (Int32.ofNat q), .int (Int32.ofNat len)] below meth c Tl ([] ++ copyLocs d q i) 0 0 → Put d Bk s₁ Tl → Laid B Bk q (q + i) (fun j => Value.int (lo8 (cv A (o + (j - q))))) →
      Steps p.tables e below (s₁.setTop (entryFrame m #[.ref b, .int (Int32.ofNat o), .ref d, .int (Int32.ofNat q), .int (Int32.ofNat len)] 7)) (Tl.setTop (mkF m 3 #[.val (.ref b), .val (.int (Int32.ofNat (o + i))), .val (.ref d), .val (.int (Int32.ofNat (q + i))), .val (.int (Int32.ofNat len)), .val (.int (Int32.ofNat i)), z] [])) → ∃ (T' : State) (B' : Cell) (z' : Slot), Stand p l e { frames := 0, locals := 0, cells := 0, slots := 0 } s m #[.ref b, .int (Int32.ofNat o), .ref d, .int (Int32.ofNat q), .int (Int32.ofNat len)] below meth c T' ([] ++ copyLocs d q len) 0 0 ∧ Put d B' s₁ T' ∧ Laid B B' q (q + len) (fun j => Value.int (lo8 (cv A (o + (j - q))))) ∧
      Steps p.tables e below (s₁.setTop (entryFrame m #[.ref b, .int (Int32.ofNat o), .ref d, .int (Int32.ofNat q), .int (Int32.ofNat len)] 7)) (T'.setTop (mkF m 3 #[.val (.ref b), .val (.int (Int32.ofNat (o + len))), .val (.ref d), .val (.int (Int32.ofNat (q + len))), .val (.int (Int32.ofNat len)), .val (.int (Int32.ofNat len)), z'] [])) := by
    intro r
    induction r with
    | zero =>
      intro i hi z hz Tl Bk Xl pl fl cl
      have hil : i = len := by omega
      rw [hil] at Xl fl cl
      exact ⟨Tl, Bk, z, Xl, pl, fl, cl⟩
    | succ r ih =>
      intro i hi z hz Tl Bk Xl pl fl cl
      have all := X0.warmed.alike.symm.trans Xl.warmed.alike
      have hAl := hA0.keep all (pl.other hne hA0.1)
      have hBk := hB0.like all pl.1 fl.1 fl.2.1 fl.2.2.1
      have hlt : q + i < Bk.slots.size := by rw [fl.2.2.1]; omega
      have c3 : Steps p.tables e below (s₁.setTop (entryFrame m #[.ref b, .int (Int32.ofNat o), .ref d, .int (Int32.ofNat q), .int (Int32.ofNat len)] 7)) (Tl.setTop (mkF m 12 #[.val (.ref b), .val (.int (Int32.ofNat (o + i))), .val (.ref d), .val (.int (Int32.ofNat (q + i))), .val (.int (Int32.ofNat len)), .val (.int (Int32.ofNat i)), z] [.int (Int32.ofNat (o + i)), .ref b])) := cl.trans (by
        refine XS.iload Xl.here hexec rfl (hb hbytes d3) rfl ?_
        refine XS.iload Xl.here hexec rfl (hb hbytes d5) rfl ?_
        refine XS.icmpNo Xl.here hexec rfl (hb hbytes d7) rfl (ii_ge_f (lt32 (by omega) (by omega))) ?_
        refine XS.aloadN Xl.here hexec rfl (hb hbytes d10) rfl rfl ?_
        refine XS.iloadN Xl.here hexec rfl (hb hbytes d11) rfl ?_
        exact Steps.refl _)
      have c4 : Steps p.tables e below (s₁.setTop (entryFrame m #[.ref b, .int (Int32.ofNat o), .ref d, .int (Int32.ofNat q), .int (Int32.ofNat len)] 7)) (Tl.setTop (mkF m 13 #[.val (.ref b), .val (.int (Int32.ofNat (o + i))), .val (.ref d), .val (.int (Int32.ofNat (q + i))), .val (.int (Int32.ofNat len)), .val (.int (Int32.ofNat i)), z] [.int (cv A (o + i))])) := c3.trans (by
        refine Xl.aget hexec hAl rfl (hA.get (i := o + i) (by omega)) rfl rfl (hb hbytes d12) ?_
        exact Steps.refl _)
      have c5 : Steps p.tables e below (s₁.setTop (entryFrame m #[.ref b, .int (Int32.ofNat o), .ref d, .int (Int32.ofNat q), .int (Int32.ofNat len)] 7)) (Tl.setTop (mkF m 15 #[.val (.ref b), .val (.int (Int32.ofNat (o + i))), .val (.ref d), .val (.int (Int32.ofNat (q + i))), .val (.int (Int32.ofNat len)), .val (.int (Int32.ofNat i)), .val (.int (cv A (o + i)))] [])) := c4.trans (by
        refine XS.istoreS Xl.here hexec rfl (hb hbytes d13) rfl rfl hz ?_
        exact Steps.refl _)
      have c6 : Steps p.tables e below (s₁.setTop (entryFrame m #[.ref b, .int (Int32.ofNat o), .ref d, .int (Int32.ofNat q), .int (Int32.ofNat len)] 7)) (Tl.setTop (mkF m 31 #[.val (.ref b), .val (.int (Int32.ofNat (o + i))), .val (.ref d), .val (.int (Int32.ofNat (q + i))), .val (.int (Int32.ofNat len)), .val (.int (Int32.ofNat i)), .val (.int (cv A (o + i)))] [.int (lo8 (cv A (o + i))), .int (Int32.ofNat (q + i)), .ref d])) := c5.trans (by
        refine XS.iload Xl.here hexec rfl (hb hbytes d15) rfl ?_
        refine sipushV Xl.here hexec rfl 255 (hb hbytes d17) (by decide) ?_
        refine XS.icmpYes Xl.here hexec rfl (pc0 := 20) rfl (hb hbytes d20) rfl (ii_le_t (hp i (by omega))) (by decide) rfl ?_
        refine XS.aloadN Xl.here hexec rfl (hb hbytes d26) rfl rfl ?_
        refine XS.iloadN Xl.here hexec rfl (hb hbytes d27) rfl ?_
        refine XS.iload Xl.here hexec rfl (hb hbytes d28) rfl ?_
        refine i2b Xl.here hexec rfl (hb hbytes d30) rfl ?_
        exact Steps.refl _)
      obtain ⟨T7, X7, p7, st7⟩ := Xl.aput hexec hBk rfl hlt rfl (fits_lo8 (cv A (o + i))) (g := (mkF m 31 #[.val (.ref b), .val (.int (Int32.ofNat (o + i))), .val (.ref d), .val (.int (Int32.ofNat (q + i))), .val (.int (Int32.ofNat len)), .val (.int (Int32.ofNat i)), .val (.int (cv A (o + i)))] [.int (lo8 (cv A (o + i))), .int (Int32.ofNat (q + i)), .ref d])) rfl (rest := []) rfl (hb hbytes d31)
      have c8 : Steps p.tables e below (s₁.setTop (entryFrame m #[.ref b, .int (Int32.ofNat o), .ref d, .int (Int32.ofNat q), .int (Int32.ofNat len)] 7)) (T7.setTop (mkF m 32 #[.val (.ref b), .val (.int (Int32.ofNat (o + i))), .val (.ref d), .val (.int (Int32.ofNat (q + i))), .val (.int (Int32.ofNat len)), .val (.int (Int32.ofNat i)), .val (.int (cv A (o + i)))] [])) := c6.trans (st7 _ (Steps.refl _))
      have c9 : Steps p.tables e below (s₁.setTop (entryFrame m #[.ref b, .int (Int32.ofNat o), .ref d, .int (Int32.ofNat q), .int (Int32.ofNat len)] 7)) (T7.setTop (mkF m 3 #[.val (.ref b), .val (.int (Int32.ofNat (o + i) + 1)), .val (.ref d), .val (.int (Int32.ofNat (q + i) + 1)), .val (.int (Int32.ofNat len)), .val (.int (Int32.ofNat i + 1)), .val (.int (cv A (o + i)))] [])) := c8.trans (by
        refine iincV X7.here hexec rfl 1 (hb hbytes d32) (by decide) rfl rfl ?_
        refine iincV X7.here hexec rfl 1 (hb hbytes d35) (by decide) rfl rfl ?_
        refine iincV X7.here hexec rfl 1 (hb hbytes d38) (by decide) rfl rfl ?_
        refine XS.goto X7.here hexec rfl (pc0 := 41) rfl (hb hbytes d41) (by decide) rfl ?_
        exact Steps.refl _)
      have c10 : Steps p.tables e below (s₁.setTop (entryFrame m #[.ref b, .int (Int32.ofNat o), .ref d, .int (Int32.ofNat q), .int (Int32.ofNat len)] 7)) (T7.setTop (mkF m 3 #[.val (.ref b), .val (.int (Int32.ofNat (o + (i + 1)))), .val (.ref d), .val (.int (Int32.ofNat (q + (i + 1)))), .val (.int (Int32.ofNat len)), .val (.int (Int32.ofNat (i + 1))), .val (.int (cv A (o + i)))] [])) := by
        have := c9
        rw [succ32, succ32, succ32] at this
        exact this
      exact ih (i + 1) (by omega) _ (Or.inr ⟨_, rfl, rfl⟩) T7 _ (by rw [copyLocs_step, ← List.append_assoc]; exact X7) (pl.trans p7) (fl.step (by omega) hlt (by simp)) c10
  obtain ⟨T9, B9, z9, X9, p9, f9, g9⟩ := loop len 0 (by omega) .unset (Or.inl rfl) s₁ B (by simpa [copyLocs] using X0) ⟨hB0.1, fun _ _ => rfl, rfl⟩ (Laid.zero _ _ _) c2
  have c11 : Steps p.tables e below (s₁.setTop (entryFrame m #[.ref b, .int (Int32.ofNat o), .ref d, .int (Int32.ofNat q), .int (Int32.ofNat len)] 7)) (T9.setTop (mkF m 46 #[.val (.ref b), .val (.int (Int32.ofNat (o + len))), .val (.ref d), .val (.int (Int32.ofNat (q + len))), .val (.int (Int32.ofNat len)), .val (.int (Int32.ofNat len)), z9] [.int (Int32.ofNat len)])) := g9.trans (by
    refine XS.iload X9.here hexec rfl (hb hbytes d3) rfl ?_
    refine XS.iload X9.here hexec rfl (hb hbytes d5) rfl ?_
    refine XS.icmpYes X9.here hexec rfl (pc0 := 7) rfl (hb hbytes d7) rfl (ii_ge_t (nlt32 (by omega) (Nat.le_refl _))) (by decide) rfl ?_
    refine XS.iload X9.here hexec rfl (hb hbytes d44) rfl ?_
    exact Steps.refl _)
  exact ⟨T9, some (.int (Int32.ofNat len)), _, _, _, X9, by simp, rfl, rfl, (fun h => by cases h), ⟨rfl, B9, p9.from hh0, f9⟩, fun fs hl => c11.trans (X9.ireturnOut hexec hret rfl (Or.inl rfl) (hb hbytes d46) hl)⟩
end Cmp5
namespace Cmp3
def yN : MethodName := ⟨"java/lang/StringUTF16", "compress", "([CII)[B"⟩
abbrev yB : ByteArray := jdk_52_method_16_code
theorem d0 : decode yB 0 = .ok (.iload_n 2, 1) := by decide +kernel
theorem d1 : decode yB 1 = .ok (.newarray .byte, 2) := by decide +kernel
theorem d3 : decode yB 3 = .ok (.astore_n 3, 1) := by decide +kernel
theorem d4 : decode yB 4 = .ok (.aload_n 0, 1) := by decide +kernel
theorem d5 : decode yB 5 = .ok (.iload_n 1, 1) := by decide +kernel
theorem d6 : decode yB 6 = .ok (.aload_n 3, 1) := by decide +kernel
theorem d7 : decode yB 7 = .ok (.iconst 0, 1) := by decide +kernel
theorem d8 : decode yB 8 = .ok (.iload_n 2, 1) := by decide +kernel
theorem d9 : decode yB 9 = .ok (.invokestatic 115, 3) := by decide +kernel
theorem d12 : decode yB 12 = .ok (.istore 4, 2) := by decide +kernel
theorem d14 : decode yB 14 = .ok (.iload 4, 2) := by decide +kernel
theorem d16 : decode yB 16 = .ok (.iload_n 2, 1) := by decide +kernel
theorem d17 : decode yB 17 = .ok (.if_icmp (.eq) 40, 3) := by decide +kernel
theorem d57 : decode yB 57 = .ok (.aload_n 3, 1) := by decide +kernel
theorem d58 : decode yB 58 = .ok (.areturn, 1) := by decide +kernel
def site : List Cond := [.arrayClass .byte, Cmp5.tab] ++ staticW U16 115 Cmp5.yN
def tab : Cond := tabOf yN yB 6 (some (.array .byte)) site
def P (b : Addr) (A : Cell) (o len : Nat) (args : Array Value) (s : State) : Prop := args = #[.ref b, .int (Int32.ofNat o), .int (Int32.ofNat len)] ∧ Ch b A s ∧ o + len ≤ A.slots.size ∧ len ≤ 536870912 ∧ ∀ i, i < len → ¬ 255 < cv A (o + i)
def E (b : Addr) (A : Cell) (o len : Nat) (r : Option Value) (s u : State) : Prop := NewArr .byte "[B" len (fun j => .int (lo8 (cv A (o + j)))) r s u ∧ u.heap.size = s.heap.size + 1
/-- no char of the range above 255: a new byte[] of their low bytes -/
theorem law (l : Launch) (b : Addr) (A : Cell) (o len : Nat) : Law l yN 3 3 1 18 yB 6 (some (.array .byte)) site (P b A o len) (E b A o len) [] 1 len := by
  refine Law.of_walk (plainFor_of_name (by decide +kernel)) (by decide +kernel) (by decide +kernel) (by decide) (fun _ _ h => by rw [h.1]; rfl) (fun _ U U' hal hh h => ⟨h.1, h.2.1.mv hal hh, h.2.2⟩) (fun r U U' V V' h1 hal h2 h => ⟨NewArr.mv r U U' V V' h1 hal h2 h.1, by rw [h1, h2]; exact h.2⟩) ?_
  intro p e s m args below meth c s₁ X0 hexec hbytes hml hret hlk hnm hown hh0 W hP
  obtain ⟨rfl, hA, l1, l2, hp⟩ := hP
  have a31 := hA.1.2.2.2
  have c1 : Steps p.tables e below (s₁.setTop (entryFrame m #[.ref b, .int (Int32.ofNat o), .int (Int32.ofNat len)] 6)) (s₁.setTop (mkF m 0 #[.val (.ref b), .val (.int (Int32.ofNat o)), .val (.int (Int32.ofNat len)), .unset, .unset, .unset] [])) := entry rfl
  have c2 : Steps p.tables e below (s₁.setTop (entryFrame m #[.ref b, .int (Int32.ofNat o), .int (Int32.ofNat len)] 6)) (s₁.setTop (mkF m 1 #[.val (.ref b), .val (.int (Int32.ofNat o)), .val (.int (Int32.ofNat len)), .unset, .unset, .unset] [.int (Int32.ofNat len)])) := c1.trans (by
    refine XS.iloadN X0.here hexec rfl (hb hbytes d0) rfl ?_
    exact Steps.refl _)
  obtain ⟨T3, B3, X3, ba3, bs3, bv3, bh3, bf3, st3⟩ := X0.anew hexec (atype := .byte) (wk W (.arrayClass .byte)) rfl (by show len * 1 ≤ _; omega) (by omega) (g := (mkF m 1 #[.val (.ref b), .val (.int (Int32.ofNat o)), .val (.int (Int32.ofNat len)), .unset, .unset, .unset] [.int (Int32.ofNat len)])) rfl (hb hbytes d1) (rest := []) rfl (Nat.le_refl _) (by show 0 + len ≤ len; omega)
  rw [hh0] at ba3 st3
  have kp3 : XT.Kept s T3 := (XT.Kept.of_eq hh0).push bh3
  have hA3 := hA.keep X3.warmed.alike (kp3 _ _ hA.1.1)
  have hne : b ≠ s.heap.size := hA.1.ne
  have c4 : Steps p.tables e below (s₁.setTop (entryFrame m #[.ref b, .int (Int32.ofNat o), .int (Int32.ofNat len)] 6)) (T3.setTop (mkF m 3 #[.val (.ref b), .val (.int (Int32.ofNat o)), .val (.int (Int32.ofNat len)), .unset, .unset, .unset] [.ref s.heap.size])) := c2.trans (st3 _ (Steps.refl _))
  have c5 : Steps p.tables e below (s₁.setTop (entryFrame m #[.ref b, .int (Int32.ofNat o), .int (Int32.ofNat len)] 6)) (T3.setTop (mkF m 9 #[.val (.ref b), .val (.int (Int32.ofNat o)), .val (.int (Int32.ofNat len)), .val (.ref s.heap.size), .unset, .unset] [.int (Int32.ofNat len), .int 0, .ref s.heap.size, .int (Int32.ofNat o), .ref b])) := c4.trans (by
    refine XS.astoreN X3.here hexec rfl (hb hbytes d3) rfl rfl rfl ?_
    refine XS.aloadN X3.here hexec rfl (hb hbytes d4) rfl rfl ?_
    refine XS.iloadN X3.here hexec rfl (hb hbytes d5) rfl ?_
    refine XS.aloadN X3.here hexec rfl (hb hbytes d6) rfl rfl ?_
    refine iconstV X3.here hexec rfl 0 (hb hbytes d7) (by decide) ?_
    refine XS.iloadN X3.here hexec rfl (hb hbytes d8) rfl ?_
    exact Steps.refl _)
  obtain ⟨v6, T6, X6, E6, g6⟩ := X3.callS hexec (Cmp5.law l b A s.heap.size B3 o 0 len) hown (wks W (staticW U16 115 Cmp5.yN)) (wk W Cmp5.tab) (W := 0) (Nat.le_of_ble_eq_true rfl) (Nat.le_of_ble_eq_true rfl) (Nat.le_refl _) (by show 0 + len + 0 ≤ len; omega) (g := (mkF m 9 #[.val (.ref b), .val (.int (Int32.ofNat o)), .val (.int (Int32.ofNat len)), .val (.ref s.heap.size), .unset, .unset] [.int (Int32.ofNat len), .int (Int32.ofNat 0), .ref s.heap.size, .int (Int32.ofNat o), .ref b])) rfl (by rw [hml]; rfl) c5 (argsL := [.ref b, .int (Int32.ofNat o), .ref s.heap.size, .int (Int32.ofNat 0), .int (Int32.ofNat len)]) (rest := []) rfl rfl (by show 2 * 0 + 0 ≤ _; decide) (hb hbytes d9) (⟨rfl, hA3, ba3, hne, l1, by rw [bs3]; simp, hp⟩)
  obtain ⟨rfl, B6, p6, f6⟩ := E6
  have c7 : Steps p.tables e below (s₁.setTop (entryFrame m #[.ref b, .int (Int32.ofNat o), .int (Int32.ofNat len)] 6)) (T6.setTop (mkF m 12 #[.val (.ref b), .val (.int (Int32.ofNat o)), .val (.int (Int32.ofNat len)), .val (.ref s.heap.size), .unset, .unset] [.int (Int32.ofNat len)])) := g6
  have c8 : Steps p.tables e below (s₁.setTop (entryFrame m #[.ref b, .int (Int32.ofNat o), .int (Int32.ofNat len)] 6)) (T6.setTop (mkF m 58 #[.val (.ref b), .val (.int (Int32.ofNat o)), .val (.int (Int32.ofNat len)), .val (.ref s.heap.size), .val (.int (Int32.ofNat len)), .unset] [.ref s.heap.size])) := c7.trans (by
    refine XS.istore X6.here hexec rfl (hb hbytes d12) rfl rfl ?_
    refine XS.iload X6.here hexec rfl (hb hbytes d14) rfl ?_
    refine XS.iloadN X6.here hexec rfl (hb hbytes d16) rfl ?_
    refine XS.icmpYes X6.here hexec rfl (pc0 := 17) rfl (hb hbytes d17) rfl (ii_eq_t rfl) (by decide) rfl ?_
    refine XS.aloadN X6.here hexec rfl (hb hbytes d57) rfl rfl ?_
    exact Steps.refl _)
  have X8 := X6.wide (L' := []) (cells' := 1) (slots' := len) (fun x hx hlt => by
    simp only [List.nil_append, copyLocs, List.mem_map, List.mem_range] at hx
    obtain ⟨i, -, rfl⟩ := hx
    exact absurd hlt (Nat.lt_irrefl _)) (Nat.le_refl _) (by omega)
  exact ⟨T6, some (.ref s.heap.size), _, _, _, X8, rfl, rfl, rfl, (fun h => by cases h), ⟨⟨rfl, B6, ba3.like (X3.warmed.alike.symm.trans X6.warmed.alike) p6.1 f6.1 f6.2.1 f6.2.2.1, f6.2.1.trans bv3, by rw [X6.warmed.alike.findClass, f6.1]; exact bf3, by rw [f6.2.2.1, bs3]; simp, fun j hj => by rw [f6.2.2.2 j, if_pos (by omega)]; rfl, kp3.put p6 (Nat.le_refl _)⟩, by rw [p6.2.2, bh3, hh0]; simp⟩, fun fs hl => c8.trans (X8.areturnOut hexec rfl hret rfl (hb hbytes d58) hl)⟩
end Cmp3
namespace CodL
def yN : MethodName := ⟨"java/lang/StringUTF16", "coderFromArrayLen", "([BI)B"⟩
abbrev yB : ByteArray := jdk_52_method_15_code
theorem d0 : decode yB 0 = .ok (.iload_n 1, 1) := by decide +kernel
theorem d1 : decode yB 1 = .ok (.aload_n 0, 1) := by decide +kernel
theorem d2 : decode yB 2 = .ok (.arraylength, 1) := by decide +kernel
theorem d3 : decode yB 3 = .ok (.isub, 1) := by decide +kernel
theorem d4 : decode yB 4 = .ok (.bipush 31, 2) := by decide +kernel
theorem d6 : decode yB 6 = .ok (.iushr, 1) := by decide +kernel
theorem d7 : decode yB 7 = .ok (.i2b, 1) := by decide +kernel
theorem d8 : decode yB 8 = .ok (.ireturn, 1) := by decide +kernel
def site : List Cond := []
def tab : Cond := tabOf yN yB 2 (some .byte) site
def P (d : Addr) (B : Cell) (args : Array Value) (s : State) : Prop := args = #[.ref d, .int (Int32.ofNat B.slots.size)] ∧ Arr .byte d B s
def E (r : Option Value) (s u : State) : Prop := XT.PureE (some (.int 0)) r s u
/-- an array as long as the number of chars: LATIN1 -/
theorem law (l : Launch) (d : Addr) (B : Cell) : Law l yN 2 2 0 0 yB 2 (some .byte) site (P d B) E [] 0 0 := by
  refine Law.of_walk (plainFor_of_name (by decide +kernel)) (by decide +kernel) (by decide +kernel) (by decide) (fun _ _ h => by rw [h.1]; rfl) (fun _ U U' hal hh h => ⟨h.1, h.2.mv hal hh⟩) (fun r U U' V V' h1 hal h2 h => XT.PureE.mv r U U' V V' h1 hal h2 h) ?_
  intro p e s m args below meth c s₁ X0 hexec hbytes hml hret hlk hnm hown hh0 W hP
  obtain ⟨rfl, hB⟩ := hP
  have hB0 := hB.mv X0.warmed.alike hh0
  have c1 : Steps p.tables e below (s₁.setTop (entryFrame m #[.ref d, .int (Int32.ofNat B.slots.size)] 2)) (s₁.setTop (mkF m 0 #[.val (.ref d), .val (.int (Int32.ofNat B.slots.size))] [])) := entry rfl
  have c2 : Steps p.tables e below (s₁.setTop (entryFrame m #[.ref d, .int (Int32.ofNat B.slots.size)] 2)) (s₁.setTop (mkF m 2 #[.val (.ref d), .val (.int (Int32.ofNat B.slots.size))] [.ref d, .int (Int32.ofNat B.slots.size)])) := c1.trans (by
    refine XS.iloadN X0.here hexec rfl (hb hbytes d0) rfl ?_
    refine XS.aloadN X0.here hexec rfl (hb hbytes d1) rfl rfl ?_
    exact Steps.refl _)
  have c3 : Steps p.tables e below (s₁.setTop (entryFrame m #[.ref d, .int (Int32.ofNat B.slots.size)] 2)) (s₁.setTop (mkF m 8 #[.val (.ref d), .val (.int (Int32.ofNat B.slots.size))] [.int (lo8 (ushr (Int32.ofNat B.slots.size - Int32.ofNat B.slots.size) 31))])) := c2.trans (by
    refine X0.alen hexec hB0 rfl rfl (hb hbytes d2) ?_
    refine XS.isub X0.here hexec rfl (hb hbytes d3) rfl ?_
    refine bipushV X0.here hexec rfl 31 (hb hbytes d4) (by decide) ?_
    refine iushr X0.here hexec rfl (hb hbytes d6) rfl ?_
    refine i2b X0.here hexec rfl (hb hbytes d7) rfl ?_
    exact Steps.refl _)
  have e0 : lo8 (ushr (Int32.ofNat B.slots.size - Int32.ofNat B.slots.size) 31) = 0 := by rw [Int32.sub_self]; decide
  rw [e0] at c3
  exact ⟨s₁, some (.int 0), _, _, _, X0, rfl, rfl, rfl, (fun h => by cases h), ⟨rfl, hh0⟩, fun fs hl => c3.trans (X0.ireturnOut hexec hret rfl (Or.inr (Or.inr (Or.inl rfl))) (hb hbytes d8) hl)⟩
end CodL
/-- the String at a is Latin-1 over a new byte[] (the heap's one new cell): the low bytes of the len chars of A from o on; every cell but a is kept -/
def Got (a : Addr) (D : Cell) (fV fC : Field) (A : Cell) (o len : Nat) (r : Option Value) (s u : State) : Prop := r = none ∧ ∃ D' V : Cell, Blank "java/lang/String" a D' u ∧ Same D D' [fV.slot, fC.slot] ∧ D'.slots[fV.slot]? = some (.ref s.heap.size) ∧ D'.slots[fC.slot]? = some (.int 0) ∧ Arr .byte s.heap.size V u ∧ V.vm = .none ∧ u.vm.findClass "[B" = some V.cls ∧ V.slots.size = len ∧ (∀ j, j < len → V.slots[j]? = some (.int (lo8 (cv A (o + j))))) ∧ (∀ (y : Addr) (c : Cell), y ≠ a → s.heap[y]? = some c → u.heap[y]? = some c) ∧ u.heap.size = s.heap.size + 1
theorem Got.mv {a : Addr} {D A : Cell} {fV fC : Field} {o len : Nat} : ∀ r (U U' V V' : State), U'.heap = U.heap → V.vm.Alike V'.vm → V'.heap = V.heap → Got a D fV fC A o len r U V → Got a D fV fC A o len r U' V' :=
  fun r U U' V V' h1 hal h2 ⟨e0, D', X, a1, a2, a3, a4, a5, a6, a7, a8, a9, a10, a11⟩ => ⟨e0, D', X, a1.mv hal h2, a2, by rw [h1]; exact a3, a4, by rw [h1]; exact a5.mv hal h2, a6, by rw [hal.findClass]; exact a7, a8, a9, by rw [h1, h2]; exact a10, by rw [h1, h2]; exact a11⟩
namespace New4
def yN : MethodName := ⟨"java/lang/String", "<init>", "([CIILjava/lang/Void;)V"⟩
abbrev yB : ByteArray := jdk_42_method_149_code
theorem d0 : decode yB 0 = .ok (.aload_n 0, 1) := by decide +kernel
theorem d1 : decode yB 1 = .ok (.invokespecial 1, 3) := by decide +kernel
theorem d4 : decode yB 4 = .ok (.iload_n 3, 1) := by decide +kernel
theorem d5 : decode yB 5 = .ok (.ifCond (.ne) 22, 3) := by decide +kernel
theorem d27 : decode yB 27 = .ok (.getstatic 38, 3) := by decide +kernel
theorem d30 : decode yB 30 = .ok (.ifCond (.eq) 28, 3) := by decide +kernel
theorem d33 : decode yB 33 = .ok (.aload_n 1, 1) := by decide +kernel
theorem d34 : decode yB 34 = .ok (.iload_n 2, 1) := by decide +kernel
theorem d35 : decode yB 35 = .ok (.iload_n 3, 1) := by decide +kernel
theorem d36 : decode yB 36 = .ok (.invokestatic 177, 3) := by decide +kernel
theorem d39 : decode yB 39 = .ok (.astore 5, 2) := by decide +kernel
theorem d41 : decode yB 41 = .ok (.aload_n 0, 1) := by decide +kernel
theorem d42 : decode yB 42 = .ok (.aload 5, 2) := by decide +kernel
theorem d44 : decode yB 44 = .ok (.iload_n 3, 1) := by decide +kernel
theorem d45 : decode yB 45 = .ok (.invokestatic 47, 3) := by decide +kernel
theorem d48 : decode yB 48 = .ok (.putfield 15, 3) := by decide +kernel
theorem d51 : decode yB 51 = .ok (.aload_n 0, 1) := by decide +kernel
theorem d52 : decode yB 52 = .ok (.aload 5, 2) := by decide +kernel
theorem d54 : decode yB 54 = .ok (.putfield 9, 3) := by decide +kernel
theorem d57 : decode yB 57 = .ok (.return_, 1) := by decide +kernel
def site : List Cond := [.fieldLink "java/lang/String" 38 "java/lang/String" "COMPACT_STRINGS" "Z", Cmp3.tab, CodL.tab, .laysFinal "java/lang/String" "java/lang/String" "value" "[B", .fieldLink "java/lang/String" 9 "java/lang/String" "value" "[B", .laysFinal "java/lang/String" "java/lang/String" "coder" "B", .fieldLink "java/lang/String" 15 "java/lang/String" "coder" "B"] ++ objW "java/lang/String" 1 ++ staticW "java/lang/String" 177 Cmp3.yN ++ staticW "java/lang/String" 47 CodL.yN
def tab : Cond := tabOf yN yB 6 none site
def P (a : Addr) (D : Cell) (fV fC : Field) (b : Addr) (A : Cell) (z : Int32) (o len : Nat) (args : Array Value) (s : State) : Prop := args = #[.ref a, .ref b, .int (Int32.ofNat o), .int (Int32.ofNat len), .null] ∧ Blank "java/lang/String" a D s ∧ Found "java/lang/String" "value" "[B" fV s ∧ Found "java/lang/String" "coder" "B" fC s ∧ Ch b A s ∧ StaticIs s "java/lang/String" "COMPACT_STRINGS" "Z" (.int z) ∧ ¬ z = 0 ∧ 0 < len ∧ o + len ≤ A.slots.size ∧ len ≤ 536870912 ∧ ∀ i, i < len → ¬ 255 < cv A (o + i)
def E (a : Addr) (D : Cell) (fV fC : Field) (A : Cell) (o len : Nat) (r : Option Value) (s u : State) : Prop := Got a D fV fC A o len r s u
/-- len > 0, no char of the range above 255: a Latin-1 String of their low bytes -/
theorem law (l : Launch) (a : Addr) (D : Cell) (fV fC : Field) (b : Addr) (A : Cell) (z : Int32) (o len : Nat) : Law l yN 5 4 2 35 yB 6 none site (P a D fV fC b A z o len) (E a D fV fC A o len) [⟨a, fC.slot⟩, ⟨a, fV.slot⟩] 1 len := by
  refine Law.of_walk (plainFor_of_name (by decide +kernel)) (by decide +kernel) (by decide +kernel) (by decide) (fun _ _ h => by rw [h.1]; rfl) (fun _ U U' hal hh h => ⟨h.1, h.2.1.mv hal hh, h.2.2.1.al hal, h.2.2.2.1.al hal, h.2.2.2.2.1.mv hal hh, h.2.2.2.2.2.1.there hal hh, h.2.2.2.2.2.2⟩) (fun r U U' V V' h1 hal h2 h => Got.mv r U U' V V' h1 hal h2 h) ?_
  intro p e s m args below meth c s₁ X0 hexec hbytes hml hret hlk hnm hown hh0 W hP
  obtain ⟨rfl, hB, f1, f2, hA, s1, hz, l0, l1, l2, hp⟩ := hP
  have a31 := hA.1.2.2.2
  have c1 : Steps p.tables e below (s₁.setTop (entryFrame m #[.ref a, .ref b, .int (Int32.ofNat o), .int (Int32.ofNat len), .null] 6)) (s₁.setTop (mkF m 0 #[.val (.ref a), .val (.ref b), .val (.int (Int32.ofNat o)), .val (.int (Int32.ofNat len)), .val .null, .unset] [])) := entry rfl
  have c2 : Steps p.tables e below (s₁.setTop (entryFrame m #[.ref a, .ref b, .int (Int32.ofNat o), .int (Int32.ofNat len), .null] 6)) (s₁.setTop (mkF m 1 #[.val (.ref a), .val (.ref b), .val (.int (Int32.ofNat o)), .val (.int (Int32.ofNat len)), .val .null, .unset] [.ref a])) := c1.trans (by
    refine XS.aloadN X0.here hexec rfl (hb hbytes d0) rfl rfl ?_
    exact Steps.refl _)
  obtain ⟨T3, X3, q3, st3⟩ := X0.oinit hexec hown (wks W (objW "java/lang/String" 1)) (g := (mkF m 1 #[.val (.ref a), .val (.ref b), .val (.int (Int32.ofNat o)), .val (.int (Int32.ofNat len)), .val .null, .unset] [.ref a])) rfl (by rw [hml]; rfl) (rest := []) rfl (hb hbytes d1) (W := 0) (by show 2 * 0 + 0 ≤ _; decide) (Nat.le_of_ble_eq_true rfl) (Nat.le_of_ble_eq_true rfl)
  have hh3 := q3.trans hh0
  have c4 : Steps p.tables e below (s₁.setTop (entryFrame m #[.ref a, .ref b, .int (Int32.ofNat o), .int (Int32.ofNat len), .null] 6)) (T3.setTop (mkF m 27 #[.val (.ref a), .val (.ref b), .val (.int (Int32.ofNat o)), .val (.int (Int32.ofNat len)), .val .null, .unset] [])) := (c2.trans (st3 _ (Steps.refl _))).trans (by
    refine XS.iloadN X3.here hexec rfl (hb hbytes d4) rfl ?_
    refine XS.ifYes X3.here hexec rfl (pc0 := 5) rfl (hb hbytes d5) rfl (i0_ne_t (nz32 (by omega) l0)) (by decide) rfl ?_
    exact Steps.refl _)
  obtain ⟨T5, X5, q5, st5⟩ := X3.sget hexec hown (wk W (.fieldLink "java/lang/String" 38 "java/lang/String" "COMPACT_STRINGS" "Z")) s1 (fun _ _ h => by rw [hh3]; exact h) (g := (mkF m 27 #[.val (.ref a), .val (.ref b), .val (.int (Int32.ofNat o)), .val (.int (Int32.ofNat len)), .val .null, .unset] [])) rfl (hb hbytes d27)
  have hh5 := q5.trans hh3
  have c6 : Steps p.tables e below (s₁.setTop (entryFrame m #[.ref a, .ref b, .int (Int32.ofNat o), .int (Int32.ofNat len), .null] 6)) (T5.setTop (mkF m 30 #[.val (.ref a), .val (.ref b), .val (.int (Int32.ofNat o)), .val (.int (Int32.ofNat len)), .val .null, .unset] [.int z])) := c4.trans (st5 _ (Steps.refl _))
  have c7 : Steps p.tables e below (s₁.setTop (entryFrame m #[.ref a, .ref b, .int (Int32.ofNat o), .int (Int32.ofNat len), .null] 6)) (T5.setTop (mkF m 36 #[.val (.ref a), .val (.ref b), .val (.int (Int32.ofNat o)), .val (.int (Int32.ofNat len)), .val .null, .unset] [.int (Int32.ofNat len), .int (Int32.ofNat o), .ref b])) := c6.trans (by
    refine XS.ifNo X5.here hexec rfl (hb hbytes d30) rfl (i0_eq_f hz) ?_
    refine XS.aloadN X5.here hexec rfl (hb hbytes d33) rfl rfl ?_
    refine XS.iloadN X5.here hexec rfl (hb hbytes d34) rfl ?_
    refine XS.iloadN X5.here hexec rfl (hb hbytes d35) rfl ?_
    exact Steps.refl _)
  obtain ⟨v8, T8, X8, E8, g8⟩ := X5.callS hexec (Cmp3.law l b A o len) hown (wks W (staticW "java/lang/String" 177 Cmp3.yN)) (wk W Cmp3.tab) (W := 0) (Nat.le_of_ble_eq_true rfl) (Nat.le_of_ble_eq_true rfl) (Nat.le_refl _) (by show 0 + len ≤ len; omega) (g := (mkF m 36 #[.val (.ref a), .val (.ref b), .val (.int (Int32.ofNat o)), .val (.int (Int32.ofNat len)), .val .null, .unset] [.int (Int32.ofNat len), .int (Int32.ofNat o), .ref b])) rfl (by rw [hml]; rfl) c7 (argsL := [.ref b, .int (Int32.ofNat o), .int (Int32.ofNat len)]) (rest := []) rfl rfl (by show 2 * 0 + 0 ≤ _; decide) (hb hbytes d36) (⟨rfl, hA.mv X5.warmed.alike hh5, l1, l2, hp⟩)
  obtain ⟨e8, z8⟩ := E8
  obtain ⟨rfl, N, n1, n2, n3, n4, n5, n6⟩ := NewArr.mv _ T5 s _ _ hh5.symm (Vm.Alike.refl _) rfl e8
  rw [hh5] at z8
  have hB1 := hB.keep X8.warmed.alike (n6 _ _ hB.1)
  have hne : s.heap.size ≠ a := (Nat.ne_of_lt (Array.getElem?_eq_some_iff.mp hB.1).1).symm
  have c9 : Steps p.tables e below (s₁.setTop (entryFrame m #[.ref a, .ref b, .int (Int32.ofNat o), .int (Int32.ofNat len), .null] 6)) (T8.setTop (mkF m 39 #[.val (.ref a), .val (.ref b), .val (.int (Int32.ofNat o)), .val (.int (Int32.ofNat len)), .val .null, .unset] [.ref s.heap.size])) := g8
  have c10 : Steps p.tables e below (s₁.setTop (entryFrame m #[.ref a, .ref b, .int (Int32.ofNat o), .int (Int32.ofNat len), .null] 6)) (T8.setTop (mkF m 45 #[.val (.ref a), .val (.ref b), .val (.int (Int32.ofNat o)), .val (.int (Int32.ofNat len)), .val .null, .val (.ref s.heap.size)] [.int (Int32.ofNat N.slots.size), .ref s.heap.size, .ref a])) := by
    have hc : Steps p.tables e below (s₁.setTop (entryFrame m #[.ref a, .ref b, .int (Int32.ofNat o), .int (Int32.ofNat len), .null] 6)) (T8.setTop (mkF m 45 #[.val (.ref a), .val (.ref b), .val (.int (Int32.ofNat o)), .val (.int (Int32.ofNat len)), .val .null, .val (.ref s.heap.size)] [.int (Int32.ofNat len), .ref s.heap.size, .ref a])) := c9.trans (by
      refine XS.astore X8.here hexec rfl (hb hbytes d39) rfl rfl rfl ?_
      refine XS.aloadN X8.here hexec rfl (hb hbytes d41) rfl rfl ?_
      refine XS.aload X8.here hexec rfl (hb hbytes d42) rfl rfl ?_
      refine XS.iloadN X8.here hexec rfl (hb hbytes d44) rfl ?_
      exact Steps.refl _)
    rw [n4]; exact hc
  obtain ⟨v11, T11, X11, E11, g11⟩ := X8.callS hexec (CodL.law l s.heap.size N) hown (wks W (staticW "java/lang/String" 47 CodL.yN)) (wk W CodL.tab) (W := 1) (Nat.le_of_ble_eq_true rfl) (Nat.le_of_ble_eq_true rfl) (Nat.le_refl _) (by show 0 + len + 0 ≤ len; omega) (g := (mkF m 45 #[.val (.ref a), .val (.ref b), .val (.int (Int32.ofNat o)), .val (.int (Int32.ofNat len)), .val .null, .val (.ref s.heap.size)] [.int (Int32.ofNat N.slots.size), .ref s.heap.size, .ref a])) rfl (by rw [hml]; rfl) c10 (argsL := [.ref s.heap.size, .int (Int32.ofNat N.slots.size)]) (rest := [.ref a]) rfl rfl (by show 2 * 0 + (1 + 0) ≤ _; decide) (hb hbytes d45) (⟨rfl, n1⟩)
  obtain ⟨rfl, q11⟩ := E11
  have hB11 := hB1.mv (X8.warmed.alike.symm.trans X11.warmed.alike) q11
  have c12 : Steps p.tables e below (s₁.setTop (entryFrame m #[.ref a, .ref b, .int (Int32.ofNat o), .int (Int32.ofNat len), .null] 6)) (T11.setTop (mkF m 48 #[.val (.ref a), .val (.ref b), .val (.int (Int32.ofNat o)), .val (.int (Int32.ofNat len)), .val .null, .val (.ref s.heap.size)] [.int 0, .ref a])) := g11
  obtain ⟨T13, X13, p13, bl13, sl13, st13⟩ := X11.finit hexec hown (wk W (.fieldLink "java/lang/String" 15 "java/lang/String" "coder" "B")) (Or.inr ⟨_, (wk W (.laysFinal "java/lang/String" "java/lang/String" "coder" "B"))⟩) (Or.inl ⟨rfl, hnm⟩) f2 (Or.inl rfl) hB11 (t := .byte) (by decide +kernel) rfl (g := (mkF m 48 #[.val (.ref a), .val (.ref b), .val (.int (Int32.ofNat o)), .val (.int (Int32.ofNat len)), .val .null, .val (.ref s.heap.size)] [.int 0, .ref a])) rfl (rest := []) rfl (hb hbytes d48)
  have c14 : Steps p.tables e below (s₁.setTop (entryFrame m #[.ref a, .ref b, .int (Int32.ofNat o), .int (Int32.ofNat len), .null] 6)) (T13.setTop (mkF m 54 #[.val (.ref a), .val (.ref b), .val (.int (Int32.ofNat o)), .val (.int (Int32.ofNat len)), .val .null, .val (.ref s.heap.size)] [.ref s.heap.size, .ref a])) := (c12.trans (st13 _ (Steps.refl _))).trans (by
    refine XS.aloadN X13.here hexec rfl (hb hbytes d51) rfl rfl ?_
    refine XS.aload X13.here hexec rfl (hb hbytes d52) rfl rfl ?_
    exact Steps.refl _)
  obtain ⟨T15, X15, p15, bl15, sl15, st15⟩ := X13.finit hexec hown (wk W (.fieldLink "java/lang/String" 9 "java/lang/String" "value" "[B")) (Or.inr ⟨_, (wk W (.laysFinal "java/lang/String" "java/lang/String" "value" "[B"))⟩) (Or.inl ⟨rfl, hnm⟩) f1 (Or.inl rfl) bl13 (t := (.array .byte)) (by decide +kernel) rfl (g := (mkF m 54 #[.val (.ref a), .val (.ref b), .val (.int (Int32.ofNat o)), .val (.int (Int32.ofNat len)), .val .null, .val (.ref s.heap.size)] [.ref s.heap.size, .ref a])) rfl (rest := []) rfl (hb hbytes d54)
  have c16 : Steps p.tables e below (s₁.setTop (entryFrame m #[.ref a, .ref b, .int (Int32.ofNat o), .int (Int32.ofNat len), .null] 6)) (T15.setTop (mkF m 57 #[.val (.ref a), .val (.ref b), .val (.int (Int32.ofNat o)), .val (.int (Int32.ofNat len)), .val .null, .val (.ref s.heap.size)] [])) := c14.trans (st15 _ (Steps.refl _))
  have ap := apart (Or.inr ⟨_, (wk W (.laysFinal "java/lang/String" "java/lang/String" "value" "[B"))⟩) (Or.inr ⟨_, (wk W (.laysFinal "java/lang/String" "java/lang/String" "coder" "B"))⟩) f1 f2 (t₁ := .array .byte) (t₂ := .byte) (by decide +kernel) (by decide +kernel) (by decide)
  have al := X8.warmed.alike.symm.trans X15.warmed.alike
  have n7 : T11.heap[s.heap.size]? = some N := by rw [q11]; exact n1.1
  exact ⟨T15, none, _, _, _, X15, by simp, rfl, by omega, (fun _ => rfl), ⟨rfl, _, N, bl15, ((Same.refl D _).set _ (by simp)).set _ (by simp), sl15, (Cell.slots_setSlot_ne _ ap).trans sl13, n1.keep al (p15.other hne (p13.other hne n7)), n2, by rw [al.findClass]; exact n3, n4, n5, fun y c h1 h2 => p15.other h1 (p13.other h1 (by rw [q11]; exact n6 y c h2)), by rw [p15.2.2, p13.2.2, q11]; exact z8⟩, fun fs hl => c16.trans (X15.returnOut hexec hret (hb hbytes d57) hl)⟩
end New4
namespace New1
def yN : MethodName := ⟨"java/lang/String", "<init>", "([C)V"⟩
abbrev yB : ByteArray := jdk_42_method_3_code
theorem d0 : decode yB 0 = .ok (.aload_n 0, 1) := by decide +kernel
theorem d1 : decode yB 1 = .ok (.aload_n 1, 1) := by decide +kernel
theorem d2 : decode yB 2 = .ok (.iconst 0, 1) := by decide +kernel
theorem d3 : decode yB 3 = .ok (.aload_n 1, 1) := by decide +kernel
theorem d4 : decode yB 4 = .ok (.arraylength, 1) := by decide +kernel
theorem d5 : decode yB 5 = .ok (.aconst_null, 1) := by decide +kernel
theorem d6 : decode yB 6 = .ok (.invokespecial 27, 3) := by decide +kernel
theorem d9 : decode yB 9 = .ok (.return_, 1) := by decide +kernel
def site : List Cond := [New4.tab] ++ initW "java/lang/String" 27 New4.yN
def tab : Cond := tabOf yN yB 2 none site
def P (a : Addr) (D : Cell) (fV fC : Field) (b : Addr) (A : Cell) (z : Int32) (args : Array Value) (s : State) : Prop := args = #[.ref a, .ref b] ∧ Blank "java/lang/String" a D s ∧ Found "java/lang/String" "value" "[B" fV s ∧ Found "java/lang/String" "coder" "B" fC s ∧ Ch b A s ∧ StaticIs s "java/lang/String" "COMPACT_STRINGS" "Z" (.int z) ∧ ¬ z = 0 ∧ 0 < A.slots.size ∧ A.slots.size ≤ 536870912 ∧ ∀ i, i < A.slots.size → ¬ 255 < cv A i
def E (a : Addr) (D : Cell) (fV fC : Field) (A : Cell) (r : Option Value) (s u : State) : Prop := Got a D fV fC A 0 A.slots.size r s u
/-- new String(chars), not empty, no char above 255: a Latin-1 String of their low bytes -/
theorem law (l : Launch) (a : Addr) (D : Cell) (fV fC : Field) (b : Addr) (A : Cell) (z : Int32) : Law l yN 2 1 3 52 yB 2 none site (P a D fV fC b A z) (E a D fV fC A) [⟨a, fC.slot⟩, ⟨a, fV.slot⟩] 1 A.slots.size := by
  refine Law.of_walk (plainFor_of_name (by decide +kernel)) (by decide +kernel) (by decide +kernel) (by decide) (fun _ _ h => by rw [h.1]; rfl) (fun _ U U' hal hh h => ⟨h.1, h.2.1.mv hal hh, h.2.2.1.al hal, h.2.2.2.1.al hal, h.2.2.2.2.1.mv hal hh, h.2.2.2.2.2.1.there hal hh, h.2.2.2.2.2.2⟩) (fun r U U' V V' h1 hal h2 h => Got.mv r U U' V V' h1 hal h2 h) ?_
  intro p e s m args below meth c s₁ X0 hexec hbytes hml hret hlk hnm hown hh0 W hP
  obtain ⟨rfl, hB, f1, f2, hA, s1, hz, l0, l2, hp⟩ := hP
  have c1 : Steps p.tables e below (s₁.setTop (entryFrame m #[.ref a, .ref b] 2)) (s₁.setTop (mkF m 0 #[.val (.ref a), .val (.ref b)] [])) := entry rfl
  have c2 : Steps p.tables e below (s₁.setTop (entryFrame m #[.ref a, .ref b] 2)) (s₁.setTop (mkF m 6 #[.val (.ref a), .val (.ref b)] [.null, .int (Int32.ofNat A.slots.size), .int 0, .ref b, .ref a])) := c1.trans (by
    refine XS.aloadN X0.here hexec rfl (hb hbytes d0) rfl rfl ?_
    refine XS.aloadN X0.here hexec rfl (hb hbytes d1) rfl rfl ?_
    refine iconstV X0.here hexec rfl 0 (hb hbytes d2) (by decide) ?_
    refine XS.aloadN X0.here hexec rfl (hb hbytes d3) rfl rfl ?_
    refine X0.alen hexec (hA.1.mv X0.warmed.alike hh0) rfl rfl (hb hbytes d4) ?_
    refine XS.aconstNull X0.here hexec rfl (hb hbytes d5) ?_
    exact Steps.refl _)
  obtain ⟨v3, T3, X3, E3, g3⟩ := X0.callN hexec (New4.law l a D fV fC b A z 0 A.slots.size) rfl hown (wks W (initW "java/lang/String" 27 New4.yN)) (W New4.tab (by simp only [site, List.mem_cons, List.mem_append, true_or, or_true])) (W := 0) (Nat.le_of_ble_eq_true rfl) (Nat.le_of_ble_eq_true rfl) (Nat.le_refl _) (by show 0 + A.slots.size ≤ A.slots.size; omega) (g := (mkF m 6 #[.val (.ref a), .val (.ref b)] [.null, .int (Int32.ofNat A.slots.size), .int (Int32.ofNat 0), .ref b, .ref a])) rfl (by rw [hml]; rfl) c2 (argsL := [.ref b, .int (Int32.ofNat 0), .int (Int32.ofNat A.slots.size), .null]) (rest := []) rfl rfl (by show 2 * 0 + 0 ≤ _; decide) (hb hbytes d6) (⟨rfl, hB.mv X0.warmed.alike hh0, f1.al X0.warmed.alike, f2.al X0.warmed.alike, hA.mv X0.warmed.alike hh0, s1.there X0.warmed.alike hh0, hz, l0, by omega, l2, fun i hi => by rw [Nat.zero_add]; exact hp i hi⟩)
  have e0 := Got.mv _ s₁ s _ _ hh0.symm (Vm.Alike.refl _) rfl E3
  obtain rfl := e0.1
  have c4 : Steps p.tables e below (s₁.setTop (entryFrame m #[.ref a, .ref b] 2)) (T3.setTop (mkF m 9 #[.val (.ref a), .val (.ref b)] [])) := g3
  exact ⟨T3, none, _, _, _, X3, by simp, rfl, by omega, (fun _ => rfl), e0, fun fs hl => c4.trans (X3.returnOut hexec hret (hb hbytes d9) hl)⟩
theorem pays {l : Launch} {R : Room} {p : Program} {e : Env} {below : List Frame} {s : State} {sargs : Array Value} {len W : Nat} (a : Addr) (D : Cell) (fV fC : Field) (b : Addr) (A : Cell) (z : Int32) (htab : tab.before sargs s = true) (hfr : 4 ≤ R.frames) (hlo : W + 65 ≤ R.locals) :
    Back l R p e below s sargs yN len W (fun A₁ a₁ => A₁.cells + 1 ≤ R.cells ∧ A₁.slots + A.slots.size ≤ R.slots ∧ P a D fV fC b A z a₁ A₁.U) (fun A₁ _ v₁ B₁ => E a D fV fC A v₁ A₁.U B₁.U ∧ B₁.locs = A₁.locs ++ [⟨a, fC.slot⟩, ⟨a, fV.slot⟩] ∧ B₁.cells = A₁.cells + 1 ∧ B₁.slots = A₁.slots + A.slots.size) :=
  (law l a D fV fC b A z).pays htab hfr (by omega)
end New1
/-- the byte, read back as charAt reads it, is the char -/
theorem lo8_mask {x : Int32} (h0 : ¬ x < 0) (h1 : ¬ 255 < x) : lo8 x &&& 255 = x := by
  have t : ∀ k : Fin 256, lo8 (Int32.ofNat k.val) &&& 255 = Int32.ofNat k.val := by decide +kernel
  rw [Int32.lt_iff_toInt_lt] at h0 h1
  have e0 : (0 : Int32).toInt = 0 := rfl
  have e1 : (255 : Int32).toInt = 255 := rfl
  obtain ⟨k, hk⟩ : ∃ k : Nat, x.toInt = k := ⟨x.toInt.toNat, by omega⟩
  have hx : x = Int32.ofNat k := Int32.toInt_inj.mp (by rw [hk, Int32.toInt_ofNat_small (by omega)])
  rw [hx]
  exact t ⟨k, by omega⟩
end StrChars
namespace StrChars.Road
open Jvm Sem ClassFile Op Lib Jvm.Stand Jvm.Free Jvm.Free.XT
open Jvm.Lib.Cold (StaticIs)
abbrev ST : String := "java/lang/String"
/-- every table word that New1's law asks, flat -/
abbrev words : List Jvm.Cond := [.code New1.yN New1.yB 2 none, .initialized ST, .methodLink ST 27 New4.yN, .instanceMethod New4.yN,
  .code New4.yN New4.yB 6 none, .fieldLink ST 38 ST "COMPACT_STRINGS" "Z", .laysFinal ST ST "value" "[B", .fieldLink ST 9 ST "value" "[B", .laysFinal ST ST "coder" "B", .fieldLink ST 15 ST "coder" "B",
  .methodLink ST 1 Lib.objectInit, .instanceMethod Lib.objectInit, .code Lib.objectInit ⟨#[0xb1]⟩ 1 none, .methodLink ST 177 Cmp3.yN, .static Cmp3.yN, .methodLink ST 47 CodL.yN, .static CodL.yN,
  .code Cmp3.yN Cmp3.yB 6 (some (.array .byte)), .initialized U16, .arrayClass .byte, .methodLink U16 115 Cmp5.yN, .static Cmp5.yN, .code Cmp5.yN Cmp5.yB 7 (some .int), .code CodL.yN CodL.yB 2 (some .byte)]
theorem tab_of {a : Array Value} {s : State} (h : ∀ w ∈ words, w.before a s = true) : New1.tab.before a s = true := by
  have h5 : Cmp5.tab.before a s = true := unparts (wk h (.code Cmp5.yN Cmp5.yB 7 (some .int))) (wks h (.initialized Cmp5.yN.cls :: Cmp5.site))
  have hc : CodL.tab.before a s = true := unparts (wk h (.code CodL.yN CodL.yB 2 (some .byte))) (wks h (.initialized CodL.yN.cls :: CodL.site))
  have q5 : ∀ w ∈ Cmp5.tab :: words, w.before a s = true := fun w hw => (List.mem_cons.mp hw).elim (fun e => e ▸ h5) (h w)
  have h3 : Cmp3.tab.before a s = true := unparts (wk q5 (.code Cmp3.yN Cmp3.yB 6 (some (.array .byte)))) (wks q5 (.initialized Cmp3.yN.cls :: Cmp3.site))
  have q3 : ∀ w ∈ Cmp3.tab :: CodL.tab :: words, w.before a s = true := fun w hw => (List.mem_cons.mp hw).elim (fun e => e ▸ h3) fun hw => (List.mem_cons.mp hw).elim (fun e => e ▸ hc) (h w)
  have h4 : New4.tab.before a s = true := unparts (wk q3 (.code New4.yN New4.yB 6 none)) (wks q3 (.initialized New4.yN.cls :: New4.site))
  have q4 : ∀ w ∈ New4.tab :: words, w.before a s = true := fun w hw => (List.mem_cons.mp hw).elim (fun e => e ▸ h4) (h w)
  exact unparts (wk q4 (.code New1.yN New1.yB 2 none)) (wks q4 (.initialized New1.yN.cls :: New1.site))
/-- the words ride from the start Z to the walk's own state -/
theorem moved {Z s : State} {a0 args : Array Value} (hZ : Z.Warmed39 s.vm) (hw : ∀ d ∈ words, d.before a0 Z = true) : ∀ d ∈ words, d.before args s = true := fun d hd => by
  have q := hw d hd
  have t : ∀ d ∈ words, d = .arrayClass .byte ∨ (d.onTables && d.keepsFace) = true := by decide +kernel
  rcases t d hd with rfl | t
  · exact RoadKit.mvA hZ q
  · exact RoadKit.mv hZ q t
/-- WHAT COMES BACK, over the tables of the start Z: h the heap at the call, h' behind it -/
def Q (Z : State) (x : Addr) (A : Cell) (h : Heap) (v : Option Value) (h' : Heap) (L : List Loc) : Prop := v = none ∧ (∀ y ∈ L, y.base = x) ∧ RoadKit.Keep h h' [x] ∧ h'.size = h.size + 1 ∧ RoadKit.Exa Z h' x ST ∧ RoadKit.Fld Z h' x ST "value" "[B" (.ref h.size) ∧ RoadKit.Fld Z h' x ST "coder" "B" (.int 0) ∧
  (∃ V : Cell, RoadKit.Arr Z h' h.size V .byte ∧ V.vm = .none ∧ Z.vm.findClass "[B" = some V.cls ∧ V.slots.size = A.slots.size ∧ ∀ j, j < A.slots.size → V.slots[j]? = some (.int (lo8 (cv A j)))) ∧
  ∀ (O n d : String) (w : Value), RoadKit.Fld Z h x O n d w → RoadKit.slotOf Z O n d ≠ RoadKit.slotOf Z ST "value" "[B" → RoadKit.slotOf Z O n d ≠ RoadKit.slotOf Z ST "coder" "B" → RoadKit.Fld Z h' x O n d w
/-- **new String(chars) AT A CALL, IN THE ROAD'S FORM**: for specialBack behind newO: x the fresh String, b the char[] with the cell A -/
theorem back {p : Program} {l : Launch} {e : Env} {R : Room} {s : State} {args : Array Value} {below : List Frame} {len W : Nat} {Z : State} {a0 : Array Value} {h : Heap} (hZ : Z.Warmed39 s.vm) (hw : ∀ d ∈ words, d.before a0 Z = true) {kI : Nat} (wi : (Jvm.Cond.instantiable ST kI).before a0 Z = true)
    {x b : Addr} {A : Cell} {z : Int32} {v0 c0 : Value} (E : RoadKit.Exa Z h x ST) (V : RoadKit.Fld Z h x ST "value" "[B" v0) (C : RoadKit.Fld Z h x ST "coder" "B" c0) (K : RoadKit.Arr Z h b A .char) (hty : Typed .char A) (S : RoadKit.Sta Z h ST "COMPACT_STRINGS" "Z" (.int z)) (hz : ¬ z = 0)
    (l0 : 0 < A.slots.size) (l2 : A.slots.size ≤ 536870912) (hp : ∀ i, i < A.slots.size → ¬ 255 < cv A i) (hfr : 4 ≤ R.frames) (hlo : W + 65 ≤ R.locals) :
    Back l R p e below s args New1.yN len W (fun P a => a = #[.ref x, .ref b] ∧ P.U.heap = h ∧ P.cells + 1 ≤ R.cells ∧ P.slots + A.slots.size ≤ R.slots)
      (fun P _ v B => ∃ L, Q Z x A h v B.U.heap L ∧ B.locs = P.locs ++ L ∧ B.cells = P.cells + 1 ∧ B.slots = P.slots + A.slots.size) := by
  intro m meth c P g ig mk a X hg hsize hdg hW hn hp'
  obtain ⟨rfl, rfl, r1, r2⟩ := hp'
  have al : Z.vm.Alike P.U.vm := hZ.alike.trans X.warmed.alike
  obtain ⟨D, cfV, kV, iV, fV, hD, gV, stV, knV, obV, asV, slV⟩ := id V
  obtain ⟨D', cfC, kC, iC, fC, hD', gC, stC, -, -, asC, slC⟩ := id C
  cases hD.symm.trans hD'
  obtain ⟨D2, kD, e1, e2, e3, e4, e5⟩ := id E
  cases hD.symm.trans e1
  obtain ⟨c2, k2, i1, i2, i3, -⟩ := Cond.instantiable_spec wi
  cases e2.symm.trans i1
  cases e3.symm.trans i2
  obtain ⟨kU, u1, u2⟩ := al.2.2 _ _ e3
  have hB : Blank ST x D P.U := ⟨hD, ⟨knV, fun q hq => by rw [hq] at obV; cases obV⟩, by rw [al.findClass]; exact e2, kU, u1, by rw [u2]; exact i3, by rw [u2]; exact e5 i3⟩
  have F1 : Found ST "value" "[B" fV P.U := ⟨SBG.found_only al ⟨cfV, kV, iV, gV⟩, stV⟩
  have F2 : Found ST "coder" "B" fC P.U := ⟨SBG.found_only al ⟨cfC, kC, iC, gC⟩, stC⟩
  have hA : Ch b A P.U := ⟨⟨K.1, State.isArrayOf_alike al K.2.1, K.2.2, by omega⟩, hty⟩
  have hS : StaticIs P.U ST "COMPACT_STRINGS" "Z" (.int z) := by
    obtain ⟨cfS, iS, kS, fS, st, cS, t1, t2, t3, t4, t5, t6, t7⟩ := S
    exact StaticIs.there (s := { Z with heap := P.U.heap }) ⟨cfS, iS, kS, fS, st, cS, t1, t2, t3, t4, t5, (fun q => by rw [q] at t6; cases t6), t7⟩ al rfl
  obtain ⟨v, B, X', ⟨⟨hv, E', V', q1, q2, q3, q4, q5, q6, q7, q8, q9, q10, q11⟩, hl, hc, hs⟩, st⟩ := New1.pays x D fV fC b A z (tab_of (moved hZ hw)) hfr hlo m meth c P g ig mk _ X hg hsize hdg hW hn ⟨r1, r2, rfl, hB, F1, F2, hA, hS, hz, l0, l2, hp⟩
  have al' : Z.vm.Alike B.U.vm := hZ.alike.trans X'.warmed.alike
  have hsz : E'.slots.size = D.slots.size := by
    obtain ⟨-, -, -, kB, w1, w2, w3⟩ := q1
    obtain ⟨kB', y1, y2⟩ := al'.2.2 _ _ e3
    rw [q2.2.1] at w1
    cases w1.symm.trans y1
    rw [w3, e5 i3, y2]
  refine ⟨v, B, X', ⟨_, ⟨hv, ?_, ⟨by omega, fun y cy hy hn' => q10 y cy (by simpa using hn') hy, fun y cy hy => ?_⟩, q11, ⟨E', _, q1.1, by rw [q2.2.1]; exact e2, by rw [q2.2.1]; exact e3, by rw [q2.1]; exact obV, fun _ => by rw [hsz]; exact e5 i3⟩,
    ⟨E', cfV, kV, iV, fV, q1.1, gV, stV, by rw [q2.1]; exact knV, by rw [q2.1]; exact obV, by rw [q2.2.1]; exact asV, q3⟩, ⟨E', cfC, kC, iC, fC, q1.1, gC, stC, by rw [q2.1]; exact knV, by rw [q2.1]; exact obV, by rw [q2.2.1]; exact asC, q4⟩,
    ⟨V', ⟨q5.1, State.isArrayOf_alike al'.symm q5.2.1, q5.2.2.1⟩, q6, by rw [← al'.findClass]; exact q7, q8, fun j hj => by have := q9 j hj; rwa [Nat.zero_add] at this⟩, fun O n d w F n1 n2 => ?_⟩, hl, hc, hs⟩, st⟩
  · intro y hy
    simp only [List.mem_cons, List.not_mem_nil, or_false] at hy
    rcases hy with rfl | rfl <;> rfl
  · by_cases q : y = x
    · subst q
      cases hD.symm.trans hy
      exact ⟨E', q1.1, q2.2.1, q2.1, hsz⟩
    · exact ⟨cy, q10 y cy q hy, rfl, rfl, rfl⟩
  · obtain ⟨D3, cf, k, i, f, g1, g2, g3, g4, g5, g6, g7⟩ := F
    cases hD.symm.trans g1
    simp only [RoadKit.slotOf, g2, gV, gC, Option.map_some, Option.getD_some] at n1 n2
    exact ⟨E', cf, k, i, f, q1.1, g2, g3, by rw [q2.1]; exact g4, by rw [q2.1]; exact g5, by rw [q2.2.1]; exact g6, by rw [q2.2.2 f.slot (by simp [n1, n2])]; exact g7⟩
end StrChars.Road
namespace StrChars.Road
open Jvm Sem ClassFile Op Lib Jvm.Stand Jvm.Free Jvm.Free.XT
/-- WHAT COMES BACK, the byte[] as a list of values -/
def QA (Z : State) (x : Addr) (zn : Int32) (cs : List Int32) (h : Heap) (v : Option Value) (h' : Heap) (L : List Loc) : Prop := v = none ∧ (∀ y ∈ L, y.base = x) ∧ RoadKit.Keep h h' [x] ∧ h'.size = h.size + 1 ∧ RoadKit.Exa Z h' x ST ∧ RoadKit.Fld Z h' x ST "value" "[B" (.ref h.size) ∧ RoadKit.Fld Z h' x ST "coder" "B" (.int 0) ∧
  (∃ kb, Z.vm.findClass "[B" = some kb ∧ RoadKit.Arv Z h' h.size kb .byte zn (cs.map fun c => .int (lo8 c)) (.int 0)) ∧
  ∀ (O n d : String) (w : Value), RoadKit.Fld Z h x O n d w → RoadKit.slotOf Z O n d ≠ RoadKit.slotOf Z ST "value" "[B" → RoadKit.slotOf Z O n d ≠ RoadKit.slotOf Z ST "coder" "B" → RoadKit.Fld Z h' x O n d w
/-- **new String(chars) AT A CALL, THE ARRAYS AS LISTS**: the char[] at b holds cs, not empty, no char above 255 -/
theorem backArv {p : Program} {l : Launch} {e : Env} {R : Room} {s : State} {args : Array Value} {below : List Frame} {len W : Nat} {Z : State} {a0 : Array Value} {h : Heap} (hZ : Z.Warmed39 s.vm) (hw : ∀ d ∈ words, d.before a0 Z = true) {kI : Nat} (wi : (Jvm.Cond.instantiable ST kI).before a0 Z = true)
    {x b : Addr} {k : ClassId} {zn z : Int32} {cs : List Int32} {dv v0 c0 : Value} (E : RoadKit.Exa Z h x ST) (V : RoadKit.Fld Z h x ST "value" "[B" v0) (C : RoadKit.Fld Z h x ST "coder" "B" c0) (K : RoadKit.Arv Z h b k .char zn (cs.map Value.int) dv) (S : RoadKit.Sta Z h ST "COMPACT_STRINGS" "Z" (.int z)) (hz : ¬ z = 0)
    (hlen : zn.toNatClampNeg = cs.length) (h0 : 0 < cs.length) (hbig : cs.length ≤ 536870912) (hall : ∀ c ∈ cs, ¬ 255 < c) (hfr : 4 ≤ R.frames) (hlo : W + 65 ≤ R.locals) :
    Back l R p e below s args New1.yN len W (fun P a => a = #[.ref x, .ref b] ∧ P.U.heap = h ∧ P.cells + 1 ≤ R.cells ∧ P.slots + cs.length ≤ R.slots)
      (fun P _ v B => ∃ L, QA Z x zn cs h v B.U.heap L ∧ B.locs = P.locs ++ L ∧ B.cells = P.cells + 1 ∧ B.slots = P.slots + cs.length) := by
  obtain ⟨A, K1, K2, K3, K4, K5, K6⟩ := K
  have e : A.slots.size = cs.length := K3.trans hlen
  have hat : ∀ (i : Nat) (hi : i < cs.length), A.slots[i]? = some (.int cs[i]) := fun i hi => by rw [K5 i (by omega)]; simp [List.getD_eq_getElem?_getD, hi]
  have hcv : ∀ (i : Nat) (hi : i < cs.length), cv A i = cs[i] := fun i hi => by unfold cv; rw [hat i hi]
  have hty : Typed .char A := fun i v hv => by
    have hi : i < A.slots.size := (Array.getElem?_eq_some_iff.mp hv).1
    have q := K5 i hi
    rw [hv] at q
    rw [Option.some.inj q]
    exact K6 i hi
  refine Back.mono (back hZ hw wi E V C K1 hty S hz (by omega) (by omega) (fun i hi => by rw [hcv i (by omega)]; exact hall _ (List.getElem_mem _)) hfr hlo) (fun P a hp => ⟨hp.1, hp.2.1, hp.2.2.1, by rw [e]; exact hp.2.2.2⟩) (fun P a v B hp hq => ?_)
  obtain ⟨L, ⟨q1, q2, q3, q4, q5, q6, q7, ⟨V', v1, v2, v3, v4, v5⟩, q9⟩, hl, hc, hs⟩ := hq
  refine ⟨L, ⟨q1, q2, q3, q4, q5, q6, q7, ⟨V'.cls, v3, V', v1, rfl, by rw [v4, e, hlen], K4, fun i hi => ?_, fun i hi => ?_⟩, q9⟩, hl, hc, by rw [hs, e]⟩
  · have hi' : i < cs.length := by omega
    rw [v5 i (by omega), hcv i hi']; simp [List.getD_eq_getElem?_getD, hi']
  · have hi' : i < cs.length := by omega
    simp only [List.getD_eq_getElem?_getD, List.getElem?_map, List.getElem?_eq_getElem hi', Option.map_some, Option.getD_some]
    exact fits_lo8 _
end StrChars.Road
namespace StrChars.Road
open Jvm Sem ClassFile Op Lib Jvm.Stand Jvm.Free Jvm.Free.XT
/-- WHAT COMES BACK, in the writer's own shape -/
def QV (Z : State) (x : Addr) (N : Int32) (bs : List Int32) (h : Heap) (n0 : Nat) (v : Option Value) (h' : Heap) (L : List Loc) : Prop := v = none ∧ RoadKit.Fr n0 L ∧ RoadKit.Keep h h' [x] ∧ RoadKit.Exa Z h' x ST ∧ RoadKit.Fld Z h' x ST "coder" "B" (.int 0) ∧
  ∃ (t : Addr) (kb : ClassId), n0 ≤ t ∧ h.size ≤ t ∧ ¬ t = x ∧ RoadKit.Fld Z h' x ST "value" "[B" (.ref t) ∧ RoadKit.Arv Z h' t kb .byte N (bs.map Value.int) (.int 0)
/-- **new String(chars) AT A CALL, FOR THE WRITER**: a char[] of n known ints, each 0 to 255 -/
theorem backV {p : Program} {l : Launch} {e : Env} {R : Room} {s : State} {args : Array Value} {below : List Frame} {len W : Nat} {Z : State} {a0 : Array Value} {h : Heap} (hZ : Z.Warmed39 s.vm) (hw : ∀ d ∈ words, d.before a0 Z = true) {kI : Nat} (wi : (Jvm.Cond.instantiable ST kI).before a0 Z = true)
    {x b : Addr} {kC : ClassId} {cs bs : List Int32} {d v0 c0 : Value} {z N : Int32} {n n0 : Nat} (hx0 : n0 ≤ x) (hh0 : n0 ≤ h.size) (E : RoadKit.Exa Z h x ST) (V : RoadKit.Fld Z h x ST "value" "[B" v0) (C : RoadKit.Fld Z h x ST "coder" "B" c0) (K : RoadKit.Arv Z h b kC .char N (cs.map Value.int) d) (S : RoadKit.Sta Z h ST "COMPACT_STRINGS" "Z" (.int z)) (hz : ¬ z = 0)
    (hn : cs.length = n) (hN : N = Int32.ofNat n) (l0 : 0 < n) (l2 : n ≤ 4000) (hp : ∀ c ∈ cs, ¬ c < 0 ∧ ¬ (255 : Int32) < c) (hb : bs = cs.map (fun c => c.toInt8.toInt32)) (hfr : 4 ≤ R.frames) (hlo : W + 65 ≤ R.locals) :
    Back l R p e below s args (⟨"java/lang/String", "<init>", "([C)V"⟩ : MethodName) len W (fun P a => a = #[.ref x, .ref b] ∧ P.U.heap = h ∧ P.cells + 1 ≤ R.cells ∧ P.slots + n ≤ R.slots)
      (fun P _ v B => ∃ L, QV Z x N bs h n0 v B.U.heap L ∧ B.locs = P.locs ++ L ∧ B.cells = P.cells + 1 ∧ B.slots = P.slots + n) := by
  subst hn hN hb
  refine Back.mono (backArv hZ hw wi E V C K S hz (n32 (by omega)) l0 (by omega) (fun c hc => (hp c hc).2) hfr hlo) (fun P a hp => hp) (fun P a v B hp hq => ?_)
  obtain ⟨L, ⟨q1, q2, q3, q4, q5, q6, q7, ⟨kb, v1, v2⟩, q9⟩, hl, hc, hs⟩ := hq
  exact ⟨L, ⟨q1, fun y hy => by rw [q2 y hy]; exact hx0, q3, q5, q7, h.size, kb, hh0, Nat.le_refl _, Nat.ne_of_gt E.lt, q6, by rw [List.map_map]; exact v2⟩, hl, hc, hs⟩
end StrChars.Road
namespace StrChars
open Jvm Sem ClassFile Op Lib Jvm.Stand Jvm.Free.XT Jvm.Free.ALB Jvm.Free.JM Jvm.Free
open Jvm.Lib.Cold (StaticIs)
def hi8 (x : Int32) : Int32 := lo8 (x >>> ((8 : Int32) &&& 31))
/-- what StringUTF16.getChar makes of two bytes -/
def pairCh (u v : Int32) : Int32 := (((u &&& 255) <<< ((0 : Int32) &&& 31)) ||| ((v &&& 255) <<< ((8 : Int32) &&& 31))).toUInt32.toUInt16.toUInt32.toInt32
theorem shr0 (c : Int32) : c >>> ((0 : Int32) &&& 31) = c := by
  have e : ((0 : Int32) &&& 31) = 0 := by decide
  rw [e]
  apply Int32.toBitVec_inj.mp
  rw [Int32.toBitVec_shiftRight]
  have e1 : ((0 : Int32).toBitVec.smod 32) = 0#32 := by decide
  rw [e1, BitVec.sshiftRight_eq']
  exact BitVec.sshiftRight_zero
theorem lo8_and (x : Int32) : (lo8 x &&& 255).toBitVec.toNat = x.toBitVec.toNat % 256 := by
  have h : (lo8 x).toBitVec = (x.toBitVec.signExtend 8).signExtend 32 := by rw [lo8, Int8.toBitVec_toInt32, Int32.toBitVec_toInt8]
  rw [Int32.toBitVec_and, BitVec.toNat_and, h]
  have e : ((x.toBitVec.signExtend 8).signExtend 32).toNat % 256 = x.toBitVec.toNat % 256 := by
    rw [BitVec.toNat_signExtend]
    have hlt := x.toBitVec.isLt
    simp only [BitVec.toNat_setWidth, BitVec.toNat_signExtend]
    split <;> split <;> omega
  rw [← e]
  exact Nat.and_two_pow_sub_one_eq_mod _ 8
theorem pair_says {c : Int32} (h0 : ¬ c < 0) (h1 : ¬ 65535 < c) : pairCh (lo8 c) (hi8 c) = c := by
  rw [Int32.lt_iff_toInt_lt] at h0 h1
  have e0 : (0 : Int32).toInt = 0 := rfl
  have e1 : (65535 : Int32).toInt = 65535 := rfl
  have hc : c.toInt = c.toBitVec.toNat := by
    have := c.toBitVec.isLt
    have e : c.toInt = c.toBitVec.toInt := rfl
    rw [e] at h0 h1
    rw [e]
    rw [BitVec.toInt_eq_toNat_cond] at h0 h1 ⊢
    split at h0 <;> split <;> omega
  have hn : c.toBitVec.toNat < 65536 := by omega
  have a1 := lo8_and c
  have a2 : (hi8 c &&& 255).toBitVec.toNat = c.toBitVec.toNat / 256 := by
    rw [hi8, lo8_and]
    have e : ((8 : Int32) &&& 31) = 8 := by decide
    rw [e, Int32.toBitVec_shiftRight]
    have e2 : ((8 : Int32).toBitVec.smod 32) = 8#32 := by decide
    rw [e2, BitVec.sshiftRight_eq', BitVec.toNat_sshiftRight_of_msb_false (by rw [BitVec.msb_eq_false_iff_two_mul_lt]; omega)]
    show c.toBitVec.toNat >>> 8 % 256 = _
    rw [Nat.shiftRight_eq_div_pow]
    omega
  unfold pairCh
  apply Int32.toBitVec_inj.mp
  apply BitVec.eq_of_toNat_eq
  have f0 : ((0 : Int32) &&& 31) = 0 := by decide
  have f8 : ((8 : Int32) &&& 31) = 8 := by decide
  rw [f0, f8]
  have g : (((lo8 c &&& 255) <<< (0 : Int32)) ||| ((hi8 c &&& 255) <<< (8 : Int32))).toBitVec.toNat = c.toBitVec.toNat := by
    rw [Int32.toBitVec_or, Int32.toBitVec_shiftLeft, Int32.toBitVec_shiftLeft]
    have s0 : ((0 : Int32).toBitVec.smod 32) = 0#32 := by decide
    have s8 : ((8 : Int32).toBitVec.smod 32) = 8#32 := by decide
    rw [s0, s8, BitVec.toNat_or]
    simp only [BitVec.shiftLeft_eq', BitVec.toNat_shiftLeft, a1, a2]
    show (c.toBitVec.toNat % 256) <<< 0 % 2 ^ 32 ||| (c.toBitVec.toNat / 256) <<< 8 % 2 ^ 32 = _
    rw [Nat.shiftLeft_zero, Nat.mod_eq_of_lt (show c.toBitVec.toNat % 256 < 2 ^ 32 by omega), Nat.mod_eq_of_lt (show (c.toBitVec.toNat / 256) <<< 8 < 2 ^ 32 by rw [Nat.shiftLeft_eq]; omega), Nat.or_comm, ← Nat.shiftLeft_add_eq_or_of_lt (by omega), Nat.shiftLeft_eq]
    omega
  show BitVec.toNat (((((lo8 c &&& 255) <<< (0 : Int32)) ||| ((hi8 c &&& 255) <<< (8 : Int32))).toBitVec.setWidth 16).setWidth 32) = _
  rw [BitVec.toNat_setWidth, BitVec.toNat_setWidth, g]
  omega
end StrChars
namespace StrChars
open Jvm Sem ClassFile Op Lib Jvm.Stand Jvm.Free.XT Jvm.Free.ALB Jvm.Free.JM Jvm.Free
open Jvm.Lib.Cold (StaticIs)
theorem shr1 {n : Nat} (h : 2 * n < 2 ^ 31) : Int32.ofNat (2 * n) >>> ((1 : Int32) &&& 31) = Int32.ofNat n := by
  have e : ((1 : Int32) &&& 31) = 1 := by decide
  rw [e]
  apply Int32.toBitVec_inj.mp
  rw [Int32.toBitVec_shiftRight]
  have e1 : ((1 : Int32).toBitVec.smod 32) = 1#32 := by decide
  have hm : (BitVec.ofNat 32 (2 * n)).toNat = 2 * n := by rw [BitVec.toNat_ofNat, Nat.mod_eq_of_lt (by omega)]
  rw [e1, BitVec.sshiftRight_eq']
  apply BitVec.eq_of_toNat_eq
  show ((BitVec.ofNat 32 (2 * n)).sshiftRight 1).toNat = (BitVec.ofNat 32 n).toNat
  rw [BitVec.toNat_sshiftRight_of_msb_false (by rw [BitVec.msb_eq_false_iff_two_mul_lt, hm]; omega), hm, BitVec.toNat_ofNat, Nat.shiftRight_eq_div_pow]
  omega
/-- charAt's cast of a byte read back -/
def chr8 (u : Int32) : Int32 := (u &&& 255).toUInt32.toUInt16.toUInt32.toInt32
theorem chr8_lo8 {c : Int32} (h0 : ¬ c < 0) (h1 : ¬ 255 < c) : chr8 (lo8 c) = c := by
  have t : ∀ k : Fin 256, (Int32.ofNat k.val).toUInt32.toUInt16.toUInt32.toInt32 = Int32.ofNat k.val := by decide +kernel
  unfold chr8
  rw [lo8_mask h0 h1]
  rw [Int32.lt_iff_toInt_lt] at h0 h1
  have e0 : (0 : Int32).toInt = 0 := rfl
  have e1 : (255 : Int32).toInt = 255 := rfl
  obtain ⟨k, hk⟩ : ∃ k : Nat, c.toInt = k := ⟨c.toInt.toNat, by omega⟩
  have hx : c = Int32.ofNat k := Int32.toInt_inj.mp (by rw [hk, Int32.toInt_ofNat_small (by omega)])
  rw [hx]
  exact t ⟨k, by omega⟩
theorem narrow_ch {c : Int32} (h0 : ¬ c < 0) (h1 : ¬ 65535 < c) : narrow .char (.int c) = .int c := by
  have q : narrow .char (.int (pairCh (lo8 c) (hi8 c))) = .int (pairCh (lo8 c) (hi8 c)) := narrow_c _
  rwa [pair_says h0 h1] at q
/-- the array's cell V codes the n chars f 0 .. f (n - 1) by the coder cd, as the JDK does: coder 1 just where some char is above 255 -/
def Cod (cd : Int32) (n : Nat) (f : Nat → Int32) (V : Cell) : Prop := (cd = 0 ∧ V.slots.size = n ∧ ∀ j, j < n → V.slots[j]? = some (.int (lo8 (f j))) ∧ ¬ 255 < f j) ∨ (cd = 1 ∧ V.slots.size = 2 * n ∧ (∀ j, j < n → V.slots[2 * j]? = some (.int (lo8 (f j))) ∧ V.slots[2 * j + 1]? = some (.int (hi8 (f j)))) ∧ ∃ j, j < n ∧ 255 < f j)
theorem Cod.cd {cd : Int32} {n : Nat} {f : Nat → Int32} {V : Cell} (h : Cod cd n f V) : cd = 0 ∨ cd = 1 := h.imp (fun q => q.1) fun q => q.1
theorem Cod.len {cd : Int32} {n : Nat} {f : Nat → Int32} {V : Cell} (h : Cod cd n f V) (hs : V.slots.size < 2 ^ 31) : Int32.ofNat V.slots.size >>> (cd &&& 31) = Int32.ofNat n := by
  rcases h with ⟨rfl, h, -⟩ | ⟨rfl, h, -⟩
  · rw [shr0, h]
  · rw [h, shr1 (by omega)]
/-- **x is a String of the n chars f 0 .. f (n - 1)**, Latin-1 or UTF-16; its array at t has the cell V -/
def Txt (x t : Addr) (V : Cell) (cd : Int32) (n : Nat) (f : Nat → Int32) (U : State) : Prop := Exact "java/lang/String" x U ∧ Has x "java/lang/String" "value" "[B" (.ref t) U ∧ Has x "java/lang/String" "coder" "B" (.int cd) U ∧ XT.Arr .byte t V U ∧ Cod cd n f V ∧ ∀ j, j < n → ¬ f j < 0 ∧ ¬ 65535 < f j
theorem Txt.mv {x t : Addr} {V : Cell} {cd : Int32} {n : Nat} {f : Nat → Int32} {U U' : State} (h : Txt x t V cd n f U) (hal : U.vm.Alike U'.vm) (hh : U'.heap = U.heap) : Txt x t V cd n f U' := ⟨h.1.mv hal hh, h.2.1.mv hal hh, h.2.2.1.mv hal hh, h.2.2.2.1.mv hal hh, h.2.2.2.2⟩
namespace Cdr
def yN : MethodName := ⟨"java/lang/String", "coder", "()B"⟩
abbrev yB : ByteArray := jdk_42_method_152_code
theorem d0 : decode yB 0 = .ok (.getstatic 38, 3) := by decide +kernel
theorem d3 : decode yB 3 = .ok (.ifCond (.eq) 10, 3) := by decide +kernel
theorem d6 : decode yB 6 = .ok (.aload_n 0, 1) := by decide +kernel
theorem d7 : decode yB 7 = .ok (.getfield 15, 3) := by decide +kernel
theorem d10 : decode yB 10 = .ok (.goto 4, 3) := by decide +kernel
theorem d14 : decode yB 14 = .ok (.ireturn, 1) := by decide +kernel
def site : List Cond := [.fieldLink "java/lang/String" 38 "java/lang/String" "COMPACT_STRINGS" "Z", .fieldLink "java/lang/String" 15 "java/lang/String" "coder" "B"]
def tab : Cond := tabOf yN yB 1 (some .byte) site
def P (x : Addr) (cd z : Int32) (args : Array Value) (s : State) : Prop := args = #[.ref x] ∧ Has x "java/lang/String" "coder" "B" (.int cd) s ∧ (cd = 0 ∨ cd = 1) ∧ StaticIs s "java/lang/String" "COMPACT_STRINGS" "Z" (.int z) ∧ ¬ z = 0
def E (cd : Int32) (r : Option Value) (s u : State) : Prop := XT.PureE (some (.int cd)) r s u
theorem law (l : Launch) (x : Addr) (cd z : Int32) : Law l yN 1 0 0 0 yB 1 (some .byte) site (P x cd z) (E cd) [] 0 0 := by
  refine Law.of_walk (plainFor_of_name (by decide +kernel)) (by decide +kernel) (by decide +kernel) (by decide) (fun _ _ h => by rw [h.1]; rfl) (fun _ U U' hal hh h => ⟨h.1, h.2.1.mv hal hh, h.2.2.1, h.2.2.2.1.there hal hh, h.2.2.2.2⟩) (fun r U U' V V' h1 hal h2 h => XT.PureE.mv r U U' V V' h1 hal h2 h) ?_
  intro p e s m args below meth c s₁ X0 hexec hbytes hml hret hlk hnm hown hh0 W hP
  obtain ⟨rfl, hx, hc, s1, hz⟩ := hP
  have c1 : Steps p.tables e below (s₁.setTop (entryFrame m #[.ref x] 1)) (s₁.setTop (mkF m 0 #[.val (.ref x)] [])) := entry rfl
  obtain ⟨T2, X2, q2, st2⟩ := X0.sget hexec hown (wk W (.fieldLink "java/lang/String" 38 "java/lang/String" "COMPACT_STRINGS" "Z")) s1 (fun _ _ h => by rw [hh0]; exact h) (g := (mkF m 0 #[.val (.ref x)] [])) rfl (hb hbytes d0)
  have hh2 := q2.trans hh0
  have c3 : Steps p.tables e below (s₁.setTop (entryFrame m #[.ref x] 1)) (T2.setTop (mkF m 7 #[.val (.ref x)] [.ref x])) := (c1.trans (st2 _ (Steps.refl _))).trans (by
    refine XS.ifNo X2.here hexec rfl (hb hbytes d3) rfl (i0_eq_f hz) ?_
    refine XS.aloadN X2.here hexec rfl (hb hbytes d6) rfl rfl ?_
    exact Steps.refl _)
  obtain ⟨T4, X4, q4, st4⟩ := X2.hget hexec hown (wk W (.fieldLink "java/lang/String" 15 "java/lang/String" "coder" "B")) (hx.mv X2.warmed.alike hh2) (g := (mkF m 7 #[.val (.ref x)] [.ref x])) rfl (rest := []) rfl (hb hbytes d7)
  have c5 : Steps p.tables e below (s₁.setTop (entryFrame m #[.ref x] 1)) (T4.setTop (mkF m 14 #[.val (.ref x)] [.int cd])) := (c3.trans (st4 _ (Steps.refl _))).trans (by
    refine XS.goto X4.here hexec rfl (pc0 := 10) rfl (hb hbytes d10) (by decide) rfl ?_
    exact Steps.refl _)
  exact ⟨T4, some (.int cd), _, _, _, X4, rfl, rfl, rfl, (fun h => by cases h), ⟨rfl, q4.trans hh2⟩, fun fs hl => c5.trans (X4.ireturnOut hexec hret (by rcases hc with rfl | rfl <;> rfl) (Or.inr (Or.inr (Or.inl rfl))) (hb hbytes d14) hl)⟩
end Cdr
namespace Len
def yN : MethodName := ⟨"java/lang/String", "length", "()I"⟩
abbrev yB : ByteArray := jdk_42_method_54_code
theorem d0 : decode yB 0 = .ok (.aload_n 0, 1) := by decide +kernel
theorem d1 : decode yB 1 = .ok (.getfield 9, 3) := by decide +kernel
theorem d4 : decode yB 4 = .ok (.arraylength, 1) := by decide +kernel
theorem d5 : decode yB 5 = .ok (.aload_n 0, 1) := by decide +kernel
theorem d6 : decode yB 6 = .ok (.invokevirtual 335, 3) := by decide +kernel
theorem d9 : decode yB 9 = .ok (.ishr, 1) := by decide +kernel
theorem d10 : decode yB 10 = .ok (.ireturn, 1) := by decide +kernel
def site : List Cond := [.fieldLink "java/lang/String" 9 "java/lang/String" "value" "[B", Cdr.tab] ++ virtW "java/lang/String" 335 "java/lang/String" Cdr.yN Cdr.yN
def tab : Cond := tabOf yN yB 1 (some .int) site
def P (x t : Addr) (V : Cell) (cd : Int32) (n : Nat) (f : Nat → Int32) (z : Int32) (args : Array Value) (s : State) : Prop := args = #[.ref x] ∧ Txt x t V cd n f s ∧ StaticIs s "java/lang/String" "COMPACT_STRINGS" "Z" (.int z) ∧ ¬ z = 0
def E (n : Nat) (r : Option Value) (s u : State) : Prop := XT.PureE (some (.int (Int32.ofNat n))) r s u
/-- length() of a String of n chars, in either coding -/
theorem law (l : Launch) (x t : Addr) (V : Cell) (cd : Int32) (n : Nat) (f : Nat → Int32) (z : Int32) : Law l yN 1 0 1 13 yB 1 (some .int) site (P x t V cd n f z) (E n) [] 0 0 := by
  refine Law.of_walk (plainFor_of_name (by decide +kernel)) (by decide +kernel) (by decide +kernel) (by decide) (fun _ _ h => by rw [h.1]; rfl) (fun _ U U' hal hh h => ⟨h.1, h.2.1.mv hal hh, h.2.2.1.there hal hh, h.2.2.2⟩) (fun r U U' V V' h1 hal h2 h => XT.PureE.mv r U U' V V' h1 hal h2 h) ?_
  intro p e s m args below meth c s₁ X0 hexec hbytes hml hret hlk hnm hown hh0 W hP
  obtain ⟨rfl, hx, s1, hz⟩ := hP
  have v31 := hx.2.2.2.1.2.2.2
  have c1 : Steps p.tables e below (s₁.setTop (entryFrame m #[.ref x] 1)) (s₁.setTop (mkF m 1 #[.val (.ref x)] [.ref x])) := Steps.trans (entry rfl) (by
    show Steps p.tables e below (s₁.setTop (mkF m 0 #[.val (.ref x)] [])) _
    refine XS.aloadN X0.here hexec rfl (hb hbytes d0) rfl rfl ?_
    exact Steps.refl _)
  obtain ⟨T2, X2, q2, st2⟩ := X0.hget hexec hown (wk W (.fieldLink "java/lang/String" 9 "java/lang/String" "value" "[B")) (hx.mv X0.warmed.alike hh0).2.1 (g := (mkF m 1 #[.val (.ref x)] [.ref x])) rfl (rest := []) rfl (hb hbytes d1)
  have hh2 := q2.trans hh0
  have hx2 := hx.mv X2.warmed.alike hh2
  have c3 : Steps p.tables e below (s₁.setTop (entryFrame m #[.ref x] 1)) (T2.setTop (mkF m 6 #[.val (.ref x)] [.ref x, .int (Int32.ofNat V.slots.size)])) := (c1.trans (st2 _ (Steps.refl _))).trans (by
    refine X2.alen hexec hx2.2.2.2.1 rfl rfl (hb hbytes d4) ?_
    refine XS.aloadN X2.here hexec rfl (hb hbytes d5) rfl rfl ?_
    exact Steps.refl _)
  obtain ⟨v4, T4, X4, E4, g4⟩ := X2.callV hexec (Cdr.law l x cd z) hown (wks W (virtW "java/lang/String" 335 "java/lang/String" Cdr.yN Cdr.yN)) rfl (by decide) (wk W Cdr.tab) (W := 1) (Nat.le_of_ble_eq_true rfl) (Nat.le_of_ble_eq_true rfl) (Nat.le_refl _) (Nat.le_refl _) (hx2.1.fc X2.warmed.alike) hx2.1.is (g := (mkF m 6 #[.val (.ref x)] [.ref x, .int (Int32.ofNat V.slots.size)])) rfl (by rw [hml]; rfl) c3 (argsL := []) (rest := [.int (Int32.ofNat V.slots.size)]) rfl rfl (by show 2 * 0 + (1 + 0) ≤ _; decide) (hb hbytes d6) (⟨rfl, hx2.2.2.1, hx.2.2.2.2.1.cd, s1.there X2.warmed.alike hh2, hz⟩)
  obtain ⟨rfl, q4⟩ := E4
  have c5 : Steps p.tables e below (s₁.setTop (entryFrame m #[.ref x] 1)) (T4.setTop (mkF m 10 #[.val (.ref x)] [.int (Int32.ofNat V.slots.size >>> (cd &&& 31))])) := Steps.trans g4 (by
    refine ishr X4.here hexec rfl (hb hbytes d9) rfl ?_
    exact Steps.refl _)
  rw [hx.2.2.2.2.1.len v31] at c5
  exact ⟨T4, some (.int (Int32.ofNat n)), _, _, _, X4, rfl, rfl, rfl, (fun h => by cases h), ⟨rfl, q4.trans hh2⟩, fun fs hl => c5.trans (X4.ireturnOut hexec hret rfl (Or.inl rfl) (hb hbytes d10) hl)⟩
theorem pays {l : Launch} {R : Room} {p : Program} {e : Env} {below : List Frame} {s : State} {sargs : Array Value} {len W : Nat} (x t : Addr) (V : Cell) (cd : Int32) (n : Nat) (f : Nat → Int32) (z : Int32) (htab : tab.before sargs s = true) (hfr : 2 ≤ R.frames) (hlo : W + 25 ≤ R.locals) :
    Back l R p e below s sargs yN len W (fun A₁ a₁ => A₁.cells + 0 ≤ R.cells ∧ A₁.slots + 0 ≤ R.slots ∧ P x t V cd n f z a₁ A₁.U) (fun A₁ _ v₁ B₁ => E n v₁ A₁.U B₁.U ∧ B₁.locs = A₁.locs ++ [] ∧ B₁.cells = A₁.cells + 0 ∧ B₁.slots = A₁.slots + 0) :=
  (law l x t V cd n f z).pays htab hfr (by omega)
end Len
namespace IsL
def yN : MethodName := ⟨"java/lang/String", "isLatin1", "()Z"⟩
abbrev yB : ByteArray := jdk_42_method_154_code
theorem d0 : decode yB 0 = .ok (.getstatic 38, 3) := by decide +kernel
theorem d3 : decode yB 3 = .ok (.ifCond (.eq) 14, 3) := by decide +kernel
theorem d6 : decode yB 6 = .ok (.aload_n 0, 1) := by decide +kernel
theorem d7 : decode yB 7 = .ok (.getfield 15, 3) := by decide +kernel
theorem d10 : decode yB 10 = .ok (.ifCond (.ne) 7, 3) := by decide +kernel
theorem d13 : decode yB 13 = .ok (.iconst 1, 1) := by decide +kernel
theorem d14 : decode yB 14 = .ok (.goto 4, 3) := by decide +kernel
theorem d17 : decode yB 17 = .ok (.iconst 0, 1) := by decide +kernel
theorem d18 : decode yB 18 = .ok (.ireturn, 1) := by decide +kernel
def site : List Cond := [.fieldLink "java/lang/String" 38 "java/lang/String" "COMPACT_STRINGS" "Z", .fieldLink "java/lang/String" 15 "java/lang/String" "coder" "B"]
def tab : Cond := tabOf yN yB 1 (some .boolean) site
def P (x : Addr) (cd z : Int32) (args : Array Value) (s : State) : Prop := args = #[.ref x] ∧ Has x "java/lang/String" "coder" "B" (.int cd) s ∧ (cd = 0 ∨ cd = 1) ∧ StaticIs s "java/lang/String" "COMPACT_STRINGS" "Z" (.int z) ∧ ¬ z = 0
def E (cd : Int32) (r : Option Value) (s u : State) : Prop := XT.PureE (some (.int (1 - cd))) r s u
theorem law (l : Launch) (x : Addr) (cd z : Int32) : Law l yN 1 0 0 0 yB 1 (some .boolean) site (P x cd z) (E cd) [] 0 0 := by
  refine Law.of_walk (plainFor_of_name (by decide +kernel)) (by decide +kernel) (by decide +kernel) (by decide) (fun _ _ h => by rw [h.1]; rfl) (fun _ U U' hal hh h => ⟨h.1, h.2.1.mv hal hh, h.2.2.1, h.2.2.2.1.there hal hh, h.2.2.2.2⟩) (fun r U U' V V' h1 hal h2 h => XT.PureE.mv r U U' V V' h1 hal h2 h) ?_
  intro p e s m args below meth c s₁ X0 hexec hbytes hml hret hlk hnm hown hh0 W hP
  obtain ⟨rfl, hx, hc, s1, hz⟩ := hP
  have c1 : Steps p.tables e below (s₁.setTop (entryFrame m #[.ref x] 1)) (s₁.setTop (mkF m 0 #[.val (.ref x)] [])) := entry rfl
  obtain ⟨T2, X2, q2, st2⟩ := X0.sget hexec hown (wk W (.fieldLink "java/lang/String" 38 "java/lang/String" "COMPACT_STRINGS" "Z")) s1 (fun _ _ h => by rw [hh0]; exact h) (g := (mkF m 0 #[.val (.ref x)] [])) rfl (hb hbytes d0)
  have hh2 := q2.trans hh0
  have c3 : Steps p.tables e below (s₁.setTop (entryFrame m #[.ref x] 1)) (T2.setTop (mkF m 7 #[.val (.ref x)] [.ref x])) := (c1.trans (st2 _ (Steps.refl _))).trans (by
    refine XS.ifNo X2.here hexec rfl (hb hbytes d3) rfl (i0_eq_f hz) ?_
    refine XS.aloadN X2.here hexec rfl (hb hbytes d6) rfl rfl ?_
    exact Steps.refl _)
  obtain ⟨T4, X4, q4, st4⟩ := X2.hget hexec hown (wk W (.fieldLink "java/lang/String" 15 "java/lang/String" "coder" "B")) (hx.mv X2.warmed.alike hh2) (g := (mkF m 7 #[.val (.ref x)] [.ref x])) rfl (rest := []) rfl (hb hbytes d7)
  have c5 : Steps p.tables e below (s₁.setTop (entryFrame m #[.ref x] 1)) (T4.setTop (mkF m 10 #[.val (.ref x)] [.int cd])) := c3.trans (st4 _ (Steps.refl _))
  have c6 : Steps p.tables e below (s₁.setTop (entryFrame m #[.ref x] 1)) (T4.setTop (mkF m 18 #[.val (.ref x)] [.int (1 - cd)])) := by
    rcases hc with rfl | rfl
    · exact c5.trans (by
        refine XS.ifNo X4.here hexec rfl (hb hbytes d10) rfl (i0_ne_f rfl) ?_
        refine iconstV X4.here hexec rfl 1 (hb hbytes d13) (by decide) ?_
        refine XS.goto X4.here hexec rfl (pc0 := 14) rfl (hb hbytes d14) (by decide) rfl ?_
        exact Steps.refl _)
    · exact c5.trans (by
        refine XS.ifYes X4.here hexec rfl (pc0 := 10) rfl (hb hbytes d10) rfl (i0_ne_t (by decide)) (by decide) rfl ?_
        refine iconstV X4.here hexec rfl 0 (hb hbytes d17) (by decide) ?_
        exact Steps.refl _)
  exact ⟨T4, some (.int (1 - cd)), _, _, _, X4, rfl, rfl, rfl, (fun h => by cases h), ⟨rfl, q4.trans hh2⟩, fun fs hl => c6.trans (X4.ireturnOut hexec hret (by rcases hc with rfl | rfl <;> rfl) (Or.inr (Or.inl rfl)) (hb hbytes d18) hl)⟩
end IsL
namespace LChA
def yN : MethodName := ⟨"java/lang/StringLatin1", "charAt", "([BI)C"⟩
abbrev yB : ByteArray := jdk_43_method_2_code
theorem d0 : decode yB 0 = .ok (.iload_n 1, 1) := by decide +kernel
theorem d1 : decode yB 1 = .ok (.aload_n 0, 1) := by decide +kernel
theorem d2 : decode yB 2 = .ok (.arraylength, 1) := by decide +kernel
theorem d3 : decode yB 3 = .ok (.invokestatic 9, 3) := by decide +kernel
theorem d6 : decode yB 6 = .ok (.aload_n 0, 1) := by decide +kernel
theorem d7 : decode yB 7 = .ok (.iload_n 1, 1) := by decide +kernel
theorem d8 : decode yB 8 = .ok (.baload, 1) := by decide +kernel
theorem d9 : decode yB 9 = .ok (.sipush 255, 3) := by decide +kernel
theorem d12 : decode yB 12 = .ok (.iand, 1) := by decide +kernel
theorem d13 : decode yB 13 = .ok (.i2c, 1) := by decide +kernel
theorem d14 : decode yB 14 = .ok (.ireturn, 1) := by decide +kernel
def site : List Cond := [JO.Str_checkIndex.tab] ++ staticW "java/lang/StringLatin1" 9 JO.Str_checkIndex.yN
def tab : Cond := tabOf yN yB 2 (some .char) site
def P (t : Addr) (V : Cell) (i : Nat) (u : Int32) (fm : Value) (args : Array Value) (s : State) : Prop := args = #[.ref t, .int (Int32.ofNat i)] ∧ XT.Arr .byte t V s ∧ V.slots[i]? = some (.int u) ∧ (StaticIs s "jdk/internal/util/Preconditions" "SIOOBE_FORMATTER" "Ljava/util/function/BiFunction;" fm ∧ fm.isRef = true)
def E (u : Int32) (r : Option Value) (s w : State) : Prop := XT.PureE (some (.int (chr8 u))) r s w
theorem law (l : Launch) (t : Addr) (V : Cell) (i : Nat) (u : Int32) (fm : Value) : Law l yN 2 2 2 27 yB 2 (some .char) site (P t V i u fm) (E u) [] 0 0 := by
  refine Law.of_walk (plainFor_of_name (by decide +kernel)) (by decide +kernel) (by decide +kernel) (by decide) (fun _ _ h => by rw [h.1]; rfl) (fun _ U U' hal hh h => ⟨h.1, h.2.1.mv hal hh, h.2.2.1, h.2.2.2.1.there hal hh, h.2.2.2.2⟩) (fun r U U' V V' h1 hal h2 h => XT.PureE.mv r U U' V V' h1 hal h2 h) ?_
  intro p e s m args below meth c s₁ X0 hexec hbytes hml hret hlk hnm hown hh0 W hP
  obtain ⟨rfl, hV, hu, s1, rf⟩ := hP
  have v31 := hV.2.2.2
  have hi : i < V.slots.size := (Array.getElem?_eq_some_iff.mp hu).1
  have c1 : Steps p.tables e below (s₁.setTop (entryFrame m #[.ref t, .int (Int32.ofNat i)] 2)) (s₁.setTop (mkF m 0 #[.val (.ref t), .val (.int (Int32.ofNat i))] [])) := entry rfl
  have c2 : Steps p.tables e below (s₁.setTop (entryFrame m #[.ref t, .int (Int32.ofNat i)] 2)) (s₁.setTop (mkF m 3 #[.val (.ref t), .val (.int (Int32.ofNat i))] [.int (Int32.ofNat V.slots.size), .int (Int32.ofNat i)])) := c1.trans (by
    refine XS.iloadN X0.here hexec rfl (hb hbytes d0) rfl ?_
    refine XS.aloadN X0.here hexec rfl (hb hbytes d1) rfl rfl ?_
    refine X0.alen hexec (hV.mv X0.warmed.alike hh0) rfl rfl (hb hbytes d2) ?_
    exact Steps.refl _)
  obtain ⟨v3, T3, X3, E3, g3⟩ := X0.callS hexec (JO.Str_checkIndex.law l (Int32.ofNat i) (Int32.ofNat V.slots.size) fm) hown (wks W (staticW "java/lang/StringLatin1" 9 JO.Str_checkIndex.yN)) (wk W JO.Str_checkIndex.tab) (W := 0) (Nat.le_of_ble_eq_true rfl) (Nat.le_of_ble_eq_true rfl) (Nat.le_refl _) (Nat.le_refl _) (g := (mkF m 3 #[.val (.ref t), .val (.int (Int32.ofNat i))] [.int (Int32.ofNat V.slots.size), .int (Int32.ofNat i)])) rfl (by rw [hml]; rfl) c2 (argsL := [.int (Int32.ofNat i), .int (Int32.ofNat V.slots.size)]) (rest := []) rfl rfl (by show 2 * 0 + 0 ≤ _; decide) (hb hbytes d3) (⟨rfl, rf, s1.there X0.warmed.alike hh0, Int32.ofNat_not_neg (by omega), lt32 v31 hi⟩)
  obtain ⟨rfl, q3⟩ := E3
  have hh3 := q3.trans hh0
  have c4 : Steps p.tables e below (s₁.setTop (entryFrame m #[.ref t, .int (Int32.ofNat i)] 2)) (T3.setTop (mkF m 14 #[.val (.ref t), .val (.int (Int32.ofNat i))] [.int (chr8 u)])) := Steps.trans g3 (by
    refine XS.aloadN X3.here hexec rfl (hb hbytes d6) rfl rfl ?_
    refine XS.iloadN X3.here hexec rfl (hb hbytes d7) rfl ?_
    refine X3.aget hexec (hV.mv X3.warmed.alike hh3) rfl hu rfl rfl (hb hbytes d8) ?_
    refine sipushV X3.here hexec rfl 255 (hb hbytes d9) (by decide) ?_
    refine XS.iand X3.here hexec rfl (hb hbytes d12) rfl ?_
    refine i2c X3.here hexec rfl (hb hbytes d13) rfl ?_
    exact Steps.refl _)
  exact ⟨T3, some (.int (chr8 u)), _, _, _, X3, rfl, rfl, rfl, (fun h => by cases h), ⟨rfl, hh3⟩, fun fs hl => c4.trans (X3.ireturnOut hexec hret (narrow_c _) (Or.inr (Or.inr (Or.inr (Or.inl rfl)))) (hb hbytes d14) hl)⟩
end LChA
end StrChars
namespace StrChars.Road
open Jvm Sem ClassFile Op Lib Jvm.Stand Jvm.Free Jvm.Free.XT
open Jvm.Lib.Cold (StaticIs)
theorem consq {a : Array Value} {s : State} {c : Jvm.Cond} {L : List Jvm.Cond} (h0 : c.before a s = true) (h : ∀ w ∈ L, w.before a s = true) : ∀ w ∈ c :: L, w.before a s = true := fun w hw => (List.mem_cons.mp hw).elim (fun e => e ▸ h0) (h w)
/-- the words of String.length(), either coding -/
abbrev wordsLen : List Jvm.Cond := [.code Len.yN Len.yB 1 (some .int), .initialized ST, .fieldLink ST 9 ST "value" "[B", .fieldLink ST 38 ST "COMPACT_STRINGS" "Z", .fieldLink ST 15 ST "coder" "B", .code Cdr.yN Cdr.yB 1 (some .byte), .methodLink ST 335 Cdr.yN, .declares Cdr.yN, .selects ST Cdr.yN Cdr.yN, .instanceMethod Cdr.yN]
theorem tabLen_of {a : Array Value} {s : State} (h : ∀ w ∈ wordsLen, w.before a s = true) : Len.tab.before a s = true := by
  have hc : Cdr.tab.before a s = true := unparts (wk h (.code Cdr.yN Cdr.yB 1 (some .byte))) (wks h (.initialized Cdr.yN.cls :: Cdr.site))
  have q := consq hc h
  exact unparts (wk q (.code Len.yN Len.yB 1 (some .int))) (wks q (.initialized Len.yN.cls :: Len.site))
theorem movedLen {Z s : State} {a0 args : Array Value} (hZ : Z.Warmed39 s.vm) (hw : ∀ d ∈ wordsLen, d.before a0 Z = true) : ∀ d ∈ wordsLen, d.before args s = true := fun d hd => by
  have q := hw d hd
  have t : ∀ d ∈ wordsLen, d = .arrayClass .byte ∨ (d.onTables && d.keepsFace) = true := by decide +kernel
  rcases t d hd with rfl | t
  · exact RoadKit.mvA hZ q
  · exact RoadKit.mv hZ q t
/-- the bytes of the chars cs, low before high -/
def wideBytes : List Int32 → List Value
  | [] => []
  | c :: cs => .int (lo8 c) :: .int (hi8 c) :: wideBytes cs
theorem wide_lo (d : Value) : ∀ (cs : List Int32) (j : Nat), j < cs.length → (wideBytes cs).getD (2 * j) d = .int (lo8 (cs.getD j 0))
  | [], j, h => absurd h (Nat.not_lt_zero j)
  | c :: cs, 0, _ => rfl
  | c :: cs, j + 1, h => by
    have q := wide_lo d cs j (by simpa using h)
    rw [show 2 * (j + 1) = 2 * j + 1 + 1 from by omega]
    simpa [wideBytes] using q
theorem wide_hi (d : Value) : ∀ (cs : List Int32) (j : Nat), j < cs.length → (wideBytes cs).getD (2 * j + 1) d = .int (hi8 (cs.getD j 0))
  | [], j, h => absurd h (Nat.not_lt_zero j)
  | c :: cs, 0, _ => rfl
  | c :: cs, j + 1, h => by
    have q := wide_hi d cs j (by simpa using h)
    rw [show 2 * (j + 1) + 1 = 2 * j + 1 + 1 + 1 from by omega]
    simpa [wideBytes] using q
theorem low_at (d : Value) (cs : List Int32) (j : Nat) (h : j < cs.length) : (cs.map fun c => Value.int (lo8 c)).getD j d = .int (lo8 (cs.getD j 0)) := by
  simp [List.getD_eq_getElem?_getD, h]
/-- an array of N2 bytes vs codes the chars cs by the coder cd -/
def CodA (cs : List Int32) (cd N2 : Int32) (vs : List Value) : Prop := (cd = 0 ∧ N2 = Int32.ofNat cs.length ∧ vs = (cs.map fun c => Value.int (lo8 c)) ∧ ∀ c ∈ cs, ¬ 255 < c) ∨ (cd = 1 ∧ N2 = Int32.ofNat (2 * cs.length) ∧ vs = wideBytes cs ∧ ∃ c ∈ cs, 255 < c)
theorem CodA.cod {cs : List Int32} {cd N2 : Int32} {vs : List Value} {V : Cell} (h : CodA cs cd N2 vs) (hn : 2 * cs.length < 2 ^ 31) (hs : V.slots.size = N2.toNatClampNeg) (hv : RoadKit.Has V vs (.int 0)) : Cod cd cs.length (fun j => cs.getD j 0) V := by
  rcases h with ⟨rfl, rfl, rfl, h⟩ | ⟨rfl, rfl, rfl, c, hc, hw⟩
  · rw [n32 (by omega)] at hs
    exact Or.inl ⟨rfl, hs, fun j hj => ⟨by rw [hv j (by omega), low_at _ _ _ hj], by
      have e : cs.getD j 0 = cs[j] := by simp [List.getD_eq_getElem?_getD, hj]
      show ¬ 255 < cs.getD j 0
      rw [e]; exact h _ (List.getElem_mem _)⟩⟩
  · rw [n32 (by omega)] at hs
    obtain ⟨j, hj, rfl⟩ := List.getElem_of_mem hc
    exact Or.inr ⟨rfl, hs, fun j hj => ⟨by rw [hv _ (by omega), wide_lo _ _ _ hj], by rw [hv _ (by omega), wide_hi _ _ _ hj]⟩, j, hj, by
      have e : cs.getD j 0 = cs[j] := by simp [List.getD_eq_getElem?_getD, hj]
      show 255 < cs.getD j 0
      rw [e]; exact hw⟩
/-- an object of exactly java/lang/String, its two fields found: as the laws ask it -/
theorem strObj {Z U : State} {a0 : Array Value} {kI : Nat} (wi : (Jvm.Cond.instantiable ST kI).before a0 Z = true) (al : Z.vm.Alike U.vm) {x : Addr} {v0 c0 : Value} (E : RoadKit.Exa Z U.heap x ST) (V : RoadKit.Fld Z U.heap x ST "value" "[B" v0) (C : RoadKit.Fld Z U.heap x ST "coder" "B" c0) :
    ∃ (D : Cell) (fV fC : Field), Blank ST x D U ∧ Found ST "value" "[B" fV U ∧ Found ST "coder" "B" fC U ∧ D.slots[fV.slot]? = some v0 ∧ D.slots[fC.slot]? = some c0 ∧ RoadKit.slotOf Z ST "value" "[B" = fV.slot ∧ RoadKit.slotOf Z ST "coder" "B" = fC.slot := by
  obtain ⟨D, cfV, kV, iV, fV, hD, gV, stV, knV, obV, asV, slV⟩ := V
  obtain ⟨D', cfC, kC, iC, fC, hD', gC, stC, -, -, asC, slC⟩ := C
  cases hD.symm.trans hD'
  obtain ⟨D2, kD, e1, e2, e3, e4, e5⟩ := E
  cases hD.symm.trans e1
  obtain ⟨c2, k2, i1, i2, i3, -⟩ := Cond.instantiable_spec wi
  cases e2.symm.trans i1
  cases e3.symm.trans i2
  obtain ⟨kU, u1, u2⟩ := al.2.2 _ _ e3
  exact ⟨D, fV, fC, ⟨hD, ⟨knV, fun q hq => by rw [hq] at obV; cases obV⟩, by rw [al.findClass]; exact e2, kU, u1, by rw [u2]; exact i3, by rw [u2]; exact e5 i3⟩, ⟨SBG.found_only al ⟨cfV, kV, iV, gV⟩, stV⟩, ⟨SBG.found_only al ⟨cfC, kC, iC, gC⟩, stC⟩, slV, slC, by simp [RoadKit.slotOf, gV], by simp [RoadKit.slotOf, gC]⟩
theorem sta_is {Z U : State} (al : Z.vm.Alike U.vm) {C n d : String} {v : Value} (S : RoadKit.Sta Z U.heap C n d v) : StaticIs U C n d v := by
  obtain ⟨cfS, iS, kS, fS, st, cS, t1, t2, t3, t4, t5, t6, t7⟩ := S
  exact StaticIs.there (s := { Z with heap := U.heap }) ⟨cfS, iS, kS, fS, st, cS, t1, t2, t3, t4, t5, (fun q => by rw [q] at t6; cases t6), t7⟩ al rfl
/-- **length() OF SUCH A STRING** -/
theorem lenW {p : Program} {l : Launch} {e : Env} {R : Room} {s : State} {args : Array Value} {below : List Frame} {len W : Nat} {Z : State} {a0 : Array Value} {h : Heap} (hZ : Z.Warmed39 s.vm) (hw : ∀ d ∈ wordsLen, d.before a0 Z = true) {kI : Nat} (wi : (Jvm.Cond.instantiable ST kI).before a0 Z = true)
    {x t : Addr} {kb : ClassId} {cs : List Int32} {cd N2 z : Int32} {vs : List Value} (E : RoadKit.Exa Z h x ST) (V : RoadKit.Fld Z h x ST "value" "[B" (.ref t)) (C : RoadKit.Fld Z h x ST "coder" "B" (.int cd)) (K : RoadKit.Arv Z h t kb .byte N2 vs (.int 0)) (hc : CodA cs cd N2 vs) (hb : ∀ c ∈ cs, ¬ c < 0 ∧ ¬ (65535 : Int32) < c)
    (S : RoadKit.Sta Z h ST "COMPACT_STRINGS" "Z" (.int z)) (hz : ¬ z = 0) (l2 : cs.length ≤ 4000) (hfr : 2 ≤ R.frames) (hlo : W + 25 ≤ R.locals) :
    Back l R p e below s args (⟨"java/lang/String", "length", "()I"⟩ : MethodName) len W (fun P a => a = #[.ref x] ∧ P.U.heap = h ∧ P.cells + 0 ≤ R.cells ∧ P.slots + 0 ≤ R.slots)
      (fun P _ v B => ∃ L, (v = some (.int (Int32.ofNat cs.length)) ∧ L = [] ∧ B.U.heap = h) ∧ B.locs = P.locs ++ L ∧ B.cells = P.cells + 0 ∧ B.slots = P.slots + 0) := by
  obtain ⟨A, K1, K2, K3, K4, K5, K6⟩ := K
  have hcod := hc.cod (by omega) K3 K5
  intro m meth c P g ig mk a X hg hsize hdg hW hn hp'
  obtain ⟨rfl, rfl, r1, r2⟩ := hp'
  have al : Z.vm.Alike P.U.vm := hZ.alike.trans X.warmed.alike
  obtain ⟨D, fV, fC, hB, F1, F2, g1, g2, -, -⟩ := strObj wi al E V C
  have hx : Txt x t A cd cs.length (fun j => cs.getD j 0) P.U := ⟨⟨_, hB.2.2.1, D, hB.1, rfl, by cases q : D.vm <;> first | rfl | exact absurd q (hB.2.1.2 _)⟩, Has.of hB F1 g1, Has.of hB F2 g2, ⟨K1.1, State.isArrayOf_alike al K1.2.1, K1.2.2, by rcases hcod with ⟨-, q, -⟩ | ⟨-, q, -⟩ <;> omega⟩, hcod, fun j hj => by
    have e : cs.getD j 0 = cs[j] := by simp [List.getD_eq_getElem?_getD, hj]
    show ¬ cs.getD j 0 < 0 ∧ ¬ 65535 < cs.getD j 0
    rw [e]; exact hb _ (List.getElem_mem _)⟩
  obtain ⟨v, B, X', ⟨⟨hv, hh⟩, hl, hk, hs⟩, st⟩ := Len.pays x t A cd cs.length (fun j => cs.getD j 0) z (tabLen_of (movedLen hZ hw)) hfr hlo m meth c P g ig mk _ X hg hsize hdg hW hn ⟨r1, r2, rfl, hx, sta_is al S, hz⟩
  exact ⟨v, B, X', ⟨[], ⟨hv, rfl, hh⟩, hl, hk, hs⟩, st⟩
end StrChars.Road
namespace StrChars.Road
open Jvm Sem ClassFile Op Lib Jvm.Stand Jvm.Free Jvm.Free.XT
open Jvm.Lib.Cold (StaticIs)
/-- the road's facts of a String, as the laws ask it -/
theorem txt_of {Z U : State} {a0 : Array Value} {kI : Nat} (wi : (Jvm.Cond.instantiable ST kI).before a0 Z = true) (al : Z.vm.Alike U.vm) {x t : Addr} {kb : ClassId} {cs : List Int32} {cd N2 : Int32} {vs : List Value} (E : RoadKit.Exa Z U.heap x ST) (V : RoadKit.Fld Z U.heap x ST "value" "[B" (.ref t)) (C : RoadKit.Fld Z U.heap x ST "coder" "B" (.int cd)) (K : RoadKit.Arv Z U.heap t kb .byte N2 vs (.int 0)) (hc : CodA cs cd N2 vs) (hb : ∀ c ∈ cs, ¬ c < 0 ∧ ¬ (65535 : Int32) < c) (l2 : cs.length ≤ 4000) :
    ∃ A, Txt x t A cd cs.length (fun j => cs.getD j 0) U := by
  obtain ⟨A, K1, K2, K3, K4, K5, K6⟩ := K
  have hcod := hc.cod (by omega) K3 K5
  obtain ⟨D, fV, fC, hB, F1, F2, g1, g2, -, -⟩ := strObj wi al E V C
  exact ⟨A, ⟨_, hB.2.2.1, D, hB.1, rfl, by cases q : D.vm <;> first | rfl | exact absurd q (hB.2.1.2 _)⟩, Has.of hB F1 g1, Has.of hB F2 g2, ⟨K1.1, State.isArrayOf_alike al K1.2.1, K1.2.2, by rcases hcod with ⟨-, q, -⟩ | ⟨-, q, -⟩ <;> omega⟩, hcod, fun j hj => by
    have e : cs.getD j 0 = cs[j] := by simp [List.getD_eq_getElem?_getD, hj]
    show ¬ cs.getD j 0 < 0 ∧ ¬ 65535 < cs.getD j 0
    rw [e]; exact hb _ (List.getElem_mem _)⟩
end StrChars.Road
namespace StrChars
open Jvm Sem ClassFile Op Lib Jvm.Stand Jvm.Free.XT Jvm.Free.ALB Jvm.Free.JM Jvm.Free
open Jvm.Lib.Cold (StaticIs)
namespace ChN
def yN : MethodName := ⟨"java/lang/String", "charAt", "(I)C"⟩
abbrev yB : ByteArray := jdk_42_method_56_code
theorem d0 : decode yB 0 = .ok (.aload_n 0, 1) := by decide +kernel
theorem d1 : decode yB 1 = .ok (.invokevirtual 492, 3) := by decide +kernel
theorem d4 : decode yB 4 = .ok (.ifCond (.eq) 12, 3) := by decide +kernel
theorem d7 : decode yB 7 = .ok (.aload_n 0, 1) := by decide +kernel
theorem d8 : decode yB 8 = .ok (.getfield 9, 3) := by decide +kernel
theorem d11 : decode yB 11 = .ok (.iload_n 1, 1) := by decide +kernel
theorem d12 : decode yB 12 = .ok (.invokestatic 495, 3) := by decide +kernel
theorem d15 : decode yB 15 = .ok (.ireturn, 1) := by decide +kernel
def site : List Cond := [.fieldLink "java/lang/String" 9 "java/lang/String" "value" "[B", IsL.tab, LChA.tab] ++ virtW "java/lang/String" 492 "java/lang/String" IsL.yN IsL.yN ++ staticW "java/lang/String" 495 LChA.yN
def tab : Cond := tabOf yN yB 2 (some .char) site
def P (x t : Addr) (V : Cell) (n : Nat) (f : Nat → Int32) (z : Int32) (fm : Value) (i : Nat) (args : Array Value) (s : State) : Prop := args = #[.ref x, .int (Int32.ofNat i)] ∧ Txt x t V 0 n f s ∧ i < n ∧ StaticIs s "java/lang/String" "COMPACT_STRINGS" "Z" (.int z) ∧ ¬ z = 0 ∧ StaticIs s "jdk/internal/util/Preconditions" "SIOOBE_FORMATTER" "Ljava/util/function/BiFunction;" fm ∧ fm.isRef = true
def E (f : Nat → Int32) (i : Nat) (r : Option Value) (s u : State) : Prop := XT.PureE (some (.int (f i))) r s u
/-- charAt(i) of a Latin-1 String of n chars, i < n: f i -/
theorem law (l : Launch) (x t : Addr) (V : Cell) (n : Nat) (f : Nat → Int32) (z : Int32) (fm : Value) (i : Nat) : Law l yN 2 1 3 40 yB 2 (some .char) site (P x t V n f z fm i) (E f i) [] 0 0 := by
  refine Law.of_walk (plainFor_of_name (by decide +kernel)) (by decide +kernel) (by decide +kernel) (by decide) (fun _ _ h => by rw [h.1]; rfl) (fun _ U U' hal hh h => ⟨h.1, h.2.1.mv hal hh, h.2.2.1, h.2.2.2.1.there hal hh, h.2.2.2.2.1, h.2.2.2.2.2.1.there hal hh, h.2.2.2.2.2.2⟩) (fun r U U' V V' h1 hal h2 h => XT.PureE.mv r U U' V V' h1 hal h2 h) ?_
  intro p e s m args below meth c s₁ X0 hexec hbytes hml hret hlk hnm hown hh0 W hP
  obtain ⟨rfl, hx, hi, s1, hz, s3, rf⟩ := hP
  have v31 := hx.2.2.2.1.2.2.2
  have hr := hx.2.2.2.2.2 i hi
  have hx0 := hx.mv X0.warmed.alike hh0
  have c1 : Steps p.tables e below (s₁.setTop (entryFrame m #[.ref x, .int (Int32.ofNat i)] 2)) (s₁.setTop (mkF m 1 #[.val (.ref x), .val (.int (Int32.ofNat i))] [.ref x])) := Steps.trans (entry rfl) (by
    show Steps p.tables e below (s₁.setTop (mkF m 0 #[.val (.ref x), .val (.int (Int32.ofNat i))] [])) _
    refine XS.aloadN X0.here hexec rfl (hb hbytes d0) rfl rfl ?_
    exact Steps.refl _)
  obtain ⟨v2, T2, X2, E2, g2⟩ := X0.callV hexec (IsL.law l x 0 z) hown (wks W (virtW "java/lang/String" 492 "java/lang/String" IsL.yN IsL.yN)) rfl (by decide) (wk W IsL.tab) (W := 0) (Nat.le_of_ble_eq_true rfl) (Nat.le_of_ble_eq_true rfl) (Nat.le_refl _) (Nat.le_refl _) (hx0.1.fc X0.warmed.alike) hx0.1.is (g := (mkF m 1 #[.val (.ref x), .val (.int (Int32.ofNat i))] [.ref x])) rfl (by rw [hml]; rfl) c1 (argsL := []) (rest := []) rfl rfl (by show 2 * 0 + 0 ≤ _; decide) (hb hbytes d1) (⟨rfl, hx0.2.2.1, hx.2.2.2.2.1.cd, s1.there X0.warmed.alike hh0, hz⟩)
  obtain ⟨rfl, q2⟩ := E2
  have hh2 := q2.trans hh0
  have hx2 := hx.mv X2.warmed.alike hh2
  obtain ⟨-, k1, k2⟩ | ⟨k0, -⟩ := hx.2.2.2.2.1
  · have c3 : Steps p.tables e below (s₁.setTop (entryFrame m #[.ref x, .int (Int32.ofNat i)] 2)) (T2.setTop (mkF m 8 #[.val (.ref x), .val (.int (Int32.ofNat i))] [.ref x])) := Steps.trans g2 (by
      refine XS.ifNo X2.here hexec rfl (hb hbytes d4) rfl (i0_eq_f (by decide)) ?_
      refine XS.aloadN X2.here hexec rfl (hb hbytes d7) rfl rfl ?_
      exact Steps.refl _)
    obtain ⟨T4, X4, q4, st4⟩ := X2.hget hexec hown (wk W (.fieldLink "java/lang/String" 9 "java/lang/String" "value" "[B")) hx2.2.1 (g := (mkF m 8 #[.val (.ref x), .val (.int (Int32.ofNat i))] [.ref x])) rfl (rest := []) rfl (hb hbytes d8)
    have hh4 := q4.trans hh2
    have c5 : Steps p.tables e below (s₁.setTop (entryFrame m #[.ref x, .int (Int32.ofNat i)] 2)) (T4.setTop (mkF m 12 #[.val (.ref x), .val (.int (Int32.ofNat i))] [.int (Int32.ofNat i), .ref t])) := (c3.trans (st4 _ (Steps.refl _))).trans (by
      refine XS.iloadN X4.here hexec rfl (hb hbytes d11) rfl ?_
      exact Steps.refl _)
    obtain ⟨v6, T6, X6, E6, g6⟩ := X4.callS hexec (LChA.law l t V i (lo8 (f i)) fm) hown (wks W (staticW "java/lang/String" 495 LChA.yN)) (wk W LChA.tab) (W := 0) (Nat.le_of_ble_eq_true rfl) (Nat.le_of_ble_eq_true rfl) (Nat.le_refl _) (Nat.le_refl _) (g := (mkF m 12 #[.val (.ref x), .val (.int (Int32.ofNat i))] [.int (Int32.ofNat i), .ref t])) rfl (by rw [hml]; rfl) c5 (argsL := [.ref t, .int (Int32.ofNat i)]) (rest := []) rfl rfl (by show 2 * 0 + 0 ≤ _; decide) (hb hbytes d12) (⟨rfl, hx.2.2.2.1.mv X4.warmed.alike hh4, (k2 i hi).1, s3.there X4.warmed.alike hh4, rf⟩)
    obtain ⟨rfl, q6⟩ := E6
    rw [chr8_lo8 hr.1 (k2 i hi).2] at g6
    exact ⟨T6, some (.int (f i)), _, _, _, X6, rfl, rfl, rfl, (fun h => by cases h), ⟨rfl, q6.trans hh4⟩, fun fs hl => Steps.trans g6 (X6.ireturnOut hexec hret (narrow_ch hr.1 hr.2) (Or.inr (Or.inr (Or.inr (Or.inl rfl)))) (hb hbytes d15) hl)⟩
  · exact absurd k0 (by decide)
theorem pays {l : Launch} {R : Room} {p : Program} {e : Env} {below : List Frame} {s : State} {sargs : Array Value} {len W : Nat} (x t : Addr) (V : Cell) (n : Nat) (f : Nat → Int32) (z : Int32) (fm : Value) (i : Nat) (htab : tab.before sargs s = true) (hfr : 4 ≤ R.frames) (hlo : W + 53 ≤ R.locals) :
    Back l R p e below s sargs yN len W (fun A₁ a₁ => A₁.cells + 0 ≤ R.cells ∧ A₁.slots + 0 ≤ R.slots ∧ P x t V n f z fm i a₁ A₁.U) (fun A₁ _ v₁ B₁ => E f i v₁ A₁.U B₁.U ∧ B₁.locs = A₁.locs ++ [] ∧ B₁.cells = A₁.cells + 0 ∧ B₁.slots = A₁.slots + 0) :=
  (law l x t V n f z fm i).pays htab hfr (by omega)
end ChN
end StrChars
namespace StrChars.Road
open Jvm Sem ClassFile Op Lib Jvm.Stand Jvm.Free Jvm.Free.XT
open Jvm.Lib.Cold (StaticIs)
/-- the words of String.charAt(int), the Latin-1 road alone -/
abbrev wordsChN : List Jvm.Cond := [.code ChN.yN ChN.yB 2 (some .char), .initialized ST, .fieldLink ST 9 ST "value" "[B", .fieldLink ST 38 ST "COMPACT_STRINGS" "Z", .fieldLink ST 15 ST "coder" "B", .code IsL.yN IsL.yB 1 (some .boolean), .methodLink ST 492 IsL.yN, .declares IsL.yN, .selects ST IsL.yN IsL.yN, .instanceMethod IsL.yN,
  .methodLink ST 495 LChA.yN, .static LChA.yN, .code LChA.yN LChA.yB 2 (some .char), .initialized "java/lang/StringLatin1", .methodLink "java/lang/StringLatin1" 9 JO.Str_checkIndex.yN, .static JO.Str_checkIndex.yN, .code JO.Str_checkIndex.yN JO.Str_checkIndex.yB 2 none,
  .fieldLink ST 1053 "jdk/internal/util/Preconditions" "SIOOBE_FORMATTER" "Ljava/util/function/BiFunction;", .methodLink ST 1059 JC.PreCheck.yN, .static JC.PreCheck.yN, .code JC.PreCheck.yN JC.PreCheck.yB 3 (some .int), .initialized "jdk/internal/util/Preconditions"]
theorem tabChN_of {a : Array Value} {s : State} (h : ∀ w ∈ wordsChN, w.before a s = true) : ChN.tab.before a s = true := by
  have hp : JC.PreCheck.tab.before a s = true := unparts (wk h (.code JC.PreCheck.yN JC.PreCheck.yB 3 (some .int))) (wks h (.initialized JC.PreCheck.yN.cls :: JC.PreCheck.site))
  have qk := consq hp h
  have hk : JO.Str_checkIndex.tab.before a s = true := unparts (wk qk (.code JO.Str_checkIndex.yN JO.Str_checkIndex.yB 2 none)) (wks qk (.initialized JO.Str_checkIndex.yN.cls :: JO.Str_checkIndex.site))
  have ql := consq hk h
  have hl : LChA.tab.before a s = true := unparts (wk ql (.code LChA.yN LChA.yB 2 (some .char))) (wks ql (.initialized LChA.yN.cls :: LChA.site))
  have hi : IsL.tab.before a s = true := unparts (wk h (.code IsL.yN IsL.yB 1 (some .boolean))) (wks h (.initialized IsL.yN.cls :: IsL.site))
  have q := consq hi (consq hl h)
  exact unparts (wk q (.code ChN.yN ChN.yB 2 (some .char))) (wks q (.initialized ChN.yN.cls :: ChN.site))
theorem movedChN {Z s : State} {a0 args : Array Value} (hZ : Z.Warmed39 s.vm) (hw : ∀ d ∈ wordsChN, d.before a0 Z = true) : ∀ d ∈ wordsChN, d.before args s = true := fun d hd => by
  have t : ∀ d ∈ wordsChN, (d.onTables && d.keepsFace) = true := by decide +kernel
  exact RoadKit.mv hZ (hw d hd) (t d hd)
/-- **charAt(i) OF A LATIN-1 STRING**, i < n: the char -/
theorem chN {p : Program} {l : Launch} {e : Env} {R : Room} {s : State} {args : Array Value} {below : List Frame} {len W : Nat} {Z : State} {a0 : Array Value} {h : Heap} (hZ : Z.Warmed39 s.vm) (hw : ∀ d ∈ wordsChN, d.before a0 Z = true) {kI : Nat} (wi : (Jvm.Cond.instantiable ST kI).before a0 Z = true)
    {x t : Addr} {kb : ClassId} {cs : List Int32} {N2 z : Int32} {vs : List Value} {fm : Value} {i : Nat} {j : Int32} (E : RoadKit.Exa Z h x ST) (V : RoadKit.Fld Z h x ST "value" "[B" (.ref t)) (C : RoadKit.Fld Z h x ST "coder" "B" (.int 0)) (K : RoadKit.Arv Z h t kb .byte N2 vs (.int 0)) (hc : CodA cs 0 N2 vs) (hb : ∀ c ∈ cs, ¬ c < 0 ∧ ¬ (65535 : Int32) < c)
    (S : RoadKit.Sta Z h ST "COMPACT_STRINGS" "Z" (.int z)) (hz : ¬ z = 0) (F : RoadKit.Sta Z h "jdk/internal/util/Preconditions" "SIOOBE_FORMATTER" "Ljava/util/function/BiFunction;" fm) (rf : fm.isRef = true) (l2 : cs.length ≤ 4000) (hi : i < cs.length) (hj : j = Int32.ofNat i) (hfr : 4 ≤ R.frames) (hlo : W + 53 ≤ R.locals) :
    Back l R p e below s args (⟨"java/lang/String", "charAt", "(I)C"⟩ : MethodName) len W (fun P a => a = #[.ref x, .int j] ∧ P.U.heap = h ∧ P.cells + 0 ≤ R.cells ∧ P.slots + 0 ≤ R.slots)
      (fun P _ v B => ∃ L, (v = some (.int (cs.getD i 0)) ∧ L = [] ∧ B.U.heap = h) ∧ B.locs = P.locs ++ L ∧ B.cells = P.cells + 0 ∧ B.slots = P.slots + 0) := by
  subst hj
  intro m meth c P g ig mk a X hg hsize hdg hW hn hp'
  obtain ⟨rfl, rfl, r1, r2⟩ := hp'
  have al : Z.vm.Alike P.U.vm := hZ.alike.trans X.warmed.alike
  obtain ⟨A, hx⟩ := txt_of wi al E V C K hc hb l2
  obtain ⟨v, B, X', ⟨⟨hv, hh⟩, hl, hk, hs⟩, st⟩ := ChN.pays x t A cs.length (fun j => cs.getD j 0) z fm i (tabChN_of (movedChN hZ hw)) hfr hlo m meth c P g ig mk _ X hg hsize hdg hW hn ⟨r1, r2, rfl, hx, hi, sta_is al S, hz, sta_is al F, rf⟩
  exact ⟨v, B, X', ⟨[], ⟨hv, rfl, hh⟩, hl, hk, hs⟩, st⟩
/-- what backV says of its String, as the contracts of this text ask it: cs's low bytes, coder 0 -/
theorem codOf {cs : List Int32} {n : Nat} (hn : cs.length = n) (hb : ∀ c ∈ cs, ¬ 255 < c) : CodA cs 0 (Int32.ofNat n) ((cs.map lo8).map Value.int) := Or.inl ⟨rfl, by rw [hn], by simp [List.map_map, Function.comp_def], hb⟩
end StrChars.Road
end Jvm.Pilot.@@N@@
namespace Jvm.Pilot.@@N@@
open Jvm Jvm.ClassFile Sem Op Lib Jvm.Free Jvm.Stand Jvm.LawKit Jvm.RoadKit Jvm.Own Bundle Jvm.Pilot.@@N@@.Jvm.D
theorem own_k {Z : State} {a0 : Array Value} (hw : ∀ d ∈ tables_1, d.before a0 Z = true) (k : Nat) {d : Cond} (h : tables_1[k]? = some d) : d.before a0 Z = true := hw d (List.mem_of_getElem? h)
def Ctx (Z : State) (a0 : Array Value) (cz : Int32) (fm : Value) : Prop := (∀ d ∈ tables_1, d.before a0 Z = true) ∧ EW Z a0 consts_1 ∧ Sta Z Z.heap "java/lang/String" "COMPACT_STRINGS" "Z" (.int cz) ∧ ¬ cz = 0 ∧ Sta Z Z.heap "jdk/internal/util/Preconditions" "SIOOBE_FORMATTER" "Ljava/util/function/BiFunction;" fm ∧ fm.isRef = true
theorem own_pdC : parseMethodDescriptor "([C)V" = some ⟨[.array .char], none⟩ := by decide +kernel
theorem own_lo8 (v : Int32) : (v.toInt8.toInt32).toInt8.toInt32 = v.toInt8.toInt32 := by simp
def OSb (Z : State) (h : Heap) (x t : Addr) (cs : List Int32) (cap : Nat) : Prop := Exa Z h x "java/lang/StringBuilder" ∧ Fld Z h x "java/lang/AbstractStringBuilder" "count" "I" (.int (Int32.ofNat cs.length)) ∧ Fld Z h x "java/lang/AbstractStringBuilder" "coder" "B" (.int (0 : Int32)) ∧ Fld Z h x "java/lang/AbstractStringBuilder" "value" "[B" (.ref t) ∧ ∃ kt : ClassId, Arv Z h t kt .byte (Int32.ofNat cap) ((cs.map lo8).map Value.int) (.int (0 : Int32))
theorem OSb.ext {Z : State} {h h' : Heap} {x t : Addr} {cs : List Int32} {cap : Nat} (F : OSb Z h x t cs cap) (E : Ext h h') : OSb Z h' x t cs cap := by
  obtain ⟨f1, f2, f3, f4, kt, f5⟩ := F
  exact ⟨f1.ext E, f2.ext E, f3.ext E, f4.ext E, kt, f5.ext E⟩
theorem shl0 (v : Int32) : v <<< ((0 : Int32) &&& 31) = v := by rw [show ((0 : Int32) &&& 31) = 0 from by decide]; simp
theorem shr0 (v : Int32) : v >>> ((0 : Int32) &&& 31) = v := by rw [show ((0 : Int32) &&& 31) = 0 from by decide]; simp
theorem own_nsub {a b : Nat} (h : a ≤ b) (hb : b < 1000) : ¬ (0 : Int32) < Int32.ofNat a - Int32.ofNat b := by
  have q := c_isub (Int32.ofNat a) (Int32.ofNat b)
  have r := rng32 (Int32.ofNat a - Int32.ofNat b)
  rw [ofN (by omega), ofN (by omega)] at q
  rw [Int32.lt_iff_toInt_lt, show (0 : Int32).toInt = 0 from rfl]; omega
theorem own_psub {a : Nat} (h : 16 < a) (hb : a < 1000) : (0 : Int32) < Int32.ofNat a - (16 : Int32) := by
  rw [show Int32.ofNat a - (16 : Int32) = Int32.ofNat (a - 16) from ofN_sub (b := 16) (by omega) (by omega)]
  exact (ofN_lt (a := 0) (by omega) (by omega)).mpr (by omega)
theorem own_rng {V : List Value} {d : Value} {n : Nat} (h : n = V.length) : V = (List.range n).map fun i => V.getD ((0 : Int32).toNatClampNeg + i) d := by
  rw [show (0 : Int32).toNatClampNeg = 0 from rfl]
  subst h
  apply List.ext_getElem
  · simp
  · intro k h1 h2
    simp [List.getD_eq_getElem?_getD, h1]
theorem own_padc {vs : List Value} {d : Value} {n k : Nat} (h : vs.length ≤ n) : ∀ i, vs.getD i d = ((List.range n).map (fun i => vs.getD ((0 : Int32).toNatClampNeg + i) d) ++ List.replicate k d).getD i d := by
  intro i
  rw [show (0 : Int32).toNatClampNeg = 0 from rfl, pad_rep]
  by_cases q : i < n
  · simp [List.getD_eq_getElem?_getD, q]
  · have e : vs.length ≤ i := by omega
    simp [List.getD_eq_getElem?_getD, q, e]
theorem own_app {A D : List Value} {d : Value} {k a n : Nat} (ha : A.length = a) : ∀ i, (A ++ D).getD i d = ((A ++ List.replicate k d).take a ++ D ++ (A ++ List.replicate k d).drop (a + n)).getD i d := by
  intro i
  have e1 : (A ++ List.replicate k d).take a = A := by subst ha; simp
  have e2 : (A ++ List.replicate k d).drop (a + n) = List.replicate (k - n) d := by subst ha; simp [List.drop_append]
  rw [e1, e2, pad_rep]
def own_txt (n c0 c1 : Int32) : List Int32 := if n = 0 then [] else if n = 1 then [c0] else [c0, c1]
theorem own_txt0 {n c0 c1 : Int32} (h : n = 0) : own_txt n c0 c1 = [] := if_pos h
theorem own_txt1 {n c0 c1 : Int32} (h0 : ¬ n = 0) (h : n = 1) : own_txt n c0 c1 = [c0] := by unfold own_txt; rw [if_neg h0, if_pos h]
theorem own_txt2 {n c0 c1 : Int32} (h0 : ¬ n = 0) (h : ¬ n = 1) : own_txt n c0 c1 = [c0, c1] := by unfold own_txt; rw [if_neg h0, if_neg h]
theorem own_mod3 {x n : Int32} (h : n = (x &&& (3 : Int32)) % (3 : Int32)) : n = 0 ∨ n = 1 ∨ n = 2 := by
  have q1 := c_and x 3 (by decide)
  have q2 := (c_irem (x &&& (3 : Int32)) 3 3 (by decide)).1 q1.1
  have r3 : (3 : Int32).toInt = 3 := rfl
  rw [r3] at q1
  have e : n.toInt = 0 ∨ n.toInt = 1 ∨ n.toInt = 2 := by rw [h]; omega
  rcases e with e | e | e
  · exact Or.inl (Int32.toInt_inj.mp (by rw [e]; rfl))
  · exact Or.inr (Or.inl (Int32.toInt_inj.mp (by rw [e]; rfl)))
  · exact Or.inr (Or.inr (Int32.toInt_inj.mp (by rw [e]; rfl)))
theorem own_txt_eq {n m a0 a1 b0 b1 : Int32} (hn : n = 0 ∨ n = 1 ∨ n = 2) (hm : m = 0 ∨ m = 1 ∨ m = 2) : own_txt n a0 a1 = own_txt m b0 b1 ↔ n = m ∧ (n < 1 ∨ a0 = b0) ∧ (n < 2 ∨ a1 = b1) := by
  rcases hn with rfl | rfl | rfl <;> rcases hm with rfl | rfl | rfl <;> simp [own_txt] <;> decide
def own_row : List Int32 := [114, 111, 119, 32, 39]
def own_mid : List Int32 := [39, 32, 111, 102, 32, 116, 97, 98, 108, 101, 32]
theorem own_row_b : ∀ c ∈ own_row, ¬ c < 0 ∧ ¬ (255 : Int32) < c := by decide +kernel
theorem own_mid_b : ∀ c ∈ own_mid, ¬ c < 0 ∧ ¬ (255 : Int32) < c := by decide +kernel
theorem own_row_t : (∀ c ∈ ("row '" : String).toList, c.toNat < 256) ∧ ("row '" : String).toList.map (fun c => Value.int (Jvm.Lit.byteI c.toNat.toUInt16)) = ((own_row.map lo8).map Value.int) := ⟨by decide +kernel, by decide +kernel⟩
theorem own_mid_t : (∀ c ∈ ("' of table " : String).toList, c.toNat < 256) ∧ ("' of table " : String).toList.map (fun c => Value.int (Jvm.Lit.byteI c.toNat.toUInt16)) = ((own_mid.map lo8).map Value.int) := ⟨by decide +kernel, by decide +kernel⟩
theorem all_app {P : Int32 → Prop} {k l : List Int32} (h1 : ∀ c ∈ k, P c) (h2 : ∀ c ∈ l, P c) : ∀ c ∈ k ++ l, P c := fun c hc => (List.mem_append.mp hc).elim (h1 c) (h2 c)
theorem own_txt_len (n c0 c1 : Int32) : (own_txt n c0 c1).length ≤ 2 := by unfold own_txt; split; exact Nat.le_of_ble_eq_true rfl; split; exact Nat.le_of_ble_eq_true rfl; exact Nat.le_of_ble_eq_true rfl
theorem own_txtN {n c0 c1 : Int32} (h : n = 0 ∨ n = 1 ∨ n = 2) : ∃ k : Nat, n = Int32.ofNat k ∧ k ≤ 2 ∧ (own_txt n c0 c1).length = k ∧ (1 ≤ k → (own_txt n c0 c1).getD 0 0 = c0) ∧ (2 ≤ k → (own_txt n c0 c1).getD 1 0 = c1) := by
  rcases h with rfl | rfl | rfl
  · exact ⟨0, rfl, by decide, rfl, fun q => absurd q (by decide), fun q => absurd q (by decide)⟩
  · exact ⟨1, rfl, by decide, rfl, fun _ => rfl, fun q => absurd q (by decide)⟩
  · exact ⟨2, rfl, by decide, rfl, fun _ => rfl, fun _ => rfl⟩
theorem own_getL {A B : List Int32} {j : Nat} (h : j < A.length) : (A ++ B).getD j 0 = A.getD j 0 := by
  rw [List.getD_eq_getElem?_getD, List.getD_eq_getElem?_getD, List.getElem?_append_left h]
theorem own_getR {A B : List Int32} {a j : Nat} (h : A.length = a) : (A ++ B).getD (a + j) 0 = B.getD j 0 := by
  subst h
  rw [List.getD_eq_getElem?_getD, List.getD_eq_getElem?_getD, List.getElem?_append_right (by omega), Nat.add_sub_cancel_left]
theorem own_parts {ks ts : List Int32} {a b : Nat} (ha : ks.length = a) (hb : ts.length = b) : (own_row ++ ks ++ own_mid ++ ts).length = 16 + a + b ∧ (∀ j, j < 5 → (own_row ++ ks ++ own_mid ++ ts).getD j 0 = own_row.getD j 0) ∧ (∀ j, j < a → (own_row ++ ks ++ own_mid ++ ts).getD (5 + j) 0 = ks.getD j 0) ∧ (∀ j, j < 11 → (own_row ++ ks ++ own_mid ++ ts).getD (5 + a + j) 0 = own_mid.getD j 0) ∧ (∀ j, j < b → (own_row ++ ks ++ own_mid ++ ts).getD (5 + a + 11 + j) 0 = ts.getD j 0) := by
  have l1 : own_row.length = 5 := rfl
  have l2 : (own_row ++ ks).length = 5 + a := by rw [List.length_append, l1, ha]
  have l3 : own_mid.length = 11 := rfl
  have l4 : (own_row ++ ks ++ own_mid).length = 5 + a + 11 := by rw [List.length_append, l2, l3]
  refine ⟨by rw [List.length_append, l4, hb]; omega, fun j hj => ?_, fun j hj => ?_, fun j hj => ?_, fun j hj => own_getR l4⟩
  · rw [own_getL (by omega), own_getL (by omega), own_getL (by omega)]
  · rw [own_getL (by omega), own_getL (by omega), own_getR l1]
  · rw [own_getL (by omega), own_getR l2]
theorem own_wS {Z : State} {a0 : Array Value} (hw : ∀ d ∈ tables_1, d.before a0 Z = true) : ∀ d ∈ Bundle.stringAtoms, d.before a0 Z = true := fun d hd => hw d ((by decide +kernel : ∀ d ∈ Bundle.stringAtoms, d ∈ tables_1) d hd)
theorem own_words {Z : State} {a0 : Array Value} (hw : ∀ d ∈ tables_1, d.before a0 Z = true) : ∀ d ∈ StrChars.Road.words, d.before a0 Z = true := fun d hd => hw d ((by decide +kernel : ∀ d ∈ StrChars.Road.words, d ∈ tables_1) d hd)
theorem own_newStr {l : Launch} {Z : State} {a0 : Array Value} {cz : Int32} {fm : Value} (H : Ctx Z a0 cz fm) {p : Program} {e : Env} {R : Room} {s : State} {m : MethodId} {args : Array Value} {below : List Frame} {meth : Method} {c : Code} {own : String} {vm0 : Vm} {T : State} {h : Heap} {k n : Nat} {G : Outcome → State → Prop} {pc : Nat} {Ls : Array Slot} {rest : List Value}
    (X : OSt p l e R s m args below meth c own Z consts_1 vm0 T h k n) {x b : Addr} {kC : ClassId} {cs : List Int32} {d : Value} {N : Int32} {j : Nat} (hx0 : Z.heap.size ≤ x) (E : Exa Z h x "java/lang/String") (V : Fld Z h x "java/lang/String" "value" "[B" .null) (C : Fld Z h x "java/lang/String" "coder" "B" (.int (0 : Int32))) (K : Arv Z h b kC .char N (cs.map Value.int) d)
    (hN : N = Int32.ofNat cs.length) (hj : cs.length = j) (l0 : 0 < j) (l2 : j ≤ 4000) (hp : ∀ c ∈ cs, ¬ c < 0 ∧ ¬ (255 : Int32) < c) {index : Nat} (w1 : (Jvm.Cond.methodLink own index ⟨"java/lang/String", "<init>", "([C)V"⟩).before a0 Z = true) {W : Nat} (hfr : 4 ≤ R.frames) (hlo : W + 65 ≤ R.locals) (hsize : Ls.size = c.maxLocals) (hW : (rest.map fun v => v.category).sum ≤ W) (hd : decode c.code pc = .ok (.invokespecial index, 3)) (hk : k + 1 ≤ R.cells) (hn : n + j ≤ R.slots)
    (q : ∀ T' h', OSt p l e R s m args below meth c own Z consts_1 vm0 T' h' (k + 1) (n + j) → Keep h h' [x] → OStr Z h' x cs → OEnds p e below G T' (mkF m (pc + 3) Ls rest)) : OEnds p e below G T (mkF m pc Ls (.ref b :: .ref x :: rest)) := by
  obtain ⟨hw, hE, S0, hcz, -⟩ := id H
  refine X.payI (StrChars.Road.backV (W := W) (n0 := Z.heap.size) (s := s.setVm vm0) X.hZ (own_words hw) (kI := 4) (own_k hw 5 rfl) (cs := cs) (bs := cs.map (fun c => c.toInt8.toInt32)) (n := j) hx0 X.old.1 E V C K (S0.ext X.old) hcz hj (by rw [hN, hj]) l0 l2 hp rfl hfr hlo) ?_ w1 (own_k hw 9 rfl) (own_k hw 10 rfl) rfl (by decide) (a := x) (argsL := [.ref b]) (rest := rest) rfl (lenOf own_pdC rfl) rfl hsize hW hd hk hn ?_
  · rintro v h' L ⟨q1, q2, q3, -⟩
    exact ⟨q2, ext_keep X.old q3 (allS hx0 all0), CHr.keep q3 (sfS (safe_blank X.al E V) sf0) X.chv⟩
  · rintro v T' h' L X' ⟨rfl, q2, q3, q4, q5, t, kb, -, -, -, q9, q10⟩
    subst hj
    exact q T' h' X' q3 ⟨q4, q5, ⟨t, kb, q9, by rw [hN] at q10; exact q10⟩, hp, l2⟩
theorem own_wLen {Z : State} {a0 : Array Value} (hw : ∀ d ∈ tables_1, d.before a0 Z = true) : ∀ d ∈ StrChars.Road.wordsLen, d.before a0 Z = true := fun d hd => hw d ((by decide +kernel : ∀ d ∈ StrChars.Road.wordsLen, d ∈ tables_1) d hd)
theorem own_len {l : Launch} {Z : State} {a0 : Array Value} {cz : Int32} {fm : Value} (H : Ctx Z a0 cz fm) {p : Program} {e : Env} {R : Room} {s : State} {args : Array Value} {below : List Frame} {vm0 : Vm} {h : Heap} (hZ : Z.Warmed39 vm0) (hO : Ext Z.heap h) {x : Addr} {cs : List Int32} {W : Nat} (F : OStr Z h x cs) (hfr : 2 ≤ R.frames) (hlo : W + 25 ≤ R.locals) : Back l R p e below (s.setVm vm0) args ⟨"java/lang/String", "length", "()I"⟩ 3 W (PreB R #[.ref x] h 0 0) (PostB (fun v h' L => v = some (.int (Int32.ofNat cs.length)) ∧ L = [] ∧ h' = h) 0 0) := by
  obtain ⟨hw, hE, S0, hcz, S1, rf⟩ := id H
  obtain ⟨F1, F2, ⟨t, kb, F3, F4⟩, F5, F6⟩ := F
  exact StrChars.Road.lenW (W := W) (s := s.setVm vm0) hZ (own_wLen hw) (kI := 4) (own_k hw 5 rfl) F1 F3 F2 F4 (StrChars.Road.codOf rfl (fun c hc => (F5 c hc).2)) (fun c hc => up255 (F5 c hc)) (S0.ext hO) hcz F6 hfr hlo
theorem own_wCh {Z : State} {a0 : Array Value} (hw : ∀ d ∈ tables_1, d.before a0 Z = true) : ∀ d ∈ StrChars.Road.wordsChN, d.before a0 Z = true := fun d hd => hw d ((by decide +kernel : ∀ d ∈ StrChars.Road.wordsChN, d ∈ tables_1) d hd)
theorem own_chr {l : Launch} {Z : State} {a0 : Array Value} {cz : Int32} {fm : Value} (H : Ctx Z a0 cz fm) {p : Program} {e : Env} {R : Room} {s : State} {args : Array Value} {below : List Frame} {vm0 : Vm} {h : Heap} (hZ : Z.Warmed39 vm0) (hO : Ext Z.heap h) {x : Addr} {cs : List Int32} {W i : Nat} {j : Int32} (F : OStr Z h x cs) (hi : i < cs.length) (hj : j = Int32.ofNat i) (hfr : 4 ≤ R.frames) (hlo : W + 53 ≤ R.locals) : Back l R p e below (s.setVm vm0) args ⟨"java/lang/String", "charAt", "(I)C"⟩ 3 W (PreB R #[.ref x, .int j] h 0 0) (PostB (fun v h' L => v = some (.int (cs.getD i 0)) ∧ L = [] ∧ h' = h) 0 0) := by
  obtain ⟨hw, hE, S0, hcz, S1, rf⟩ := id H
  obtain ⟨F1, F2, ⟨t, kb, F3, F4⟩, F5, F6⟩ := F
  exact StrChars.Road.chN (W := W) (s := s.setVm vm0) hZ (own_wCh hw) (kI := 4) (own_k hw 5 rfl) F1 F3 F2 F4 (StrChars.Road.codOf rfl (fun c hc => (F5 c hc).2)) (fun c hc => up255 (F5 c hc)) (S0.ext hO) hcz (S1.ext hO) rf F6 hi hj hfr hlo
theorem own_pf0 : plainFor (⟨"java/lang/Math", "max", "(II)I"⟩ : MethodName) = true := by first | exact plainFor_of_name (by first | (simp [plainName, overriddenIn]; done) | decide +kernel) | decide +kernel
theorem own_ef0 (m : MethodId) (x0 : Int32) (x1 : Int32)  : entryFrame m #[(.int x0), (.int x1)] 2 = mkF m 0 #[.val (.int x0), .val (.int x1)] [] := by first | (simp [entryFrame, mkF, argsToLocals, Value.category]; done) | rfl
theorem d_jdk_29_method_65_0 : decode jdk_29_method_65_code 0 = .ok (.iload_n 0, 1) := by decide +kernel
theorem d_jdk_29_method_65_1 : decode jdk_29_method_65_code 1 = .ok (.iload_n 1, 1) := by decide +kernel
theorem d_jdk_29_method_65_2 : decode jdk_29_method_65_code 2 = .ok (.if_icmp .lt 7, 3) := by decide +kernel
theorem d_jdk_29_method_65_9 : decode jdk_29_method_65_code 9 = .ok (.iload_n 1, 1) := by decide +kernel
theorem d_jdk_29_method_65_10 : decode jdk_29_method_65_code 10 = .ok (.ireturn, 1) := by decide +kernel
theorem own_pf1 : plainFor (⟨"java/lang/Math", "min", "(II)I"⟩ : MethodName) = true := by first | exact plainFor_of_name (by first | (simp [plainName, overriddenIn]; done) | decide +kernel) | decide +kernel
theorem d_jdk_29_method_69_0 : decode jdk_29_method_69_code 0 = .ok (.iload_n 0, 1) := by decide +kernel
theorem d_jdk_29_method_69_1 : decode jdk_29_method_69_code 1 = .ok (.iload_n 1, 1) := by decide +kernel
theorem d_jdk_29_method_69_2 : decode jdk_29_method_69_code 2 = .ok (.if_icmp .gt 7, 3) := by decide +kernel
theorem d_jdk_29_method_69_5 : decode jdk_29_method_69_code 5 = .ok (.iload_n 0, 1) := by decide +kernel
theorem d_jdk_29_method_69_6 : decode jdk_29_method_69_code 6 = .ok (.goto 4, 3) := by decide +kernel
theorem d_jdk_29_method_69_10 : decode jdk_29_method_69_code 10 = .ok (.ireturn, 1) := by decide +kernel
theorem d_jdk_29_method_69_9 : decode jdk_29_method_69_code 9 = .ok (.iload_n 1, 1) := by decide +kernel
theorem own_pf2 : plainFor (⟨"jdk/internal/util/ArraysSupport", "newLength", "(III)I"⟩ : MethodName) = true := by first | exact plainFor_of_name (by first | (simp [plainName, overriddenIn]; done) | decide +kernel) | decide +kernel
theorem own_ef1 (m : MethodId) (x0 : Int32) (x1 : Int32) (x2 : Int32)  : entryFrame m #[(.int x0), (.int x1), (.int x2)] 4 = mkF m 0 #[.val (.int x0), .val (.int x1), .val (.int x2), .unset] [] := by first | (simp [entryFrame, mkF, argsToLocals, Value.category]; done) | rfl
theorem d_jdk_48_method_27_0 : decode jdk_48_method_27_code 0 = .ok (.iload_n 0, 1) := by decide +kernel
theorem d_jdk_48_method_27_1 : decode jdk_48_method_27_code 1 = .ok (.iload_n 1, 1) := by decide +kernel
theorem d_jdk_48_method_27_2 : decode jdk_48_method_27_code 2 = .ok (.iload_n 2, 1) := by decide +kernel
theorem own_pd0 : parseMethodDescriptor "(II)I" = some ⟨[FieldType.int, FieldType.int], some FieldType.int⟩ := by decide +kernel
theorem d_jdk_48_method_27_3 : decode jdk_48_method_27_code 3 = .ok (.invokestatic 194, 3) := by decide +kernel
theorem d_jdk_48_method_27_6 : decode jdk_48_method_27_code 6 = .ok (.iadd, 1) := by decide +kernel
theorem d_jdk_48_method_27_7 : decode jdk_48_method_27_code 7 = .ok (.istore_n 3, 1) := by decide +kernel
theorem d_jdk_48_method_27_8 : decode jdk_48_method_27_code 8 = .ok (.iconst 0, 1) := by decide +kernel
theorem d_jdk_48_method_27_9 : decode jdk_48_method_27_code 9 = .ok (.iload_n 3, 1) := by decide +kernel
theorem d_jdk_48_method_27_10 : decode jdk_48_method_27_code 10 = .ok (.if_icmp .ge 11, 3) := by decide +kernel
theorem d_jdk_48_method_27_13 : decode jdk_48_method_27_code 13 = .ok (.iload_n 3, 1) := by decide +kernel
theorem d_jdk_48_method_27_14 : decode jdk_48_method_27_code 14 = .ok (.ldc 200, 2) := by decide +kernel
theorem d_jdk_48_method_27_16 : decode jdk_48_method_27_code 16 = .ok (.if_icmp .gt 5, 3) := by decide +kernel
theorem d_jdk_48_method_27_19 : decode jdk_48_method_27_code 19 = .ok (.iload_n 3, 1) := by decide +kernel
theorem d_jdk_48_method_27_20 : decode jdk_48_method_27_code 20 = .ok (.ireturn, 1) := by decide +kernel
theorem own_pf3 : plainFor (⟨"java/lang/AbstractStringBuilder", "newCapacity", "(I)I"⟩ : MethodName) = true := by first | exact plainFor_of_name (by first | (simp [plainName, overriddenIn]; done) | decide +kernel) | decide +kernel
theorem own_ef2 (m : MethodId) (x0 : Addr) (x1 : Int32)  : entryFrame m #[(.ref x0), (.int x1)] 6 = mkF m 0 #[.val (.ref x0), .val (.int x1), .unset, .unset, .unset, .unset] [] := by first | (simp [entryFrame, mkF, argsToLocals, Value.category]; done) | rfl
theorem d_jdk_68_method_10_0 : decode jdk_68_method_10_code 0 = .ok (.aload_n 0, 1) := by decide +kernel
theorem d_jdk_68_method_10_1 : decode jdk_68_method_10_code 1 = .ok (.getfield 15, 3) := by decide +kernel
theorem d_jdk_68_method_10_4 : decode jdk_68_method_10_code 4 = .ok (.arraylength, 1) := by decide +kernel
theorem d_jdk_68_method_10_5 : decode jdk_68_method_10_code 5 = .ok (.istore_n 2, 1) := by decide +kernel
theorem d_jdk_68_method_10_6 : decode jdk_68_method_10_code 6 = .ok (.iload_n 1, 1) := by decide +kernel
theorem d_jdk_68_method_10_7 : decode jdk_68_method_10_code 7 = .ok (.aload_n 0, 1) := by decide +kernel
theorem d_jdk_68_method_10_8 : decode jdk_68_method_10_code 8 = .ok (.getfield 22, 3) := by decide +kernel
theorem d_jdk_68_method_10_11 : decode jdk_68_method_10_code 11 = .ok (.ishl, 1) := by decide +kernel
theorem d_jdk_68_method_10_12 : decode jdk_68_method_10_code 12 = .ok (.istore_n 3, 1) := by decide +kernel
theorem d_jdk_68_method_10_13 : decode jdk_68_method_10_code 13 = .ok (.iload_n 3, 1) := by decide +kernel
theorem d_jdk_68_method_10_14 : decode jdk_68_method_10_code 14 = .ok (.iload_n 2, 1) := by decide +kernel
theorem d_jdk_68_method_10_15 : decode jdk_68_method_10_code 15 = .ok (.isub, 1) := by decide +kernel
theorem d_jdk_68_method_10_16 : decode jdk_68_method_10_code 16 = .ok (.istore 4, 2) := by decide +kernel
theorem d_jdk_68_method_10_18 : decode jdk_68_method_10_code 18 = .ok (.iload_n 2, 1) := by decide +kernel
theorem d_jdk_68_method_10_19 : decode jdk_68_method_10_code 19 = .ok (.iload 4, 2) := by decide +kernel
theorem d_jdk_68_method_10_21 : decode jdk_68_method_10_code 21 = .ok (.iload_n 2, 1) := by decide +kernel
theorem d_jdk_68_method_10_22 : decode jdk_68_method_10_code 22 = .ok (.iconst 2, 1) := by decide +kernel
theorem d_jdk_68_method_10_23 : decode jdk_68_method_10_code 23 = .ok (.aload_n 0, 1) := by decide +kernel
theorem d_jdk_68_method_10_24 : decode jdk_68_method_10_code 24 = .ok (.getfield 22, 3) := by decide +kernel
theorem d_jdk_68_method_10_27 : decode jdk_68_method_10_code 27 = .ok (.ishl, 1) := by decide +kernel
theorem d_jdk_68_method_10_28 : decode jdk_68_method_10_code 28 = .ok (.iadd, 1) := by decide +kernel
theorem own_pd1 : parseMethodDescriptor "(III)I" = some ⟨[FieldType.int, FieldType.int, FieldType.int], some FieldType.int⟩ := by decide +kernel
theorem d_jdk_68_method_10_29 : decode jdk_68_method_10_code 29 = .ok (.invokestatic 114, 3) := by decide +kernel
theorem d_jdk_68_method_10_32 : decode jdk_68_method_10_code 32 = .ok (.istore 5, 2) := by decide +kernel
theorem d_jdk_68_method_10_34 : decode jdk_68_method_10_code 34 = .ok (.iload 5, 2) := by decide +kernel
theorem d_jdk_68_method_10_36 : decode jdk_68_method_10_code 36 = .ok (.ldc 39, 2) := by decide +kernel
theorem d_jdk_68_method_10_38 : decode jdk_68_method_10_code 38 = .ok (.if_icmp .ne 13, 3) := by decide +kernel
theorem d_jdk_68_method_10_51 : decode jdk_68_method_10_code 51 = .ok (.iload 5, 2) := by decide +kernel
theorem d_jdk_68_method_10_53 : decode jdk_68_method_10_code 53 = .ok (.aload_n 0, 1) := by decide +kernel
theorem d_jdk_68_method_10_54 : decode jdk_68_method_10_code 54 = .ok (.getfield 22, 3) := by decide +kernel
theorem d_jdk_68_method_10_57 : decode jdk_68_method_10_code 57 = .ok (.ishr, 1) := by decide +kernel
theorem d_jdk_68_method_10_58 : decode jdk_68_method_10_code 58 = .ok (.ireturn, 1) := by decide +kernel
theorem own_pf4 : plainFor (⟨"java/util/Arrays", "copyOf", "([BI)[B"⟩ : MethodName) = true := by first | exact plainFor_of_name (by first | (simp [plainName, overriddenIn]; done) | decide +kernel) | decide +kernel
theorem own_ef3 (m : MethodId) (x0 : Addr) (x1 : Int32)  : entryFrame m #[(.ref x0), (.int x1)] 3 = mkF m 0 #[.val (.ref x0), .val (.int x1), .unset] [] := by first | (simp [entryFrame, mkF, argsToLocals, Value.category]; done) | rfl
theorem d_jdk_65_method_121_0 : decode jdk_65_method_121_code 0 = .ok (.iload_n 1, 1) := by decide +kernel
theorem d_jdk_65_method_121_1 : decode jdk_65_method_121_code 1 = .ok (.aload_n 0, 1) := by decide +kernel
theorem d_jdk_65_method_121_2 : decode jdk_65_method_121_code 2 = .ok (.arraylength, 1) := by decide +kernel
theorem d_jdk_65_method_121_3 : decode jdk_65_method_121_code 3 = .ok (.if_icmp .ne 11, 3) := by decide +kernel
theorem d_jdk_65_method_121_14 : decode jdk_65_method_121_code 14 = .ok (.iload_n 1, 1) := by decide +kernel
theorem d_jdk_65_method_121_15 : decode jdk_65_method_121_code 15 = .ok (.newarray .byte, 2) := by decide +kernel
theorem d_jdk_65_method_121_17 : decode jdk_65_method_121_code 17 = .ok (.astore_n 2, 1) := by decide +kernel
theorem d_jdk_65_method_121_18 : decode jdk_65_method_121_code 18 = .ok (.aload_n 0, 1) := by decide +kernel
theorem d_jdk_65_method_121_19 : decode jdk_65_method_121_code 19 = .ok (.iconst 0, 1) := by decide +kernel
theorem d_jdk_65_method_121_20 : decode jdk_65_method_121_code 20 = .ok (.aload_n 2, 1) := by decide +kernel
theorem d_jdk_65_method_121_21 : decode jdk_65_method_121_code 21 = .ok (.iconst 0, 1) := by decide +kernel
theorem d_jdk_65_method_121_22 : decode jdk_65_method_121_code 22 = .ok (.aload_n 0, 1) := by decide +kernel
theorem d_jdk_65_method_121_23 : decode jdk_65_method_121_code 23 = .ok (.arraylength, 1) := by decide +kernel
theorem d_jdk_65_method_121_24 : decode jdk_65_method_121_code 24 = .ok (.iload_n 1, 1) := by decide +kernel
theorem d_jdk_65_method_121_25 : decode jdk_65_method_121_code 25 = .ok (.invokestatic 304, 3) := by decide +kernel
theorem d_jdk_65_method_121_28 : decode jdk_65_method_121_code 28 = .ok (.invokestatic 150, 3) := by decide +kernel
theorem d_jdk_65_method_121_31 : decode jdk_65_method_121_code 31 = .ok (.aload_n 2, 1) := by decide +kernel
theorem d_jdk_65_method_121_32 : decode jdk_65_method_121_code 32 = .ok (.areturn, 1) := by decide +kernel
theorem own_pf5 : plainFor (⟨"java/lang/AbstractStringBuilder", "ensureCapacityInternal", "(I)V"⟩ : MethodName) = true := by first | exact plainFor_of_name (by first | (simp [plainName, overriddenIn]; done) | decide +kernel) | decide +kernel
theorem d_jdk_68_method_9_0 : decode jdk_68_method_9_code 0 = .ok (.aload_n 0, 1) := by decide +kernel
theorem d_jdk_68_method_9_1 : decode jdk_68_method_9_code 1 = .ok (.getfield 15, 3) := by decide +kernel
theorem d_jdk_68_method_9_4 : decode jdk_68_method_9_code 4 = .ok (.arraylength, 1) := by decide +kernel
theorem d_jdk_68_method_9_5 : decode jdk_68_method_9_code 5 = .ok (.aload_n 0, 1) := by decide +kernel
theorem d_jdk_68_method_9_6 : decode jdk_68_method_9_code 6 = .ok (.getfield 22, 3) := by decide +kernel
theorem d_jdk_68_method_9_9 : decode jdk_68_method_9_code 9 = .ok (.ishr, 1) := by decide +kernel
theorem d_jdk_68_method_9_10 : decode jdk_68_method_9_code 10 = .ok (.istore_n 2, 1) := by decide +kernel
theorem d_jdk_68_method_9_11 : decode jdk_68_method_9_code 11 = .ok (.iload_n 1, 1) := by decide +kernel
theorem d_jdk_68_method_9_12 : decode jdk_68_method_9_code 12 = .ok (.iload_n 2, 1) := by decide +kernel
theorem d_jdk_68_method_9_13 : decode jdk_68_method_9_code 13 = .ok (.isub, 1) := by decide +kernel
theorem d_jdk_68_method_9_14 : decode jdk_68_method_9_code 14 = .ok (.ifCond .le 24, 3) := by decide +kernel
theorem d_jdk_68_method_9_38 : decode jdk_68_method_9_code 38 = .ok (.return_, 1) := by decide +kernel
theorem d_jdk_68_method_9_17 : decode jdk_68_method_9_code 17 = .ok (.aload_n 0, 1) := by decide +kernel
theorem d_jdk_68_method_9_18 : decode jdk_68_method_9_code 18 = .ok (.aload_n 0, 1) := by decide +kernel
theorem d_jdk_68_method_9_19 : decode jdk_68_method_9_code 19 = .ok (.getfield 15, 3) := by decide +kernel
theorem d_jdk_68_method_9_22 : decode jdk_68_method_9_code 22 = .ok (.aload_n 0, 1) := by decide +kernel
theorem d_jdk_68_method_9_23 : decode jdk_68_method_9_code 23 = .ok (.iload_n 1, 1) := by decide +kernel
theorem own_pd2 : parseMethodDescriptor "(I)I" = some ⟨[FieldType.int], some FieldType.int⟩ := by decide +kernel
theorem d_jdk_68_method_9_24 : decode jdk_68_method_9_code 24 = .ok (.invokevirtual 104, 3) := by decide +kernel
theorem d_jdk_68_method_9_27 : decode jdk_68_method_9_code 27 = .ok (.aload_n 0, 1) := by decide +kernel
theorem d_jdk_68_method_9_28 : decode jdk_68_method_9_code 28 = .ok (.getfield 22, 3) := by decide +kernel
theorem d_jdk_68_method_9_31 : decode jdk_68_method_9_code 31 = .ok (.ishl, 1) := by decide +kernel
theorem own_pd3 : parseMethodDescriptor "([BI)[B" = some ⟨[(FieldType.array FieldType.byte), FieldType.int], some (FieldType.array FieldType.byte)⟩ := by decide +kernel
theorem d_jdk_68_method_9_32 : decode jdk_68_method_9_code 32 = .ok (.invokestatic 108, 3) := by decide +kernel
theorem d_jdk_68_method_9_35 : decode jdk_68_method_9_code 35 = .ok (.putfield 15, 3) := by decide +kernel
theorem own_pf6 : plainFor (⟨"java/lang/String", "coder", "()B"⟩ : MethodName) = true := by first | exact plainFor_of_name (by first | (simp [plainName, overriddenIn]; done) | decide +kernel) | decide +kernel
theorem own_ef4 (m : MethodId) (x0 : Addr)  : entryFrame m #[(.ref x0)] 1 = mkF m 0 #[.val (.ref x0)] [] := by first | (simp [entryFrame, mkF, argsToLocals, Value.category]; done) | rfl
theorem d_jdk_42_method_152_0 : decode jdk_42_method_152_code 0 = .ok (.getstatic 38, 3) := by decide +kernel
theorem d_jdk_42_method_152_3 : decode jdk_42_method_152_code 3 = .ok (.ifCond .eq 10, 3) := by decide +kernel
theorem d_jdk_42_method_152_6 : decode jdk_42_method_152_code 6 = .ok (.aload_n 0, 1) := by decide +kernel
theorem d_jdk_42_method_152_7 : decode jdk_42_method_152_code 7 = .ok (.getfield 15, 3) := by decide +kernel
theorem d_jdk_42_method_152_10 : decode jdk_42_method_152_code 10 = .ok (.goto 4, 3) := by decide +kernel
theorem d_jdk_42_method_152_14 : decode jdk_42_method_152_code 14 = .ok (.ireturn, 1) := by decide +kernel
theorem own_pf7 : plainFor (⟨"java/lang/AbstractStringBuilder", "inflateIfNeededFor", "(Ljava/lang/String;)V"⟩ : MethodName) = true := by first | exact plainFor_of_name (by first | (simp [plainName, overriddenIn]; done) | decide +kernel) | decide +kernel
theorem own_ef5 (m : MethodId) (x0 : Addr) (x1 : Addr)  : entryFrame m #[(.ref x0), (.ref x1)] 2 = mkF m 0 #[.val (.ref x0), .val (.ref x1)] [] := by first | (simp [entryFrame, mkF, argsToLocals, Value.category]; done) | rfl
theorem d_jdk_68_method_71_0 : decode jdk_68_method_71_code 0 = .ok (.getstatic 18, 3) := by decide +kernel
theorem d_jdk_68_method_71_3 : decode jdk_68_method_71_code 3 = .ok (.ifCond .eq 18, 3) := by decide +kernel
theorem d_jdk_68_method_71_6 : decode jdk_68_method_71_code 6 = .ok (.aload_n 0, 1) := by decide +kernel
theorem d_jdk_68_method_71_7 : decode jdk_68_method_71_code 7 = .ok (.getfield 22, 3) := by decide +kernel
theorem d_jdk_68_method_71_10 : decode jdk_68_method_71_code 10 = .ok (.aload_n 1, 1) := by decide +kernel
theorem own_pd4 : parseMethodDescriptor "()B" = some ⟨[], some FieldType.byte⟩ := by decide +kernel
theorem d_jdk_68_method_71_11 : decode jdk_68_method_71_code 11 = .ok (.invokevirtual 40, 3) := by decide +kernel
theorem d_jdk_68_method_71_14 : decode jdk_68_method_71_code 14 = .ok (.if_icmp .eq 7, 3) := by decide +kernel
theorem d_jdk_68_method_71_21 : decode jdk_68_method_71_code 21 = .ok (.return_, 1) := by decide +kernel
theorem own_pf8 : plainFor (⟨"java/lang/String", "getBytes", "([BIB)V"⟩ : MethodName) = true := by first | exact plainFor_of_name (by first | (simp [plainName, overriddenIn]; done) | decide +kernel) | decide +kernel
theorem own_ef6 (m : MethodId) (x0 : Addr) (x1 : Addr) (x2 : Int32) (x3 : Int32)  : entryFrame m #[(.ref x0), (.ref x1), (.int x2), (.int x3)] 4 = mkF m 0 #[.val (.ref x0), .val (.ref x1), .val (.int x2), .val (.int x3)] [] := by first | (simp [entryFrame, mkF, argsToLocals, Value.category]; done) | rfl
theorem d_jdk_42_method_147_0 : decode jdk_42_method_147_code 0 = .ok (.aload_n 0, 1) := by decide +kernel
theorem d_jdk_42_method_147_1 : decode jdk_42_method_147_code 1 = .ok (.invokevirtual 335, 3) := by decide +kernel
theorem d_jdk_42_method_147_4 : decode jdk_42_method_147_code 4 = .ok (.iload_n 3, 1) := by decide +kernel
theorem d_jdk_42_method_147_5 : decode jdk_42_method_147_code 5 = .ok (.if_icmp .ne 23, 3) := by decide +kernel
theorem d_jdk_42_method_147_8 : decode jdk_42_method_147_code 8 = .ok (.aload_n 0, 1) := by decide +kernel
theorem d_jdk_42_method_147_9 : decode jdk_42_method_147_code 9 = .ok (.getfield 9, 3) := by decide +kernel
theorem d_jdk_42_method_147_12 : decode jdk_42_method_147_code 12 = .ok (.iconst 0, 1) := by decide +kernel
theorem d_jdk_42_method_147_13 : decode jdk_42_method_147_code 13 = .ok (.aload_n 1, 1) := by decide +kernel
theorem d_jdk_42_method_147_14 : decode jdk_42_method_147_code 14 = .ok (.iload_n 2, 1) := by decide +kernel
theorem d_jdk_42_method_147_15 : decode jdk_42_method_147_code 15 = .ok (.iload_n 3, 1) := by decide +kernel
theorem d_jdk_42_method_147_16 : decode jdk_42_method_147_code 16 = .ok (.ishl, 1) := by decide +kernel
theorem d_jdk_42_method_147_17 : decode jdk_42_method_147_code 17 = .ok (.aload_n 0, 1) := by decide +kernel
theorem d_jdk_42_method_147_18 : decode jdk_42_method_147_code 18 = .ok (.getfield 9, 3) := by decide +kernel
theorem d_jdk_42_method_147_21 : decode jdk_42_method_147_code 21 = .ok (.arraylength, 1) := by decide +kernel
theorem d_jdk_42_method_147_22 : decode jdk_42_method_147_code 22 = .ok (.invokestatic 212, 3) := by decide +kernel
theorem d_jdk_42_method_147_25 : decode jdk_42_method_147_code 25 = .ok (.goto 18, 3) := by decide +kernel
theorem d_jdk_42_method_147_43 : decode jdk_42_method_147_code 43 = .ok (.return_, 1) := by decide +kernel
theorem own_pf9 : plainFor (⟨"java/lang/AbstractStringBuilder", "putStringAt", "(ILjava/lang/String;)V"⟩ : MethodName) = true := by first | exact plainFor_of_name (by first | (simp [plainName, overriddenIn]; done) | decide +kernel) | decide +kernel
theorem own_ef7 (m : MethodId) (x0 : Addr) (x1 : Int32) (x2 : Addr)  : entryFrame m #[(.ref x0), (.int x1), (.ref x2)] 3 = mkF m 0 #[.val (.ref x0), .val (.int x1), .val (.ref x2)] [] := by first | (simp [entryFrame, mkF, argsToLocals, Value.category]; done) | rfl
theorem d_jdk_68_method_73_0 : decode jdk_68_method_73_code 0 = .ok (.aload_n 0, 1) := by decide +kernel
theorem d_jdk_68_method_73_1 : decode jdk_68_method_73_code 1 = .ok (.aload_n 2, 1) := by decide +kernel
theorem own_pd5 : parseMethodDescriptor "(Ljava/lang/String;)V" = some ⟨[(FieldType.object "java/lang/String")], none⟩ := by decide +kernel
theorem d_jdk_68_method_73_2 : decode jdk_68_method_73_code 2 = .ok (.invokevirtual 397, 3) := by decide +kernel
theorem d_jdk_68_method_73_5 : decode jdk_68_method_73_code 5 = .ok (.aload_n 2, 1) := by decide +kernel
theorem d_jdk_68_method_73_6 : decode jdk_68_method_73_code 6 = .ok (.aload_n 0, 1) := by decide +kernel
theorem d_jdk_68_method_73_7 : decode jdk_68_method_73_code 7 = .ok (.getfield 15, 3) := by decide +kernel
theorem d_jdk_68_method_73_10 : decode jdk_68_method_73_code 10 = .ok (.iload_n 1, 1) := by decide +kernel
theorem d_jdk_68_method_73_11 : decode jdk_68_method_73_code 11 = .ok (.aload_n 0, 1) := by decide +kernel
theorem d_jdk_68_method_73_12 : decode jdk_68_method_73_code 12 = .ok (.getfield 22, 3) := by decide +kernel
theorem own_pd6 : parseMethodDescriptor "([BIB)V" = some ⟨[(FieldType.array FieldType.byte), FieldType.int, FieldType.byte], none⟩ := by decide +kernel
theorem d_jdk_68_method_73_15 : decode jdk_68_method_73_code 15 = .ok (.invokevirtual 399, 3) := by decide +kernel
theorem d_jdk_68_method_73_18 : decode jdk_68_method_73_code 18 = .ok (.return_, 1) := by decide +kernel
theorem own_pf10 : plainFor (⟨"java/lang/AbstractStringBuilder", "append", "(Ljava/lang/String;)Ljava/lang/AbstractStringBuilder;"⟩ : MethodName) = true := by first | exact plainFor_of_name (by first | (simp [plainName, overriddenIn]; done) | decide +kernel) | decide +kernel
theorem own_ef8 (m : MethodId) (x0 : Addr) (x1 : Addr)  : entryFrame m #[(.ref x0), (.ref x1)] 3 = mkF m 0 #[.val (.ref x0), .val (.ref x1), .unset] [] := by first | (simp [entryFrame, mkF, argsToLocals, Value.category]; done) | rfl
theorem d_jdk_68_method_22_0 : decode jdk_68_method_22_code 0 = .ok (.aload_n 1, 1) := by decide +kernel
theorem d_jdk_68_method_22_1 : decode jdk_68_method_22_code 1 = .ok (.ifnonnull 8, 3) := by decide +kernel
theorem d_jdk_68_method_22_9 : decode jdk_68_method_22_code 9 = .ok (.aload_n 1, 1) := by decide +kernel
theorem own_pd7 : parseMethodDescriptor "()I" = some ⟨[], some FieldType.int⟩ := by decide +kernel
theorem d_jdk_68_method_22_10 : decode jdk_68_method_22_code 10 = .ok (.invokevirtual 32, 3) := by decide +kernel
theorem d_jdk_68_method_22_13 : decode jdk_68_method_22_code 13 = .ok (.istore_n 2, 1) := by decide +kernel
theorem d_jdk_68_method_22_14 : decode jdk_68_method_22_code 14 = .ok (.aload_n 0, 1) := by decide +kernel
theorem d_jdk_68_method_22_15 : decode jdk_68_method_22_code 15 = .ok (.aload_n 0, 1) := by decide +kernel
theorem d_jdk_68_method_22_16 : decode jdk_68_method_22_code 16 = .ok (.getfield 79, 3) := by decide +kernel
theorem d_jdk_68_method_22_19 : decode jdk_68_method_22_code 19 = .ok (.iload_n 2, 1) := by decide +kernel
theorem d_jdk_68_method_22_20 : decode jdk_68_method_22_code 20 = .ok (.iadd, 1) := by decide +kernel
theorem own_pd8 : parseMethodDescriptor "(I)V" = some ⟨[FieldType.int], none⟩ := by decide +kernel
theorem d_jdk_68_method_22_21 : decode jdk_68_method_22_code 21 = .ok (.invokevirtual 100, 3) := by decide +kernel
theorem d_jdk_68_method_22_24 : decode jdk_68_method_22_code 24 = .ok (.aload_n 0, 1) := by decide +kernel
theorem d_jdk_68_method_22_25 : decode jdk_68_method_22_code 25 = .ok (.aload_n 0, 1) := by decide +kernel
theorem d_jdk_68_method_22_26 : decode jdk_68_method_22_code 26 = .ok (.getfield 79, 3) := by decide +kernel
theorem d_jdk_68_method_22_29 : decode jdk_68_method_22_code 29 = .ok (.aload_n 1, 1) := by decide +kernel
theorem own_pd9 : parseMethodDescriptor "(ILjava/lang/String;)V" = some ⟨[FieldType.int, (FieldType.object "java/lang/String")], none⟩ := by decide +kernel
theorem d_jdk_68_method_22_30 : decode jdk_68_method_22_code 30 = .ok (.invokevirtual 208, 3) := by decide +kernel
theorem d_jdk_68_method_22_33 : decode jdk_68_method_22_code 33 = .ok (.aload_n 0, 1) := by decide +kernel
theorem d_jdk_68_method_22_34 : decode jdk_68_method_22_code 34 = .ok (.dup, 1) := by decide +kernel
theorem d_jdk_68_method_22_35 : decode jdk_68_method_22_code 35 = .ok (.getfield 79, 3) := by decide +kernel
theorem d_jdk_68_method_22_38 : decode jdk_68_method_22_code 38 = .ok (.iload_n 2, 1) := by decide +kernel
theorem d_jdk_68_method_22_39 : decode jdk_68_method_22_code 39 = .ok (.iadd, 1) := by decide +kernel
theorem d_jdk_68_method_22_40 : decode jdk_68_method_22_code 40 = .ok (.putfield 79, 3) := by decide +kernel
theorem d_jdk_68_method_22_43 : decode jdk_68_method_22_code 43 = .ok (.aload_n 0, 1) := by decide +kernel
theorem d_jdk_68_method_22_44 : decode jdk_68_method_22_code 44 = .ok (.areturn, 1) := by decide +kernel
theorem own_pf11 : plainFor (⟨"java/lang/StringBuilder", "append", "(Ljava/lang/String;)Ljava/lang/StringBuilder;"⟩ : MethodName) = true := by first | exact plainFor_of_name (by first | (simp [plainName, overriddenIn]; done) | decide +kernel) | decide +kernel
theorem d_jdk_67_method_7_0 : decode jdk_67_method_7_code 0 = .ok (.aload_n 0, 1) := by decide +kernel
theorem d_jdk_67_method_7_1 : decode jdk_67_method_7_code 1 = .ok (.aload_n 1, 1) := by decide +kernel
theorem own_pd10 : parseMethodDescriptor "(Ljava/lang/String;)Ljava/lang/AbstractStringBuilder;" = some ⟨[(FieldType.object "java/lang/String")], some (FieldType.object "java/lang/AbstractStringBuilder")⟩ := by decide +kernel
theorem d_jdk_67_method_7_2 : decode jdk_67_method_7_code 2 = .ok (.invokespecial 29, 3) := by decide +kernel
theorem d_jdk_67_method_7_5 : decode jdk_67_method_7_code 5 = .ok (.pop, 1) := by decide +kernel
theorem d_jdk_67_method_7_6 : decode jdk_67_method_7_code 6 = .ok (.aload_n 0, 1) := by decide +kernel
theorem d_jdk_67_method_7_7 : decode jdk_67_method_7_code 7 = .ok (.areturn, 1) := by decide +kernel
theorem own_pf12 : plainFor (⟨"java/lang/AbstractStringBuilder", "<init>", "(I)V"⟩ : MethodName) = true := by first | exact plainFor_of_name (by first | (simp [plainName, overriddenIn]; done) | decide +kernel) | decide +kernel
theorem own_ef9 (m : MethodId) (x0 : Addr) (x1 : Int32)  : entryFrame m #[(.ref x0), (.int x1)] 2 = mkF m 0 #[.val (.ref x0), .val (.int x1)] [] := by first | (simp [entryFrame, mkF, argsToLocals, Value.category]; done) | rfl
theorem d_jdk_68_method_2_0 : decode jdk_68_method_2_code 0 = .ok (.aload_n 0, 1) := by decide +kernel
theorem d_jdk_68_method_2_1 : decode jdk_68_method_2_code 1 = .ok (.invokespecial 3, 3) := by decide +kernel
theorem d_jdk_68_method_2_4 : decode jdk_68_method_2_code 4 = .ok (.getstatic 18, 3) := by decide +kernel
theorem d_jdk_68_method_2_7 : decode jdk_68_method_2_code 7 = .ok (.ifCond .eq 18, 3) := by decide +kernel
theorem d_jdk_68_method_2_10 : decode jdk_68_method_2_code 10 = .ok (.aload_n 0, 1) := by decide +kernel
theorem d_jdk_68_method_2_11 : decode jdk_68_method_2_code 11 = .ok (.iload_n 1, 1) := by decide +kernel
theorem d_jdk_68_method_2_12 : decode jdk_68_method_2_code 12 = .ok (.newarray .byte, 2) := by decide +kernel
theorem d_jdk_68_method_2_14 : decode jdk_68_method_2_code 14 = .ok (.putfield 15, 3) := by decide +kernel
theorem d_jdk_68_method_2_17 : decode jdk_68_method_2_code 17 = .ok (.aload_n 0, 1) := by decide +kernel
theorem d_jdk_68_method_2_18 : decode jdk_68_method_2_code 18 = .ok (.iconst 0, 1) := by decide +kernel
theorem d_jdk_68_method_2_19 : decode jdk_68_method_2_code 19 = .ok (.putfield 22, 3) := by decide +kernel
theorem d_jdk_68_method_2_22 : decode jdk_68_method_2_code 22 = .ok (.goto 16, 3) := by decide +kernel
theorem d_jdk_68_method_2_38 : decode jdk_68_method_2_code 38 = .ok (.return_, 1) := by decide +kernel
theorem own_pf13 : plainFor (⟨"java/lang/StringBuilder", "<init>", "()V"⟩ : MethodName) = true := by first | exact plainFor_of_name (by first | (simp [plainName, overriddenIn]; done) | decide +kernel) | decide +kernel
theorem d_jdk_67_method_1_0 : decode jdk_67_method_1_code 0 = .ok (.aload_n 0, 1) := by decide +kernel
theorem d_jdk_67_method_1_1 : decode jdk_67_method_1_code 1 = .ok (.bipush 16, 2) := by decide +kernel
theorem d_jdk_67_method_1_3 : decode jdk_67_method_1_code 3 = .ok (.invokespecial 1, 3) := by decide +kernel
theorem d_jdk_67_method_1_6 : decode jdk_67_method_1_code 6 = .ok (.return_, 1) := by decide +kernel
theorem own_pf14 : plainFor (⟨"java/lang/AbstractStringBuilder", "getValue", "()[B"⟩ : MethodName) = true := by first | exact plainFor_of_name (by first | (simp [plainName, overriddenIn]; done) | decide +kernel) | decide +kernel
theorem d_jdk_68_method_64_0 : decode jdk_68_method_64_code 0 = .ok (.aload_n 0, 1) := by decide +kernel
theorem d_jdk_68_method_64_1 : decode jdk_68_method_64_code 1 = .ok (.getfield 15, 3) := by decide +kernel
theorem d_jdk_68_method_64_4 : decode jdk_68_method_64_code 4 = .ok (.areturn, 1) := by decide +kernel
theorem own_pf15 : plainFor (⟨"java/lang/AbstractStringBuilder", "length", "()I"⟩ : MethodName) = true := by first | exact plainFor_of_name (by first | (simp [plainName, overriddenIn]; done) | decide +kernel) | decide +kernel
theorem d_jdk_68_method_6_0 : decode jdk_68_method_6_code 0 = .ok (.aload_n 0, 1) := by decide +kernel
theorem d_jdk_68_method_6_1 : decode jdk_68_method_6_code 1 = .ok (.getfield 79, 3) := by decide +kernel
theorem d_jdk_68_method_6_4 : decode jdk_68_method_6_code 4 = .ok (.ireturn, 1) := by decide +kernel
theorem own_pf16 : plainFor (⟨"java/lang/StringBuilder", "length", "()I"⟩ : MethodName) = true := by first | exact plainFor_of_name (by first | (simp [plainName, overriddenIn]; done) | decide +kernel) | decide +kernel
theorem d_jdk_67_method_93_0 : decode jdk_67_method_93_code 0 = .ok (.aload_n 0, 1) := by decide +kernel
theorem d_jdk_67_method_93_1 : decode jdk_67_method_93_code 1 = .ok (.invokespecial 343, 3) := by decide +kernel
theorem d_jdk_67_method_93_4 : decode jdk_67_method_93_code 4 = .ok (.ireturn, 1) := by decide +kernel
theorem own_pf17 : plainFor (⟨"java/lang/AbstractStringBuilder", "isLatin1", "()Z"⟩ : MethodName) = true := by first | exact plainFor_of_name (by first | (simp [plainName, overriddenIn]; done) | decide +kernel) | decide +kernel
theorem d_jdk_68_method_68_0 : decode jdk_68_method_68_code 0 = .ok (.getstatic 18, 3) := by decide +kernel
theorem d_jdk_68_method_68_3 : decode jdk_68_method_68_code 3 = .ok (.ifCond .eq 14, 3) := by decide +kernel
theorem d_jdk_68_method_68_6 : decode jdk_68_method_68_code 6 = .ok (.aload_n 0, 1) := by decide +kernel
theorem d_jdk_68_method_68_7 : decode jdk_68_method_68_code 7 = .ok (.getfield 22, 3) := by decide +kernel
theorem d_jdk_68_method_68_10 : decode jdk_68_method_68_code 10 = .ok (.ifCond .ne 7, 3) := by decide +kernel
theorem d_jdk_68_method_68_13 : decode jdk_68_method_68_code 13 = .ok (.iconst 1, 1) := by decide +kernel
theorem d_jdk_68_method_68_14 : decode jdk_68_method_68_code 14 = .ok (.goto 4, 3) := by decide +kernel
theorem d_jdk_68_method_68_18 : decode jdk_68_method_68_code 18 = .ok (.ireturn, 1) := by decide +kernel
theorem own_pf18 : plainFor (⟨"java/util/Arrays", "checkLength", "(II)V"⟩ : MethodName) = true := by first | exact plainFor_of_name (by first | (simp [plainName, overriddenIn]; done) | decide +kernel) | decide +kernel
theorem d_jdk_65_method_131_0 : decode jdk_65_method_131_code 0 = .ok (.iload_n 1, 1) := by decide +kernel
theorem d_jdk_65_method_131_1 : decode jdk_65_method_131_code 1 = .ok (.iload_n 0, 1) := by decide +kernel
theorem d_jdk_65_method_131_2 : decode jdk_65_method_131_code 2 = .ok (.if_icmp .ge 35, 3) := by decide +kernel
theorem d_jdk_65_method_131_37 : decode jdk_65_method_131_code 37 = .ok (.return_, 1) := by decide +kernel
theorem own_pf19 : plainFor (⟨"java/util/Arrays", "copyOfRangeByte", "([BII)[B"⟩ : MethodName) = true := by first | exact plainFor_of_name (by first | (simp [plainName, overriddenIn]; done) | decide +kernel) | decide +kernel
theorem own_ef10 (m : MethodId) (x0 : Addr) (x1 : Int32) (x2 : Int32)  : entryFrame m #[(.ref x0), (.int x1), (.int x2)] 5 = mkF m 0 #[.val (.ref x0), .val (.int x1), .val (.int x2), .unset, .unset] [] := by first | (simp [entryFrame, mkF, argsToLocals, Value.category]; done) | rfl
theorem d_jdk_65_method_133_0 : decode jdk_65_method_133_code 0 = .ok (.iload_n 1, 1) := by decide +kernel
theorem d_jdk_65_method_133_1 : decode jdk_65_method_133_code 1 = .ok (.iload_n 2, 1) := by decide +kernel
theorem own_pd11 : parseMethodDescriptor "(II)V" = some ⟨[FieldType.int, FieldType.int], none⟩ := by decide +kernel
theorem d_jdk_65_method_133_2 : decode jdk_65_method_133_code 2 = .ok (.invokestatic 343, 3) := by decide +kernel
theorem d_jdk_65_method_133_5 : decode jdk_65_method_133_code 5 = .ok (.iload_n 2, 1) := by decide +kernel
theorem d_jdk_65_method_133_6 : decode jdk_65_method_133_code 6 = .ok (.iload_n 1, 1) := by decide +kernel
theorem d_jdk_65_method_133_7 : decode jdk_65_method_133_code 7 = .ok (.isub, 1) := by decide +kernel
theorem d_jdk_65_method_133_8 : decode jdk_65_method_133_code 8 = .ok (.istore_n 3, 1) := by decide +kernel
theorem d_jdk_65_method_133_9 : decode jdk_65_method_133_code 9 = .ok (.iload_n 3, 1) := by decide +kernel
theorem d_jdk_65_method_133_10 : decode jdk_65_method_133_code 10 = .ok (.newarray .byte, 2) := by decide +kernel
theorem d_jdk_65_method_133_12 : decode jdk_65_method_133_code 12 = .ok (.astore 4, 2) := by decide +kernel
theorem d_jdk_65_method_133_14 : decode jdk_65_method_133_code 14 = .ok (.aload_n 0, 1) := by decide +kernel
theorem d_jdk_65_method_133_15 : decode jdk_65_method_133_code 15 = .ok (.iload_n 1, 1) := by decide +kernel
theorem d_jdk_65_method_133_16 : decode jdk_65_method_133_code 16 = .ok (.aload 4, 2) := by decide +kernel
theorem d_jdk_65_method_133_18 : decode jdk_65_method_133_code 18 = .ok (.iconst 0, 1) := by decide +kernel
theorem d_jdk_65_method_133_19 : decode jdk_65_method_133_code 19 = .ok (.aload_n 0, 1) := by decide +kernel
theorem d_jdk_65_method_133_20 : decode jdk_65_method_133_code 20 = .ok (.arraylength, 1) := by decide +kernel
theorem d_jdk_65_method_133_21 : decode jdk_65_method_133_code 21 = .ok (.iload_n 1, 1) := by decide +kernel
theorem d_jdk_65_method_133_22 : decode jdk_65_method_133_code 22 = .ok (.isub, 1) := by decide +kernel
theorem d_jdk_65_method_133_23 : decode jdk_65_method_133_code 23 = .ok (.iload_n 3, 1) := by decide +kernel
theorem d_jdk_65_method_133_24 : decode jdk_65_method_133_code 24 = .ok (.invokestatic 304, 3) := by decide +kernel
theorem d_jdk_65_method_133_27 : decode jdk_65_method_133_code 27 = .ok (.invokestatic 150, 3) := by decide +kernel
theorem d_jdk_65_method_133_30 : decode jdk_65_method_133_code 30 = .ok (.aload 4, 2) := by decide +kernel
theorem d_jdk_65_method_133_32 : decode jdk_65_method_133_code 32 = .ok (.areturn, 1) := by decide +kernel
theorem own_pf20 : plainFor (⟨"java/util/Arrays", "copyOfRange", "([BII)[B"⟩ : MethodName) = true := by first | exact plainFor_of_name (by first | (simp [plainName, overriddenIn]; done) | decide +kernel) | decide +kernel
theorem own_ef11 (m : MethodId) (x0 : Addr) (x1 : Int32) (x2 : Int32)  : entryFrame m #[(.ref x0), (.int x1), (.int x2)] 3 = mkF m 0 #[.val (.ref x0), .val (.int x1), .val (.int x2)] [] := by first | (simp [entryFrame, mkF, argsToLocals, Value.category]; done) | rfl
theorem d_jdk_65_method_132_0 : decode jdk_65_method_132_code 0 = .ok (.iload_n 1, 1) := by decide +kernel
theorem d_jdk_65_method_132_1 : decode jdk_65_method_132_code 1 = .ok (.ifCond .ne 9, 3) := by decide +kernel
theorem d_jdk_65_method_132_4 : decode jdk_65_method_132_code 4 = .ok (.iload_n 2, 1) := by decide +kernel
theorem d_jdk_65_method_132_5 : decode jdk_65_method_132_code 5 = .ok (.aload_n 0, 1) := by decide +kernel
theorem d_jdk_65_method_132_6 : decode jdk_65_method_132_code 6 = .ok (.arraylength, 1) := by decide +kernel
theorem d_jdk_65_method_132_7 : decode jdk_65_method_132_code 7 = .ok (.if_icmp .eq 10, 3) := by decide +kernel
theorem d_jdk_65_method_132_10 : decode jdk_65_method_132_code 10 = .ok (.aload_n 0, 1) := by decide +kernel
theorem d_jdk_65_method_132_11 : decode jdk_65_method_132_code 11 = .ok (.iload_n 1, 1) := by decide +kernel
theorem d_jdk_65_method_132_12 : decode jdk_65_method_132_code 12 = .ok (.iload_n 2, 1) := by decide +kernel
theorem own_pd12 : parseMethodDescriptor "([BII)[B" = some ⟨[(FieldType.array FieldType.byte), FieldType.int, FieldType.int], some (FieldType.array FieldType.byte)⟩ := by decide +kernel
theorem d_jdk_65_method_132_13 : decode jdk_65_method_132_code 13 = .ok (.invokestatic 339, 3) := by decide +kernel
theorem d_jdk_65_method_132_16 : decode jdk_65_method_132_code 16 = .ok (.areturn, 1) := by decide +kernel
theorem d_jdk_65_method_132_17 : decode jdk_65_method_132_code 17 = .ok (.aload_n 0, 1) := by decide +kernel
theorem d_jdk_65_method_132_18 : decode jdk_65_method_132_code 18 = .ok (.invokevirtual 310, 3) := by decide +kernel
theorem d_jdk_65_method_132_21 : decode jdk_65_method_132_code 21 = .ok (.checkcast 311, 3) := by decide +kernel
theorem d_jdk_65_method_132_24 : decode jdk_65_method_132_code 24 = .ok (.areturn, 1) := by decide +kernel
theorem own_pf21 : plainFor (⟨"java/lang/String", "<init>", "(Ljava/lang/AbstractStringBuilder;Ljava/lang/Void;)V"⟩ : MethodName) = true := by first | exact plainFor_of_name (by first | (simp [plainName, overriddenIn]; done) | decide +kernel) | decide +kernel
theorem own_ef12 (m : MethodId) (x0 : Addr) (x1 : Addr)  : entryFrame m #[(.ref x0), (.ref x1), (.null)] 5 = mkF m 0 #[.val (.ref x0), .val (.ref x1), .val (.null), .unset, .unset] [] := by first | (simp [entryFrame, mkF, argsToLocals, Value.category]; done) | rfl
theorem d_jdk_42_method_150_0 : decode jdk_42_method_150_code 0 = .ok (.aload_n 0, 1) := by decide +kernel
theorem d_jdk_42_method_150_1 : decode jdk_42_method_150_code 1 = .ok (.invokespecial 1, 3) := by decide +kernel
theorem d_jdk_42_method_150_4 : decode jdk_42_method_150_code 4 = .ok (.aload_n 1, 1) := by decide +kernel
theorem own_pd13 : parseMethodDescriptor "()[B" = some ⟨[], some (FieldType.array FieldType.byte)⟩ := by decide +kernel
theorem d_jdk_42_method_150_5 : decode jdk_42_method_150_code 5 = .ok (.invokevirtual 552, 3) := by decide +kernel
theorem d_jdk_42_method_150_8 : decode jdk_42_method_150_code 8 = .ok (.astore_n 3, 1) := by decide +kernel
theorem d_jdk_42_method_150_9 : decode jdk_42_method_150_code 9 = .ok (.aload_n 1, 1) := by decide +kernel
theorem d_jdk_42_method_150_10 : decode jdk_42_method_150_code 10 = .ok (.invokevirtual 549, 3) := by decide +kernel
theorem d_jdk_42_method_150_13 : decode jdk_42_method_150_code 13 = .ok (.istore 4, 2) := by decide +kernel
theorem d_jdk_42_method_150_15 : decode jdk_42_method_150_code 15 = .ok (.aload_n 1, 1) := by decide +kernel
theorem own_pd14 : parseMethodDescriptor "()Z" = some ⟨[], some FieldType.boolean⟩ := by decide +kernel
theorem d_jdk_42_method_150_16 : decode jdk_42_method_150_code 16 = .ok (.invokevirtual 1047, 3) := by decide +kernel
theorem d_jdk_42_method_150_19 : decode jdk_42_method_150_code 19 = .ok (.ifCond .eq 22, 3) := by decide +kernel
theorem d_jdk_42_method_150_22 : decode jdk_42_method_150_code 22 = .ok (.aload_n 0, 1) := by decide +kernel
theorem d_jdk_42_method_150_23 : decode jdk_42_method_150_code 23 = .ok (.iconst 0, 1) := by decide +kernel
theorem d_jdk_42_method_150_24 : decode jdk_42_method_150_code 24 = .ok (.putfield 15, 3) := by decide +kernel
theorem d_jdk_42_method_150_27 : decode jdk_42_method_150_code 27 = .ok (.aload_n 0, 1) := by decide +kernel
theorem d_jdk_42_method_150_28 : decode jdk_42_method_150_code 28 = .ok (.aload_n 3, 1) := by decide +kernel
theorem d_jdk_42_method_150_29 : decode jdk_42_method_150_code 29 = .ok (.iconst 0, 1) := by decide +kernel
theorem d_jdk_42_method_150_30 : decode jdk_42_method_150_code 30 = .ok (.iload 4, 2) := by decide +kernel
theorem d_jdk_42_method_150_32 : decode jdk_42_method_150_code 32 = .ok (.invokestatic 54, 3) := by decide +kernel
theorem d_jdk_42_method_150_35 : decode jdk_42_method_150_code 35 = .ok (.putfield 9, 3) := by decide +kernel
theorem d_jdk_42_method_150_38 : decode jdk_42_method_150_code 38 = .ok (.goto 59, 3) := by decide +kernel
theorem d_jdk_42_method_150_97 : decode jdk_42_method_150_code 97 = .ok (.return_, 1) := by decide +kernel
theorem own_pf22 : plainFor (⟨"java/lang/String", "<init>", "(Ljava/lang/StringBuilder;)V"⟩ : MethodName) = true := by first | exact plainFor_of_name (by first | (simp [plainName, overriddenIn]; done) | decide +kernel) | decide +kernel
theorem d_jdk_42_method_53_0 : decode jdk_42_method_53_code 0 = .ok (.aload_n 0, 1) := by decide +kernel
theorem d_jdk_42_method_53_1 : decode jdk_42_method_53_code 1 = .ok (.aload_n 1, 1) := by decide +kernel
theorem d_jdk_42_method_53_2 : decode jdk_42_method_53_code 2 = .ok (.aconst_null, 1) := by decide +kernel
theorem own_pd15 : parseMethodDescriptor "(Ljava/lang/AbstractStringBuilder;Ljava/lang/Void;)V" = some ⟨[(FieldType.object "java/lang/AbstractStringBuilder"), (FieldType.object "java/lang/Void")], none⟩ := by decide +kernel
theorem d_jdk_42_method_53_3 : decode jdk_42_method_53_code 3 = .ok (.invokespecial 489, 3) := by decide +kernel
theorem d_jdk_42_method_53_6 : decode jdk_42_method_53_code 6 = .ok (.return_, 1) := by decide +kernel
theorem own_pf23 : plainFor (⟨"java/lang/StringBuilder", "toString", "()Ljava/lang/String;"⟩ : MethodName) = true := by first | exact plainFor_of_name (by first | (simp [plainName, overriddenIn]; done) | decide +kernel) | decide +kernel
theorem d_jdk_67_method_42_0 : decode jdk_67_method_42_code 0 = .ok (.new 18, 3) := by decide +kernel
theorem d_jdk_67_method_42_3 : decode jdk_67_method_42_code 3 = .ok (.dup, 1) := by decide +kernel
theorem d_jdk_67_method_42_4 : decode jdk_67_method_42_code 4 = .ok (.aload_n 0, 1) := by decide +kernel
theorem own_pd16 : parseMethodDescriptor "(Ljava/lang/StringBuilder;)V" = some ⟨[(FieldType.object "java/lang/StringBuilder")], none⟩ := by decide +kernel
theorem d_jdk_67_method_42_5 : decode jdk_67_method_42_code 5 = .ok (.invokespecial 137, 3) := by decide +kernel
theorem d_jdk_67_method_42_8 : decode jdk_67_method_42_code 8 = .ok (.areturn, 1) := by decide +kernel
theorem own_pf24 : plainFor (⟨"java/lang/StringLatin1", "canEncode", "(C)Z"⟩ : MethodName) = true := by first | exact plainFor_of_name (by first | (simp [plainName, overriddenIn]; done) | decide +kernel) | decide +kernel
theorem own_ef13 (m : MethodId) (x0 : Int32)  : entryFrame m #[(.int x0)] 1 = mkF m 0 #[.val (.int x0)] [] := by first | (simp [entryFrame, mkF, argsToLocals, Value.category]; done) | rfl
theorem d_jdk_43_method_3_0 : decode jdk_43_method_3_code 0 = .ok (.iload_n 0, 1) := by decide +kernel
theorem d_jdk_43_method_3_1 : decode jdk_43_method_3_code 1 = .ok (.sipush 255, 3) := by decide +kernel
theorem d_jdk_43_method_3_4 : decode jdk_43_method_3_code 4 = .ok (.if_icmp .gt 7, 3) := by decide +kernel
theorem d_jdk_43_method_3_7 : decode jdk_43_method_3_code 7 = .ok (.iconst 1, 1) := by decide +kernel
theorem d_jdk_43_method_3_8 : decode jdk_43_method_3_code 8 = .ok (.goto 4, 3) := by decide +kernel
theorem d_jdk_43_method_3_12 : decode jdk_43_method_3_code 12 = .ok (.ireturn, 1) := by decide +kernel
theorem own_pf25 : plainFor (⟨"java/lang/StringLatin1", "toBytes", "(C)[B"⟩ : MethodName) = true := by first | exact plainFor_of_name (by first | (simp [plainName, overriddenIn]; done) | decide +kernel) | decide +kernel
theorem d_jdk_43_method_46_0 : decode jdk_43_method_46_code 0 = .ok (.iconst 1, 1) := by decide +kernel
theorem d_jdk_43_method_46_1 : decode jdk_43_method_46_code 1 = .ok (.newarray .byte, 2) := by decide +kernel
theorem d_jdk_43_method_46_3 : decode jdk_43_method_46_code 3 = .ok (.dup, 1) := by decide +kernel
theorem d_jdk_43_method_46_4 : decode jdk_43_method_46_code 4 = .ok (.iconst 0, 1) := by decide +kernel
theorem d_jdk_43_method_46_5 : decode jdk_43_method_46_code 5 = .ok (.iload_n 0, 1) := by decide +kernel
theorem d_jdk_43_method_46_6 : decode jdk_43_method_46_code 6 = .ok (.i2b, 1) := by decide +kernel
theorem d_jdk_43_method_46_7 : decode jdk_43_method_46_code 7 = .ok (.bastore, 1) := by decide +kernel
theorem d_jdk_43_method_46_8 : decode jdk_43_method_46_code 8 = .ok (.areturn, 1) := by decide +kernel
theorem own_pf26 : plainFor (⟨"java/lang/String", "<init>", "([BB)V"⟩ : MethodName) = true := by first | exact plainFor_of_name (by first | (simp [plainName, overriddenIn]; done) | decide +kernel) | decide +kernel
theorem own_ef14 (m : MethodId) (x0 : Addr) (x1 : Addr) (x2 : Int32)  : entryFrame m #[(.ref x0), (.ref x1), (.int x2)] 3 = mkF m 0 #[.val (.ref x0), .val (.ref x1), .val (.int x2)] [] := by first | (simp [entryFrame, mkF, argsToLocals, Value.category]; done) | rfl
theorem d_jdk_42_method_151_0 : decode jdk_42_method_151_code 0 = .ok (.aload_n 0, 1) := by decide +kernel
theorem d_jdk_42_method_151_1 : decode jdk_42_method_151_code 1 = .ok (.invokespecial 1, 3) := by decide +kernel
theorem d_jdk_42_method_151_4 : decode jdk_42_method_151_code 4 = .ok (.aload_n 0, 1) := by decide +kernel
theorem d_jdk_42_method_151_5 : decode jdk_42_method_151_code 5 = .ok (.aload_n 1, 1) := by decide +kernel
theorem d_jdk_42_method_151_6 : decode jdk_42_method_151_code 6 = .ok (.putfield 9, 3) := by decide +kernel
theorem d_jdk_42_method_151_9 : decode jdk_42_method_151_code 9 = .ok (.aload_n 0, 1) := by decide +kernel
theorem d_jdk_42_method_151_10 : decode jdk_42_method_151_code 10 = .ok (.iload_n 2, 1) := by decide +kernel
theorem d_jdk_42_method_151_11 : decode jdk_42_method_151_code 11 = .ok (.putfield 15, 3) := by decide +kernel
theorem d_jdk_42_method_151_14 : decode jdk_42_method_151_code 14 = .ok (.return_, 1) := by decide +kernel
theorem own_pf27 : plainFor (⟨"java/lang/String", "valueOf", "(C)Ljava/lang/String;"⟩ : MethodName) = true := by first | exact plainFor_of_name (by first | (simp [plainName, overriddenIn]; done) | decide +kernel) | decide +kernel
theorem d_jdk_42_method_139_0 : decode jdk_42_method_139_code 0 = .ok (.getstatic 38, 3) := by decide +kernel
theorem d_jdk_42_method_139_3 : decode jdk_42_method_139_code 3 = .ok (.ifCond .eq 23, 3) := by decide +kernel
theorem d_jdk_42_method_139_6 : decode jdk_42_method_139_code 6 = .ok (.iload_n 0, 1) := by decide +kernel
theorem own_pd17 : parseMethodDescriptor "(C)Z" = some ⟨[FieldType.char], some FieldType.boolean⟩ := by decide +kernel
theorem d_jdk_42_method_139_7 : decode jdk_42_method_139_code 7 = .ok (.invokestatic 1015, 3) := by decide +kernel
theorem d_jdk_42_method_139_10 : decode jdk_42_method_139_code 10 = .ok (.ifCond .eq 16, 3) := by decide +kernel
theorem d_jdk_42_method_139_13 : decode jdk_42_method_139_code 13 = .ok (.new 10, 3) := by decide +kernel
theorem d_jdk_42_method_139_16 : decode jdk_42_method_139_code 16 = .ok (.dup, 1) := by decide +kernel
theorem d_jdk_42_method_139_17 : decode jdk_42_method_139_code 17 = .ok (.iload_n 0, 1) := by decide +kernel
theorem own_pd18 : parseMethodDescriptor "(C)[B" = some ⟨[FieldType.char], some (FieldType.array FieldType.byte)⟩ := by decide +kernel
theorem d_jdk_42_method_139_18 : decode jdk_42_method_139_code 18 = .ok (.invokestatic 1018, 3) := by decide +kernel
theorem d_jdk_42_method_139_21 : decode jdk_42_method_139_code 21 = .ok (.iconst 0, 1) := by decide +kernel
theorem own_pd19 : parseMethodDescriptor "([BB)V" = some ⟨[(FieldType.array FieldType.byte), FieldType.byte], none⟩ := by decide +kernel
theorem d_jdk_42_method_139_22 : decode jdk_42_method_139_code 22 = .ok (.invokespecial 209, 3) := by decide +kernel
theorem d_jdk_42_method_139_25 : decode jdk_42_method_139_code 25 = .ok (.areturn, 1) := by decide +kernel
theorem own_pf28 : plainFor (⟨"com/example/fritillary/fritillary/GeneratorTableSourcePinLaw", "str", "(ICC)Ljava/lang/String;"⟩ : MethodName) = true := by first | exact plainFor_of_name (by first | (simp [plainName, overriddenIn]; done) | decide +kernel) | decide +kernel
theorem own_ef15 (m : MethodId) (x0 : Int32) (x1 : Int32) (x2 : Int32)  : entryFrame m #[(.int x0), (.int x1), (.int x2)] 3 = mkF m 0 #[.val (.int x0), .val (.int x1), .val (.int x2)] [] := by first | (simp [entryFrame, mkF, argsToLocals, Value.category]; done) | rfl
theorem d_method_2_0 : decode method_2_code 0 = .ok (.iload_n 0, 1) := by decide +kernel
theorem d_method_2_1 : decode method_2_code 1 = .ok (.ifCond .ne 6, 3) := by decide +kernel
theorem d_method_2_4 : decode method_2_code 4 = .ok (.ldc 7, 2) := by decide +kernel
theorem d_method_2_6 : decode method_2_code 6 = .ok (.areturn, 1) := by decide +kernel
theorem d_method_2_7 : decode method_2_code 7 = .ok (.iload_n 0, 1) := by decide +kernel
theorem d_method_2_8 : decode method_2_code 8 = .ok (.iconst 1, 1) := by decide +kernel
theorem d_method_2_9 : decode method_2_code 9 = .ok (.if_icmp .ne 8, 3) := by decide +kernel
theorem d_method_2_12 : decode method_2_code 12 = .ok (.iload_n 1, 1) := by decide +kernel
theorem own_pd20 : parseMethodDescriptor "(C)Ljava/lang/String;" = some ⟨[FieldType.char], some (FieldType.object "java/lang/String")⟩ := by decide +kernel
theorem d_method_2_13 : decode method_2_code 13 = .ok (.invokestatic 9, 3) := by decide +kernel
theorem d_method_2_16 : decode method_2_code 16 = .ok (.areturn, 1) := by decide +kernel
theorem d_method_2_17 : decode method_2_code 17 = .ok (.new 10, 3) := by decide +kernel
theorem d_method_2_20 : decode method_2_code 20 = .ok (.dup, 1) := by decide +kernel
theorem d_method_2_21 : decode method_2_code 21 = .ok (.iconst 2, 1) := by decide +kernel
theorem d_method_2_22 : decode method_2_code 22 = .ok (.newarray .char, 2) := by decide +kernel
theorem d_method_2_24 : decode method_2_code 24 = .ok (.dup, 1) := by decide +kernel
theorem d_method_2_25 : decode method_2_code 25 = .ok (.iconst 0, 1) := by decide +kernel
theorem d_method_2_26 : decode method_2_code 26 = .ok (.iload_n 1, 1) := by decide +kernel
theorem d_method_2_27 : decode method_2_code 27 = .ok (.castore, 1) := by decide +kernel
theorem d_method_2_28 : decode method_2_code 28 = .ok (.dup, 1) := by decide +kernel
theorem d_method_2_29 : decode method_2_code 29 = .ok (.iconst 1, 1) := by decide +kernel
theorem d_method_2_30 : decode method_2_code 30 = .ok (.iload_n 2, 1) := by decide +kernel
theorem d_method_2_31 : decode method_2_code 31 = .ok (.castore, 1) := by decide +kernel
theorem d_method_2_32 : decode method_2_code 32 = .ok (.invokespecial 15, 3) := by decide +kernel
theorem d_method_2_35 : decode method_2_code 35 = .ok (.areturn, 1) := by decide +kernel
theorem own_pf29 : plainFor (⟨"java/lang/Record", "<init>", "()V"⟩ : MethodName) = true := by first | exact plainFor_of_name (by first | (simp [plainName, overriddenIn]; done) | decide +kernel) | decide +kernel
theorem d_jdk_30_method_1_0 : decode jdk_30_method_1_code 0 = .ok (.aload_n 0, 1) := by decide +kernel
theorem d_jdk_30_method_1_1 : decode jdk_30_method_1_code 1 = .ok (.invokespecial 1, 3) := by decide +kernel
theorem d_jdk_30_method_1_4 : decode jdk_30_method_1_code 4 = .ok (.return_, 1) := by decide +kernel
theorem own_pf30 : plainFor (⟨"com/example/fritillary/fritillary/IdGeneration$GeneratorTable", "<init>", "(Ljava/lang/String;Ljava/lang/String;Ljava/lang/String;Ljava/lang/String;Ljava/lang/String;JI)V"⟩ : MethodName) = true := by first | exact plainFor_of_name (by first | (simp [plainName, overriddenIn]; done) | decide +kernel) | decide +kernel
theorem own_ef16 (m : MethodId) (x0 : Addr) (x1 : Addr) (x2 : Addr) (x3 : Addr) (x4 : Addr) (x5 : Addr) (x6 : Int64) (x7 : Int32)  : entryFrame m #[(.ref x0), (.ref x1), (.ref x2), (.ref x3), (.ref x4), (.ref x5), (.long x6), (.int x7)] 9 = mkF m 0 #[.val (.ref x0), .val (.ref x1), .val (.ref x2), .val (.ref x3), .val (.ref x4), .val (.ref x5), .val (.long x6), .second, .val (.int x7)] [] := by first | (simp [entryFrame, mkF, argsToLocals, Value.category]; done) | rfl
theorem d_prog_14_method_1_0 : decode prog_14_method_1_code 0 = .ok (.aload_n 0, 1) := by decide +kernel
theorem own_pd21 : parseMethodDescriptor "()V" = some ⟨[], none⟩ := by decide +kernel
theorem d_prog_14_method_1_1 : decode prog_14_method_1_code 1 = .ok (.invokespecial 1, 3) := by decide +kernel
theorem d_prog_14_method_1_4 : decode prog_14_method_1_code 4 = .ok (.aload_n 0, 1) := by decide +kernel
theorem d_prog_14_method_1_5 : decode prog_14_method_1_code 5 = .ok (.aload_n 1, 1) := by decide +kernel
theorem d_prog_14_method_1_6 : decode prog_14_method_1_code 6 = .ok (.putfield 7, 3) := by decide +kernel
theorem d_prog_14_method_1_9 : decode prog_14_method_1_code 9 = .ok (.aload_n 0, 1) := by decide +kernel
theorem d_prog_14_method_1_10 : decode prog_14_method_1_code 10 = .ok (.aload_n 2, 1) := by decide +kernel
theorem d_prog_14_method_1_11 : decode prog_14_method_1_code 11 = .ok (.putfield 13, 3) := by decide +kernel
theorem d_prog_14_method_1_14 : decode prog_14_method_1_code 14 = .ok (.aload_n 0, 1) := by decide +kernel
theorem d_prog_14_method_1_15 : decode prog_14_method_1_code 15 = .ok (.aload_n 3, 1) := by decide +kernel
theorem d_prog_14_method_1_16 : decode prog_14_method_1_code 16 = .ok (.putfield 16, 3) := by decide +kernel
theorem d_prog_14_method_1_19 : decode prog_14_method_1_code 19 = .ok (.aload_n 0, 1) := by decide +kernel
theorem d_prog_14_method_1_20 : decode prog_14_method_1_code 20 = .ok (.aload 4, 2) := by decide +kernel
theorem d_prog_14_method_1_22 : decode prog_14_method_1_code 22 = .ok (.putfield 19, 3) := by decide +kernel
theorem d_prog_14_method_1_25 : decode prog_14_method_1_code 25 = .ok (.aload_n 0, 1) := by decide +kernel
theorem d_prog_14_method_1_26 : decode prog_14_method_1_code 26 = .ok (.aload 5, 2) := by decide +kernel
theorem d_prog_14_method_1_28 : decode prog_14_method_1_code 28 = .ok (.putfield 22, 3) := by decide +kernel
theorem d_prog_14_method_1_31 : decode prog_14_method_1_code 31 = .ok (.aload_n 0, 1) := by decide +kernel
theorem d_prog_14_method_1_32 : decode prog_14_method_1_code 32 = .ok (.lload 6, 2) := by decide +kernel
theorem d_prog_14_method_1_34 : decode prog_14_method_1_code 34 = .ok (.putfield 25, 3) := by decide +kernel
theorem d_prog_14_method_1_37 : decode prog_14_method_1_code 37 = .ok (.aload_n 0, 1) := by decide +kernel
theorem d_prog_14_method_1_38 : decode prog_14_method_1_code 38 = .ok (.iload 8, 2) := by decide +kernel
theorem d_prog_14_method_1_40 : decode prog_14_method_1_code 40 = .ok (.putfield 29, 3) := by decide +kernel
theorem d_prog_14_method_1_43 : decode prog_14_method_1_code 43 = .ok (.return_, 1) := by decide +kernel
theorem own_pf31 : plainFor (⟨"com/example/fritillary/fritillary/IdGeneration$GeneratorTable", "source", "()Ljava/lang/String;"⟩ : MethodName) = true := by first | exact plainFor_of_name (by first | (simp [plainName, overriddenIn]; done) | decide +kernel) | decide +kernel
theorem d_prog_14_method_2_0 : decode prog_14_method_2_code 0 = .ok (.new 33, 3) := by decide +kernel
theorem d_prog_14_method_2_3 : decode prog_14_method_2_code 3 = .ok (.dup, 1) := by decide +kernel
theorem d_prog_14_method_2_4 : decode prog_14_method_2_code 4 = .ok (.invokespecial 35, 3) := by decide +kernel
theorem d_prog_14_method_2_7 : decode prog_14_method_2_code 7 = .ok (.ldc 36, 2) := by decide +kernel
theorem own_pd22 : parseMethodDescriptor "(Ljava/lang/String;)Ljava/lang/StringBuilder;" = some ⟨[(FieldType.object "java/lang/String")], some (FieldType.object "java/lang/StringBuilder")⟩ := by decide +kernel
theorem d_prog_14_method_2_9 : decode prog_14_method_2_code 9 = .ok (.invokevirtual 38, 3) := by decide +kernel
theorem d_prog_14_method_2_12 : decode prog_14_method_2_code 12 = .ok (.aload_n 0, 1) := by decide +kernel
theorem d_prog_14_method_2_13 : decode prog_14_method_2_code 13 = .ok (.getfield 22, 3) := by decide +kernel
theorem d_prog_14_method_2_16 : decode prog_14_method_2_code 16 = .ok (.invokevirtual 38, 3) := by decide +kernel
theorem d_prog_14_method_2_19 : decode prog_14_method_2_code 19 = .ok (.ldc 42, 2) := by decide +kernel
theorem d_prog_14_method_2_21 : decode prog_14_method_2_code 21 = .ok (.invokevirtual 38, 3) := by decide +kernel
theorem d_prog_14_method_2_24 : decode prog_14_method_2_code 24 = .ok (.aload_n 0, 1) := by decide +kernel
theorem d_prog_14_method_2_25 : decode prog_14_method_2_code 25 = .ok (.getfield 13, 3) := by decide +kernel
theorem d_prog_14_method_2_28 : decode prog_14_method_2_code 28 = .ok (.invokevirtual 38, 3) := by decide +kernel
theorem own_pd23 : parseMethodDescriptor "()Ljava/lang/String;" = some ⟨[], some (FieldType.object "java/lang/String")⟩ := by decide +kernel
theorem d_prog_14_method_2_31 : decode prog_14_method_2_code 31 = .ok (.invokevirtual 44, 3) := by decide +kernel
theorem d_prog_14_method_2_34 : decode prog_14_method_2_code 34 = .ok (.areturn, 1) := by decide +kernel
theorem own_pf32 : plainFor (⟨"com/example/fritillary/fritillary/GeneratorTableSourcePinLaw", "law", "(IIIIJI)Z"⟩ : MethodName) = true := by first | exact plainFor_of_name (by first | (simp [plainName, overriddenIn]; done) | decide +kernel) | decide +kernel
theorem own_ef17 (m : MethodId) (x0 : Int32) (x1 : Int32) (x2 : Int32) (x3 : Int32) (x4 : Int64) (x5 : Int32)  : entryFrame m #[(.int x0), (.int x1), (.int x2), (.int x3), (.long x4), (.int x5)] 23 = mkF m 0 #[.val (.int x0), .val (.int x1), .val (.int x2), .val (.int x3), .val (.long x4), .second, .val (.int x5), .unset, .unset, .unset, .unset, .unset, .unset, .unset, .unset, .unset, .unset, .unset, .unset, .unset, .unset, .unset, .unset] [] := by first | (simp [entryFrame, mkF, argsToLocals, Value.category]; done) | rfl
theorem own_pd24 : parseMethodDescriptor "(ICC)Ljava/lang/String;" = some ⟨[FieldType.int, FieldType.char, FieldType.char], some (FieldType.object "java/lang/String")⟩ := by decide +kernel
theorem own_pd25 : parseMethodDescriptor "(Ljava/lang/String;Ljava/lang/String;Ljava/lang/String;Ljava/lang/String;Ljava/lang/String;JI)V" = some ⟨[(FieldType.object "java/lang/String"), (FieldType.object "java/lang/String"), (FieldType.object "java/lang/String"), (FieldType.object "java/lang/String"), (FieldType.object "java/lang/String"), FieldType.long, FieldType.int], none⟩ := by decide +kernel
theorem own_pd26 : parseMethodDescriptor "(I)C" = some ⟨[FieldType.int], some FieldType.char⟩ := by decide +kernel
theorem con_max {l : Launch} {Z : State} {a0 : Array Value} {cz : Int32} {fm : Value} (H : Ctx Z a0 cz fm) (u v : Int32) (huv : u < v) (h0 : Heap)  :
    ConN l Z (⟨"java/lang/Math", "max", "(II)I"⟩ : MethodName) jdk_29_method_65_code 2 (some FieldType.int) [] ({ frames := 0, cells := 0, slots := 0, locals := 0 } : Room) #[(.int u), (.int v)] h0 (fun r h => r = some (.int v) ∧ h0 = h) := by
  obtain ⟨hw, hE, S0, hcz, S1, rf⟩ := id H
  refine ConN.of own_pf0 ?_
  intro p e s m below meth c T hby hml hret hlk hnm X0
  have EX0 := ext_refl h0
  refine OEnds.cast (own_ef0 m u v ) ?_
  show OEnds p e below _ T (mkF m 0 #[.val (.int u), .val (.int v)] [])
  refine OEnds.go (fun _ q => XS.iloadN X0.here X0.hx rfl (hb hby d_jdk_29_method_65_0) rfl q) ?_
  refine OEnds.go (fun _ q => XS.iloadN X0.here X0.hx rfl (hb hby d_jdk_29_method_65_1) rfl q) ?_
  show OEnds p e below _ T (mkF m 2 #[.val (.int u), .val (.int v)] [(.int v), (.int u)])
  refine OEnds.go (fun _ q => XS.icmpYes X0.here X0.hx rfl (pc0 := 2) (pc' := 9) rfl (hb hby d_jdk_29_method_65_2) rfl (tlt huv).1 (by decide) (by decide) q) ?_
  show OEnds p e below _ T (mkF m 9 #[.val (.int u), .val (.int v)] [])
  refine OEnds.go (fun _ q => XS.iloadN X0.here X0.hx rfl (hb hby d_jdk_29_method_65_9) rfl q) ?_
  show OEnds p e below _ T (mkF m 10 #[.val (.int u), .val (.int v)] [(.int v)])
  exact X0.retIntN hlk  hret (hb hby d_jdk_29_method_65_10) (by decide) (by decide) ⟨rfl, rfl⟩
theorem con_minL {l : Launch} {Z : State} {a0 : Array Value} {cz : Int32} {fm : Value} (H : Ctx Z a0 cz fm) (u v : Int32) (huv : ¬ v < u) (h0 : Heap)  :
    ConN l Z (⟨"java/lang/Math", "min", "(II)I"⟩ : MethodName) jdk_29_method_69_code 2 (some FieldType.int) [] ({ frames := 0, cells := 0, slots := 0, locals := 0 } : Room) #[(.int u), (.int v)] h0 (fun r h => r = some (.int u) ∧ h0 = h) := by
  obtain ⟨hw, hE, S0, hcz, S1, rf⟩ := id H
  refine ConN.of own_pf1 ?_
  intro p e s m below meth c T hby hml hret hlk hnm X0
  have EX0 := ext_refl h0
  refine OEnds.cast (own_ef0 m u v ) ?_
  show OEnds p e below _ T (mkF m 0 #[.val (.int u), .val (.int v)] [])
  refine OEnds.go (fun _ q => XS.iloadN X0.here X0.hx rfl (hb hby d_jdk_29_method_69_0) rfl q) ?_
  refine OEnds.go (fun _ q => XS.iloadN X0.here X0.hx rfl (hb hby d_jdk_29_method_69_1) rfl q) ?_
  show OEnds p e below _ T (mkF m 2 #[.val (.int u), .val (.int v)] [(.int v), (.int u)])
  refine OEnds.go (fun _ q => XS.icmpNo X0.here X0.hx rfl (hb hby d_jdk_29_method_69_2) rfl (flt huv).2.2.1 q) ?_
  show OEnds p e below _ T (mkF m 5 #[.val (.int u), .val (.int v)] [])
  refine OEnds.go (fun _ q => XS.iloadN X0.here X0.hx rfl (hb hby d_jdk_29_method_69_5) rfl q) ?_
  refine OEnds.go (fun _ q => XS.goto X0.here X0.hx rfl (pc0 := 6) (pc' := 10) rfl (hb hby d_jdk_29_method_69_6) (by decide) (by decide) q) ?_
  show OEnds p e below _ T (mkF m 10 #[.val (.int u), .val (.int v)] [(.int u)])
  exact X0.retIntN hlk  hret (hb hby d_jdk_29_method_69_10) (by decide) (by decide) ⟨rfl, rfl⟩
theorem con_minG {l : Launch} {Z : State} {a0 : Array Value} {cz : Int32} {fm : Value} (H : Ctx Z a0 cz fm) (u v : Int32) (huv : v < u) (h0 : Heap)  :
    ConN l Z (⟨"java/lang/Math", "min", "(II)I"⟩ : MethodName) jdk_29_method_69_code 2 (some FieldType.int) [] ({ frames := 0, cells := 0, slots := 0, locals := 0 } : Room) #[(.int u), (.int v)] h0 (fun r h => r = some (.int v) ∧ h0 = h) := by
  obtain ⟨hw, hE, S0, hcz, S1, rf⟩ := id H
  refine ConN.of own_pf1 ?_
  intro p e s m below meth c T hby hml hret hlk hnm X0
  have EX0 := ext_refl h0
  refine OEnds.cast (own_ef0 m u v ) ?_
  show OEnds p e below _ T (mkF m 0 #[.val (.int u), .val (.int v)] [])
  refine OEnds.go (fun _ q => XS.iloadN X0.here X0.hx rfl (hb hby d_jdk_29_method_69_0) rfl q) ?_
  refine OEnds.go (fun _ q => XS.iloadN X0.here X0.hx rfl (hb hby d_jdk_29_method_69_1) rfl q) ?_
  show OEnds p e below _ T (mkF m 2 #[.val (.int u), .val (.int v)] [(.int v), (.int u)])
  refine OEnds.go (fun _ q => XS.icmpYes X0.here X0.hx rfl (pc0 := 2) (pc' := 9) rfl (hb hby d_jdk_29_method_69_2) rfl (tlt huv).2.2.1 (by decide) (by decide) q) ?_
  show OEnds p e below _ T (mkF m 9 #[.val (.int u), .val (.int v)] [])
  refine OEnds.go (fun _ q => XS.iloadN X0.here X0.hx rfl (hb hby d_jdk_29_method_69_9) rfl q) ?_
  show OEnds p e below _ T (mkF m 10 #[.val (.int u), .val (.int v)] [(.int v)])
  exact X0.retIntN hlk  hret (hb hby d_jdk_29_method_69_10) (by decide) (by decide) ⟨rfl, rfl⟩
theorem con_nl {l : Launch} {Z : State} {a0 : Array Value} {cz : Int32} {fm : Value} (H : Ctx Z a0 cz fm) (g : Nat) (hg : g ≤ 17) (h0 : Heap)  :
    ConN l Z (⟨"jdk/internal/util/ArraysSupport", "newLength", "(III)I"⟩ : MethodName) jdk_48_method_27_code 4 (some FieldType.int) [] ({ frames := 1, cells := 0, slots := 0, locals := 14 } : Room) #[(.int (16 : Int32)), (.int (Int32.ofNat g)), (.int (18 : Int32))] h0 (fun r h => r = some (.int (34 : Int32)) ∧ h0 = h) := by
  obtain ⟨hw, hE, S0, hcz, S1, rf⟩ := id H
  refine ConN.of own_pf2 ?_
  intro p e s m below meth c T hby hml hret hlk hnm X0
  have EX0 := ext_refl h0
  refine OEnds.cast (own_ef1 m (16 : Int32) (Int32.ofNat g) (18 : Int32) ) ?_
  show OEnds p e below _ T (mkF m 0 #[.val (.int (16 : Int32)), .val (.int (Int32.ofNat g)), .val (.int (18 : Int32)), .unset] [])
  refine OEnds.go (fun _ q => XS.iloadN X0.here X0.hx rfl (hb hby d_jdk_48_method_27_0) rfl q) ?_
  refine OEnds.go (fun _ q => XS.iloadN X0.here X0.hx rfl (hb hby d_jdk_48_method_27_1) rfl q) ?_
  show OEnds p e below _ T (mkF m 2 #[.val (.int (16 : Int32)), .val (.int (Int32.ofNat g)), .val (.int (18 : Int32)), .unset] [(.int (Int32.ofNat g)), (.int (16 : Int32))])
  refine OEnds.go (fun _ q => XS.iloadN X0.here X0.hx rfl (hb hby d_jdk_48_method_27_2) rfl q) ?_
  show OEnds p e below _ T (mkF m 3 #[.val (.int (16 : Int32)), .val (.int (Int32.ofNat g)), .val (.int (18 : Int32)), .unset] [(.int (18 : Int32)), (.int (Int32.ofNat g)), (.int (16 : Int32))])
  refine X0.payS (ConN.back (W := 1) (con_max H (Int32.ofNat g) (18 : Int32) ((ofN_lt (b := 18) (by omega) (by omega)).mpr (by omega)) h0) X0.old X0.hZ (own_k hw 161 rfl) (own_k hw 160 rfl) (by decide) (by decide)) (okN (fun _ _ q => Nat.le_of_eq (congrArg Array.size q.2))) (own_k hw 158 rfl) (own_k hw 159 rfl) (own_k hw 160 rfl) (own_k hw 161 rfl)  (by decide)  (argsL := [(.int (Int32.ofNat g)), (.int (18 : Int32))]) (rest := [(.int (16 : Int32))]) rfl (lenOf own_pd0 rfl) rfl (by rw [hml]; rfl) (Nat.le_of_eq rfl) (hb hby d_jdk_48_method_27_3) (by decide) (by decide) ?_
  intro v6 T1 h3 Lh3 X2 q7
  replace q7 := q7.1
  obtain ⟨rfl, rfl⟩ := q7
  show OEnds p e below _ T1 (mkF m 6 #[.val (.int (16 : Int32)), .val (.int (Int32.ofNat g)), .val (.int (18 : Int32)), .unset] [(.int (18 : Int32)), (.int (16 : Int32))])
  refine OEnds.go (fun _ q => XS.iadd X2.here X2.hx rfl (hb hby d_jdk_48_method_27_6) rfl q) ?_
  show OEnds p e below _ T1 (mkF m 7 #[.val (.int (16 : Int32)), .val (.int (Int32.ofNat g)), .val (.int (18 : Int32)), .unset] [(.int ((16 : Int32) + (18 : Int32)))])
  rw [show ((16 : Int32) + (18 : Int32)) = (34 : Int32) from by decide]
  show OEnds p e below _ T1 (mkF m 7 #[.val (.int (16 : Int32)), .val (.int (Int32.ofNat g)), .val (.int (18 : Int32)), .unset] [(.int (34 : Int32))])
  refine OEnds.go (fun _ q => XS.istoreN X2.here X2.hx rfl (hb hby d_jdk_48_method_27_7) rfl (l' := #[.val (.int (16 : Int32)), .val (.int (Int32.ofNat g)), .val (.int (18 : Int32)), .val (.int (34 : Int32))]) rfl q) ?_
  refine OEnds.go (fun _ q => XS.iconst X2.here X2.hx rfl (hb hby d_jdk_48_method_27_8) q) ?_
  show OEnds p e below _ T1 (mkF m 9 #[.val (.int (16 : Int32)), .val (.int (Int32.ofNat g)), .val (.int (18 : Int32)), .val (.int (34 : Int32))] [(.int (0 : Int32))])
  refine OEnds.go (fun _ q => XS.iloadN X2.here X2.hx rfl (hb hby d_jdk_48_method_27_9) rfl q) ?_
  show OEnds p e below _ T1 (mkF m 10 #[.val (.int (16 : Int32)), .val (.int (Int32.ofNat g)), .val (.int (18 : Int32)), .val (.int (34 : Int32))] [(.int (34 : Int32)), (.int (0 : Int32))])
  refine OEnds.go (fun _ q => XS.icmpNo X2.here X2.hx rfl (hb hby d_jdk_48_method_27_10) rfl (tlt (by decide)).2.1 q) ?_
  show OEnds p e below _ T1 (mkF m 13 #[.val (.int (16 : Int32)), .val (.int (Int32.ofNat g)), .val (.int (18 : Int32)), .val (.int (34 : Int32))] [])
  refine OEnds.go (fun _ q => XS.iloadN X2.here X2.hx rfl (hb hby d_jdk_48_method_27_13) rfl q) ?_
  show OEnds p e below _ T1 (mkF m 14 #[.val (.int (16 : Int32)), .val (.int (Int32.ofNat g)), .val (.int (18 : Int32)), .val (.int (34 : Int32))] [(.int (34 : Int32))])
  refine X2.ldcI (own_k hw 162 rfl) (hb hby d_jdk_48_method_27_14) ?_
  show OEnds p e below _ T1 (mkF m 16 #[.val (.int (16 : Int32)), .val (.int (Int32.ofNat g)), .val (.int (18 : Int32)), .val (.int (34 : Int32))] [(.int (2147483639 : Int32)), (.int (34 : Int32))])
  refine OEnds.go (fun _ q => XS.icmpNo X2.here X2.hx rfl (hb hby d_jdk_48_method_27_16) rfl (flt (by decide)).2.2.1 q) ?_
  show OEnds p e below _ T1 (mkF m 19 #[.val (.int (16 : Int32)), .val (.int (Int32.ofNat g)), .val (.int (18 : Int32)), .val (.int (34 : Int32))] [])
  refine OEnds.go (fun _ q => XS.iloadN X2.here X2.hx rfl (hb hby d_jdk_48_method_27_19) rfl q) ?_
  show OEnds p e below _ T1 (mkF m 20 #[.val (.int (16 : Int32)), .val (.int (Int32.ofNat g)), .val (.int (18 : Int32)), .val (.int (34 : Int32))] [(.int (34 : Int32))])
  exact X2.retIntN hlk  hret (hb hby d_jdk_48_method_27_20) (by decide) (by decide) ⟨rfl, rfl⟩
theorem con_nc {l : Launch} {Z : State} {a0 : Array Value} {cz : Int32} {fm : Value} (H : Ctx Z a0 cz fm) (x t : Addr) (kt : ClassId) (vs : List Value) (mn : Nat) (hq1 : 16 < mn) (hq2 : mn ≤ 33) (h0 : Heap) (Fc : Fld Z h0 x "java/lang/AbstractStringBuilder" "coder" "B" (.int (0 : Int32))) (Fv : Fld Z h0 x "java/lang/AbstractStringBuilder" "value" "[B" (.ref t)) (Kt : Arv Z h0 t kt .byte (16 : Int32) vs (.int (0 : Int32))) :
    ConN l Z (⟨"java/lang/AbstractStringBuilder", "newCapacity", "(I)I"⟩ : MethodName) jdk_68_method_10_code 6 (some FieldType.int) [] ({ frames := 2, cells := 0, slots := 0, locals := 29 } : Room) #[(.ref x), (.int (Int32.ofNat mn))] h0 (fun r h => r = some (.int (34 : Int32)) ∧ h0 = h) := by
  obtain ⟨hw, hE, S0, hcz, S1, rf⟩ := id H
  refine ConN.of own_pf3 ?_
  intro p e s m below meth c T hby hml hret hlk hnm X0
  have EX0 := ext_refl h0
  refine OEnds.cast (own_ef2 m x (Int32.ofNat mn) ) ?_
  show OEnds p e below _ T (mkF m 0 #[.val (.ref x), .val (.int (Int32.ofNat mn)), .unset, .unset, .unset, .unset] [])
  refine OEnds.go (fun _ q => XS.aloadN X0.here X0.hx rfl (hb hby d_jdk_68_method_10_0) rfl rfl q) ?_
  show OEnds p e below _ T (mkF m 1 #[.val (.ref x), .val (.int (Int32.ofNat mn)), .unset, .unset, .unset, .unset] [(.ref x)])
  refine X0.getF (own_k hw 96 rfl) Via.refl Fv (hb hby d_jdk_68_method_10_1) ?_
  intro T1 X2
  show OEnds p e below _ T1 (mkF m 4 #[.val (.ref x), .val (.int (Int32.ofNat mn)), .unset, .unset, .unset, .unset] [(.ref t)])
  refine X2.alen Kt (hb hby d_jdk_68_method_10_4) ?_
  show OEnds p e below _ T1 (mkF m 5 #[.val (.ref x), .val (.int (Int32.ofNat mn)), .unset, .unset, .unset, .unset] [(.int (16 : Int32))])
  refine OEnds.go (fun _ q => XS.istoreN X2.here X2.hx rfl (hb hby d_jdk_68_method_10_5) rfl (l' := #[.val (.ref x), .val (.int (Int32.ofNat mn)), .val (.int (16 : Int32)), .unset, .unset, .unset]) rfl q) ?_
  show OEnds p e below _ T1 (mkF m 6 #[.val (.ref x), .val (.int (Int32.ofNat mn)), .val (.int (16 : Int32)), .unset, .unset, .unset] [])
  refine OEnds.go (fun _ q => XS.iloadN X2.here X2.hx rfl (hb hby d_jdk_68_method_10_6) rfl q) ?_
  show OEnds p e below _ T1 (mkF m 7 #[.val (.ref x), .val (.int (Int32.ofNat mn)), .val (.int (16 : Int32)), .unset, .unset, .unset] [(.int (Int32.ofNat mn))])
  refine OEnds.go (fun _ q => XS.aloadN X2.here X2.hx rfl (hb hby d_jdk_68_method_10_7) rfl rfl q) ?_
  show OEnds p e below _ T1 (mkF m 8 #[.val (.ref x), .val (.int (Int32.ofNat mn)), .val (.int (16 : Int32)), .unset, .unset, .unset] [(.ref x), (.int (Int32.ofNat mn))])
  refine X2.getF (own_k hw 98 rfl) Via.refl Fc (hb hby d_jdk_68_method_10_8) ?_
  intro T3 X4
  show OEnds p e below _ T3 (mkF m 11 #[.val (.ref x), .val (.int (Int32.ofNat mn)), .val (.int (16 : Int32)), .unset, .unset, .unset] [(.int (0 : Int32)), (.int (Int32.ofNat mn))])
  refine OEnds.go (fun _ q => XS.ishl X4.here X4.hx rfl (hb hby d_jdk_68_method_10_11) rfl q) ?_
  show OEnds p e below _ T3 (mkF m 12 #[.val (.ref x), .val (.int (Int32.ofNat mn)), .val (.int (16 : Int32)), .unset, .unset, .unset] [(.int ((Int32.ofNat mn) <<< ((0 : Int32) &&& 31)))])
  rw [show ((Int32.ofNat mn) <<< ((0 : Int32) &&& 31)) = (Int32.ofNat mn) from shl0 _]
  show OEnds p e below _ T3 (mkF m 12 #[.val (.ref x), .val (.int (Int32.ofNat mn)), .val (.int (16 : Int32)), .unset, .unset, .unset] [(.int (Int32.ofNat mn))])
  refine OEnds.go (fun _ q => XS.istoreN X4.here X4.hx rfl (hb hby d_jdk_68_method_10_12) rfl (l' := #[.val (.ref x), .val (.int (Int32.ofNat mn)), .val (.int (16 : Int32)), .val (.int (Int32.ofNat mn)), .unset, .unset]) rfl q) ?_
  show OEnds p e below _ T3 (mkF m 13 #[.val (.ref x), .val (.int (Int32.ofNat mn)), .val (.int (16 : Int32)), .val (.int (Int32.ofNat mn)), .unset, .unset] [])
  refine OEnds.go (fun _ q => XS.iloadN X4.here X4.hx rfl (hb hby d_jdk_68_method_10_13) rfl q) ?_
  show OEnds p e below _ T3 (mkF m 14 #[.val (.ref x), .val (.int (Int32.ofNat mn)), .val (.int (16 : Int32)), .val (.int (Int32.ofNat mn)), .unset, .unset] [(.int (Int32.ofNat mn))])
  refine OEnds.go (fun _ q => XS.iloadN X4.here X4.hx rfl (hb hby d_jdk_68_method_10_14) rfl q) ?_
  show OEnds p e below _ T3 (mkF m 15 #[.val (.ref x), .val (.int (Int32.ofNat mn)), .val (.int (16 : Int32)), .val (.int (Int32.ofNat mn)), .unset, .unset] [(.int (16 : Int32)), (.int (Int32.ofNat mn))])
  refine OEnds.go (fun _ q => XS.isub X4.here X4.hx rfl (hb hby d_jdk_68_method_10_15) rfl q) ?_
  show OEnds p e below _ T3 (mkF m 16 #[.val (.ref x), .val (.int (Int32.ofNat mn)), .val (.int (16 : Int32)), .val (.int (Int32.ofNat mn)), .unset, .unset] [(.int ((Int32.ofNat mn) - (16 : Int32)))])
  rw [show ((Int32.ofNat mn) - (16 : Int32)) = (Int32.ofNat (mn - 16)) from ofN_sub (b := 16) (by omega) (by omega)]
  show OEnds p e below _ T3 (mkF m 16 #[.val (.ref x), .val (.int (Int32.ofNat mn)), .val (.int (16 : Int32)), .val (.int (Int32.ofNat mn)), .unset, .unset] [(.int (Int32.ofNat (mn - 16)))])
  refine OEnds.go (fun _ q => XS.istore X4.here X4.hx rfl (hb hby d_jdk_68_method_10_16) rfl (l' := #[.val (.ref x), .val (.int (Int32.ofNat mn)), .val (.int (16 : Int32)), .val (.int (Int32.ofNat mn)), .val (.int (Int32.ofNat (mn - 16))), .unset]) rfl q) ?_
  show OEnds p e below _ T3 (mkF m 18 #[.val (.ref x), .val (.int (Int32.ofNat mn)), .val (.int (16 : Int32)), .val (.int (Int32.ofNat mn)), .val (.int (Int32.ofNat (mn - 16))), .unset] [])
  refine OEnds.go (fun _ q => XS.iloadN X4.here X4.hx rfl (hb hby d_jdk_68_method_10_18) rfl q) ?_
  show OEnds p e below _ T3 (mkF m 19 #[.val (.ref x), .val (.int (Int32.ofNat mn)), .val (.int (16 : Int32)), .val (.int (Int32.ofNat mn)), .val (.int (Int32.ofNat (mn - 16))), .unset] [(.int (16 : Int32))])
  refine OEnds.go (fun _ q => XS.iload X4.here X4.hx rfl (hb hby d_jdk_68_method_10_19) rfl q) ?_
  show OEnds p e below _ T3 (mkF m 21 #[.val (.ref x), .val (.int (Int32.ofNat mn)), .val (.int (16 : Int32)), .val (.int (Int32.ofNat mn)), .val (.int (Int32.ofNat (mn - 16))), .unset] [(.int (Int32.ofNat (mn - 16))), (.int (16 : Int32))])
  refine OEnds.go (fun _ q => XS.iloadN X4.here X4.hx rfl (hb hby d_jdk_68_method_10_21) rfl q) ?_
  show OEnds p e below _ T3 (mkF m 22 #[.val (.ref x), .val (.int (Int32.ofNat mn)), .val (.int (16 : Int32)), .val (.int (Int32.ofNat mn)), .val (.int (Int32.ofNat (mn - 16))), .unset] [(.int (16 : Int32)), (.int (Int32.ofNat (mn - 16))), (.int (16 : Int32))])
  refine OEnds.go (fun _ q => XS.iconst X4.here X4.hx rfl (hb hby d_jdk_68_method_10_22) q) ?_
  show OEnds p e below _ T3 (mkF m 23 #[.val (.ref x), .val (.int (Int32.ofNat mn)), .val (.int (16 : Int32)), .val (.int (Int32.ofNat mn)), .val (.int (Int32.ofNat (mn - 16))), .unset] [(.int (2 : Int32)), (.int (16 : Int32)), (.int (Int32.ofNat (mn - 16))), (.int (16 : Int32))])
  refine OEnds.go (fun _ q => XS.aloadN X4.here X4.hx rfl (hb hby d_jdk_68_method_10_23) rfl rfl q) ?_
  show OEnds p e below _ T3 (mkF m 24 #[.val (.ref x), .val (.int (Int32.ofNat mn)), .val (.int (16 : Int32)), .val (.int (Int32.ofNat mn)), .val (.int (Int32.ofNat (mn - 16))), .unset] [(.ref x), (.int (2 : Int32)), (.int (16 : Int32)), (.int (Int32.ofNat (mn - 16))), (.int (16 : Int32))])
  refine X4.getF (own_k hw 98 rfl) Via.refl Fc (hb hby d_jdk_68_method_10_24) ?_
  intro T5 X6
  show OEnds p e below _ T5 (mkF m 27 #[.val (.ref x), .val (.int (Int32.ofNat mn)), .val (.int (16 : Int32)), .val (.int (Int32.ofNat mn)), .val (.int (Int32.ofNat (mn - 16))), .unset] [(.int (0 : Int32)), (.int (2 : Int32)), (.int (16 : Int32)), (.int (Int32.ofNat (mn - 16))), (.int (16 : Int32))])
  refine OEnds.go (fun _ q => XS.ishl X6.here X6.hx rfl (hb hby d_jdk_68_method_10_27) rfl q) ?_
  show OEnds p e below _ T5 (mkF m 28 #[.val (.ref x), .val (.int (Int32.ofNat mn)), .val (.int (16 : Int32)), .val (.int (Int32.ofNat mn)), .val (.int (Int32.ofNat (mn - 16))), .unset] [(.int ((2 : Int32) <<< ((0 : Int32) &&& 31))), (.int (16 : Int32)), (.int (Int32.ofNat (mn - 16))), (.int (16 : Int32))])
  rw [show ((2 : Int32) <<< ((0 : Int32) &&& 31)) = (2 : Int32) from by decide]
  show OEnds p e below _ T5 (mkF m 28 #[.val (.ref x), .val (.int (Int32.ofNat mn)), .val (.int (16 : Int32)), .val (.int (Int32.ofNat mn)), .val (.int (Int32.ofNat (mn - 16))), .unset] [(.int (2 : Int32)), (.int (16 : Int32)), (.int (Int32.ofNat (mn - 16))), (.int (16 : Int32))])
  refine OEnds.go (fun _ q => XS.iadd X6.here X6.hx rfl (hb hby d_jdk_68_method_10_28) rfl q) ?_
  show OEnds p e below _ T5 (mkF m 29 #[.val (.ref x), .val (.int (Int32.ofNat mn)), .val (.int (16 : Int32)), .val (.int (Int32.ofNat mn)), .val (.int (Int32.ofNat (mn - 16))), .unset] [(.int ((16 : Int32) + (2 : Int32))), (.int (Int32.ofNat (mn - 16))), (.int (16 : Int32))])
  rw [show ((16 : Int32) + (2 : Int32)) = (18 : Int32) from by decide]
  show OEnds p e below _ T5 (mkF m 29 #[.val (.ref x), .val (.int (Int32.ofNat mn)), .val (.int (16 : Int32)), .val (.int (Int32.ofNat mn)), .val (.int (Int32.ofNat (mn - 16))), .unset] [(.int (18 : Int32)), (.int (Int32.ofNat (mn - 16))), (.int (16 : Int32))])
  refine X6.payS (ConN.back (W := 0) (con_nl H (mn - 16) (by omega) h0) X6.old X6.hZ (own_k hw 157 rfl) (own_k hw 156 rfl) (by decide) (by decide)) (okN (fun _ _ q => Nat.le_of_eq (congrArg Array.size q.2))) (own_k hw 154 rfl) (own_k hw 155 rfl) (own_k hw 156 rfl) (own_k hw 157 rfl)  (by decide)  (argsL := [(.int (16 : Int32)), (.int (Int32.ofNat (mn - 16))), (.int (18 : Int32))]) (rest := []) rfl (lenOf own_pd1 rfl) rfl (by rw [hml]; rfl) (Nat.le_of_eq rfl) (hb hby d_jdk_68_method_10_29) (by decide) (by decide) ?_
  intro v12 T7 h9 Lh9 X8 q13
  replace q13 := q13.1
  obtain ⟨rfl, rfl⟩ := q13
  show OEnds p e below _ T7 (mkF m 32 #[.val (.ref x), .val (.int (Int32.ofNat mn)), .val (.int (16 : Int32)), .val (.int (Int32.ofNat mn)), .val (.int (Int32.ofNat (mn - 16))), .unset] [(.int (34 : Int32))])
  refine OEnds.go (fun _ q => XS.istore X8.here X8.hx rfl (hb hby d_jdk_68_method_10_32) rfl (l' := #[.val (.ref x), .val (.int (Int32.ofNat mn)), .val (.int (16 : Int32)), .val (.int (Int32.ofNat mn)), .val (.int (Int32.ofNat (mn - 16))), .val (.int (34 : Int32))]) rfl q) ?_
  refine OEnds.go (fun _ q => XS.iload X8.here X8.hx rfl (hb hby d_jdk_68_method_10_34) rfl q) ?_
  show OEnds p e below _ T7 (mkF m 36 #[.val (.ref x), .val (.int (Int32.ofNat mn)), .val (.int (16 : Int32)), .val (.int (Int32.ofNat mn)), .val (.int (Int32.ofNat (mn - 16))), .val (.int (34 : Int32))] [(.int (34 : Int32))])
  refine X8.ldcI (own_k hw 163 rfl) (hb hby d_jdk_68_method_10_36) ?_
  show OEnds p e below _ T7 (mkF m 38 #[.val (.ref x), .val (.int (Int32.ofNat mn)), .val (.int (16 : Int32)), .val (.int (Int32.ofNat mn)), .val (.int (Int32.ofNat (mn - 16))), .val (.int (34 : Int32))] [(.int (2147483647 : Int32)), (.int (34 : Int32))])
  refine OEnds.go (fun _ q => XS.icmpYes X8.here X8.hx rfl (pc0 := 38) (pc' := 51) rfl (hb hby d_jdk_68_method_10_38) rfl (feq (by decide)).2 (by decide) (by decide) q) ?_
  show OEnds p e below _ T7 (mkF m 51 #[.val (.ref x), .val (.int (Int32.ofNat mn)), .val (.int (16 : Int32)), .val (.int (Int32.ofNat mn)), .val (.int (Int32.ofNat (mn - 16))), .val (.int (34 : Int32))] [])
  refine OEnds.go (fun _ q => XS.iload X8.here X8.hx rfl (hb hby d_jdk_68_method_10_51) rfl q) ?_
  refine OEnds.go (fun _ q => XS.aloadN X8.here X8.hx rfl (hb hby d_jdk_68_method_10_53) rfl rfl q) ?_
  show OEnds p e below _ T7 (mkF m 54 #[.val (.ref x), .val (.int (Int32.ofNat mn)), .val (.int (16 : Int32)), .val (.int (Int32.ofNat mn)), .val (.int (Int32.ofNat (mn - 16))), .val (.int (34 : Int32))] [(.ref x), (.int (34 : Int32))])
  refine X8.getF (own_k hw 98 rfl) Via.refl Fc (hb hby d_jdk_68_method_10_54) ?_
  intro T14 X15
  show OEnds p e below _ T14 (mkF m 57 #[.val (.ref x), .val (.int (Int32.ofNat mn)), .val (.int (16 : Int32)), .val (.int (Int32.ofNat mn)), .val (.int (Int32.ofNat (mn - 16))), .val (.int (34 : Int32))] [(.int (0 : Int32)), (.int (34 : Int32))])
  refine OEnds.go (fun _ q => XS.ishr X15.here X15.hx rfl (hb hby d_jdk_68_method_10_57) rfl q) ?_
  show OEnds p e below _ T14 (mkF m 58 #[.val (.ref x), .val (.int (Int32.ofNat mn)), .val (.int (16 : Int32)), .val (.int (Int32.ofNat mn)), .val (.int (Int32.ofNat (mn - 16))), .val (.int (34 : Int32))] [(.int ((34 : Int32) >>> ((0 : Int32) &&& 31)))])
  rw [show ((34 : Int32) >>> ((0 : Int32) &&& 31)) = (34 : Int32) from by decide]
  show OEnds p e below _ T14 (mkF m 58 #[.val (.ref x), .val (.int (Int32.ofNat mn)), .val (.int (16 : Int32)), .val (.int (Int32.ofNat mn)), .val (.int (Int32.ofNat (mn - 16))), .val (.int (34 : Int32))] [(.int (34 : Int32))])
  exact X15.retIntN hlk  hret (hb hby d_jdk_68_method_10_58) (by decide) (by decide) ⟨rfl, rfl⟩
theorem con_cpo {l : Launch} {Z : State} {a0 : Array Value} {cz : Int32} {fm : Value} (H : Ctx Z a0 cz fm) (t : Addr) (kt : ClassId) (vs : List Value) (hvs : vs.length ≤ 16) (h0 : Heap) (Kt : Arv Z h0 t kt .byte (16 : Int32) vs (.int (0 : Int32))) :
    ConN l Z (⟨"java/util/Arrays", "copyOf", "([BI)[B"⟩ : MethodName) jdk_65_method_121_code 3 (some (FieldType.array FieldType.byte)) [] ({ frames := 1, cells := 1, slots := 34, locals := 60 } : Room) #[(.ref t), (.int (34 : Int32))] h0 (fun r h => ∃ (t2 : Addr) (k2 : ClassId), r = some (.ref t2) ∧ Ext h0 h ∧ Arv Z h t2 k2 .byte (34 : Int32) vs (.int (0 : Int32)) ∧ h0.size ≤ t2) := by
  obtain ⟨hw, hE, S0, hcz, S1, rf⟩ := id H
  refine ConN.of own_pf4 ?_
  intro p e s m below meth c T hby hml hret hlk hnm X0
  have EX0 := ext_refl h0
  refine OEnds.cast (own_ef3 m t (34 : Int32) ) ?_
  show OEnds p e below _ T (mkF m 0 #[.val (.ref t), .val (.int (34 : Int32)), .unset] [])
  refine OEnds.go (fun _ q => XS.iloadN X0.here X0.hx rfl (hb hby d_jdk_65_method_121_0) rfl q) ?_
  refine OEnds.go (fun _ q => XS.aloadN X0.here X0.hx rfl (hb hby d_jdk_65_method_121_1) rfl rfl q) ?_
  show OEnds p e below _ T (mkF m 2 #[.val (.ref t), .val (.int (34 : Int32)), .unset] [(.ref t), (.int (34 : Int32))])
  refine X0.alen Kt (hb hby d_jdk_65_method_121_2) ?_
  show OEnds p e below _ T (mkF m 3 #[.val (.ref t), .val (.int (34 : Int32)), .unset] [(.int (16 : Int32)), (.int (34 : Int32))])
  refine OEnds.go (fun _ q => XS.icmpYes X0.here X0.hx rfl (pc0 := 3) (pc' := 14) rfl (hb hby d_jdk_65_method_121_3) rfl (feq (by decide)).2 (by decide) (by decide) q) ?_
  show OEnds p e below _ T (mkF m 14 #[.val (.ref t), .val (.int (34 : Int32)), .unset] [])
  refine OEnds.go (fun _ q => XS.iloadN X0.here X0.hx rfl (hb hby d_jdk_65_method_121_14) rfl q) ?_
  show OEnds p e below _ T (mkF m 15 #[.val (.ref t), .val (.int (34 : Int32)), .unset] [(.int (34 : Int32))])
  refine X0.newP (own_k hw 23 rfl) (hb hby d_jdk_65_method_121_15) (by decide) (cap := 34) (by decide) (by decide) (by decide) (by decide) ?_
  intro T1 h3 a5 ka5 ga5 X2 E4 Ka5
  have gza5 : Z.heap.size ≤ a5 := ga5 ▸ X0.old.1
  have Kt_h3 := Kt.ext E4
  have EX_h3 := ext_trans EX0 E4
  have Ka5_0 : Arv Z h3 a5 ka5 .byte (34 : Int32) [.int (0 : Int32), .int (0 : Int32), .int (0 : Int32), .int (0 : Int32), .int (0 : Int32), .int (0 : Int32), .int (0 : Int32), .int (0 : Int32), .int (0 : Int32), .int (0 : Int32), .int (0 : Int32), .int (0 : Int32), .int (0 : Int32), .int (0 : Int32), .int (0 : Int32), .int (0 : Int32), .int (0 : Int32), .int (0 : Int32), .int (0 : Int32), .int (0 : Int32), .int (0 : Int32), .int (0 : Int32), .int (0 : Int32), .int (0 : Int32), .int (0 : Int32), .int (0 : Int32), .int (0 : Int32), .int (0 : Int32), .int (0 : Int32), .int (0 : Int32), .int (0 : Int32), .int (0 : Int32), .int (0 : Int32), .int (0 : Int32)] (.int (0 : Int32)) := Ka5.pad (pad_rep [] (.int (0 : Int32)) 34)
  show OEnds p e below _ T1 (mkF m 17 #[.val (.ref t), .val (.int (34 : Int32)), .unset] [(.ref a5)])
  refine OEnds.go (fun _ q => XS.astoreN X2.here X2.hx rfl (hb hby d_jdk_65_method_121_17) rfl rfl (l' := #[.val (.ref t), .val (.int (34 : Int32)), .val (.ref a5)]) rfl q) ?_
  refine OEnds.go (fun _ q => XS.aloadN X2.here X2.hx rfl (hb hby d_jdk_65_method_121_18) rfl rfl q) ?_
  show OEnds p e below _ T1 (mkF m 19 #[.val (.ref t), .val (.int (34 : Int32)), .val (.ref a5)] [(.ref t)])
  refine OEnds.go (fun _ q => XS.iconst X2.here X2.hx rfl (hb hby d_jdk_65_method_121_19) q) ?_
  refine OEnds.go (fun _ q => XS.aloadN X2.here X2.hx rfl (hb hby d_jdk_65_method_121_20) rfl rfl q) ?_
  show OEnds p e below _ T1 (mkF m 21 #[.val (.ref t), .val (.int (34 : Int32)), .val (.ref a5)] [(.ref a5), (.int (0 : Int32)), (.ref t)])
  refine OEnds.go (fun _ q => XS.iconst X2.here X2.hx rfl (hb hby d_jdk_65_method_121_21) q) ?_
  refine OEnds.go (fun _ q => XS.aloadN X2.here X2.hx rfl (hb hby d_jdk_65_method_121_22) rfl rfl q) ?_
  show OEnds p e below _ T1 (mkF m 23 #[.val (.ref t), .val (.int (34 : Int32)), .val (.ref a5)] [(.ref t), (.int (0 : Int32)), (.ref a5), (.int (0 : Int32)), (.ref t)])
  refine X2.alen Kt_h3 (hb hby d_jdk_65_method_121_23) ?_
  show OEnds p e below _ T1 (mkF m 24 #[.val (.ref t), .val (.int (34 : Int32)), .val (.ref a5)] [(.int (16 : Int32)), (.int (0 : Int32)), (.ref a5), (.int (0 : Int32)), (.ref t)])
  refine OEnds.go (fun _ q => XS.iloadN X2.here X2.hx rfl (hb hby d_jdk_65_method_121_24) rfl q) ?_
  show OEnds p e below _ T1 (mkF m 25 #[.val (.ref t), .val (.int (34 : Int32)), .val (.ref a5)] [(.int (34 : Int32)), (.int (16 : Int32)), (.int (0 : Int32)), (.ref a5), (.int (0 : Int32)), (.ref t)])
  refine X2.payS (ConN.back (W := 4) (con_minL H (16 : Int32) (34 : Int32) (by decide) h3) X2.old X2.hZ (own_k hw 170 rfl) (own_k hw 160 rfl) (by decide) (by decide)) (okN (fun _ _ q => Nat.le_of_eq (congrArg Array.size q.2))) (own_k hw 168 rfl) (own_k hw 169 rfl) (own_k hw 160 rfl) (own_k hw 170 rfl)  (by decide)  (argsL := [(.int (16 : Int32)), (.int (34 : Int32))]) (rest := [(.int (0 : Int32)), (.ref a5), (.int (0 : Int32)), (.ref t)]) rfl (lenOf own_pd0 rfl) rfl (by rw [hml]; rfl) (Nat.le_of_eq rfl) (hb hby d_jdk_65_method_121_25) (by decide) (by decide) ?_
  intro v11 T6 h8 Lh8 X7 q12
  replace q12 := q12.1
  obtain ⟨rfl, rfl⟩ := q12
  show OEnds p e below _ T6 (mkF m 28 #[.val (.ref t), .val (.int (34 : Int32)), .val (.ref a5)] [(.int (16 : Int32)), (.int (0 : Int32)), (.ref a5), (.int (0 : Int32)), (.ref t)])
  refine X7.cpB (own_k hw 171 rfl) (own_k hw 147 rfl) (own_k hw 145 rfl) (own_k hw 146 rfl) Kt_h3 Ka5_0 (by decide) (by decide) (by decide) (by decide) (by decide) (us := ((List.range 16).map fun i => vs.getD ((0 : Int32).toNatClampNeg + i) (.int (0 : Int32)))) rfl (by decide) safe_nil gza5 (by rw [hml]; rfl) (hb hby d_jdk_65_method_121_28) (by decide) (W := 0) (Nat.le_of_eq rfl) (by decide) ?_
  intro T13 h15 X14 K16 B17
  have hB : Arv Z h15 a5 ka5 .byte (34 : Int32) vs (.int (0 : Int32)) := by
    have q := B17
    rw [show ((16 : Int32)).toNatClampNeg = 16 from rfl] at q
    exact q.pad (own_padc (k := 18) hvs)
  have EBa5_h15 := ext_keep E4 K16 (allS (Nat.le_of_eq ga5) all0)
  have Kt_h15 := Kt.ext EBa5_h15
  have EX_h15 := ext_keep EX_h3 K16 (allS (Nat.le_trans EX0.1 (Nat.le_of_eq ga5)) all0)
  show OEnds p e below _ T13 (mkF m 31 #[.val (.ref t), .val (.int (34 : Int32)), .val (.ref a5)] [])
  refine OEnds.go (fun _ q => XS.aloadN X14.here X14.hx rfl (hb hby d_jdk_65_method_121_31) rfl rfl q) ?_
  show OEnds p e below _ T13 (mkF m 32 #[.val (.ref t), .val (.int (34 : Int32)), .val (.ref a5)] [(.ref a5)])
  exact X14.retRefN hlk rfl (t := (FieldType.array FieldType.byte)) rfl hret (hb hby d_jdk_65_method_121_32) (by decide) (by decide) ⟨_, _, rfl, EX_h15, hB, Nat.le_trans EX0.1 (Nat.le_of_eq ga5)⟩
theorem con_ecN {l : Launch} {Z : State} {a0 : Array Value} {cz : Int32} {fm : Value} (H : Ctx Z a0 cz fm) (x t : Addr) (kt : ClassId) (vs : List Value) (mn cap : Nat) (hq1 : mn ≤ cap) (hq2 : cap ≤ 34) (h0 : Heap) (Fc : Fld Z h0 x "java/lang/AbstractStringBuilder" "coder" "B" (.int (0 : Int32))) (Fv : Fld Z h0 x "java/lang/AbstractStringBuilder" "value" "[B" (.ref t)) (Kt : Arv Z h0 t kt .byte (Int32.ofNat cap) vs (.int (0 : Int32))) :
    ConN l Z (⟨"java/lang/AbstractStringBuilder", "ensureCapacityInternal", "(I)V"⟩ : MethodName) jdk_68_method_9_code 3 (none : Option FieldType) [] ({ frames := 0, cells := 0, slots := 0, locals := 0 } : Room) #[(.ref x), (.int (Int32.ofNat mn))] h0 (fun r h => r = none ∧ h0 = h) := by
  obtain ⟨hw, hE, S0, hcz, S1, rf⟩ := id H
  refine ConN.of own_pf5 ?_
  intro p e s m below meth c T hby hml hret hlk hnm X0
  have EX0 := ext_refl h0
  refine OEnds.cast (own_ef3 m x (Int32.ofNat mn) ) ?_
  show OEnds p e below _ T (mkF m 0 #[.val (.ref x), .val (.int (Int32.ofNat mn)), .unset] [])
  refine OEnds.go (fun _ q => XS.aloadN X0.here X0.hx rfl (hb hby d_jdk_68_method_9_0) rfl rfl q) ?_
  show OEnds p e below _ T (mkF m 1 #[.val (.ref x), .val (.int (Int32.ofNat mn)), .unset] [(.ref x)])
  refine X0.getF (own_k hw 96 rfl) Via.refl Fv (hb hby d_jdk_68_method_9_1) ?_
  intro T1 X2
  show OEnds p e below _ T1 (mkF m 4 #[.val (.ref x), .val (.int (Int32.ofNat mn)), .unset] [(.ref t)])
  refine X2.alen Kt (hb hby d_jdk_68_method_9_4) ?_
  show OEnds p e below _ T1 (mkF m 5 #[.val (.ref x), .val (.int (Int32.ofNat mn)), .unset] [(.int (Int32.ofNat cap))])
  refine OEnds.go (fun _ q => XS.aloadN X2.here X2.hx rfl (hb hby d_jdk_68_method_9_5) rfl rfl q) ?_
  show OEnds p e below _ T1 (mkF m 6 #[.val (.ref x), .val (.int (Int32.ofNat mn)), .unset] [(.ref x), (.int (Int32.ofNat cap))])
  refine X2.getF (own_k hw 98 rfl) Via.refl Fc (hb hby d_jdk_68_method_9_6) ?_
  intro T3 X4
  show OEnds p e below _ T3 (mkF m 9 #[.val (.ref x), .val (.int (Int32.ofNat mn)), .unset] [(.int (0 : Int32)), (.int (Int32.ofNat cap))])
  refine OEnds.go (fun _ q => XS.ishr X4.here X4.hx rfl (hb hby d_jdk_68_method_9_9) rfl q) ?_
  show OEnds p e below _ T3 (mkF m 10 #[.val (.ref x), .val (.int (Int32.ofNat mn)), .unset] [(.int ((Int32.ofNat cap) >>> ((0 : Int32) &&& 31)))])
  rw [show ((Int32.ofNat cap) >>> ((0 : Int32) &&& 31)) = (Int32.ofNat cap) from shr0 _]
  show OEnds p e below _ T3 (mkF m 10 #[.val (.ref x), .val (.int (Int32.ofNat mn)), .unset] [(.int (Int32.ofNat cap))])
  refine OEnds.go (fun _ q => XS.istoreN X4.here X4.hx rfl (hb hby d_jdk_68_method_9_10) rfl (l' := #[.val (.ref x), .val (.int (Int32.ofNat mn)), .val (.int (Int32.ofNat cap))]) rfl q) ?_
  refine OEnds.go (fun _ q => XS.iloadN X4.here X4.hx rfl (hb hby d_jdk_68_method_9_11) rfl q) ?_
  show OEnds p e below _ T3 (mkF m 12 #[.val (.ref x), .val (.int (Int32.ofNat mn)), .val (.int (Int32.ofNat cap))] [(.int (Int32.ofNat mn))])
  refine OEnds.go (fun _ q => XS.iloadN X4.here X4.hx rfl (hb hby d_jdk_68_method_9_12) rfl q) ?_
  refine OEnds.go (fun _ q => XS.isub X4.here X4.hx rfl (hb hby d_jdk_68_method_9_13) rfl q) ?_
  show OEnds p e below _ T3 (mkF m 14 #[.val (.ref x), .val (.int (Int32.ofNat mn)), .val (.int (Int32.ofNat cap))] [(.int ((Int32.ofNat mn) - (Int32.ofNat cap)))])
  refine OEnds.go (fun _ q => XS.ifYes X4.here X4.hx rfl (pc0 := 14) (pc' := 38) rfl (hb hby d_jdk_68_method_9_14) rfl ((if0 _ _).trans (flt (own_nsub hq1 (by omega))).2.2.2) (by decide) (by decide) q) ?_
  show OEnds p e below _ T3 (mkF m 38 #[.val (.ref x), .val (.int (Int32.ofNat mn)), .val (.int (Int32.ofNat cap))] [])
  exact X4.ret0N hlk  hret (hb hby d_jdk_68_method_9_38) (by decide) (by decide) ⟨rfl, rfl⟩
theorem con_ecG {l : Launch} {Z : State} {a0 : Array Value} {cz : Int32} {fm : Value} (H : Ctx Z a0 cz fm) (x t : Addr) (kt : ClassId) (cs : List Int32) (mn : Nat) (hq1 : 16 < mn) (hq2 : mn ≤ 33) (hq3 : cs.length ≤ 16) (gzx : Z.heap.size ≤ x) (h0 : Heap) (Ex : Exa Z h0 x "java/lang/StringBuilder") (Fn : Fld Z h0 x "java/lang/AbstractStringBuilder" "count" "I" (.int (Int32.ofNat cs.length))) (Fc : Fld Z h0 x "java/lang/AbstractStringBuilder" "coder" "B" (.int (0 : Int32))) (Fv : Fld Z h0 x "java/lang/AbstractStringBuilder" "value" "[B" (.ref t)) (Kt : Arv Z h0 t kt .byte (16 : Int32) ((cs.map lo8).map Value.int) (.int (0 : Int32))) :
    ConN l Z (⟨"java/lang/AbstractStringBuilder", "ensureCapacityInternal", "(I)V"⟩ : MethodName) jdk_68_method_9_code 3 (none : Option FieldType) [] ({ frames := 3, cells := 1, slots := 34, locals := 75 } : Room) #[(.ref x), (.int (Int32.ofNat mn))] h0 (fun r h => r = none ∧ Keep h0 h [x] ∧ ∃ t2 : Addr, h0.size ≤ t2 ∧ OSb Z h x t2 cs 34) := by
  obtain ⟨hw, hE, S0, hcz, S1, rf⟩ := id H
  refine ConN.of own_pf5 ?_
  intro p e s m below meth c T hby hml hret hlk hnm X0
  have EX0 := ext_refl h0
  refine OEnds.cast (own_ef3 m x (Int32.ofNat mn) ) ?_
  show OEnds p e below _ T (mkF m 0 #[.val (.ref x), .val (.int (Int32.ofNat mn)), .unset] [])
  have K0 := Keep.refl h0 [x]
  refine OEnds.go (fun _ q => XS.aloadN X0.here X0.hx rfl (hb hby d_jdk_68_method_9_0) rfl rfl q) ?_
  show OEnds p e below _ T (mkF m 1 #[.val (.ref x), .val (.int (Int32.ofNat mn)), .unset] [(.ref x)])
  refine X0.getF (own_k hw 96 rfl) Via.refl Fv (hb hby d_jdk_68_method_9_1) ?_
  intro T1 X2
  show OEnds p e below _ T1 (mkF m 4 #[.val (.ref x), .val (.int (Int32.ofNat mn)), .unset] [(.ref t)])
  refine X2.alen Kt (hb hby d_jdk_68_method_9_4) ?_
  show OEnds p e below _ T1 (mkF m 5 #[.val (.ref x), .val (.int (Int32.ofNat mn)), .unset] [(.int (16 : Int32))])
  refine OEnds.go (fun _ q => XS.aloadN X2.here X2.hx rfl (hb hby d_jdk_68_method_9_5) rfl rfl q) ?_
  show OEnds p e below _ T1 (mkF m 6 #[.val (.ref x), .val (.int (Int32.ofNat mn)), .unset] [(.ref x), (.int (16 : Int32))])
  refine X2.getF (own_k hw 98 rfl) Via.refl Fc (hb hby d_jdk_68_method_9_6) ?_
  intro T3 X4
  show OEnds p e below _ T3 (mkF m 9 #[.val (.ref x), .val (.int (Int32.ofNat mn)), .unset] [(.int (0 : Int32)), (.int (16 : Int32))])
  refine OEnds.go (fun _ q => XS.ishr X4.here X4.hx rfl (hb hby d_jdk_68_method_9_9) rfl q) ?_
  show OEnds p e below _ T3 (mkF m 10 #[.val (.ref x), .val (.int (Int32.ofNat mn)), .unset] [(.int ((16 : Int32) >>> ((0 : Int32) &&& 31)))])
  rw [show ((16 : Int32) >>> ((0 : Int32) &&& 31)) = (16 : Int32) from by decide]
  show OEnds p e below _ T3 (mkF m 10 #[.val (.ref x), .val (.int (Int32.ofNat mn)), .unset] [(.int (16 : Int32))])
  refine OEnds.go (fun _ q => XS.istoreN X4.here X4.hx rfl (hb hby d_jdk_68_method_9_10) rfl (l' := #[.val (.ref x), .val (.int (Int32.ofNat mn)), .val (.int (16 : Int32))]) rfl q) ?_
  refine OEnds.go (fun _ q => XS.iloadN X4.here X4.hx rfl (hb hby d_jdk_68_method_9_11) rfl q) ?_
  show OEnds p e below _ T3 (mkF m 12 #[.val (.ref x), .val (.int (Int32.ofNat mn)), .val (.int (16 : Int32))] [(.int (Int32.ofNat mn))])
  refine OEnds.go (fun _ q => XS.iloadN X4.here X4.hx rfl (hb hby d_jdk_68_method_9_12) rfl q) ?_
  refine OEnds.go (fun _ q => XS.isub X4.here X4.hx rfl (hb hby d_jdk_68_method_9_13) rfl q) ?_
  show OEnds p e below _ T3 (mkF m 14 #[.val (.ref x), .val (.int (Int32.ofNat mn)), .val (.int (16 : Int32))] [(.int ((Int32.ofNat mn) - (16 : Int32)))])
  refine OEnds.go (fun _ q => XS.ifNo X4.here X4.hx rfl (hb hby d_jdk_68_method_9_14) rfl ((if0 _ _).trans (tlt (own_psub hq1 (by omega))).2.2.2) q) ?_
  show OEnds p e below _ T3 (mkF m 17 #[.val (.ref x), .val (.int (Int32.ofNat mn)), .val (.int (16 : Int32))] [])
  refine OEnds.go (fun _ q => XS.aloadN X4.here X4.hx rfl (hb hby d_jdk_68_method_9_17) rfl rfl q) ?_
  refine OEnds.go (fun _ q => XS.aloadN X4.here X4.hx rfl (hb hby d_jdk_68_method_9_18) rfl rfl q) ?_
  show OEnds p e below _ T3 (mkF m 19 #[.val (.ref x), .val (.int (Int32.ofNat mn)), .val (.int (16 : Int32))] [(.ref x), (.ref x)])
  refine X4.getF (own_k hw 96 rfl) Via.refl Fv (hb hby d_jdk_68_method_9_19) ?_
  intro T5 X6
  show OEnds p e below _ T5 (mkF m 22 #[.val (.ref x), .val (.int (Int32.ofNat mn)), .val (.int (16 : Int32))] [(.ref t), (.ref x)])
  refine OEnds.go (fun _ q => XS.aloadN X6.here X6.hx rfl (hb hby d_jdk_68_method_9_22) rfl rfl q) ?_
  refine OEnds.go (fun _ q => XS.iloadN X6.here X6.hx rfl (hb hby d_jdk_68_method_9_23) rfl q) ?_
  show OEnds p e below _ T5 (mkF m 24 #[.val (.ref x), .val (.int (Int32.ofNat mn)), .val (.int (16 : Int32))] [(.int (Int32.ofNat mn)), (.ref x), (.ref t), (.ref x)])
  refine X6.payV (ConN.back (W := 2) (con_nc H x t kt _ mn hq1 hq2 h0 Fc Fv Kt) X6.old X6.hZ (own_k hw 153 rfl) (own_k hw 92 rfl) (by decide) (by decide)) (okN (fun _ _ q => Nat.le_of_eq (congrArg Array.size q.2))) (own_k hw 149 rfl) (decl_of (own_k hw 150 rfl) (own_k hw 153 rfl)) (own_k hw 152 rfl) (own_k hw 150 rfl)  (X6.nf (own_k hw 152 rfl)) (by decide)  Ex (argsL := [(.int (Int32.ofNat mn))]) (rest := [(.ref t), (.ref x)]) rfl (lenOf own_pd2 rfl) rfl (by rw [hml]; rfl) (Nat.le_of_eq rfl) (hb hby d_jdk_68_method_9_24) (by decide) (by decide) ?_
  intro v12 T7 h9 Lh9 X8 q13
  replace q13 := q13.1
  obtain ⟨rfl, rfl⟩ := q13
  show OEnds p e below _ T7 (mkF m 27 #[.val (.ref x), .val (.int (Int32.ofNat mn)), .val (.int (16 : Int32))] [(.int (34 : Int32)), (.ref t), (.ref x)])
  refine OEnds.go (fun _ q => XS.aloadN X8.here X8.hx rfl (hb hby d_jdk_68_method_9_27) rfl rfl q) ?_
  show OEnds p e below _ T7 (mkF m 28 #[.val (.ref x), .val (.int (Int32.ofNat mn)), .val (.int (16 : Int32))] [(.ref x), (.int (34 : Int32)), (.ref t), (.ref x)])
  refine X8.getF (own_k hw 98 rfl) Via.refl Fc (hb hby d_jdk_68_method_9_28) ?_
  intro T14 X15
  show OEnds p e below _ T14 (mkF m 31 #[.val (.ref x), .val (.int (Int32.ofNat mn)), .val (.int (16 : Int32))] [(.int (0 : Int32)), (.int (34 : Int32)), (.ref t), (.ref x)])
  refine OEnds.go (fun _ q => XS.ishl X15.here X15.hx rfl (hb hby d_jdk_68_method_9_31) rfl q) ?_
  show OEnds p e below _ T14 (mkF m 32 #[.val (.ref x), .val (.int (Int32.ofNat mn)), .val (.int (16 : Int32))] [(.int ((34 : Int32) <<< ((0 : Int32) &&& 31))), (.ref t), (.ref x)])
  rw [show ((34 : Int32) <<< ((0 : Int32) &&& 31)) = (34 : Int32) from by decide]
  show OEnds p e below _ T14 (mkF m 32 #[.val (.ref x), .val (.int (Int32.ofNat mn)), .val (.int (16 : Int32))] [(.int (34 : Int32)), (.ref t), (.ref x)])
  refine X15.payS (ConN.back (W := 1) (con_cpo H t kt _ (by simpa using hq3) h0 Kt) X15.old X15.hZ (own_k hw 167 rfl) (own_k hw 166 rfl) (by decide) (by decide)) (okN (fun _ _ ⟨_, _, _, q, _⟩ => q.1)) (own_k hw 164 rfl) (own_k hw 165 rfl) (own_k hw 166 rfl) (own_k hw 167 rfl)  (by decide)  (argsL := [(.ref t), (.int (34 : Int32))]) (rest := [(.ref x)]) rfl (lenOf own_pd3 rfl) rfl (by rw [hml]; rfl) (Nat.le_of_eq rfl) (hb hby d_jdk_68_method_9_32) (by decide) (by decide) ?_
  intro v21 T16 h18 Lh18 X17 q22
  replace q22 := q22.1
  obtain ⟨t2, k2, rfl, Et, Kt2, ft⟩ := q22
  have Ex_h18 := Ex.ext Et
  have Fn_h18 := Fn.ext Et
  have Fc_h18 := Fc.ext Et
  have Fv_h18 := Fv.ext Et
  have Kt_h18 := Kt.ext Et
  have EX_h18 := ext_trans EX0 Et
  have Kpx_h18 := K0.ext Et
  show OEnds p e below _ T16 (mkF m 35 #[.val (.ref x), .val (.int (Int32.ofNat mn)), .val (.int (16 : Int32))] [(.ref t2), (.ref x)])
  refine X17.putF (v := (.ref t2)) (own_k hw 96 rfl) Via.refl Fv_h18 Ex_h18 (Or.inl (own_k hw 97 rfl)) (own_k hw 83 rfl) (ty := (FieldType.array FieldType.byte)) (by decide) rfl rfl safe_nil gzx (hb hby d_jdk_68_method_9_35) ?_
  intro T23 h25 X24 W26
  have Fv_h25 := Fv_h18.same W26
  have Ex_h25 := Ex_h18.wr W26
  have Fn_h25 := Fn_h18.other W26 (Or.inr (slot_ne (a0 := a0) (Or.inl (own_k hw 122 rfl)) (Or.inl (own_k hw 97 rfl)) (by decide) (t := FieldType.int) (by decide) (t' := (FieldType.array FieldType.byte)) (by decide)))
  have Fc_h25 := Fc_h18.other W26 (Or.inr (slot_ne (a0 := a0) (Or.inl (own_k hw 99 rfl)) (Or.inl (own_k hw 97 rfl)) (by decide) (t := FieldType.byte) (by decide) (t' := (FieldType.array FieldType.byte)) (by decide)))
  have K27 := Kpx_h18.wr W26 (Or.inl (List.mem_of_getElem? (i := 0) rfl))
  have Kt2_h25 := Kt2.other W26 (Nat.ne_of_gt (Nat.lt_of_lt_of_le Ex.lt ft))
  show OEnds p e below _ T23 (mkF m 38 #[.val (.ref x), .val (.int (Int32.ofNat mn)), .val (.int (16 : Int32))] [])
  exact X24.ret0N hlk  hret (hb hby d_jdk_68_method_9_38) (by decide) (by decide) ⟨rfl, K27, t2, ft, Ex_h25, Fn_h25, Fc_h25, Fv_h25, k2, Kt2_h25⟩
theorem con_cd0 {l : Launch} {Z : State} {a0 : Array Value} {cz : Int32} {fm : Value} (H : Ctx Z a0 cz fm) (y : Addr) (h0 : Heap) (Cy : Fld Z h0 y "java/lang/String" "coder" "B" (.int (0 : Int32))) :
    ConN l Z (⟨"java/lang/String", "coder", "()B"⟩ : MethodName) jdk_42_method_152_code 1 (some FieldType.byte) [] ({ frames := 0, cells := 0, slots := 0, locals := 0 } : Room) #[(.ref y)] h0 (fun r h => r = some (.int 0) ∧ h0 = h) := by
  obtain ⟨hw, hE, S0, hcz, S1, rf⟩ := id H
  refine ConN.of own_pf6 ?_
  intro p e s m below meth c T hby hml hret hlk hnm X0
  have EX0 := ext_refl h0
  refine OEnds.cast (own_ef4 m y ) ?_
  show OEnds p e below _ T (mkF m 0 #[.val (.ref y)] [])
  refine X0.getS (own_k hw 18 rfl) Via.refl (S0.ext X0.old) (hb hby d_jdk_42_method_152_0) ?_
  intro T1 X2
  show OEnds p e below _ T1 (mkF m 3 #[.val (.ref y)] [(.int cz)])
  refine OEnds.go (fun _ q => XS.ifNo X2.here X2.hx rfl (hb hby d_jdk_42_method_152_3) rfl ((if0 _ _).trans (feq hcz).1) q) ?_
  show OEnds p e below _ T1 (mkF m 6 #[.val (.ref y)] [])
  refine OEnds.go (fun _ q => XS.aloadN X2.here X2.hx rfl (hb hby d_jdk_42_method_152_6) rfl rfl q) ?_
  show OEnds p e below _ T1 (mkF m 7 #[.val (.ref y)] [(.ref y)])
  refine X2.getF (own_k hw 30 rfl) Via.refl Cy (hb hby d_jdk_42_method_152_7) ?_
  intro T3 X4
  show OEnds p e below _ T3 (mkF m 10 #[.val (.ref y)] [(.int (0 : Int32))])
  refine OEnds.go (fun _ q => XS.goto X4.here X4.hx rfl (pc0 := 10) (pc' := 14) rfl (hb hby d_jdk_42_method_152_10) (by decide) (by decide) q) ?_
  show OEnds p e below _ T3 (mkF m 14 #[.val (.ref y)] [(.int (0 : Int32))])
  exact X4.retByteN hlk rfl hret (hb hby d_jdk_42_method_152_14) (by decide) (by decide) ⟨rfl, rfl⟩
theorem con_inf {l : Launch} {Z : State} {a0 : Array Value} {cz : Int32} {fm : Value} (H : Ctx Z a0 cz fm) (x y : Addr) (h0 : Heap) (Fc : Fld Z h0 x "java/lang/AbstractStringBuilder" "coder" "B" (.int (0 : Int32))) (Ey : Exa Z h0 y "java/lang/String") (Cy : Fld Z h0 y "java/lang/String" "coder" "B" (.int (0 : Int32))) :
    ConN l Z (⟨"java/lang/AbstractStringBuilder", "inflateIfNeededFor", "(Ljava/lang/String;)V"⟩ : MethodName) jdk_68_method_71_code 2 (none : Option FieldType) [] ({ frames := 1, cells := 0, slots := 0, locals := 13 } : Room) #[(.ref x), (.ref y)] h0 (fun r h => r = none ∧ h0 = h) := by
  obtain ⟨hw, hE, S0, hcz, S1, rf⟩ := id H
  refine ConN.of own_pf7 ?_
  intro p e s m below meth c T hby hml hret hlk hnm X0
  have EX0 := ext_refl h0
  refine OEnds.cast (own_ef5 m x y ) ?_
  show OEnds p e below _ T (mkF m 0 #[.val (.ref x), .val (.ref y)] [])
  refine X0.getS (own_k hw 95 rfl) Via.refl (S0.ext X0.old) (hb hby d_jdk_68_method_71_0) ?_
  intro T1 X2
  show OEnds p e below _ T1 (mkF m 3 #[.val (.ref x), .val (.ref y)] [(.int cz)])
  refine OEnds.go (fun _ q => XS.ifNo X2.here X2.hx rfl (hb hby d_jdk_68_method_71_3) rfl ((if0 _ _).trans (feq hcz).1) q) ?_
  show OEnds p e below _ T1 (mkF m 6 #[.val (.ref x), .val (.ref y)] [])
  refine OEnds.go (fun _ q => XS.aloadN X2.here X2.hx rfl (hb hby d_jdk_68_method_71_6) rfl rfl q) ?_
  show OEnds p e below _ T1 (mkF m 7 #[.val (.ref x), .val (.ref y)] [(.ref x)])
  refine X2.getF (own_k hw 98 rfl) Via.refl Fc (hb hby d_jdk_68_method_71_7) ?_
  intro T3 X4
  show OEnds p e below _ T3 (mkF m 10 #[.val (.ref x), .val (.ref y)] [(.int (0 : Int32))])
  refine OEnds.go (fun _ q => XS.aloadN X4.here X4.hx rfl (hb hby d_jdk_68_method_71_10) rfl rfl q) ?_
  show OEnds p e below _ T3 (mkF m 11 #[.val (.ref x), .val (.ref y)] [(.ref y), (.int (0 : Int32))])
  refine X4.payV (ConN.back (W := 1) (con_cd0 H y h0 Cy) X4.old X4.hZ (own_k hw 120 rfl) (own_k hw 6 rfl) (by decide) (by decide)) (okN (fun _ _ q => Nat.le_of_eq (congrArg Array.size q.2))) (own_k hw 138 rfl) (own_k hw 117 rfl) (own_k hw 119 rfl) (own_k hw 118 rfl)  (X4.nf (own_k hw 119 rfl)) (by decide)  Ey (argsL := []) (rest := [(.int (0 : Int32))]) rfl (lenOf own_pd4 rfl) rfl (by rw [hml]; rfl) (Nat.le_of_eq rfl) (hb hby d_jdk_68_method_71_11) (by decide) (by decide) ?_
  intro v10 T5 h7 Lh7 X6 q11
  replace q11 := q11.1
  obtain ⟨rfl, rfl⟩ := q11
  show OEnds p e below _ T5 (mkF m 14 #[.val (.ref x), .val (.ref y)] [(.int (0 : Int32)), (.int (0 : Int32))])
  refine OEnds.go (fun _ q => XS.icmpYes X6.here X6.hx rfl (pc0 := 14) (pc' := 21) rfl (hb hby d_jdk_68_method_71_14) rfl (teq (rfl : (0 : Int32) = 0)).1 (by decide) (by decide) q) ?_
  show OEnds p e below _ T5 (mkF m 21 #[.val (.ref x), .val (.ref y)] [])
  exact X6.ret0N hlk  hret (hb hby d_jdk_68_method_71_21) (by decide) (by decide) ⟨rfl, rfl⟩
theorem con_gb {l : Launch} {Z : State} {a0 : Array Value} {cz : Int32} {fm : Value} (H : Ctx Z a0 cz fm) (y yb : Addr) (ky : ClassId) (ds : List Int32) (t : Addr) (kt : ClassId) (cs : List Int32) (cap : Nat) (hq1 : cs.length + ds.length ≤ cap) (hq2 : cap ≤ 34) (gzt : Z.heap.size ≤ t) (h0 : Heap) (Kt : Arv Z h0 t kt .byte (Int32.ofNat cap) ((cs.map lo8).map Value.int) (.int (0 : Int32))) (Ey : Exa Z h0 y "java/lang/String") (Cy : Fld Z h0 y "java/lang/String" "coder" "B" (.int (0 : Int32))) (Vy : Fld Z h0 y "java/lang/String" "value" "[B" (.ref yb)) (Ky : Arv Z h0 yb ky .byte (Int32.ofNat ds.length) ((ds.map lo8).map Value.int) (.int (0 : Int32))) :
    ConN l Z (⟨"java/lang/String", "getBytes", "([BIB)V"⟩ : MethodName) jdk_42_method_147_code 4 (none : Option FieldType) [] ({ frames := 1, cells := 0, slots := 0, locals := 60 } : Room) #[(.ref y), (.ref t), (.int (Int32.ofNat cs.length)), (.int (0 : Int32))] h0 (fun r h => r = none ∧ Keep h0 h [t] ∧ Arv Z h t kt .byte (Int32.ofNat cap) (((cs ++ ds).map lo8).map Value.int) (.int (0 : Int32))) := by
  obtain ⟨hw, hE, S0, hcz, S1, rf⟩ := id H
  refine ConN.of own_pf8 ?_
  intro p e s m below meth c T hby hml hret hlk hnm X0
  have EX0 := ext_refl h0
  refine OEnds.cast (own_ef6 m y t (Int32.ofNat cs.length) (0 : Int32) ) ?_
  show OEnds p e below _ T (mkF m 0 #[.val (.ref y), .val (.ref t), .val (.int (Int32.ofNat cs.length)), .val (.int (0 : Int32))] [])
  refine OEnds.go (fun _ q => XS.aloadN X0.here X0.hx rfl (hb hby d_jdk_42_method_147_0) rfl rfl q) ?_
  show OEnds p e below _ T (mkF m 1 #[.val (.ref y), .val (.ref t), .val (.int (Int32.ofNat cs.length)), .val (.int (0 : Int32))] [(.ref y)])
  refine X0.payV (ConN.back (W := 0) (con_cd0 H y h0 Cy) X0.old X0.hZ (own_k hw 120 rfl) (own_k hw 6 rfl) (by decide) (by decide)) (okN (fun _ _ q => Nat.le_of_eq (congrArg Array.size q.2))) (own_k hw 116 rfl) (own_k hw 117 rfl) (own_k hw 119 rfl) (own_k hw 118 rfl)  (X0.nf (own_k hw 119 rfl)) (by decide)  Ey (argsL := []) (rest := []) rfl (lenOf own_pd4 rfl) rfl (by rw [hml]; rfl) (Nat.le_of_eq rfl) (hb hby d_jdk_42_method_147_1) (by decide) (by decide) ?_
  intro v6 T1 h3 Lh3 X2 q7
  replace q7 := q7.1
  obtain ⟨rfl, rfl⟩ := q7
  show OEnds p e below _ T1 (mkF m 4 #[.val (.ref y), .val (.ref t), .val (.int (Int32.ofNat cs.length)), .val (.int (0 : Int32))] [(.int (0 : Int32))])
  refine OEnds.go (fun _ q => XS.iloadN X2.here X2.hx rfl (hb hby d_jdk_42_method_147_4) rfl q) ?_
  show OEnds p e below _ T1 (mkF m 5 #[.val (.ref y), .val (.ref t), .val (.int (Int32.ofNat cs.length)), .val (.int (0 : Int32))] [(.int (0 : Int32)), (.int (0 : Int32))])
  refine OEnds.go (fun _ q => XS.icmpNo X2.here X2.hx rfl (hb hby d_jdk_42_method_147_5) rfl (teq (rfl : (0 : Int32) = 0)).2 q) ?_
  show OEnds p e below _ T1 (mkF m 8 #[.val (.ref y), .val (.ref t), .val (.int (Int32.ofNat cs.length)), .val (.int (0 : Int32))] [])
  refine OEnds.go (fun _ q => XS.aloadN X2.here X2.hx rfl (hb hby d_jdk_42_method_147_8) rfl rfl q) ?_
  show OEnds p e below _ T1 (mkF m 9 #[.val (.ref y), .val (.ref t), .val (.int (Int32.ofNat cs.length)), .val (.int (0 : Int32))] [(.ref y)])
  refine X2.getF (own_k hw 32 rfl) Via.refl Vy (hb hby d_jdk_42_method_147_9) ?_
  intro T8 X9
  show OEnds p e below _ T8 (mkF m 12 #[.val (.ref y), .val (.ref t), .val (.int (Int32.ofNat cs.length)), .val (.int (0 : Int32))] [(.ref yb)])
  refine OEnds.go (fun _ q => XS.iconst X9.here X9.hx rfl (hb hby d_jdk_42_method_147_12) q) ?_
  show OEnds p e below _ T8 (mkF m 13 #[.val (.ref y), .val (.ref t), .val (.int (Int32.ofNat cs.length)), .val (.int (0 : Int32))] [(.int (0 : Int32)), (.ref yb)])
  refine OEnds.go (fun _ q => XS.aloadN X9.here X9.hx rfl (hb hby d_jdk_42_method_147_13) rfl rfl q) ?_
  show OEnds p e below _ T8 (mkF m 14 #[.val (.ref y), .val (.ref t), .val (.int (Int32.ofNat cs.length)), .val (.int (0 : Int32))] [(.ref t), (.int (0 : Int32)), (.ref yb)])
  refine OEnds.go (fun _ q => XS.iloadN X9.here X9.hx rfl (hb hby d_jdk_42_method_147_14) rfl q) ?_
  show OEnds p e below _ T8 (mkF m 15 #[.val (.ref y), .val (.ref t), .val (.int (Int32.ofNat cs.length)), .val (.int (0 : Int32))] [(.int (Int32.ofNat cs.length)), (.ref t), (.int (0 : Int32)), (.ref yb)])
  refine OEnds.go (fun _ q => XS.iloadN X9.here X9.hx rfl (hb hby d_jdk_42_method_147_15) rfl q) ?_
  show OEnds p e below _ T8 (mkF m 16 #[.val (.ref y), .val (.ref t), .val (.int (Int32.ofNat cs.length)), .val (.int (0 : Int32))] [(.int (0 : Int32)), (.int (Int32.ofNat cs.length)), (.ref t), (.int (0 : Int32)), (.ref yb)])
  refine OEnds.go (fun _ q => XS.ishl X9.here X9.hx rfl (hb hby d_jdk_42_method_147_16) rfl q) ?_
  show OEnds p e below _ T8 (mkF m 17 #[.val (.ref y), .val (.ref t), .val (.int (Int32.ofNat cs.length)), .val (.int (0 : Int32))] [(.int ((Int32.ofNat cs.length) <<< ((0 : Int32) &&& 31))), (.ref t), (.int (0 : Int32)), (.ref yb)])
  rw [show ((Int32.ofNat cs.length) <<< ((0 : Int32) &&& 31)) = (Int32.ofNat cs.length) from shl0 _]
  show OEnds p e below _ T8 (mkF m 17 #[.val (.ref y), .val (.ref t), .val (.int (Int32.ofNat cs.length)), .val (.int (0 : Int32))] [(.int (Int32.ofNat cs.length)), (.ref t), (.int (0 : Int32)), (.ref yb)])
  refine OEnds.go (fun _ q => XS.aloadN X9.here X9.hx rfl (hb hby d_jdk_42_method_147_17) rfl rfl q) ?_
  show OEnds p e below _ T8 (mkF m 18 #[.val (.ref y), .val (.ref t), .val (.int (Int32.ofNat cs.length)), .val (.int (0 : Int32))] [(.ref y), (.int (Int32.ofNat cs.length)), (.ref t), (.int (0 : Int32)), (.ref yb)])
  refine X9.getF (own_k hw 32 rfl) Via.refl Vy (hb hby d_jdk_42_method_147_18) ?_
  intro T10 X11
  show OEnds p e below _ T10 (mkF m 21 #[.val (.ref y), .val (.ref t), .val (.int (Int32.ofNat cs.length)), .val (.int (0 : Int32))] [(.ref yb), (.int (Int32.ofNat cs.length)), (.ref t), (.int (0 : Int32)), (.ref yb)])
  refine X11.alen Ky (hb hby d_jdk_42_method_147_21) ?_
  show OEnds p e below _ T10 (mkF m 22 #[.val (.ref y), .val (.ref t), .val (.int (Int32.ofNat cs.length)), .val (.int (0 : Int32))] [(.int (Int32.ofNat ds.length)), (.int (Int32.ofNat cs.length)), (.ref t), (.int (0 : Int32)), (.ref yb)])
  have Ktp := Kt.pad (pad_rep ((cs.map lo8).map Value.int) (.int (0 : Int32)) (cap - cs.length))
  refine X11.cpB (own_k hw 144 rfl) (own_k hw 147 rfl) (own_k hw 145 rfl) (own_k hw 146 rfl) Ky Ktp (by decide) (ofN_neg (by omega)) (ofN_neg (by omega)) (by rw [ofN_nat (by omega)]; show 0 + _ ≤ _; omega) (by rw [ofN_nat (by omega), ofN_nat (by omega), ofN_nat (by omega)]; omega) (us := ((ds.map lo8).map Value.int)) (by rw [ofN_nat (by omega)]; exact own_rng (by simp)) (by rw [ofN_nat (by omega), ofN_nat (by omega)]; simp; omega) safe_nil gzt (by rw [hml]; rfl) (hb hby d_jdk_42_method_147_22) (by decide) (W := 0) (Nat.le_of_eq rfl) (by decide) ?_
  intro T12 h14 X13 K15 B16
  have hB : Arv Z h14 t kt .byte (Int32.ofNat cap) (((cs ++ ds).map lo8).map Value.int) (.int (0 : Int32)) := by
    have q := B16
    rw [ofN_nat (by omega), ofN_nat (by omega)] at q
    have e : (((cs ++ ds).map lo8).map Value.int) = ((cs.map lo8).map Value.int) ++ ((ds.map lo8).map Value.int) := by simp
    rw [e]; exact q.pad (own_app (by simp))
  show OEnds p e below _ T12 (mkF m 25 #[.val (.ref y), .val (.ref t), .val (.int (Int32.ofNat cs.length)), .val (.int (0 : Int32))] [])
  refine OEnds.go (fun _ q => XS.goto X13.here X13.hx rfl (pc0 := 25) (pc' := 43) rfl (hb hby d_jdk_42_method_147_25) (by decide) (by decide) q) ?_
  show OEnds p e below _ T12 (mkF m 43 #[.val (.ref y), .val (.ref t), .val (.int (Int32.ofNat cs.length)), .val (.int (0 : Int32))] [])
  exact X13.ret0N hlk  hret (hb hby d_jdk_42_method_147_43) (by decide) (by decide) ⟨rfl, K15, hB⟩
theorem con_psa {l : Launch} {Z : State} {a0 : Array Value} {cz : Int32} {fm : Value} (H : Ctx Z a0 cz fm) (x : Addr) (y yb : Addr) (ky : ClassId) (ds : List Int32) (t : Addr) (kt : ClassId) (cs : List Int32) (cap : Nat) (hq1 : cs.length + ds.length ≤ cap) (hq2 : cap ≤ 34) (gzt : Z.heap.size ≤ t) (h0 : Heap) (Kt : Arv Z h0 t kt .byte (Int32.ofNat cap) ((cs.map lo8).map Value.int) (.int (0 : Int32))) (Ex : Exa Z h0 x "java/lang/StringBuilder") (Fc : Fld Z h0 x "java/lang/AbstractStringBuilder" "coder" "B" (.int (0 : Int32))) (Fv : Fld Z h0 x "java/lang/AbstractStringBuilder" "value" "[B" (.ref t)) (Ey : Exa Z h0 y "java/lang/String") (Cy : Fld Z h0 y "java/lang/String" "coder" "B" (.int (0 : Int32))) (Vy : Fld Z h0 y "java/lang/String" "value" "[B" (.ref yb)) (Ky : Arv Z h0 yb ky .byte (Int32.ofNat ds.length) ((ds.map lo8).map Value.int) (.int (0 : Int32))) :
    ConN l Z (⟨"java/lang/AbstractStringBuilder", "putStringAt", "(ILjava/lang/String;)V"⟩ : MethodName) jdk_68_method_73_code 3 (none : Option FieldType) [] ({ frames := 2, cells := 0, slots := 0, locals := 75 } : Room) #[(.ref x), (.int (Int32.ofNat cs.length)), (.ref y)] h0 (fun r h => r = none ∧ Keep h0 h [t] ∧ Arv Z h t kt .byte (Int32.ofNat cap) (((cs ++ ds).map lo8).map Value.int) (.int (0 : Int32))) := by
  obtain ⟨hw, hE, S0, hcz, S1, rf⟩ := id H
  refine ConN.of own_pf9 ?_
  intro p e s m below meth c T hby hml hret hlk hnm X0
  have EX0 := ext_refl h0
  refine OEnds.cast (own_ef7 m x (Int32.ofNat cs.length) y ) ?_
  show OEnds p e below _ T (mkF m 0 #[.val (.ref x), .val (.int (Int32.ofNat cs.length)), .val (.ref y)] [])
  refine OEnds.go (fun _ q => XS.aloadN X0.here X0.hx rfl (hb hby d_jdk_68_method_73_0) rfl rfl q) ?_
  refine OEnds.go (fun _ q => XS.aloadN X0.here X0.hx rfl (hb hby d_jdk_68_method_73_1) rfl rfl q) ?_
  show OEnds p e below _ T (mkF m 2 #[.val (.ref x), .val (.int (Int32.ofNat cs.length)), .val (.ref y)] [(.ref y), (.ref x)])
  refine X0.payV (ConN.back (W := 0) (con_inf H x y h0 Fc Ey Cy) X0.old X0.hZ (own_k hw 137 rfl) (own_k hw 92 rfl) (by decide) (by decide)) (okN (fun _ _ q => Nat.le_of_eq (congrArg Array.size q.2))) (own_k hw 133 rfl) (decl_of (own_k hw 134 rfl) (own_k hw 137 rfl)) (own_k hw 136 rfl) (own_k hw 134 rfl)  (X0.nf (own_k hw 136 rfl)) (by decide)  Ex (argsL := [(.ref y)]) (rest := []) rfl (lenOf own_pd5 rfl) rfl (by rw [hml]; rfl) (Nat.le_of_eq rfl) (hb hby d_jdk_68_method_73_2) (by decide) (by decide) ?_
  intro v6 T1 h3 Lh3 X2 q7
  replace q7 := q7.1
  obtain ⟨rfl, rfl⟩ := q7
  show OEnds p e below _ T1 (mkF m 5 #[.val (.ref x), .val (.int (Int32.ofNat cs.length)), .val (.ref y)] [])
  refine OEnds.go (fun _ q => XS.aloadN X2.here X2.hx rfl (hb hby d_jdk_68_method_73_5) rfl rfl q) ?_
  refine OEnds.go (fun _ q => XS.aloadN X2.here X2.hx rfl (hb hby d_jdk_68_method_73_6) rfl rfl q) ?_
  show OEnds p e below _ T1 (mkF m 7 #[.val (.ref x), .val (.int (Int32.ofNat cs.length)), .val (.ref y)] [(.ref x), (.ref y)])
  refine X2.getF (own_k hw 96 rfl) Via.refl Fv (hb hby d_jdk_68_method_73_7) ?_
  intro T8 X9
  show OEnds p e below _ T8 (mkF m 10 #[.val (.ref x), .val (.int (Int32.ofNat cs.length)), .val (.ref y)] [(.ref t), (.ref y)])
  refine OEnds.go (fun _ q => XS.iloadN X9.here X9.hx rfl (hb hby d_jdk_68_method_73_10) rfl q) ?_
  refine OEnds.go (fun _ q => XS.aloadN X9.here X9.hx rfl (hb hby d_jdk_68_method_73_11) rfl rfl q) ?_
  show OEnds p e below _ T8 (mkF m 12 #[.val (.ref x), .val (.int (Int32.ofNat cs.length)), .val (.ref y)] [(.ref x), (.int (Int32.ofNat cs.length)), (.ref t), (.ref y)])
  refine X9.getF (own_k hw 98 rfl) Via.refl Fc (hb hby d_jdk_68_method_73_12) ?_
  intro T10 X11
  show OEnds p e below _ T10 (mkF m 15 #[.val (.ref x), .val (.int (Int32.ofNat cs.length)), .val (.ref y)] [(.int (0 : Int32)), (.int (Int32.ofNat cs.length)), (.ref t), (.ref y)])
  refine X11.payV (ConN.back (W := 0) (con_gb H y yb ky ds t kt cs cap hq1 hq2 gzt h0 Kt Ey Cy Vy Ky) X11.old X11.hZ (own_k hw 143 rfl) (own_k hw 6 rfl) (by decide) (by decide)) (okN (fun _ _ q => q.2.1.1)) (own_k hw 139 rfl) (own_k hw 140 rfl) (own_k hw 142 rfl) (own_k hw 141 rfl)  (X11.nf (own_k hw 142 rfl)) (by decide)  Ey (argsL := [(.ref t), (.int (Int32.ofNat cs.length)), (.int (0 : Int32))]) (rest := []) rfl (lenOf own_pd6 rfl) rfl (by rw [hml]; rfl) (Nat.le_of_eq rfl) (hb hby d_jdk_68_method_73_15) (by decide) (by decide) ?_
  intro v17 T12 h14 Lh14 X13 q18
  replace q18 := q18.1
  obtain ⟨rfl, Kq, Aq⟩ := q18
  show OEnds p e below _ T12 (mkF m 18 #[.val (.ref x), .val (.int (Int32.ofNat cs.length)), .val (.ref y)] [])
  exact X13.ret0N hlk  hret (hb hby d_jdk_68_method_73_18) (by decide) (by decide) ⟨rfl, Kq, Aq⟩
theorem con_apN {l : Launch} {Z : State} {a0 : Array Value} {cz : Int32} {fm : Value} (H : Ctx Z a0 cz fm) (x t y : Addr) (cs ds : List Int32) (cap : Nat) (hq1 : cs.length + ds.length ≤ cap) (hq2 : cap ≤ 34) (gzx : Z.heap.size ≤ x) (gzt : Z.heap.size ≤ t) (h0 : Heap) (Sb : OSb Z h0 x t cs cap) (Sy : OStr Z h0 y ds) :
    ConN l Z (⟨"java/lang/AbstractStringBuilder", "append", "(Ljava/lang/String;)Ljava/lang/AbstractStringBuilder;"⟩ : MethodName) jdk_68_method_22_code 3 (some (FieldType.object "java/lang/AbstractStringBuilder")) [] ({ frames := 3, cells := 0, slots := 0, locals := 89 } : Room) #[(.ref x), (.ref y)] h0 (fun r h => r = some (.ref x) ∧ Keep h0 h [x, t] ∧ OSb Z h x t (cs ++ ds) cap) := by
  obtain ⟨hw, hE, S0, hcz, S1, rf⟩ := id H
  refine ConN.of own_pf10 ?_
  intro p e s m below meth c T hby hml hret hlk hnm X0
  have EX0 := ext_refl h0
  refine OEnds.cast (own_ef8 m x y ) ?_
  show OEnds p e below _ T (mkF m 0 #[.val (.ref x), .val (.ref y), .unset] [])
  obtain ⟨Ex, Fn, Fc, Fv, kt, Kt⟩ := id Sb
  refine OEnds.go (fun _ q => XS.aloadN X0.here X0.hx rfl (hb hby d_jdk_68_method_22_0) rfl rfl q) ?_
  show OEnds p e below _ T (mkF m 1 #[.val (.ref x), .val (.ref y), .unset] [(.ref y)])
  refine OEnds.go (fun _ q => XS.ifnonnullYes X0.here X0.hx rfl (pc0 := 1) (pc' := 9) rfl (hb hby d_jdk_68_method_22_1) rfl (by decide) (by decide) q) ?_
  show OEnds p e below _ T (mkF m 9 #[.val (.ref x), .val (.ref y), .unset] [])
  refine OEnds.go (fun _ q => XS.aloadN X0.here X0.hx rfl (hb hby d_jdk_68_method_22_9) rfl rfl q) ?_
  show OEnds p e below _ T (mkF m 10 #[.val (.ref x), .val (.ref y), .unset] [(.ref y)])
  refine X0.payV (own_len H (W := 0) X0.hZ X0.old Sy (by decide) (by decide)) (okPure X0) (own_k hw 111 rfl) (own_k hw 112 rfl) (own_k hw 114 rfl) (own_k hw 113 rfl) (X0.nf (own_k hw 114 rfl)) (by decide) Sy.exa (argsL := []) (rest := []) rfl (lenOf own_pd7 rfl) rfl (by rw [hml]; rfl) (Nat.le_of_eq rfl) (hb hby d_jdk_68_method_22_10) (by decide) (by decide) ?_
  intro v1 T2 h3 L4 X5 q6
  obtain ⟨rfl, -, e7⟩ := q6
  obtain rfl := e7.symm
  show OEnds p e below _ T2 (mkF m 13 #[.val (.ref x), .val (.ref y), .unset] [(.int (Int32.ofNat ds.length))])
  refine OEnds.go (fun _ q => XS.istoreN X5.here X5.hx rfl (hb hby d_jdk_68_method_22_13) rfl (l' := #[.val (.ref x), .val (.ref y), .val (.int (Int32.ofNat ds.length))]) rfl q) ?_
  show OEnds p e below _ T2 (mkF m 14 #[.val (.ref x), .val (.ref y), .val (.int (Int32.ofNat ds.length))] [])
  refine OEnds.go (fun _ q => XS.aloadN X5.here X5.hx rfl (hb hby d_jdk_68_method_22_14) rfl rfl q) ?_
  show OEnds p e below _ T2 (mkF m 15 #[.val (.ref x), .val (.ref y), .val (.int (Int32.ofNat ds.length))] [(.ref x)])
  refine OEnds.go (fun _ q => XS.aloadN X5.here X5.hx rfl (hb hby d_jdk_68_method_22_15) rfl rfl q) ?_
  show OEnds p e below _ T2 (mkF m 16 #[.val (.ref x), .val (.ref y), .val (.int (Int32.ofNat ds.length))] [(.ref x), (.ref x)])
  refine X5.getF (own_k hw 121 rfl) Via.refl Fn (hb hby d_jdk_68_method_22_16) ?_
  intro T8 X9
  show OEnds p e below _ T8 (mkF m 19 #[.val (.ref x), .val (.ref y), .val (.int (Int32.ofNat ds.length))] [(.int (Int32.ofNat cs.length)), (.ref x)])
  refine OEnds.go (fun _ q => XS.iloadN X9.here X9.hx rfl (hb hby d_jdk_68_method_22_19) rfl q) ?_
  show OEnds p e below _ T8 (mkF m 20 #[.val (.ref x), .val (.ref y), .val (.int (Int32.ofNat ds.length))] [(.int (Int32.ofNat ds.length)), (.int (Int32.ofNat cs.length)), (.ref x)])
  refine OEnds.go (fun _ q => XS.iadd X9.here X9.hx rfl (hb hby d_jdk_68_method_22_20) rfl q) ?_
  show OEnds p e below _ T8 (mkF m 21 #[.val (.ref x), .val (.ref y), .val (.int (Int32.ofNat ds.length))] [(.int ((Int32.ofNat cs.length) + (Int32.ofNat ds.length))), (.ref x)])
  rw [show ((Int32.ofNat cs.length) + (Int32.ofNat ds.length)) = (Int32.ofNat (cs.length + ds.length)) from ofN_add (by omega)]
  show OEnds p e below _ T8 (mkF m 21 #[.val (.ref x), .val (.ref y), .val (.int (Int32.ofNat ds.length))] [(.int (Int32.ofNat (cs.length + ds.length))), (.ref x)])
  refine X9.payV (ConN.back (W := 0) (con_ecN H x t kt _ (cs.length + ds.length) cap hq1 hq2 h0 Fc Fv Kt) X9.old X9.hZ (own_k hw 127 rfl) (own_k hw 92 rfl) (by decide) (by decide)) (okN (fun _ _ q => Nat.le_of_eq (congrArg Array.size q.2))) (own_k hw 123 rfl) (decl_of (own_k hw 124 rfl) (own_k hw 127 rfl)) (own_k hw 126 rfl) (own_k hw 124 rfl)  (X9.nf (own_k hw 126 rfl)) (by decide)  Ex (argsL := [(.int (Int32.ofNat (cs.length + ds.length)))]) (rest := []) rfl (lenOf own_pd8 rfl) rfl (by rw [hml]; rfl) (Nat.le_of_eq rfl) (hb hby d_jdk_68_method_22_21) (by decide) (by decide) ?_
  intro v15 T10 h12 Lh12 X11 q16
  replace q16 := q16.1
  obtain ⟨rfl, rfl⟩ := q16
  show OEnds p e below _ T10 (mkF m 24 #[.val (.ref x), .val (.ref y), .val (.int (Int32.ofNat ds.length))] [])
  have nxt : x ≠ t := Exa.neArv Ex Kt (own_k hw 83 rfl)
  obtain ⟨Ey, Cy, ⟨yb, ky, Vy, Ky⟩, hbd, -⟩ := id Sy
  refine OEnds.go (fun _ q => XS.aloadN X11.here X11.hx rfl (hb hby d_jdk_68_method_22_24) rfl rfl q) ?_
  refine OEnds.go (fun _ q => XS.aloadN X11.here X11.hx rfl (hb hby d_jdk_68_method_22_25) rfl rfl q) ?_
  show OEnds p e below _ T10 (mkF m 26 #[.val (.ref x), .val (.ref y), .val (.int (Int32.ofNat ds.length))] [(.ref x), (.ref x)])
  refine X11.getF (own_k hw 121 rfl) Via.refl Fn (hb hby d_jdk_68_method_22_26) ?_
  intro T17 X18
  show OEnds p e below _ T17 (mkF m 29 #[.val (.ref x), .val (.ref y), .val (.int (Int32.ofNat ds.length))] [(.int (Int32.ofNat cs.length)), (.ref x)])
  refine OEnds.go (fun _ q => XS.aloadN X18.here X18.hx rfl (hb hby d_jdk_68_method_22_29) rfl rfl q) ?_
  show OEnds p e below _ T17 (mkF m 30 #[.val (.ref x), .val (.ref y), .val (.int (Int32.ofNat ds.length))] [(.ref y), (.int (Int32.ofNat cs.length)), (.ref x)])
  refine X18.payV (ConN.back (W := 0) (con_psa H x y yb ky ds t kt cs cap hq1 hq2 gzt h0 Kt Ex Fc Fv Ey Cy Vy Ky) X18.old X18.hZ (own_k hw 132 rfl) (own_k hw 92 rfl) (by decide) (by decide)) (okN (fun _ _ q => q.2.1.1)) (own_k hw 128 rfl) (decl_of (own_k hw 129 rfl) (own_k hw 132 rfl)) (own_k hw 131 rfl) (own_k hw 129 rfl)  (X18.nf (own_k hw 131 rfl)) (by decide)  Ex (argsL := [(.int (Int32.ofNat cs.length)), (.ref y)]) (rest := []) rfl (lenOf own_pd9 rfl) rfl (by rw [hml]; rfl) (Nat.le_of_eq rfl) (hb hby d_jdk_68_method_22_30) (by decide) (by decide) ?_
  intro v24 T19 h21 Lh21 X20 q25
  replace q25 := q25.1
  obtain ⟨rfl, Kr, Ar⟩ := q25
  have Ex_h21 := Ex.keep Kr
  have Fn_h21 := Fn.keep Kr (ninS nxt nin0)
  have Fc_h21 := Fc.keep Kr (ninS nxt nin0)
  have Fv_h21 := Fv.keep Kr (ninS nxt nin0)
  show OEnds p e below _ T19 (mkF m 33 #[.val (.ref x), .val (.ref y), .val (.int (Int32.ofNat ds.length))] [])
  have Ks : Keep h0 h21 [x, t] := (Keep.refl h0 [x, t]).trans Kr (allS (Or.inl (List.mem_of_getElem? (i := 1) rfl)) all0)
  refine OEnds.go (fun _ q => XS.aloadN X20.here X20.hx rfl (hb hby d_jdk_68_method_22_33) rfl rfl q) ?_
  show OEnds p e below _ T19 (mkF m 34 #[.val (.ref x), .val (.ref y), .val (.int (Int32.ofNat ds.length))] [(.ref x)])
  refine OEnds.go (fun _ q => XS.dup X20.here X20.hx rfl (hb hby d_jdk_68_method_22_34) rfl rfl q) ?_
  show OEnds p e below _ T19 (mkF m 35 #[.val (.ref x), .val (.ref y), .val (.int (Int32.ofNat ds.length))] [(.ref x), (.ref x)])
  refine X20.getF (own_k hw 121 rfl) Via.refl Fn_h21 (hb hby d_jdk_68_method_22_35) ?_
  intro T26 X27
  show OEnds p e below _ T26 (mkF m 38 #[.val (.ref x), .val (.ref y), .val (.int (Int32.ofNat ds.length))] [(.int (Int32.ofNat cs.length)), (.ref x)])
  refine OEnds.go (fun _ q => XS.iloadN X27.here X27.hx rfl (hb hby d_jdk_68_method_22_38) rfl q) ?_
  show OEnds p e below _ T26 (mkF m 39 #[.val (.ref x), .val (.ref y), .val (.int (Int32.ofNat ds.length))] [(.int (Int32.ofNat ds.length)), (.int (Int32.ofNat cs.length)), (.ref x)])
  refine OEnds.go (fun _ q => XS.iadd X27.here X27.hx rfl (hb hby d_jdk_68_method_22_39) rfl q) ?_
  show OEnds p e below _ T26 (mkF m 40 #[.val (.ref x), .val (.ref y), .val (.int (Int32.ofNat ds.length))] [(.int ((Int32.ofNat cs.length) + (Int32.ofNat ds.length))), (.ref x)])
  rw [show ((Int32.ofNat cs.length) + (Int32.ofNat ds.length)) = (Int32.ofNat (cs.length + ds.length)) from ofN_add (by omega)]
  show OEnds p e below _ T26 (mkF m 40 #[.val (.ref x), .val (.ref y), .val (.int (Int32.ofNat ds.length))] [(.int (Int32.ofNat (cs.length + ds.length))), (.ref x)])
  refine X27.putF (v := (.int (Int32.ofNat (cs.length + ds.length)))) (own_k hw 121 rfl) Via.refl Fn_h21 Ex_h21 (Or.inl (own_k hw 122 rfl)) (own_k hw 83 rfl) (ty := FieldType.int) (by decide) rfl rfl safe_nil gzx (hb hby d_jdk_68_method_22_40) ?_
  intro T28 h30 X29 W31
  have Fn_h30 := Fn_h21.same W31
  have Ex_h30 := Ex_h21.wr W31
  have Fc_h30 := Fc_h21.other W31 (Or.inr (slot_ne (a0 := a0) (Or.inl (own_k hw 99 rfl)) (Or.inl (own_k hw 122 rfl)) (by decide) (t := FieldType.byte) (by decide) (t' := FieldType.int) (by decide)))
  have Fv_h30 := Fv_h21.other W31 (Or.inr (slot_ne (a0 := a0) (Or.inl (own_k hw 97 rfl)) (Or.inl (own_k hw 122 rfl)) (by decide) (t := (FieldType.array FieldType.byte)) (by decide) (t' := FieldType.int) (by decide)))
  have K32 := Ks.wr W31 (Or.inl (List.mem_of_getElem? (i := 0) rfl))
  have Ar_h30 := Ar.other W31 nxt.symm
  show OEnds p e below _ T28 (mkF m 43 #[.val (.ref x), .val (.ref y), .val (.int (Int32.ofNat ds.length))] [])
  refine OEnds.go (fun _ q => XS.aloadN X29.here X29.hx rfl (hb hby d_jdk_68_method_22_43) rfl rfl q) ?_
  show OEnds p e below _ T28 (mkF m 44 #[.val (.ref x), .val (.ref y), .val (.int (Int32.ofNat ds.length))] [(.ref x)])
  exact X29.retRefN hlk rfl (t := (FieldType.object "java/lang/AbstractStringBuilder")) rfl hret (hb hby d_jdk_68_method_22_44) (by decide) (by decide) ⟨rfl, K32, Ex_h30, by rw [List.length_append]; exact Fn_h30, Fc_h30, Fv_h30, kt, Ar_h30⟩
theorem con_sapN {l : Launch} {Z : State} {a0 : Array Value} {cz : Int32} {fm : Value} (H : Ctx Z a0 cz fm) (x t y : Addr) (cs ds : List Int32) (cap : Nat) (hq1 : cs.length + ds.length ≤ cap) (hq2 : cap ≤ 34) (gzx : Z.heap.size ≤ x) (gzt : Z.heap.size ≤ t) (h0 : Heap) (Sb : OSb Z h0 x t cs cap) (Sy : OStr Z h0 y ds) :
    ConN l Z (⟨"java/lang/StringBuilder", "append", "(Ljava/lang/String;)Ljava/lang/StringBuilder;"⟩ : MethodName) jdk_67_method_7_code 2 (some (FieldType.object "java/lang/StringBuilder")) [] ({ frames := 4, cells := 0, slots := 0, locals := 103 } : Room) #[(.ref x), (.ref y)] h0 (fun r h => r = some (.ref x) ∧ Keep h0 h [x, t] ∧ OSb Z h x t (cs ++ ds) cap) := by
  obtain ⟨hw, hE, S0, hcz, S1, rf⟩ := id H
  refine ConN.of own_pf11 ?_
  intro p e s m below meth c T hby hml hret hlk hnm X0
  have EX0 := ext_refl h0
  refine OEnds.cast (own_ef5 m x y ) ?_
  show OEnds p e below _ T (mkF m 0 #[.val (.ref x), .val (.ref y)] [])
  refine OEnds.go (fun _ q => XS.aloadN X0.here X0.hx rfl (hb hby d_jdk_67_method_7_0) rfl rfl q) ?_
  refine OEnds.go (fun _ q => XS.aloadN X0.here X0.hx rfl (hb hby d_jdk_67_method_7_1) rfl rfl q) ?_
  show OEnds p e below _ T (mkF m 2 #[.val (.ref x), .val (.ref y)] [(.ref y), (.ref x)])
  refine X0.paySup (ConN.back (W := 0) (con_apN H x t y cs ds cap hq1 hq2 gzx gzt h0 Sb Sy) X0.old X0.hZ (own_k hw 110 rfl) (own_k hw 92 rfl) (by decide) (by decide)) (okN (fun _ _ q => q.2.1.1)) (own_k hw 106 rfl) (same_of (own_k hw 109 rfl) (own_k hw 126 rfl) rfl (by decide)) (own_k hw 107 rfl) (own_k hw 108 rfl) (by decide) (own_k hw 110 rfl) Sb.1 (argsL := [(.ref y)]) (rest := []) rfl (lenOf own_pd10 rfl) rfl (by rw [hml]; rfl) (Nat.le_of_eq rfl) (hb hby d_jdk_67_method_7_2) (by decide) (by decide) ?_
  intro v6 T1 h3 Lh3 X2 q7
  replace q7 := q7.1
  obtain ⟨rfl, Kq, Sq⟩ := q7
  show OEnds p e below _ T1 (mkF m 5 #[.val (.ref x), .val (.ref y)] [(.ref x)])
  refine OEnds.go (fun _ q => XS.pop X2.here X2.hx rfl (hb hby d_jdk_67_method_7_5) rfl rfl q) ?_
  refine OEnds.go (fun _ q => XS.aloadN X2.here X2.hx rfl (hb hby d_jdk_67_method_7_6) rfl rfl q) ?_
  show OEnds p e below _ T1 (mkF m 7 #[.val (.ref x), .val (.ref y)] [(.ref x)])
  exact X2.retRefN hlk rfl (t := (FieldType.object "java/lang/StringBuilder")) rfl hret (hb hby d_jdk_67_method_7_7) (by decide) (by decide) ⟨rfl, Kq, Sq⟩
theorem con_apG {l : Launch} {Z : State} {a0 : Array Value} {cz : Int32} {fm : Value} (H : Ctx Z a0 cz fm) (x t y : Addr) (cs ds : List Int32) (hq1 : 16 < cs.length + ds.length) (hq2 : cs.length + ds.length ≤ 33) (hq3 : cs.length ≤ 16) (gzx : Z.heap.size ≤ x) (gzt : Z.heap.size ≤ t) (h0 : Heap) (Sb : OSb Z h0 x t cs 16) (Sy : OStr Z h0 y ds) :
    ConN l Z (⟨"java/lang/AbstractStringBuilder", "append", "(Ljava/lang/String;)Ljava/lang/AbstractStringBuilder;"⟩ : MethodName) jdk_68_method_22_code 3 (some (FieldType.object "java/lang/AbstractStringBuilder")) [] ({ frames := 4, cells := 1, slots := 34, locals := 89 } : Room) #[(.ref x), (.ref y)] h0 (fun r h => ∃ t2 : Addr, r = some (.ref x) ∧ Keep h0 h [x] ∧ h0.size ≤ t2 ∧ OSb Z h x t2 (cs ++ ds) 34) := by
  obtain ⟨hw, hE, S0, hcz, S1, rf⟩ := id H
  refine ConN.of own_pf10 ?_
  intro p e s m below meth c T hby hml hret hlk hnm X0
  have EX0 := ext_refl h0
  refine OEnds.cast (own_ef8 m x y ) ?_
  show OEnds p e below _ T (mkF m 0 #[.val (.ref x), .val (.ref y), .unset] [])
  obtain ⟨Ex, Fn, Fc, Fv, kt, Kt⟩ := id Sb
  refine OEnds.go (fun _ q => XS.aloadN X0.here X0.hx rfl (hb hby d_jdk_68_method_22_0) rfl rfl q) ?_
  show OEnds p e below _ T (mkF m 1 #[.val (.ref x), .val (.ref y), .unset] [(.ref y)])
  refine OEnds.go (fun _ q => XS.ifnonnullYes X0.here X0.hx rfl (pc0 := 1) (pc' := 9) rfl (hb hby d_jdk_68_method_22_1) rfl (by decide) (by decide) q) ?_
  show OEnds p e below _ T (mkF m 9 #[.val (.ref x), .val (.ref y), .unset] [])
  refine OEnds.go (fun _ q => XS.aloadN X0.here X0.hx rfl (hb hby d_jdk_68_method_22_9) rfl rfl q) ?_
  show OEnds p e below _ T (mkF m 10 #[.val (.ref x), .val (.ref y), .unset] [(.ref y)])
  refine X0.payV (own_len H (W := 0) X0.hZ X0.old Sy (by decide) (by decide)) (okPure X0) (own_k hw 111 rfl) (own_k hw 112 rfl) (own_k hw 114 rfl) (own_k hw 113 rfl) (X0.nf (own_k hw 114 rfl)) (by decide) Sy.exa (argsL := []) (rest := []) rfl (lenOf own_pd7 rfl) rfl (by rw [hml]; rfl) (Nat.le_of_eq rfl) (hb hby d_jdk_68_method_22_10) (by decide) (by decide) ?_
  intro v1 T2 h3 L4 X5 q6
  obtain ⟨rfl, -, e7⟩ := q6
  obtain rfl := e7.symm
  show OEnds p e below _ T2 (mkF m 13 #[.val (.ref x), .val (.ref y), .unset] [(.int (Int32.ofNat ds.length))])
  refine OEnds.go (fun _ q => XS.istoreN X5.here X5.hx rfl (hb hby d_jdk_68_method_22_13) rfl (l' := #[.val (.ref x), .val (.ref y), .val (.int (Int32.ofNat ds.length))]) rfl q) ?_
  show OEnds p e below _ T2 (mkF m 14 #[.val (.ref x), .val (.ref y), .val (.int (Int32.ofNat ds.length))] [])
  refine OEnds.go (fun _ q => XS.aloadN X5.here X5.hx rfl (hb hby d_jdk_68_method_22_14) rfl rfl q) ?_
  show OEnds p e below _ T2 (mkF m 15 #[.val (.ref x), .val (.ref y), .val (.int (Int32.ofNat ds.length))] [(.ref x)])
  refine OEnds.go (fun _ q => XS.aloadN X5.here X5.hx rfl (hb hby d_jdk_68_method_22_15) rfl rfl q) ?_
  show OEnds p e below _ T2 (mkF m 16 #[.val (.ref x), .val (.ref y), .val (.int (Int32.ofNat ds.length))] [(.ref x), (.ref x)])
  refine X5.getF (own_k hw 121 rfl) Via.refl Fn (hb hby d_jdk_68_method_22_16) ?_
  intro T8 X9
  show OEnds p e below _ T8 (mkF m 19 #[.val (.ref x), .val (.ref y), .val (.int (Int32.ofNat ds.length))] [(.int (Int32.ofNat cs.length)), (.ref x)])
  refine OEnds.go (fun _ q => XS.iloadN X9.here X9.hx rfl (hb hby d_jdk_68_method_22_19) rfl q) ?_
  show OEnds p e below _ T8 (mkF m 20 #[.val (.ref x), .val (.ref y), .val (.int (Int32.ofNat ds.length))] [(.int (Int32.ofNat ds.length)), (.int (Int32.ofNat cs.length)), (.ref x)])
  refine OEnds.go (fun _ q => XS.iadd X9.here X9.hx rfl (hb hby d_jdk_68_method_22_20) rfl q) ?_
  show OEnds p e below _ T8 (mkF m 21 #[.val (.ref x), .val (.ref y), .val (.int (Int32.ofNat ds.length))] [(.int ((Int32.ofNat cs.length) + (Int32.ofNat ds.length))), (.ref x)])
  rw [show ((Int32.ofNat cs.length) + (Int32.ofNat ds.length)) = (Int32.ofNat (cs.length + ds.length)) from ofN_add (by omega)]
  show OEnds p e below _ T8 (mkF m 21 #[.val (.ref x), .val (.ref y), .val (.int (Int32.ofNat ds.length))] [(.int (Int32.ofNat (cs.length + ds.length))), (.ref x)])
  refine X9.payV (ConN.back (W := 0) (con_ecG H x t kt cs (cs.length + ds.length) hq1 hq2 hq3 gzx h0 Ex Fn Fc Fv Kt) X9.old X9.hZ (own_k hw 127 rfl) (own_k hw 92 rfl) (by decide) (by decide)) (okN (fun _ _ q => q.2.1.1)) (own_k hw 123 rfl) (decl_of (own_k hw 124 rfl) (own_k hw 127 rfl)) (own_k hw 126 rfl) (own_k hw 124 rfl)  (X9.nf (own_k hw 126 rfl)) (by decide)  Ex (argsL := [(.int (Int32.ofNat (cs.length + ds.length)))]) (rest := []) rfl (lenOf own_pd8 rfl) rfl (by rw [hml]; rfl) (Nat.le_of_eq rfl) (hb hby d_jdk_68_method_22_21) (by decide) (by decide) ?_
  intro v15 T10 h12 Lh12 X11 q16
  replace q16 := q16.1
  obtain ⟨rfl, Kq, t2, ft, Sb2⟩ := q16
  obtain ⟨Ex2, Fn2, Fc2, Fv2, k2, Kt2⟩ := id Sb2
  have Sy_h12 := Sy.keepX Kq Ex (own_k hw 83 rfl) (by decide)
  show OEnds p e below _ T10 (mkF m 24 #[.val (.ref x), .val (.ref y), .val (.int (Int32.ofNat ds.length))] [])
  have nxt : x ≠ t2 := Exa.neArv Ex2 Kt2 (own_k hw 83 rfl)
  have gzt2 : Z.heap.size ≤ t2 := Nat.le_trans X0.old.1 ft
  obtain ⟨Ey, Cy, ⟨yb, ky, Vy, Ky⟩, hbd, -⟩ := id Sy_h12
  refine OEnds.go (fun _ q => XS.aloadN X11.here X11.hx rfl (hb hby d_jdk_68_method_22_24) rfl rfl q) ?_
  refine OEnds.go (fun _ q => XS.aloadN X11.here X11.hx rfl (hb hby d_jdk_68_method_22_25) rfl rfl q) ?_
  show OEnds p e below _ T10 (mkF m 26 #[.val (.ref x), .val (.ref y), .val (.int (Int32.ofNat ds.length))] [(.ref x), (.ref x)])
  refine X11.getF (own_k hw 121 rfl) Via.refl Fn2 (hb hby d_jdk_68_method_22_26) ?_
  intro T17 X18
  show OEnds p e below _ T17 (mkF m 29 #[.val (.ref x), .val (.ref y), .val (.int (Int32.ofNat ds.length))] [(.int (Int32.ofNat cs.length)), (.ref x)])
  refine OEnds.go (fun _ q => XS.aloadN X18.here X18.hx rfl (hb hby d_jdk_68_method_22_29) rfl rfl q) ?_
  show OEnds p e below _ T17 (mkF m 30 #[.val (.ref x), .val (.ref y), .val (.int (Int32.ofNat ds.length))] [(.ref y), (.int (Int32.ofNat cs.length)), (.ref x)])
  refine X18.payV (ConN.back (W := 0) (con_psa H x y yb ky ds t2 k2 cs 34 (by omega) (by decide) gzt2 h12 Kt2 Ex2 Fc2 Fv2 Ey Cy Vy Ky) X18.old X18.hZ (own_k hw 132 rfl) (own_k hw 92 rfl) (by decide) (by decide)) (okN (fun _ _ q => q.2.1.1)) (own_k hw 128 rfl) (decl_of (own_k hw 129 rfl) (own_k hw 132 rfl)) (own_k hw 131 rfl) (own_k hw 129 rfl)  (X18.nf (own_k hw 131 rfl)) (by decide)  Ex2 (argsL := [(.int (Int32.ofNat cs.length)), (.ref y)]) (rest := []) rfl (lenOf own_pd9 rfl) rfl (by rw [hml]; rfl) (Nat.le_of_eq rfl) (hb hby d_jdk_68_method_22_30) (by decide) (by decide) ?_
  intro v24 T19 h21 Lh21 X20 q25
  replace q25 := q25.1
  obtain ⟨rfl, Kr, Ar⟩ := q25
  have Ex2_h21 := Ex2.keep Kr
  have Fn2_h21 := Fn2.keep Kr (ninS nxt nin0)
  have Fc2_h21 := Fc2.keep Kr (ninS nxt nin0)
  have Fv2_h21 := Fv2.keep Kr (ninS nxt nin0)
  show OEnds p e below _ T19 (mkF m 33 #[.val (.ref x), .val (.ref y), .val (.int (Int32.ofNat ds.length))] [])
  have Ks := Kq.trans Kr (allS (Or.inr ft) all0)
  refine OEnds.go (fun _ q => XS.aloadN X20.here X20.hx rfl (hb hby d_jdk_68_method_22_33) rfl rfl q) ?_
  show OEnds p e below _ T19 (mkF m 34 #[.val (.ref x), .val (.ref y), .val (.int (Int32.ofNat ds.length))] [(.ref x)])
  refine OEnds.go (fun _ q => XS.dup X20.here X20.hx rfl (hb hby d_jdk_68_method_22_34) rfl rfl q) ?_
  show OEnds p e below _ T19 (mkF m 35 #[.val (.ref x), .val (.ref y), .val (.int (Int32.ofNat ds.length))] [(.ref x), (.ref x)])
  refine X20.getF (own_k hw 121 rfl) Via.refl Fn2_h21 (hb hby d_jdk_68_method_22_35) ?_
  intro T26 X27
  show OEnds p e below _ T26 (mkF m 38 #[.val (.ref x), .val (.ref y), .val (.int (Int32.ofNat ds.length))] [(.int (Int32.ofNat cs.length)), (.ref x)])
  refine OEnds.go (fun _ q => XS.iloadN X27.here X27.hx rfl (hb hby d_jdk_68_method_22_38) rfl q) ?_
  show OEnds p e below _ T26 (mkF m 39 #[.val (.ref x), .val (.ref y), .val (.int (Int32.ofNat ds.length))] [(.int (Int32.ofNat ds.length)), (.int (Int32.ofNat cs.length)), (.ref x)])
  refine OEnds.go (fun _ q => XS.iadd X27.here X27.hx rfl (hb hby d_jdk_68_method_22_39) rfl q) ?_
  show OEnds p e below _ T26 (mkF m 40 #[.val (.ref x), .val (.ref y), .val (.int (Int32.ofNat ds.length))] [(.int ((Int32.ofNat cs.length) + (Int32.ofNat ds.length))), (.ref x)])
  rw [show ((Int32.ofNat cs.length) + (Int32.ofNat ds.length)) = (Int32.ofNat (cs.length + ds.length)) from ofN_add (by omega)]
  show OEnds p e below _ T26 (mkF m 40 #[.val (.ref x), .val (.ref y), .val (.int (Int32.ofNat ds.length))] [(.int (Int32.ofNat (cs.length + ds.length))), (.ref x)])
  refine X27.putF (v := (.int (Int32.ofNat (cs.length + ds.length)))) (own_k hw 121 rfl) Via.refl Fn2_h21 Ex2_h21 (Or.inl (own_k hw 122 rfl)) (own_k hw 83 rfl) (ty := FieldType.int) (by decide) rfl rfl safe_nil gzx (hb hby d_jdk_68_method_22_40) ?_
  intro T28 h30 X29 W31
  have Fn2_h30 := Fn2_h21.same W31
  have Ex2_h30 := Ex2_h21.wr W31
  have Fc2_h30 := Fc2_h21.other W31 (Or.inr (slot_ne (a0 := a0) (Or.inl (own_k hw 99 rfl)) (Or.inl (own_k hw 122 rfl)) (by decide) (t := FieldType.byte) (by decide) (t' := FieldType.int) (by decide)))
  have Fv2_h30 := Fv2_h21.other W31 (Or.inr (slot_ne (a0 := a0) (Or.inl (own_k hw 97 rfl)) (Or.inl (own_k hw 122 rfl)) (by decide) (t := (FieldType.array FieldType.byte)) (by decide) (t' := FieldType.int) (by decide)))
  have K32 := Ks.wr W31 (Or.inl (List.mem_of_getElem? (i := 0) rfl))
  have Ar_h30 := Ar.other W31 nxt.symm
  show OEnds p e below _ T28 (mkF m 43 #[.val (.ref x), .val (.ref y), .val (.int (Int32.ofNat ds.length))] [])
  refine OEnds.go (fun _ q => XS.aloadN X29.here X29.hx rfl (hb hby d_jdk_68_method_22_43) rfl rfl q) ?_
  show OEnds p e below _ T28 (mkF m 44 #[.val (.ref x), .val (.ref y), .val (.int (Int32.ofNat ds.length))] [(.ref x)])
  exact X29.retRefN hlk rfl (t := (FieldType.object "java/lang/AbstractStringBuilder")) rfl hret (hb hby d_jdk_68_method_22_44) (by decide) (by decide) ⟨t2, rfl, K32, ft, Ex2_h30, by rw [List.length_append]; exact Fn2_h30, Fc2_h30, Fv2_h30, k2, Ar_h30⟩
theorem con_sapG {l : Launch} {Z : State} {a0 : Array Value} {cz : Int32} {fm : Value} (H : Ctx Z a0 cz fm) (x t y : Addr) (cs ds : List Int32) (hq1 : 16 < cs.length + ds.length) (hq2 : cs.length + ds.length ≤ 33) (hq3 : cs.length ≤ 16) (gzx : Z.heap.size ≤ x) (gzt : Z.heap.size ≤ t) (h0 : Heap) (Sb : OSb Z h0 x t cs 16) (Sy : OStr Z h0 y ds) :
    ConN l Z (⟨"java/lang/StringBuilder", "append", "(Ljava/lang/String;)Ljava/lang/StringBuilder;"⟩ : MethodName) jdk_67_method_7_code 2 (some (FieldType.object "java/lang/StringBuilder")) [] ({ frames := 5, cells := 1, slots := 34, locals := 103 } : Room) #[(.ref x), (.ref y)] h0 (fun r h => ∃ t2 : Addr, r = some (.ref x) ∧ Keep h0 h [x] ∧ h0.size ≤ t2 ∧ OSb Z h x t2 (cs ++ ds) 34) := by
  obtain ⟨hw, hE, S0, hcz, S1, rf⟩ := id H
  refine ConN.of own_pf11 ?_
  intro p e s m below meth c T hby hml hret hlk hnm X0
  have EX0 := ext_refl h0
  refine OEnds.cast (own_ef5 m x y ) ?_
  show OEnds p e below _ T (mkF m 0 #[.val (.ref x), .val (.ref y)] [])
  refine OEnds.go (fun _ q => XS.aloadN X0.here X0.hx rfl (hb hby d_jdk_67_method_7_0) rfl rfl q) ?_
  refine OEnds.go (fun _ q => XS.aloadN X0.here X0.hx rfl (hb hby d_jdk_67_method_7_1) rfl rfl q) ?_
  show OEnds p e below _ T (mkF m 2 #[.val (.ref x), .val (.ref y)] [(.ref y), (.ref x)])
  refine X0.paySup (ConN.back (W := 0) (con_apG H x t y cs ds hq1 hq2 hq3 gzx gzt h0 Sb Sy) X0.old X0.hZ (own_k hw 110 rfl) (own_k hw 92 rfl) (by decide) (by decide)) (okN (fun _ _ ⟨_, _, q, _⟩ => q.1)) (own_k hw 106 rfl) (same_of (own_k hw 109 rfl) (own_k hw 126 rfl) rfl (by decide)) (own_k hw 107 rfl) (own_k hw 108 rfl) (by decide) (own_k hw 110 rfl) Sb.1 (argsL := [(.ref y)]) (rest := []) rfl (lenOf own_pd10 rfl) rfl (by rw [hml]; rfl) (Nat.le_of_eq rfl) (hb hby d_jdk_67_method_7_2) (by decide) (by decide) ?_
  intro v6 T1 h3 Lh3 X2 q7
  replace q7 := q7.1
  obtain ⟨t2, rfl, Kq, ft, Sq⟩ := q7
  show OEnds p e below _ T1 (mkF m 5 #[.val (.ref x), .val (.ref y)] [(.ref x)])
  refine OEnds.go (fun _ q => XS.pop X2.here X2.hx rfl (hb hby d_jdk_67_method_7_5) rfl rfl q) ?_
  refine OEnds.go (fun _ q => XS.aloadN X2.here X2.hx rfl (hb hby d_jdk_67_method_7_6) rfl rfl q) ?_
  show OEnds p e below _ T1 (mkF m 7 #[.val (.ref x), .val (.ref y)] [(.ref x)])
  exact X2.retRefN hlk rfl (t := (FieldType.object "java/lang/StringBuilder")) rfl hret (hb hby d_jdk_67_method_7_7) (by decide) (by decide) ⟨t2, rfl, Kq, ft, Sq⟩
theorem con_abI {l : Launch} {Z : State} {a0 : Array Value} {cz : Int32} {fm : Value} (H : Ctx Z a0 cz fm) (x : Addr) (gzx : Z.heap.size ≤ x) (h0 : Heap) (Ex : Exa Z h0 x "java/lang/StringBuilder") (Fn : Fld Z h0 x "java/lang/AbstractStringBuilder" "count" "I" (.int (0 : Int32))) (Fc : Fld Z h0 x "java/lang/AbstractStringBuilder" "coder" "B" (.int (0 : Int32))) (Fv : Fld Z h0 x "java/lang/AbstractStringBuilder" "value" "[B" .null) :
    ConN l Z (⟨"java/lang/AbstractStringBuilder", "<init>", "(I)V"⟩ : MethodName) jdk_68_method_2_code 2 (none : Option FieldType) [] ({ frames := 1, cells := 1, slots := 16, locals := 12 } : Room) #[(.ref x), (.int (16 : Int32))] h0 (fun r h => ∃ t : Addr, r = none ∧ Keep h0 h [x] ∧ h0.size ≤ t ∧ OSb Z h x t [] 16 ∧ Exa Z h t "[B") := by
  obtain ⟨hw, hE, S0, hcz, S1, rf⟩ := id H
  refine ConN.of own_pf12 ?_
  intro p e s m below meth c T hby hml hret hlk hnm X0
  have EX0 := ext_refl h0
  refine OEnds.cast (own_ef9 m x (16 : Int32) ) ?_
  show OEnds p e below _ T (mkF m 0 #[.val (.ref x), .val (.int (16 : Int32))] [])
  have K0 := Keep.refl h0 [x]
  refine OEnds.go (fun _ q => XS.aloadN X0.here X0.hx rfl (hb hby d_jdk_68_method_2_0) rfl rfl q) ?_
  show OEnds p e below _ T (mkF m 1 #[.val (.ref x), .val (.int (16 : Int32))] [(.ref x)])
  refine X0.initO (own_k hw 94 rfl) (own_k hw 16 rfl) (own_k hw 17 rfl) (by rw [hml]; rfl) (hb hby d_jdk_68_method_2_1) (by decide) (W := 0) (Nat.le_of_eq rfl) (by decide) ?_
  intro T1 X2
  show OEnds p e below _ T1 (mkF m 4 #[.val (.ref x), .val (.int (16 : Int32))] [])
  refine X2.getS (own_k hw 95 rfl) Via.refl (S0.ext X2.old) (hb hby d_jdk_68_method_2_4) ?_
  intro T3 X4
  show OEnds p e below _ T3 (mkF m 7 #[.val (.ref x), .val (.int (16 : Int32))] [(.int cz)])
  refine OEnds.go (fun _ q => XS.ifNo X4.here X4.hx rfl (hb hby d_jdk_68_method_2_7) rfl ((if0 _ _).trans (feq hcz).1) q) ?_
  show OEnds p e below _ T3 (mkF m 10 #[.val (.ref x), .val (.int (16 : Int32))] [])
  refine OEnds.go (fun _ q => XS.aloadN X4.here X4.hx rfl (hb hby d_jdk_68_method_2_10) rfl rfl q) ?_
  show OEnds p e below _ T3 (mkF m 11 #[.val (.ref x), .val (.int (16 : Int32))] [(.ref x)])
  refine OEnds.go (fun _ q => XS.iloadN X4.here X4.hx rfl (hb hby d_jdk_68_method_2_11) rfl q) ?_
  show OEnds p e below _ T3 (mkF m 12 #[.val (.ref x), .val (.int (16 : Int32))] [(.int (16 : Int32)), (.ref x)])
  refine X4.newPE (own_k hw 23 rfl) (hb hby d_jdk_68_method_2_12) (by decide) (cap := 16) (by decide) (by decide) (by decide) (by decide) (ad := "[B") (by decide +kernel) ?_
  intro T5 h7 a9 ka9 ga9 X6 E8 Ka9 Aa9
  have gza9 : Z.heap.size ≤ a9 := ga9 ▸ X4.old.1
  have Ex_h7 := Ex.ext E8
  have Fc_h7 := Fc.ext E8
  have Fn_h7 := Fn.ext E8
  have Fv_h7 := Fv.ext E8
  have EX_h7 := ext_trans EX0 E8
  have Kpx_h7 := K0.ext E8
  have Ka9_0 : Arv Z h7 a9 ka9 .byte (16 : Int32) [] (.int (0 : Int32)) := Ka9
  show OEnds p e below _ T5 (mkF m 14 #[.val (.ref x), .val (.int (16 : Int32))] [(.ref a9), (.ref x)])
  refine X6.putF (v := (.ref a9)) (own_k hw 96 rfl) Via.refl Fv_h7 Ex_h7 (Or.inl (own_k hw 97 rfl)) (own_k hw 83 rfl) (ty := (FieldType.array FieldType.byte)) (by decide) rfl rfl safe_nil gzx (hb hby d_jdk_68_method_2_14) ?_
  intro T10 h12 X11 W13
  have Fv_h12 := Fv_h7.same W13
  have Ex_h12 := Ex_h7.wr W13
  have Fc_h12 := Fc_h7.other W13 (Or.inr (slot_ne (a0 := a0) (Or.inl (own_k hw 99 rfl)) (Or.inl (own_k hw 97 rfl)) (by decide) (t := FieldType.byte) (by decide) (t' := (FieldType.array FieldType.byte)) (by decide)))
  have Fn_h12 := Fn_h7.other W13 (Or.inr (slot_ne (a0 := a0) (Or.inl (own_k hw 122 rfl)) (Or.inl (own_k hw 97 rfl)) (by decide) (t := FieldType.int) (by decide) (t' := (FieldType.array FieldType.byte)) (by decide)))
  have K14 := Kpx_h7.wr W13 (Or.inl (List.mem_of_getElem? (i := 0) rfl))
  have Ka9_0_h12 := Ka9_0.other W13 (Nat.ne_of_gt (Nat.lt_of_lt_of_le Ex.lt (Nat.le_of_eq ga9)))
  have Aa9_h12 := Aa9.wr W13
  show OEnds p e below _ T10 (mkF m 17 #[.val (.ref x), .val (.int (16 : Int32))] [])
  refine OEnds.go (fun _ q => XS.aloadN X11.here X11.hx rfl (hb hby d_jdk_68_method_2_17) rfl rfl q) ?_
  refine OEnds.go (fun _ q => XS.iconst X11.here X11.hx rfl (hb hby d_jdk_68_method_2_18) q) ?_
  show OEnds p e below _ T10 (mkF m 19 #[.val (.ref x), .val (.int (16 : Int32))] [(.int (0 : Int32)), (.ref x)])
  refine X11.putF (v := (.int (0 : Int32))) (own_k hw 98 rfl) Via.refl Fc_h12 Ex_h12 (Or.inl (own_k hw 99 rfl)) (own_k hw 83 rfl) (ty := FieldType.byte) (by decide) rfl rfl safe_nil gzx (hb hby d_jdk_68_method_2_19) ?_
  intro T15 h17 X16 W18
  have Fc_h17 := Fc_h12.same W18
  have Ex_h17 := Ex_h12.wr W18
  have Fv_h17 := Fv_h12.other W18 (Or.inr (slot_ne (a0 := a0) (Or.inl (own_k hw 97 rfl)) (Or.inl (own_k hw 99 rfl)) (by decide) (t := (FieldType.array FieldType.byte)) (by decide) (t' := FieldType.byte) (by decide)))
  have Fn_h17 := Fn_h12.other W18 (Or.inr (slot_ne (a0 := a0) (Or.inl (own_k hw 122 rfl)) (Or.inl (own_k hw 99 rfl)) (by decide) (t := FieldType.int) (by decide) (t' := FieldType.byte) (by decide)))
  have K19 := K14.wr W18 (Or.inl (List.mem_of_getElem? (i := 0) rfl))
  have Ka9_0_h17 := Ka9_0_h12.other W18 (Nat.ne_of_gt (Nat.lt_of_lt_of_le Ex.lt (Nat.le_of_eq ga9)))
  have Aa9_h17 := Aa9_h12.wr W18
  show OEnds p e below _ T15 (mkF m 22 #[.val (.ref x), .val (.int (16 : Int32))] [])
  refine OEnds.go (fun _ q => XS.goto X16.here X16.hx rfl (pc0 := 22) (pc' := 38) rfl (hb hby d_jdk_68_method_2_22) (by decide) (by decide) q) ?_
  show OEnds p e below _ T15 (mkF m 38 #[.val (.ref x), .val (.int (16 : Int32))] [])
  exact X16.ret0N hlk  hret (hb hby d_jdk_68_method_2_38) (by decide) (by decide) ⟨a9, rfl, K19, Nat.le_of_eq ga9, ⟨Ex_h17, Fn_h17, Fc_h17, Fv_h17, ka9, Ka9_0_h17⟩, Aa9_h17⟩
theorem con_sbI {l : Launch} {Z : State} {a0 : Array Value} {cz : Int32} {fm : Value} (H : Ctx Z a0 cz fm) (x : Addr) (gzx : Z.heap.size ≤ x) (h0 : Heap) (Ex : Exa Z h0 x "java/lang/StringBuilder") (Fn : Fld Z h0 x "java/lang/AbstractStringBuilder" "count" "I" (.int (0 : Int32))) (Fc : Fld Z h0 x "java/lang/AbstractStringBuilder" "coder" "B" (.int (0 : Int32))) (Fv : Fld Z h0 x "java/lang/AbstractStringBuilder" "value" "[B" .null) :
    ConN l Z (⟨"java/lang/StringBuilder", "<init>", "()V"⟩ : MethodName) jdk_67_method_1_code 1 (none : Option FieldType) [] ({ frames := 2, cells := 1, slots := 16, locals := 25 } : Room) #[(.ref x)] h0 (fun r h => ∃ t : Addr, r = none ∧ Keep h0 h [x] ∧ h0.size ≤ t ∧ OSb Z h x t [] 16 ∧ Exa Z h t "[B") := by
  obtain ⟨hw, hE, S0, hcz, S1, rf⟩ := id H
  refine ConN.of own_pf13 ?_
  intro p e s m below meth c T hby hml hret hlk hnm X0
  have EX0 := ext_refl h0
  refine OEnds.cast (own_ef4 m x ) ?_
  show OEnds p e below _ T (mkF m 0 #[.val (.ref x)] [])
  refine OEnds.go (fun _ q => XS.aloadN X0.here X0.hx rfl (hb hby d_jdk_67_method_1_0) rfl rfl q) ?_
  refine OEnds.go (fun _ q => XS.bipush X0.here X0.hx rfl (hb hby d_jdk_67_method_1_1) q) ?_
  show OEnds p e below _ T (mkF m 3 #[.val (.ref x)] [(.int (16 : Int32)), (.ref x)])
  refine X0.payI (ConN.back (W := 0) (con_abI H x gzx h0 Ex Fn Fc Fv) X0.old X0.hZ (own_k hw 93 rfl) (own_k hw 92 rfl) (by decide) (by decide)) (okN (fun _ _ ⟨_, _, q, _⟩ => q.1)) (own_k hw 88 rfl) (own_k hw 89 rfl)  (own_k hw 93 rfl) rfl (by decide)  (a := x) (argsL := [(.int (16 : Int32))]) (rest := []) rfl (lenOf own_pd8 rfl) rfl (by rw [hml]; rfl) (Nat.le_of_eq rfl) (hb hby d_jdk_67_method_1_3) (by decide) (by decide) ?_
  intro v6 T1 h3 Lh3 X2 q7
  replace q7 := q7.1
  obtain ⟨t, rfl, Kq, ft, Sq, Aq⟩ := q7
  show OEnds p e below _ T1 (mkF m 6 #[.val (.ref x)] [])
  exact X2.ret0N hlk  hret (hb hby d_jdk_67_method_1_6) (by decide) (by decide) ⟨t, rfl, Kq, ft, Sq, Aq⟩
theorem con_gv {l : Launch} {Z : State} {a0 : Array Value} {cz : Int32} {fm : Value} (H : Ctx Z a0 cz fm) (a : Addr) (v : Addr) (h0 : Heap) (Fa : Fld Z h0 a "java/lang/AbstractStringBuilder" "value" "[B" (.ref v)) :
    ConN l Z (⟨"java/lang/AbstractStringBuilder", "getValue", "()[B"⟩ : MethodName) jdk_68_method_64_code 1 (some (FieldType.array FieldType.byte)) [] ({ frames := 0, cells := 0, slots := 0, locals := 0 } : Room) #[(.ref a)] h0 (fun r h => r = some (.ref v) ∧ h0 = h) := by
  obtain ⟨hw, hE, S0, hcz, S1, rf⟩ := id H
  refine ConN.of own_pf14 ?_
  intro p e s m below meth c T hby hml hret hlk hnm X0
  have EX0 := ext_refl h0
  refine OEnds.cast (own_ef4 m a ) ?_
  show OEnds p e below _ T (mkF m 0 #[.val (.ref a)] [])
  refine OEnds.go (fun _ q => XS.aloadN X0.here X0.hx rfl (hb hby d_jdk_68_method_64_0) rfl rfl q) ?_
  show OEnds p e below _ T (mkF m 1 #[.val (.ref a)] [(.ref a)])
  refine X0.getF (own_k hw 96 rfl) Via.refl Fa (hb hby d_jdk_68_method_64_1) ?_
  intro T1 X2
  show OEnds p e below _ T1 (mkF m 4 #[.val (.ref a)] [(.ref v)])
  exact X2.retRefN hlk rfl (t := (FieldType.array FieldType.byte)) rfl hret (hb hby d_jdk_68_method_64_4) (by decide) (by decide) ⟨rfl, rfl⟩
theorem con_aln {l : Launch} {Z : State} {a0 : Array Value} {cz : Int32} {fm : Value} (H : Ctx Z a0 cz fm) (a : Addr) (v : Int32) (h0 : Heap) (Fa : Fld Z h0 a "java/lang/AbstractStringBuilder" "count" "I" (.int v)) :
    ConN l Z (⟨"java/lang/AbstractStringBuilder", "length", "()I"⟩ : MethodName) jdk_68_method_6_code 1 (some FieldType.int) [] ({ frames := 0, cells := 0, slots := 0, locals := 0 } : Room) #[(.ref a)] h0 (fun r h => r = some (.int v) ∧ h0 = h) := by
  obtain ⟨hw, hE, S0, hcz, S1, rf⟩ := id H
  refine ConN.of own_pf15 ?_
  intro p e s m below meth c T hby hml hret hlk hnm X0
  have EX0 := ext_refl h0
  refine OEnds.cast (own_ef4 m a ) ?_
  show OEnds p e below _ T (mkF m 0 #[.val (.ref a)] [])
  refine OEnds.go (fun _ q => XS.aloadN X0.here X0.hx rfl (hb hby d_jdk_68_method_6_0) rfl rfl q) ?_
  show OEnds p e below _ T (mkF m 1 #[.val (.ref a)] [(.ref a)])
  refine X0.getF (own_k hw 121 rfl) Via.refl Fa (hb hby d_jdk_68_method_6_1) ?_
  intro T1 X2
  show OEnds p e below _ T1 (mkF m 4 #[.val (.ref a)] [(.int v)])
  exact X2.retIntN hlk  hret (hb hby d_jdk_68_method_6_4) (by decide) (by decide) ⟨rfl, rfl⟩
theorem con_sln {l : Launch} {Z : State} {a0 : Array Value} {cz : Int32} {fm : Value} (H : Ctx Z a0 cz fm) (a : Addr) (v : Int32) (h0 : Heap) (Ea : Exa Z h0 a "java/lang/StringBuilder") (Fa : Fld Z h0 a "java/lang/AbstractStringBuilder" "count" "I" (.int v)) :
    ConN l Z (⟨"java/lang/StringBuilder", "length", "()I"⟩ : MethodName) jdk_67_method_93_code 1 (some FieldType.int) [] ({ frames := 1, cells := 0, slots := 0, locals := 12 } : Room) #[(.ref a)] h0 (fun r h => r = some (.int v) ∧ h0 = h) := by
  obtain ⟨hw, hE, S0, hcz, S1, rf⟩ := id H
  refine ConN.of own_pf16 ?_
  intro p e s m below meth c T hby hml hret hlk hnm X0
  have EX0 := ext_refl h0
  refine OEnds.cast (own_ef4 m a ) ?_
  show OEnds p e below _ T (mkF m 0 #[.val (.ref a)] [])
  refine OEnds.go (fun _ q => XS.aloadN X0.here X0.hx rfl (hb hby d_jdk_67_method_93_0) rfl rfl q) ?_
  show OEnds p e below _ T (mkF m 1 #[.val (.ref a)] [(.ref a)])
  refine X0.paySup (ConN.back (W := 0) (con_aln H a v h0 Fa) X0.old X0.hZ (own_k hw 196 rfl) (own_k hw 92 rfl) (by decide) (by decide)) (okN (fun _ _ q => Nat.le_of_eq (congrArg Array.size q.2))) (own_k hw 195 rfl) (same_of (own_k hw 190 rfl) (own_k hw 126 rfl) rfl (by decide)) (own_k hw 191 rfl) (own_k hw 108 rfl) (by decide) (own_k hw 196 rfl) Ea (argsL := []) (rest := []) rfl (lenOf own_pd7 rfl) rfl (by rw [hml]; rfl) (Nat.le_of_eq rfl) (hb hby d_jdk_67_method_93_1) (by decide) (by decide) ?_
  intro v6 T1 h3 Lh3 X2 q7
  replace q7 := q7.1
  obtain ⟨rfl, rfl⟩ := q7
  show OEnds p e below _ T1 (mkF m 4 #[.val (.ref a)] [(.int v)])
  exact X2.retIntN hlk  hret (hb hby d_jdk_67_method_93_4) (by decide) (by decide) ⟨rfl, rfl⟩
theorem con_ail {l : Launch} {Z : State} {a0 : Array Value} {cz : Int32} {fm : Value} (H : Ctx Z a0 cz fm) (x : Addr) (h0 : Heap) (Fc : Fld Z h0 x "java/lang/AbstractStringBuilder" "coder" "B" (.int (0 : Int32))) :
    ConN l Z (⟨"java/lang/AbstractStringBuilder", "isLatin1", "()Z"⟩ : MethodName) jdk_68_method_68_code 1 (some FieldType.boolean) [] ({ frames := 0, cells := 0, slots := 0, locals := 0 } : Room) #[(.ref x)] h0 (fun r h => r = some (.int 1) ∧ h0 = h) := by
  obtain ⟨hw, hE, S0, hcz, S1, rf⟩ := id H
  refine ConN.of own_pf17 ?_
  intro p e s m below meth c T hby hml hret hlk hnm X0
  have EX0 := ext_refl h0
  refine OEnds.cast (own_ef4 m x ) ?_
  show OEnds p e below _ T (mkF m 0 #[.val (.ref x)] [])
  refine X0.getS (own_k hw 95 rfl) Via.refl (S0.ext X0.old) (hb hby d_jdk_68_method_68_0) ?_
  intro T1 X2
  show OEnds p e below _ T1 (mkF m 3 #[.val (.ref x)] [(.int cz)])
  refine OEnds.go (fun _ q => XS.ifNo X2.here X2.hx rfl (hb hby d_jdk_68_method_68_3) rfl ((if0 _ _).trans (feq hcz).1) q) ?_
  show OEnds p e below _ T1 (mkF m 6 #[.val (.ref x)] [])
  refine OEnds.go (fun _ q => XS.aloadN X2.here X2.hx rfl (hb hby d_jdk_68_method_68_6) rfl rfl q) ?_
  show OEnds p e below _ T1 (mkF m 7 #[.val (.ref x)] [(.ref x)])
  refine X2.getF (own_k hw 98 rfl) Via.refl Fc (hb hby d_jdk_68_method_68_7) ?_
  intro T3 X4
  show OEnds p e below _ T3 (mkF m 10 #[.val (.ref x)] [(.int (0 : Int32))])
  refine OEnds.go (fun _ q => XS.ifNo X4.here X4.hx rfl (hb hby d_jdk_68_method_68_10) rfl ((if0 _ _).trans (teq (rfl : (0 : Int32) = 0)).2) q) ?_
  show OEnds p e below _ T3 (mkF m 13 #[.val (.ref x)] [])
  refine OEnds.go (fun _ q => XS.iconst X4.here X4.hx rfl (hb hby d_jdk_68_method_68_13) q) ?_
  refine OEnds.go (fun _ q => XS.goto X4.here X4.hx rfl (pc0 := 14) (pc' := 18) rfl (hb hby d_jdk_68_method_68_14) (by decide) (by decide) q) ?_
  show OEnds p e below _ T3 (mkF m 18 #[.val (.ref x)] [(.int (1 : Int32))])
  exact X4.retBoolN hlk (by first | exact Or.inl rfl | exact Or.inr rfl | assumption) hret (hb hby d_jdk_68_method_68_18) (by decide) (by decide) ⟨rfl, rfl⟩
theorem con_ckl {l : Launch} {Z : State} {a0 : Array Value} {cz : Int32} {fm : Value} (H : Ctx Z a0 cz fm) (u v : Int32) (hc : ¬ v < u) (h0 : Heap)  :
    ConN l Z (⟨"java/util/Arrays", "checkLength", "(II)V"⟩ : MethodName) jdk_65_method_131_code 2 (none : Option FieldType) [] ({ frames := 0, cells := 0, slots := 0, locals := 0 } : Room) #[(.int u), (.int v)] h0 (fun r h => r = none ∧ h0 = h) := by
  obtain ⟨hw, hE, S0, hcz, S1, rf⟩ := id H
  refine ConN.of own_pf18 ?_
  intro p e s m below meth c T hby hml hret hlk hnm X0
  have EX0 := ext_refl h0
  refine OEnds.cast (own_ef0 m u v ) ?_
  show OEnds p e below _ T (mkF m 0 #[.val (.int u), .val (.int v)] [])
  refine OEnds.go (fun _ q => XS.iloadN X0.here X0.hx rfl (hb hby d_jdk_65_method_131_0) rfl q) ?_
  refine OEnds.go (fun _ q => XS.iloadN X0.here X0.hx rfl (hb hby d_jdk_65_method_131_1) rfl q) ?_
  show OEnds p e below _ T (mkF m 2 #[.val (.int u), .val (.int v)] [(.int u), (.int v)])
  refine OEnds.go (fun _ q => XS.icmpYes X0.here X0.hx rfl (pc0 := 2) (pc' := 37) rfl (hb hby d_jdk_65_method_131_2) rfl (flt hc).2.1 (by decide) (by decide) q) ?_
  show OEnds p e below _ T (mkF m 37 #[.val (.int u), .val (.int v)] [])
  exact X0.ret0N hlk  hret (hb hby d_jdk_65_method_131_37) (by decide) (by decide) ⟨rfl, rfl⟩
theorem con_crb {l : Launch} {Z : State} {a0 : Array Value} {cz : Int32} {fm : Value} (H : Ctx Z a0 cz fm) (t : Addr) (kt : ClassId) (cs : List Int32) (cap : Nat) (hq2 : cap ≤ 34) (hq1 : cs.length < cap) (h0 : Heap) (Kt : Arv Z h0 t kt .byte (Int32.ofNat cap) ((cs.map lo8).map Value.int) (.int (0 : Int32))) :
    ConN l Z (⟨"java/util/Arrays", "copyOfRangeByte", "([BII)[B"⟩ : MethodName) jdk_65_method_133_code 5 (some (FieldType.array FieldType.byte)) [] ({ frames := 1, cells := 1, slots := 34, locals := 60 } : Room) #[(.ref t), (.int (0 : Int32)), (.int (Int32.ofNat cs.length))] h0 (fun r h => ∃ (t2 : Addr) (k2 : ClassId), r = some (.ref t2) ∧ Ext h0 h ∧ Arv Z h t2 k2 .byte (Int32.ofNat cs.length) ((cs.map lo8).map Value.int) (.int (0 : Int32))) := by
  obtain ⟨hw, hE, S0, hcz, S1, rf⟩ := id H
  refine ConN.of own_pf19 ?_
  intro p e s m below meth c T hby hml hret hlk hnm X0
  have EX0 := ext_refl h0
  refine OEnds.cast (own_ef10 m t (0 : Int32) (Int32.ofNat cs.length) ) ?_
  show OEnds p e below _ T (mkF m 0 #[.val (.ref t), .val (.int (0 : Int32)), .val (.int (Int32.ofNat cs.length)), .unset, .unset] [])
  refine OEnds.go (fun _ q => XS.iloadN X0.here X0.hx rfl (hb hby d_jdk_65_method_133_0) rfl q) ?_
  refine OEnds.go (fun _ q => XS.iloadN X0.here X0.hx rfl (hb hby d_jdk_65_method_133_1) rfl q) ?_
  show OEnds p e below _ T (mkF m 2 #[.val (.ref t), .val (.int (0 : Int32)), .val (.int (Int32.ofNat cs.length)), .unset, .unset] [(.int (Int32.ofNat cs.length)), (.int (0 : Int32))])
  refine X0.payS (ConN.back (W := 0) (con_ckl H (0 : Int32) (Int32.ofNat cs.length) (ofN_neg (by omega)) h0) X0.old X0.hZ (own_k hw 210 rfl) (own_k hw 166 rfl) (by decide) (by decide)) (okN (fun _ _ q => Nat.le_of_eq (congrArg Array.size q.2))) (own_k hw 208 rfl) (own_k hw 209 rfl) (own_k hw 166 rfl) (own_k hw 210 rfl)  (by decide)  (argsL := [(.int (0 : Int32)), (.int (Int32.ofNat cs.length))]) (rest := []) rfl (lenOf own_pd11 rfl) rfl (by rw [hml]; rfl) (Nat.le_of_eq rfl) (hb hby d_jdk_65_method_133_2) (by decide) (by decide) ?_
  intro v6 T1 h3 Lh3 X2 q7
  replace q7 := q7.1
  obtain ⟨rfl, rfl⟩ := q7
  show OEnds p e below _ T1 (mkF m 5 #[.val (.ref t), .val (.int (0 : Int32)), .val (.int (Int32.ofNat cs.length)), .unset, .unset] [])
  refine OEnds.go (fun _ q => XS.iloadN X2.here X2.hx rfl (hb hby d_jdk_65_method_133_5) rfl q) ?_
  show OEnds p e below _ T1 (mkF m 6 #[.val (.ref t), .val (.int (0 : Int32)), .val (.int (Int32.ofNat cs.length)), .unset, .unset] [(.int (Int32.ofNat cs.length))])
  refine OEnds.go (fun _ q => XS.iloadN X2.here X2.hx rfl (hb hby d_jdk_65_method_133_6) rfl q) ?_
  show OEnds p e below _ T1 (mkF m 7 #[.val (.ref t), .val (.int (0 : Int32)), .val (.int (Int32.ofNat cs.length)), .unset, .unset] [(.int (0 : Int32)), (.int (Int32.ofNat cs.length))])
  refine OEnds.go (fun _ q => XS.isub X2.here X2.hx rfl (hb hby d_jdk_65_method_133_7) rfl q) ?_
  show OEnds p e below _ T1 (mkF m 8 #[.val (.ref t), .val (.int (0 : Int32)), .val (.int (Int32.ofNat cs.length)), .unset, .unset] [(.int ((Int32.ofNat cs.length) - (0 : Int32)))])
  rw [show ((Int32.ofNat cs.length) - (0 : Int32)) = (Int32.ofNat cs.length) from ofN_sub (b := 0) (by omega) (by omega)]
  show OEnds p e below _ T1 (mkF m 8 #[.val (.ref t), .val (.int (0 : Int32)), .val (.int (Int32.ofNat cs.length)), .unset, .unset] [(.int (Int32.ofNat cs.length))])
  refine OEnds.go (fun _ q => XS.istoreN X2.here X2.hx rfl (hb hby d_jdk_65_method_133_8) rfl (l' := #[.val (.ref t), .val (.int (0 : Int32)), .val (.int (Int32.ofNat cs.length)), .val (.int (Int32.ofNat cs.length)), .unset]) rfl q) ?_
  show OEnds p e below _ T1 (mkF m 9 #[.val (.ref t), .val (.int (0 : Int32)), .val (.int (Int32.ofNat cs.length)), .val (.int (Int32.ofNat cs.length)), .unset] [])
  refine OEnds.go (fun _ q => XS.iloadN X2.here X2.hx rfl (hb hby d_jdk_65_method_133_9) rfl q) ?_
  show OEnds p e below _ T1 (mkF m 10 #[.val (.ref t), .val (.int (0 : Int32)), .val (.int (Int32.ofNat cs.length)), .val (.int (Int32.ofNat cs.length)), .unset] [(.int (Int32.ofNat cs.length))])
  refine X2.newP (own_k hw 23 rfl) (hb hby d_jdk_65_method_133_10) (ofN_neg (by omega)) (cap := 34) (by rw [ofN_nat (by omega)]; omega) (by decide) (by decide) (by decide) ?_
  intro T8 h10 a12 ka12 ga12 X9 E11 Ka12
  have gza12 : Z.heap.size ≤ a12 := ga12 ▸ X2.old.1
  have Kt_h10 := Kt.ext E11
  have EX_h10 := ext_trans EX0 E11
  have Ka12_0 : Arv Z h10 a12 ka12 .byte (Int32.ofNat cs.length) [] (.int (0 : Int32)) := Ka12
  show OEnds p e below _ T8 (mkF m 12 #[.val (.ref t), .val (.int (0 : Int32)), .val (.int (Int32.ofNat cs.length)), .val (.int (Int32.ofNat cs.length)), .unset] [(.ref a12)])
  have Ka12_p := Ka12_0.pad (pad_rep [] (.int (0 : Int32)) cs.length)
  refine OEnds.go (fun _ q => XS.astore X9.here X9.hx rfl (hb hby d_jdk_65_method_133_12) rfl rfl (l' := #[.val (.ref t), .val (.int (0 : Int32)), .val (.int (Int32.ofNat cs.length)), .val (.int (Int32.ofNat cs.length)), .val (.ref a12)]) rfl q) ?_
  show OEnds p e below _ T8 (mkF m 14 #[.val (.ref t), .val (.int (0 : Int32)), .val (.int (Int32.ofNat cs.length)), .val (.int (Int32.ofNat cs.length)), .val (.ref a12)] [])
  refine OEnds.go (fun _ q => XS.aloadN X9.here X9.hx rfl (hb hby d_jdk_65_method_133_14) rfl rfl q) ?_
  show OEnds p e below _ T8 (mkF m 15 #[.val (.ref t), .val (.int (0 : Int32)), .val (.int (Int32.ofNat cs.length)), .val (.int (Int32.ofNat cs.length)), .val (.ref a12)] [(.ref t)])
  refine OEnds.go (fun _ q => XS.iloadN X9.here X9.hx rfl (hb hby d_jdk_65_method_133_15) rfl q) ?_
  show OEnds p e below _ T8 (mkF m 16 #[.val (.ref t), .val (.int (0 : Int32)), .val (.int (Int32.ofNat cs.length)), .val (.int (Int32.ofNat cs.length)), .val (.ref a12)] [(.int (0 : Int32)), (.ref t)])
  refine OEnds.go (fun _ q => XS.aload X9.here X9.hx rfl (hb hby d_jdk_65_method_133_16) rfl rfl q) ?_
  show OEnds p e below _ T8 (mkF m 18 #[.val (.ref t), .val (.int (0 : Int32)), .val (.int (Int32.ofNat cs.length)), .val (.int (Int32.ofNat cs.length)), .val (.ref a12)] [(.ref a12), (.int (0 : Int32)), (.ref t)])
  refine OEnds.go (fun _ q => XS.iconst X9.here X9.hx rfl (hb hby d_jdk_65_method_133_18) q) ?_
  show OEnds p e below _ T8 (mkF m 19 #[.val (.ref t), .val (.int (0 : Int32)), .val (.int (Int32.ofNat cs.length)), .val (.int (Int32.ofNat cs.length)), .val (.ref a12)] [(.int (0 : Int32)), (.ref a12), (.int (0 : Int32)), (.ref t)])
  refine OEnds.go (fun _ q => XS.aloadN X9.here X9.hx rfl (hb hby d_jdk_65_method_133_19) rfl rfl q) ?_
  show OEnds p e below _ T8 (mkF m 20 #[.val (.ref t), .val (.int (0 : Int32)), .val (.int (Int32.ofNat cs.length)), .val (.int (Int32.ofNat cs.length)), .val (.ref a12)] [(.ref t), (.int (0 : Int32)), (.ref a12), (.int (0 : Int32)), (.ref t)])
  refine X9.alen Kt_h10 (hb hby d_jdk_65_method_133_20) ?_
  show OEnds p e below _ T8 (mkF m 21 #[.val (.ref t), .val (.int (0 : Int32)), .val (.int (Int32.ofNat cs.length)), .val (.int (Int32.ofNat cs.length)), .val (.ref a12)] [(.int (Int32.ofNat cap)), (.int (0 : Int32)), (.ref a12), (.int (0 : Int32)), (.ref t)])
  refine OEnds.go (fun _ q => XS.iloadN X9.here X9.hx rfl (hb hby d_jdk_65_method_133_21) rfl q) ?_
  show OEnds p e below _ T8 (mkF m 22 #[.val (.ref t), .val (.int (0 : Int32)), .val (.int (Int32.ofNat cs.length)), .val (.int (Int32.ofNat cs.length)), .val (.ref a12)] [(.int (0 : Int32)), (.int (Int32.ofNat cap)), (.int (0 : Int32)), (.ref a12), (.int (0 : Int32)), (.ref t)])
  refine OEnds.go (fun _ q => XS.isub X9.here X9.hx rfl (hb hby d_jdk_65_method_133_22) rfl q) ?_
  show OEnds p e below _ T8 (mkF m 23 #[.val (.ref t), .val (.int (0 : Int32)), .val (.int (Int32.ofNat cs.length)), .val (.int (Int32.ofNat cs.length)), .val (.ref a12)] [(.int ((Int32.ofNat cap) - (0 : Int32))), (.int (0 : Int32)), (.ref a12), (.int (0 : Int32)), (.ref t)])
  rw [show ((Int32.ofNat cap) - (0 : Int32)) = (Int32.ofNat cap) from ofN_sub (b := 0) (by omega) (by omega)]
  show OEnds p e below _ T8 (mkF m 23 #[.val (.ref t), .val (.int (0 : Int32)), .val (.int (Int32.ofNat cs.length)), .val (.int (Int32.ofNat cs.length)), .val (.ref a12)] [(.int (Int32.ofNat cap)), (.int (0 : Int32)), (.ref a12), (.int (0 : Int32)), (.ref t)])
  refine OEnds.go (fun _ q => XS.iloadN X9.here X9.hx rfl (hb hby d_jdk_65_method_133_23) rfl q) ?_
  show OEnds p e below _ T8 (mkF m 24 #[.val (.ref t), .val (.int (0 : Int32)), .val (.int (Int32.ofNat cs.length)), .val (.int (Int32.ofNat cs.length)), .val (.ref a12)] [(.int (Int32.ofNat cs.length)), (.int (Int32.ofNat cap)), (.int (0 : Int32)), (.ref a12), (.int (0 : Int32)), (.ref t)])
  refine X9.payS (ConN.back (W := 4) (con_minG H (Int32.ofNat cap) (Int32.ofNat cs.length) ((ofN_lt (by omega) (by omega)).mpr hq1) h10) X9.old X9.hZ (own_k hw 170 rfl) (own_k hw 160 rfl) (by decide) (by decide)) (okN (fun _ _ q => Nat.le_of_eq (congrArg Array.size q.2))) (own_k hw 168 rfl) (own_k hw 169 rfl) (own_k hw 160 rfl) (own_k hw 170 rfl)  (by decide)  (argsL := [(.int (Int32.ofNat cap)), (.int (Int32.ofNat cs.length))]) (rest := [(.int (0 : Int32)), (.ref a12), (.int (0 : Int32)), (.ref t)]) rfl (lenOf own_pd0 rfl) rfl (by rw [hml]; rfl) (Nat.le_of_eq rfl) (hb hby d_jdk_65_method_133_24) (by decide) (by decide) ?_
  intro v18 T13 h15 Lh15 X14 q19
  replace q19 := q19.1
  obtain ⟨rfl, rfl⟩ := q19
  show OEnds p e below _ T13 (mkF m 27 #[.val (.ref t), .val (.int (0 : Int32)), .val (.int (Int32.ofNat cs.length)), .val (.int (Int32.ofNat cs.length)), .val (.ref a12)] [(.int (Int32.ofNat cs.length)), (.int (0 : Int32)), (.ref a12), (.int (0 : Int32)), (.ref t)])
  refine X14.cpB (own_k hw 171 rfl) (own_k hw 147 rfl) (own_k hw 145 rfl) (own_k hw 146 rfl) Kt_h10 Ka12_p (by decide) (by decide) (ofN_neg (by omega)) (by rw [ofN_nat (by omega), ofN_nat (by omega)]; show 0 + _ ≤ _; omega) (by rw [ofN_nat (by omega)]; show 0 + _ ≤ _; omega) (us := ((cs.map lo8).map Value.int)) (by rw [ofN_nat (by omega)]; exact own_rng (by simp)) (by rw [ofN_nat (by omega)]; show 0 + _ ≤ _; simp) safe_nil gza12 (by rw [hml]; rfl) (hb hby d_jdk_65_method_133_27) (by decide) (W := 0) (Nat.le_of_eq rfl) (by decide) ?_
  intro T20 h22 X21 K23 B24
  have hB : Arv Z h22 a12 ka12 .byte (Int32.ofNat cs.length) ((cs.map lo8).map Value.int) (.int (0 : Int32)) := by
    have q := B24
    rw [ofN_nat (by omega)] at q
    exact q.pad (own_app (A := []) (D := ((cs.map lo8).map Value.int)) rfl)
  have EBa12_h22 := ext_keep E11 K23 (allS (Nat.le_of_eq ga12) all0)
  have Kt_h22 := Kt.ext EBa12_h22
  have EX_h22 := ext_keep EX_h10 K23 (allS (Nat.le_trans EX0.1 (Nat.le_of_eq ga12)) all0)
  show OEnds p e below _ T20 (mkF m 30 #[.val (.ref t), .val (.int (0 : Int32)), .val (.int (Int32.ofNat cs.length)), .val (.int (Int32.ofNat cs.length)), .val (.ref a12)] [])
  refine OEnds.go (fun _ q => XS.aload X21.here X21.hx rfl (hb hby d_jdk_65_method_133_30) rfl rfl q) ?_
  show OEnds p e below _ T20 (mkF m 32 #[.val (.ref t), .val (.int (0 : Int32)), .val (.int (Int32.ofNat cs.length)), .val (.int (Int32.ofNat cs.length)), .val (.ref a12)] [(.ref a12)])
  exact X21.retRefN hlk rfl (t := (FieldType.array FieldType.byte)) rfl hret (hb hby d_jdk_65_method_133_32) (by decide) (by decide) ⟨_, _, rfl, EX_h22, hB⟩
theorem con_cor {l : Launch} {Z : State} {a0 : Array Value} {cz : Int32} {fm : Value} (H : Ctx Z a0 cz fm) (t : Addr) (kt : ClassId) (cs : List Int32) (cap : Nat) (hq2 : cap ≤ 34) (h0 : Heap) (hcl : cs.length < cap ∨ (cs.length = cap ∧ Exa Z h0 t "[B")) (Kt : Arv Z h0 t kt .byte (Int32.ofNat cap) ((cs.map lo8).map Value.int) (.int (0 : Int32))) :
    ConN l Z (⟨"java/util/Arrays", "copyOfRange", "([BII)[B"⟩ : MethodName) jdk_65_method_132_code 3 (some (FieldType.array FieldType.byte)) [] ({ frames := 2, cells := 1, slots := 34, locals := 76 } : Room) #[(.ref t), (.int (0 : Int32)), (.int (Int32.ofNat cs.length))] h0 (fun r h => ∃ (t2 : Addr) (k2 : ClassId), r = some (.ref t2) ∧ Ext h0 h ∧ Arv Z h t2 k2 .byte (Int32.ofNat cs.length) ((cs.map lo8).map Value.int) (.int (0 : Int32))) := by
  obtain ⟨hw, hE, S0, hcz, S1, rf⟩ := id H
  refine ConN.of own_pf20 ?_
  intro p e s m below meth c T hby hml hret hlk hnm X0
  have EX0 := ext_refl h0
  refine OEnds.cast (own_ef11 m t (0 : Int32) (Int32.ofNat cs.length) ) ?_
  show OEnds p e below _ T (mkF m 0 #[.val (.ref t), .val (.int (0 : Int32)), .val (.int (Int32.ofNat cs.length))] [])
  refine OEnds.go (fun _ q => XS.iloadN X0.here X0.hx rfl (hb hby d_jdk_65_method_132_0) rfl q) ?_
  show OEnds p e below _ T (mkF m 1 #[.val (.ref t), .val (.int (0 : Int32)), .val (.int (Int32.ofNat cs.length))] [(.int (0 : Int32))])
  refine OEnds.go (fun _ q => XS.ifNo X0.here X0.hx rfl (hb hby d_jdk_65_method_132_1) rfl ((if0 _ _).trans (teq (rfl : (0 : Int32) = 0)).2) q) ?_
  show OEnds p e below _ T (mkF m 4 #[.val (.ref t), .val (.int (0 : Int32)), .val (.int (Int32.ofNat cs.length))] [])
  refine OEnds.go (fun _ q => XS.iloadN X0.here X0.hx rfl (hb hby d_jdk_65_method_132_4) rfl q) ?_
  refine OEnds.go (fun _ q => XS.aloadN X0.here X0.hx rfl (hb hby d_jdk_65_method_132_5) rfl rfl q) ?_
  show OEnds p e below _ T (mkF m 6 #[.val (.ref t), .val (.int (0 : Int32)), .val (.int (Int32.ofNat cs.length))] [(.ref t), (.int (Int32.ofNat cs.length))])
  refine X0.alen Kt (hb hby d_jdk_65_method_132_6) ?_
  show OEnds p e below _ T (mkF m 7 #[.val (.ref t), .val (.int (0 : Int32)), .val (.int (Int32.ofNat cs.length))] [(.int (Int32.ofNat cap)), (.int (Int32.ofNat cs.length))])
  rcases hcl with hcl | ⟨hcl, At⟩
  · skip
    refine OEnds.go (fun _ q => XS.icmpNo X0.here X0.hx rfl (hb hby d_jdk_65_method_132_7) rfl (feq (fun q => absurd ((ofN_eq (by omega) (by omega)).mp q) (by omega))).1 q) ?_
    show OEnds p e below _ T (mkF m 10 #[.val (.ref t), .val (.int (0 : Int32)), .val (.int (Int32.ofNat cs.length))] [])
    refine OEnds.go (fun _ q => XS.aloadN X0.here X0.hx rfl (hb hby d_jdk_65_method_132_10) rfl rfl q) ?_
    refine OEnds.go (fun _ q => XS.iloadN X0.here X0.hx rfl (hb hby d_jdk_65_method_132_11) rfl q) ?_
    show OEnds p e below _ T (mkF m 12 #[.val (.ref t), .val (.int (0 : Int32)), .val (.int (Int32.ofNat cs.length))] [(.int (0 : Int32)), (.ref t)])
    refine OEnds.go (fun _ q => XS.iloadN X0.here X0.hx rfl (hb hby d_jdk_65_method_132_12) rfl q) ?_
    show OEnds p e below _ T (mkF m 13 #[.val (.ref t), .val (.int (0 : Int32)), .val (.int (Int32.ofNat cs.length))] [(.int (Int32.ofNat cs.length)), (.int (0 : Int32)), (.ref t)])
    refine X0.payS (ConN.back (W := 0) (con_crb H t kt cs cap hq2 hcl h0 Kt) X0.old X0.hZ (own_k hw 207 rfl) (own_k hw 166 rfl) (by decide) (by decide)) (okN (fun _ _ ⟨_, _, _, q, _⟩ => q.1)) (own_k hw 205 rfl) (own_k hw 206 rfl) (own_k hw 166 rfl) (own_k hw 207 rfl)  (by decide)  (argsL := [(.ref t), (.int (0 : Int32)), (.int (Int32.ofNat cs.length))]) (rest := []) rfl (lenOf own_pd12 rfl) rfl (by rw [hml]; rfl) (Nat.le_of_eq rfl) (hb hby d_jdk_65_method_132_13) (by decide) (by decide) ?_
    intro v6 T1 h3 Lh3 X2 q7
    replace q7 := q7.1
    obtain ⟨t2, k2, rfl, Et, Kt2⟩ := q7
    have Kt_h3 := Kt.ext Et
    have EX_h3 := ext_trans EX0 Et
    show OEnds p e below _ T1 (mkF m 16 #[.val (.ref t), .val (.int (0 : Int32)), .val (.int (Int32.ofNat cs.length))] [(.ref t2)])
    exact X2.retRefN hlk rfl (t := (FieldType.array FieldType.byte)) rfl hret (hb hby d_jdk_65_method_132_16) (by decide) (by decide) ⟨_, _, rfl, EX_h3, Kt2⟩
  · skip
    refine OEnds.go (fun _ q => XS.icmpYes X0.here X0.hx rfl (pc0 := 7) (pc' := 17) rfl (hb hby d_jdk_65_method_132_7) rfl (teq (congrArg Int32.ofNat hcl)).1 (by decide) (by decide) q) ?_
    show OEnds p e below _ T (mkF m 17 #[.val (.ref t), .val (.int (0 : Int32)), .val (.int (Int32.ofNat cs.length))] [])
    refine OEnds.go (fun _ q => XS.aloadN X0.here X0.hx rfl (hb hby d_jdk_65_method_132_17) rfl rfl q) ?_
    show OEnds p e below _ T (mkF m 18 #[.val (.ref t), .val (.int (0 : Int32)), .val (.int (Int32.ofNat cs.length))] [(.ref t)])
    refine X0.cloneB (own_k hw 233 rfl) (own_k hw 234 rfl) (own_k hw 238 rfl) (own_k hw 236 rfl) (own_k hw 237 rfl) (own_k hw 239 rfl) At Kt (by rw [hml]; rfl) (hb hby d_jdk_65_method_132_18) (W := 0) (Nat.le_of_eq rfl) (by decide) (by decide) (cap := 34) (by rw [ofN_nat (by omega)]; omega) (by decide) (by decide) ?_
    intro T8 h10 a12 ga12 X9 E11 Ka12 Aa12
    show OEnds p e below _ T8 (mkF m 21 #[.val (.ref t), .val (.int (0 : Int32)), .val (.int (Int32.ofNat cs.length))] [(.ref a12)])
    refine X9.castY (own_k hw 240 rfl) (Ins.self Aa12) (hb hby d_jdk_65_method_132_21) ?_
    intro T13 X14
    show OEnds p e below _ T13 (mkF m 24 #[.val (.ref t), .val (.int (0 : Int32)), .val (.int (Int32.ofNat cs.length))] [(.ref a12)])
    subst hcl
    exact X14.retRefN hlk rfl (t := (FieldType.array FieldType.byte)) rfl hret (hb hby d_jdk_65_method_132_24) (by decide) (by decide) ⟨_, _, rfl, E11, Ka12⟩
theorem con_sA {l : Launch} {Z : State} {a0 : Array Value} {cz : Int32} {fm : Value} (H : Ctx Z a0 cz fm) (sx x t : Addr) (cs : List Int32) (cap : Nat) (hq2 : cap ≤ 34) (hbd : ∀ c ∈ cs, ¬ c < 0 ∧ ¬ (255 : Int32) < c) (gzs : Z.heap.size ≤ sx) (h0 : Heap) (Es : Exa Z h0 sx "java/lang/String") (Vs : Fld Z h0 sx "java/lang/String" "value" "[B" .null) (Cs : Fld Z h0 sx "java/lang/String" "coder" "B" (.int (0 : Int32))) (Sb : OSb Z h0 x t cs cap) (hcl : cs.length < cap ∨ (cs.length = cap ∧ Exa Z h0 t "[B")) :
    ConN l Z (⟨"java/lang/String", "<init>", "(Ljava/lang/AbstractStringBuilder;Ljava/lang/Void;)V"⟩ : MethodName) jdk_42_method_150_code 5 (none : Option FieldType) [] ({ frames := 3, cells := 1, slots := 34, locals := 91 } : Room) #[(.ref sx), (.ref x), (.null)] h0 (fun r h => r = none ∧ Keep h0 h [sx] ∧ OStr Z h sx cs) := by
  obtain ⟨hw, hE, S0, hcz, S1, rf⟩ := id H
  refine ConN.of own_pf21 ?_
  intro p e s m below meth c T hby hml hret hlk hnm X0
  have EX0 := ext_refl h0
  refine OEnds.cast (own_ef12 m sx x ) ?_
  show OEnds p e below _ T (mkF m 0 #[.val (.ref sx), .val (.ref x), .val (.null), .unset, .unset] [])
  obtain ⟨Ex, Fn, Fc, Fv, kt, Kt⟩ := id Sb
  have K0 := Keep.refl h0 [sx]
  refine OEnds.go (fun _ q => XS.aloadN X0.here X0.hx rfl (hb hby d_jdk_42_method_150_0) rfl rfl q) ?_
  show OEnds p e below _ T (mkF m 1 #[.val (.ref sx), .val (.ref x), .val (.null), .unset, .unset] [(.ref sx)])
  refine X0.initO (own_k hw 15 rfl) (own_k hw 16 rfl) (own_k hw 17 rfl) (by rw [hml]; rfl) (hb hby d_jdk_42_method_150_1) (by decide) (W := 0) (Nat.le_of_eq rfl) (by decide) ?_
  intro T1 X2
  show OEnds p e below _ T1 (mkF m 4 #[.val (.ref sx), .val (.ref x), .val (.null), .unset, .unset] [])
  refine OEnds.go (fun _ q => XS.aloadN X2.here X2.hx rfl (hb hby d_jdk_42_method_150_4) rfl rfl q) ?_
  show OEnds p e below _ T1 (mkF m 5 #[.val (.ref sx), .val (.ref x), .val (.null), .unset, .unset] [(.ref x)])
  refine X2.payV (ConN.back (W := 0) (con_gv H x t h0 Fv) X2.old X2.hZ (own_k hw 188 rfl) (own_k hw 92 rfl) (by decide) (by decide)) (okN (fun _ _ q => Nat.le_of_eq (congrArg Array.size q.2))) (own_k hw 184 rfl) (own_k hw 185 rfl) (own_k hw 187 rfl) (own_k hw 186 rfl)  (X2.nf (own_k hw 187 rfl)) (by decide)  Ex (argsL := []) (rest := []) rfl (lenOf own_pd13 rfl) rfl (by rw [hml]; rfl) (Nat.le_of_eq rfl) (hb hby d_jdk_42_method_150_5) (by decide) (by decide) ?_
  intro v8 T3 h5 Lh5 X4 q9
  replace q9 := q9.1
  obtain ⟨rfl, rfl⟩ := q9
  show OEnds p e below _ T3 (mkF m 8 #[.val (.ref sx), .val (.ref x), .val (.null), .unset, .unset] [(.ref t)])
  refine OEnds.go (fun _ q => XS.astoreN X4.here X4.hx rfl (hb hby d_jdk_42_method_150_8) rfl rfl (l' := #[.val (.ref sx), .val (.ref x), .val (.null), .val (.ref t), .unset]) rfl q) ?_
  refine OEnds.go (fun _ q => XS.aloadN X4.here X4.hx rfl (hb hby d_jdk_42_method_150_9) rfl rfl q) ?_
  show OEnds p e below _ T3 (mkF m 10 #[.val (.ref sx), .val (.ref x), .val (.null), .val (.ref t), .unset] [(.ref x)])
  refine X4.payV (ConN.back (W := 0) (con_sln H x (Int32.ofNat cs.length) h0 Ex Fn) X4.old X4.hZ (own_k hw 194 rfl) (own_k hw 84 rfl) (by decide) (by decide)) (okN (fun _ _ q => Nat.le_of_eq (congrArg Array.size q.2))) (own_k hw 189 rfl) (own_k hw 190 rfl) (own_k hw 192 rfl) (own_k hw 193 rfl)  (X4.nf2 (own_k hw 126 rfl) rfl) (by decide)  Ex (argsL := []) (rest := []) rfl (lenOf own_pd7 rfl) rfl (by rw [hml]; rfl) (Nat.le_of_eq rfl) (hb hby d_jdk_42_method_150_10) (by decide) (by decide) ?_
  intro v15 T10 h12 Lh12 X11 q16
  replace q16 := q16.1
  obtain ⟨rfl, rfl⟩ := q16
  show OEnds p e below _ T10 (mkF m 13 #[.val (.ref sx), .val (.ref x), .val (.null), .val (.ref t), .unset] [(.int (Int32.ofNat cs.length))])
  refine OEnds.go (fun _ q => XS.istore X11.here X11.hx rfl (hb hby d_jdk_42_method_150_13) rfl (l' := #[.val (.ref sx), .val (.ref x), .val (.null), .val (.ref t), .val (.int (Int32.ofNat cs.length))]) rfl q) ?_
  refine OEnds.go (fun _ q => XS.aloadN X11.here X11.hx rfl (hb hby d_jdk_42_method_150_15) rfl rfl q) ?_
  show OEnds p e below _ T10 (mkF m 16 #[.val (.ref sx), .val (.ref x), .val (.null), .val (.ref t), .val (.int (Int32.ofNat cs.length))] [(.ref x)])
  refine X11.payV (ConN.back (W := 0) (con_ail H x h0 Fc) X11.old X11.hZ (own_k hw 201 rfl) (own_k hw 92 rfl) (by decide) (by decide)) (okN (fun _ _ q => Nat.le_of_eq (congrArg Array.size q.2))) (own_k hw 197 rfl) (own_k hw 198 rfl) (own_k hw 200 rfl) (own_k hw 199 rfl)  (X11.nf (own_k hw 200 rfl)) (by decide)  Ex (argsL := []) (rest := []) rfl (lenOf own_pd14 rfl) rfl (by rw [hml]; rfl) (Nat.le_of_eq rfl) (hb hby d_jdk_42_method_150_16) (by decide) (by decide) ?_
  intro v22 T17 h19 Lh19 X18 q23
  replace q23 := q23.1
  obtain ⟨rfl, rfl⟩ := q23
  show OEnds p e below _ T17 (mkF m 19 #[.val (.ref sx), .val (.ref x), .val (.null), .val (.ref t), .val (.int (Int32.ofNat cs.length))] [(.int (1 : Int32))])
  refine OEnds.go (fun _ q => XS.ifNo X18.here X18.hx rfl (hb hby d_jdk_42_method_150_19) rfl ((if0 _ _).trans (feq (by decide)).1) q) ?_
  show OEnds p e below _ T17 (mkF m 22 #[.val (.ref sx), .val (.ref x), .val (.null), .val (.ref t), .val (.int (Int32.ofNat cs.length))] [])
  have nst : t ≠ sx := fun q => Exa.neArv Es Kt (own_k hw 5 rfl) q.symm
  refine OEnds.go (fun _ q => XS.aloadN X18.here X18.hx rfl (hb hby d_jdk_42_method_150_22) rfl rfl q) ?_
  refine OEnds.go (fun _ q => XS.iconst X18.here X18.hx rfl (hb hby d_jdk_42_method_150_23) q) ?_
  show OEnds p e below _ T17 (mkF m 24 #[.val (.ref sx), .val (.ref x), .val (.null), .val (.ref t), .val (.int (Int32.ofNat cs.length))] [(.int (0 : Int32)), (.ref sx)])
  refine X18.putF (v := (.int (0 : Int32))) (own_k hw 30 rfl) Via.refl Cs Es (Or.inr ⟨(own_k hw 31 rfl), rfl, hnm⟩) (own_k hw 5 rfl) (ty := FieldType.byte) (by decide) rfl rfl safe_nil gzs (hb hby d_jdk_42_method_150_24) ?_
  intro T24 h26 X25 W27
  have Cs_h26 := Cs.same W27
  have Es_h26 := Es.wr W27
  have Vs_h26 := Vs.other W27 (Or.inr (slot_ne (a0 := a0) (Or.inr (own_k hw 33 rfl)) (Or.inr (own_k hw 31 rfl)) (by decide) (t := (FieldType.array FieldType.byte)) (by decide) (t' := FieldType.byte) (by decide)))
  have K28 := K0.wr W27 (Or.inl (List.mem_of_getElem? (i := 0) rfl))
  have Kt_h26 := Kt.other W27 nst
  show OEnds p e below _ T24 (mkF m 27 #[.val (.ref sx), .val (.ref x), .val (.null), .val (.ref t), .val (.int (Int32.ofNat cs.length))] [])
  refine OEnds.go (fun _ q => XS.aloadN X25.here X25.hx rfl (hb hby d_jdk_42_method_150_27) rfl rfl q) ?_
  refine OEnds.go (fun _ q => XS.aloadN X25.here X25.hx rfl (hb hby d_jdk_42_method_150_28) rfl rfl q) ?_
  show OEnds p e below _ T24 (mkF m 29 #[.val (.ref sx), .val (.ref x), .val (.null), .val (.ref t), .val (.int (Int32.ofNat cs.length))] [(.ref t), (.ref sx)])
  refine OEnds.go (fun _ q => XS.iconst X25.here X25.hx rfl (hb hby d_jdk_42_method_150_29) q) ?_
  refine OEnds.go (fun _ q => XS.iload X25.here X25.hx rfl (hb hby d_jdk_42_method_150_30) rfl q) ?_
  show OEnds p e below _ T24 (mkF m 32 #[.val (.ref sx), .val (.ref x), .val (.null), .val (.ref t), .val (.int (Int32.ofNat cs.length))] [(.int (Int32.ofNat cs.length)), (.int (0 : Int32)), (.ref t), (.ref sx)])
  have hcl2 : cs.length < cap ∨ (cs.length = cap ∧ Exa Z h26 t "[B") := hcl.elim Or.inl (fun q => Or.inr ⟨q.1, q.2.keep K28⟩)
  refine X25.payS (ConN.back (W := 1) (con_cor H t kt cs cap hq2 h26 hcl2 Kt_h26) X25.old X25.hZ (own_k hw 204 rfl) (own_k hw 166 rfl) (by decide) (by decide)) (okN (fun _ _ ⟨_, _, _, q, _⟩ => q.1)) (own_k hw 202 rfl) (own_k hw 203 rfl) (own_k hw 166 rfl) (own_k hw 204 rfl)  (by decide)  (argsL := [(.ref t), (.int (0 : Int32)), (.int (Int32.ofNat cs.length))]) (rest := [(.ref sx)]) rfl (lenOf own_pd12 rfl) rfl (by rw [hml]; rfl) (Nat.le_of_eq rfl) (hb hby d_jdk_42_method_150_32) (by decide) (by decide) ?_
  intro v34 T29 h31 Lh31 X30 q35
  replace q35 := q35.1
  obtain ⟨t2, k2, rfl, Et, Kt2⟩ := q35
  have Kt_h31 := Kt_h26.ext Et
  have Cs_h31 := Cs_h26.ext Et
  have Es_h31 := Es_h26.ext Et
  have Vs_h31 := Vs_h26.ext Et
  have Kpsx_h31 := K28.ext Et
  show OEnds p e below _ T29 (mkF m 35 #[.val (.ref sx), .val (.ref x), .val (.null), .val (.ref t), .val (.int (Int32.ofNat cs.length))] [(.ref t2), (.ref sx)])
  have nst2 : t2 ≠ sx := fun q => Exa.neArv Es_h31 Kt2 (own_k hw 5 rfl) q.symm
  refine X30.putF (v := (.ref t2)) (own_k hw 32 rfl) Via.refl Vs_h31 Es_h31 (Or.inr ⟨(own_k hw 33 rfl), rfl, hnm⟩) (own_k hw 5 rfl) (ty := (FieldType.array FieldType.byte)) (by decide) rfl rfl safe_nil gzs (hb hby d_jdk_42_method_150_35) ?_
  intro T36 h38 X37 W39
  have Vs_h38 := Vs_h31.same W39
  have Es_h38 := Es_h31.wr W39
  have Cs_h38 := Cs_h31.other W39 (Or.inr (slot_ne (a0 := a0) (Or.inr (own_k hw 31 rfl)) (Or.inr (own_k hw 33 rfl)) (by decide) (t := FieldType.byte) (by decide) (t' := (FieldType.array FieldType.byte)) (by decide)))
  have K40 := Kpsx_h31.wr W39 (Or.inl (List.mem_of_getElem? (i := 0) rfl))
  have Kt2_h38 := Kt2.other W39 nst2
  show OEnds p e below _ T36 (mkF m 38 #[.val (.ref sx), .val (.ref x), .val (.null), .val (.ref t), .val (.int (Int32.ofNat cs.length))] [])
  refine OEnds.go (fun _ q => XS.goto X37.here X37.hx rfl (pc0 := 38) (pc' := 97) rfl (hb hby d_jdk_42_method_150_38) (by decide) (by decide) q) ?_
  show OEnds p e below _ T36 (mkF m 97 #[.val (.ref sx), .val (.ref x), .val (.null), .val (.ref t), .val (.int (Int32.ofNat cs.length))] [])
  have hln : cs.length ≤ 34 := by rcases hcl with q | q; omega; omega
  exact X37.ret0N hlk  hret (hb hby d_jdk_42_method_150_97) (by decide) (by decide) ⟨rfl, K40, Es_h38, Cs_h38, ⟨t2, k2, Vs_h38, Kt2_h38⟩, hbd, by omega⟩
theorem con_sB {l : Launch} {Z : State} {a0 : Array Value} {cz : Int32} {fm : Value} (H : Ctx Z a0 cz fm) (sx x t : Addr) (cs : List Int32) (cap : Nat) (hq2 : cap ≤ 34) (hbd : ∀ c ∈ cs, ¬ c < 0 ∧ ¬ (255 : Int32) < c) (gzs : Z.heap.size ≤ sx) (h0 : Heap) (Es : Exa Z h0 sx "java/lang/String") (Vs : Fld Z h0 sx "java/lang/String" "value" "[B" .null) (Cs : Fld Z h0 sx "java/lang/String" "coder" "B" (.int (0 : Int32))) (Sb : OSb Z h0 x t cs cap) (hcl : cs.length < cap ∨ (cs.length = cap ∧ Exa Z h0 t "[B")) :
    ConN l Z (⟨"java/lang/String", "<init>", "(Ljava/lang/StringBuilder;)V"⟩ : MethodName) jdk_42_method_53_code 2 (none : Option FieldType) [] ({ frames := 4, cells := 1, slots := 34, locals := 107 } : Room) #[(.ref sx), (.ref x)] h0 (fun r h => r = none ∧ Keep h0 h [sx] ∧ OStr Z h sx cs) := by
  obtain ⟨hw, hE, S0, hcz, S1, rf⟩ := id H
  refine ConN.of own_pf22 ?_
  intro p e s m below meth c T hby hml hret hlk hnm X0
  have EX0 := ext_refl h0
  refine OEnds.cast (own_ef5 m sx x ) ?_
  show OEnds p e below _ T (mkF m 0 #[.val (.ref sx), .val (.ref x)] [])
  refine OEnds.go (fun _ q => XS.aloadN X0.here X0.hx rfl (hb hby d_jdk_42_method_53_0) rfl rfl q) ?_
  refine OEnds.go (fun _ q => XS.aloadN X0.here X0.hx rfl (hb hby d_jdk_42_method_53_1) rfl rfl q) ?_
  show OEnds p e below _ T (mkF m 2 #[.val (.ref sx), .val (.ref x)] [(.ref x), (.ref sx)])
  refine OEnds.go (fun _ q => XS.aconstNull X0.here X0.hx rfl (hb hby d_jdk_42_method_53_2) q) ?_
  show OEnds p e below _ T (mkF m 3 #[.val (.ref sx), .val (.ref x)] [(.null), (.ref x), (.ref sx)])
  refine X0.payI (ConN.back (W := 0) (con_sA H sx x t cs cap hq2 hbd gzs h0 Es Vs Cs Sb hcl) X0.old X0.hZ (own_k hw 183 rfl) (own_k hw 6 rfl) (by decide) (by decide)) (okN (fun _ _ q => q.2.1.1)) (own_k hw 181 rfl) (own_k hw 182 rfl)  (own_k hw 183 rfl) rfl (by decide)  (a := sx) (argsL := [(.ref x), (.null)]) (rest := []) rfl (lenOf own_pd15 rfl) rfl (by rw [hml]; rfl) (Nat.le_of_eq rfl) (hb hby d_jdk_42_method_53_3) (by decide) (by decide) ?_
  intro v6 T1 h3 Lh3 X2 q7
  replace q7 := q7.1
  obtain ⟨rfl, Kq, Sq⟩ := q7
  show OEnds p e below _ T1 (mkF m 6 #[.val (.ref sx), .val (.ref x)] [])
  exact X2.ret0N hlk  hret (hb hby d_jdk_42_method_53_6) (by decide) (by decide) ⟨rfl, Kq, Sq⟩
theorem con_toS {l : Launch} {Z : State} {a0 : Array Value} {cz : Int32} {fm : Value} (H : Ctx Z a0 cz fm) (x t : Addr) (cs : List Int32) (cap : Nat) (hq2 : cap ≤ 34) (hbd : ∀ c ∈ cs, ¬ c < 0 ∧ ¬ (255 : Int32) < c) (h0 : Heap) (Sb : OSb Z h0 x t cs cap) (hcl : cs.length < cap ∨ (cs.length = cap ∧ Exa Z h0 t "[B")) :
    ConN l Z (⟨"java/lang/StringBuilder", "toString", "()Ljava/lang/String;"⟩ : MethodName) jdk_67_method_42_code 1 (some (FieldType.object "java/lang/String")) [] ({ frames := 5, cells := 2, slots := 38, locals := 121 } : Room) #[(.ref x)] h0 (fun r h => ∃ sx : Addr, r = some (.ref sx) ∧ Ext h0 h ∧ OStr Z h sx cs) := by
  obtain ⟨hw, hE, S0, hcz, S1, rf⟩ := id H
  refine ConN.of own_pf23 ?_
  intro p e s m below meth c T hby hml hret hlk hnm X0
  have EX0 := ext_refl h0
  refine OEnds.cast (own_ef4 m x ) ?_
  show OEnds p e below _ T (mkF m 0 #[.val (.ref x)] [])
  refine X0.newO (own_k hw 177 rfl) (own_k hw 5 rfl) (own_k hw 6 rfl) (hb hby d_jdk_67_method_42_0) (by decide) (by decide) ?_
  intro T1 h3 a5 ga5 X2 E4 Aa5 Da5 Ua5
  have gza5 : Z.heap.size ≤ a5 := ga5 ▸ X0.old.1
  have EX_h3 := ext_trans EX0 E4
  have Fa5_coder : Fld Z h3 a5 "java/lang/String" "coder" "B" (.int (0 : Int32)) := Da5 (Or.inr (own_k hw 31 rfl)) (ty := FieldType.byte) (by decide)
  have Fa5_value : Fld Z h3 a5 "java/lang/String" "value" "[B" .null := Da5 (Or.inr (own_k hw 33 rfl)) (ty := (FieldType.array FieldType.byte)) (by decide)
  show OEnds p e below _ T1 (mkF m 3 #[.val (.ref x)] [(.ref a5)])
  refine OEnds.go (fun _ q => XS.dup X2.here X2.hx rfl (hb hby d_jdk_67_method_42_3) rfl rfl q) ?_
  refine OEnds.go (fun _ q => XS.aloadN X2.here X2.hx rfl (hb hby d_jdk_67_method_42_4) rfl rfl q) ?_
  show OEnds p e below _ T1 (mkF m 5 #[.val (.ref x)] [(.ref x), (.ref a5), (.ref a5)])
  have Sb2 := Sb.ext EX_h3
  have hcl2 : cs.length < cap ∨ (cs.length = cap ∧ Exa Z h3 t "[B") := hcl.elim Or.inl (fun q => Or.inr ⟨q.1, q.2.ext EX_h3⟩)
  refine X2.payI (ConN.back (W := 1) (con_sB H a5 x t cs cap hq2 hbd gza5 h3 Aa5 Fa5_value Fa5_coder Sb2 hcl2) X2.old X2.hZ (own_k hw 180 rfl) (own_k hw 6 rfl) (by decide) (by decide)) (okN (fun _ _ q => q.2.1.1)) (own_k hw 178 rfl) (own_k hw 179 rfl)  (own_k hw 180 rfl) rfl (by decide)  (a := a5) (argsL := [(.ref x)]) (rest := [(.ref a5)]) rfl (lenOf own_pd16 rfl) rfl (by rw [hml]; rfl) (Nat.le_of_eq rfl) (hb hby d_jdk_67_method_42_5) (by decide) (by decide) ?_
  intro v11 T6 h8 Lh8 X7 q12
  replace q12 := q12.1
  obtain ⟨rfl, Kq, Sq⟩ := q12
  have EBa5_h8 := ext_keep E4 Kq (allS (Nat.le_of_eq ga5) all0)
  have EX_h8 := ext_keep EX_h3 Kq (allS (Nat.le_trans EX0.1 (Nat.le_of_eq ga5)) all0)
  show OEnds p e below _ T6 (mkF m 8 #[.val (.ref x)] [(.ref a5)])
  exact X7.retRefN hlk rfl (t := (FieldType.object "java/lang/String")) rfl hret (hb hby d_jdk_67_method_42_8) (by decide) (by decide) ⟨a5, rfl, EX_h8, Sq⟩
theorem con_canE {l : Launch} {Z : State} {a0 : Array Value} {cz : Int32} {fm : Value} (H : Ctx Z a0 cz fm) (v : Int32) (hv : ¬ (255 : Int32) < v) (h0 : Heap)  :
    ConX l Z consts_1 (⟨"java/lang/StringLatin1", "canEncode", "(C)Z"⟩ : MethodName) jdk_43_method_3_code 1 (some FieldType.boolean) [] ({ frames := 0, cells := 0, slots := 0, locals := 0 } : Room) #[(.int v)] h0 (fun r h => r = some (.int 1) ∧ h0 = h) := by
  obtain ⟨hw, hE, S0, hcz, S1, rf⟩ := id H
  refine ConX.of own_pf24 ?_
  intro p e s m below meth c T hby hml hret hlk hnm X0
  have EX0 := ext_refl h0
  refine OEnds.cast (own_ef13 m v ) ?_
  show OEnds p e below _ T (mkF m 0 #[.val (.int v)] [])
  refine OEnds.go (fun _ q => XS.iloadN X0.here X0.hx rfl (hb hby d_jdk_43_method_3_0) rfl q) ?_
  refine OEnds.go (fun _ q => XS.sipush X0.here X0.hx rfl (hb hby d_jdk_43_method_3_1) q) ?_
  show OEnds p e below _ T (mkF m 4 #[.val (.int v)] [(.int (255 : Int32)), (.int v)])
  refine OEnds.go (fun _ q => XS.icmpNo X0.here X0.hx rfl (hb hby d_jdk_43_method_3_4) rfl (flt hv).2.2.1 q) ?_
  show OEnds p e below _ T (mkF m 7 #[.val (.int v)] [])
  refine OEnds.go (fun _ q => XS.iconst X0.here X0.hx rfl (hb hby d_jdk_43_method_3_7) q) ?_
  refine OEnds.go (fun _ q => XS.goto X0.here X0.hx rfl (pc0 := 8) (pc' := 12) rfl (hb hby d_jdk_43_method_3_8) (by decide) (by decide) q) ?_
  show OEnds p e below _ T (mkF m 12 #[.val (.int v)] [(.int (1 : Int32))])
  exact X0.retBool hE hlk (by first | exact Or.inl rfl | exact Or.inr rfl | assumption) hret (hb hby d_jdk_43_method_3_12) (by decide) (by decide) ⟨rfl, rfl⟩
theorem con_toB {l : Launch} {Z : State} {a0 : Array Value} {cz : Int32} {fm : Value} (H : Ctx Z a0 cz fm) (v : Int32) (h0 : Heap)  :
    ConX l Z consts_1 (⟨"java/lang/StringLatin1", "toBytes", "(C)[B"⟩ : MethodName) jdk_43_method_46_code 1 (some (FieldType.array FieldType.byte)) [] ({ frames := 0, cells := 1, slots := 1, locals := 0 } : Room) #[(.int v)] h0 (fun r h => ∃ (t : Addr) (kb : ClassId), r = some (.ref t) ∧ Ext h0 h ∧ Arv Z h t kb .byte (1 : Int32) [.int v.toInt8.toInt32] (.int (0 : Int32)) ∧ h0.size ≤ t) := by
  obtain ⟨hw, hE, S0, hcz, S1, rf⟩ := id H
  refine ConX.of own_pf25 ?_
  intro p e s m below meth c T hby hml hret hlk hnm X0
  have EX0 := ext_refl h0
  refine OEnds.cast (own_ef13 m v ) ?_
  show OEnds p e below _ T (mkF m 0 #[.val (.int v)] [])
  refine OEnds.go (fun _ q => XS.iconst X0.here X0.hx rfl (hb hby d_jdk_43_method_46_0) q) ?_
  show OEnds p e below _ T (mkF m 1 #[.val (.int v)] [(.int (1 : Int32))])
  refine X0.newP (own_k hw 23 rfl) (hb hby d_jdk_43_method_46_1) (by decide) (cap := 1) (by decide) (by decide) (by decide) (by decide) ?_
  intro T1 h3 a5 ka5 ga5 X2 E4 Ka5
  have gza5 : Z.heap.size ≤ a5 := ga5 ▸ X0.old.1
  have EX_h3 := ext_trans EX0 E4
  have Sfa5 : Safe Z consts_1 s.vm h3 a5 := Safe.ext E4 X0.chv (Safe.new (Nat.le_of_eq ga5))
  have Ka5_0 : Arv Z h3 a5 ka5 .byte (1 : Int32) [.int (0 : Int32)] (.int (0 : Int32)) := Ka5.pad (pad_rep [] (.int (0 : Int32)) 1)
  show OEnds p e below _ T1 (mkF m 3 #[.val (.int v)] [(.ref a5)])
  refine OEnds.go (fun _ q => XS.dup X2.here X2.hx rfl (hb hby d_jdk_43_method_46_3) rfl rfl q) ?_
  refine OEnds.go (fun _ q => XS.iconst X2.here X2.hx rfl (hb hby d_jdk_43_method_46_4) q) ?_
  show OEnds p e below _ T1 (mkF m 5 #[.val (.int v)] [(.int (0 : Int32)), (.ref a5), (.ref a5)])
  refine OEnds.go (fun _ q => XS.iloadN X2.here X2.hx rfl (hb hby d_jdk_43_method_46_5) rfl q) ?_
  refine OEnds.go (fun _ q => XS.i2b X2.here X2.hx rfl (hb hby d_jdk_43_method_46_6) rfl q) ?_
  show OEnds p e below _ T1 (mkF m 7 #[.val (.int v)] [(.int (v.toInt8.toInt32)), (.int (0 : Int32)), (.ref a5), (.ref a5)])
  refine X2.stB Ka5_0 Sfa5 (by decide) (i := 0) rfl (Nat.le_of_ble_eq_true rfl) gza5 (hb hby d_jdk_43_method_46_7) ?_
  intro T6 h8 X7 W9 Ka5_h8x
  have Sf10 := Safe.wr W9 Sfa5 X2.chv Sfa5
  have Ka5_h8 : Arv Z h8 a5 ka5 .byte (1 : Int32) [.int (v.toInt8.toInt32).toInt8.toInt32] (.int (0 : Int32)) := Ka5_h8x
  have EBa5_h8 := ext_wr E4 W9 (Nat.le_of_eq ga5)
  have EX_h8 := ext_wr EX_h3 W9 (Nat.le_trans EX0.1 (Nat.le_of_eq ga5))
  show OEnds p e below _ T6 (mkF m 8 #[.val (.int v)] [(.ref a5)])
  have hK : Arv Z h8 a5 ka5 .byte (1 : Int32) [.int v.toInt8.toInt32] (.int (0 : Int32)) := by
    have e : (v.toInt8.toInt32).toInt8.toInt32 = v.toInt8.toInt32 := own_lo8 v
    have q := Ka5_h8
    rw [e] at q; exact q
  exact X7.retRef hE hlk rfl (t := (FieldType.array FieldType.byte)) rfl hret (hb hby d_jdk_43_method_46_8) (by decide) (by decide) ⟨_, ka5, rfl, EX_h8, hK, Nat.le_of_eq ga5⟩
theorem con_sBB {l : Launch} {Z : State} {a0 : Array Value} {cz : Int32} {fm : Value} (H : Ctx Z a0 cz fm) (a : Addr) (t : Addr) (gza : Z.heap.size ≤ a) (h0 : Heap) (Aa : Exa Z h0 a "java/lang/String") (Fa_value : Fld Z h0 a "java/lang/String" "value" "[B" .null) (Fa_coder : Fld Z h0 a "java/lang/String" "coder" "B" (.int (0 : Int32))) :
    ConX l Z consts_1 (⟨"java/lang/String", "<init>", "([BB)V"⟩ : MethodName) jdk_42_method_151_code 3 (none : Option FieldType) [] ({ frames := 1, cells := 0, slots := 0, locals := 12 } : Room) #[(.ref a), (.ref t), (.int (0 : Int32))] h0 (fun r h => r = none ∧ Keep h0 h [a] ∧ Exa Z h a "java/lang/String" ∧ Fld Z h a "java/lang/String" "value" "[B" (.ref t) ∧ Fld Z h a "java/lang/String" "coder" "B" (.int (0 : Int32))) := by
  obtain ⟨hw, hE, S0, hcz, S1, rf⟩ := id H
  refine ConX.of own_pf26 ?_
  intro p e s m below meth c T hby hml hret hlk hnm X0
  have EX0 := ext_refl h0
  refine OEnds.cast (own_ef14 m a t (0 : Int32) ) ?_
  show OEnds p e below _ T (mkF m 0 #[.val (.ref a), .val (.ref t), .val (.int (0 : Int32))] [])
  have K0 := Keep.refl h0 [a]
  refine OEnds.go (fun _ q => XS.aloadN X0.here X0.hx rfl (hb hby d_jdk_42_method_151_0) rfl rfl q) ?_
  show OEnds p e below _ T (mkF m 1 #[.val (.ref a), .val (.ref t), .val (.int (0 : Int32))] [(.ref a)])
  refine X0.initO (own_k hw 15 rfl) (own_k hw 16 rfl) (own_k hw 17 rfl) (by rw [hml]; rfl) (hb hby d_jdk_42_method_151_1) (by decide) (W := 0) (Nat.le_of_eq rfl) (by decide) ?_
  intro T1 X2
  show OEnds p e below _ T1 (mkF m 4 #[.val (.ref a), .val (.ref t), .val (.int (0 : Int32))] [])
  refine OEnds.go (fun _ q => XS.aloadN X2.here X2.hx rfl (hb hby d_jdk_42_method_151_4) rfl rfl q) ?_
  refine OEnds.go (fun _ q => XS.aloadN X2.here X2.hx rfl (hb hby d_jdk_42_method_151_5) rfl rfl q) ?_
  show OEnds p e below _ T1 (mkF m 6 #[.val (.ref a), .val (.ref t), .val (.int (0 : Int32))] [(.ref t), (.ref a)])
  refine X2.putF (v := (.ref t)) (own_k hw 32 rfl) Via.refl Fa_value Aa (Or.inr ⟨(own_k hw 33 rfl), rfl, hnm⟩) (own_k hw 5 rfl) (ty := (FieldType.array FieldType.byte)) (by decide) rfl rfl (safe_blank X2.al Aa Fa_value) gza (hb hby d_jdk_42_method_151_6) ?_
  intro T3 h5 X4 W6
  have Fa_value_h5 := Fa_value.same W6
  have Aa_h5 := Aa.wr W6
  have Fa_coder_h5 := Fa_coder.other W6 (Or.inr (slot_ne (a0 := a0) (Or.inr (own_k hw 31 rfl)) (Or.inr (own_k hw 33 rfl)) (by decide) (t := FieldType.byte) (by decide) (t' := (FieldType.array FieldType.byte)) (by decide)))
  have K7 := K0.wr W6 (Or.inl (List.mem_of_getElem? (i := 0) rfl))
  have Sf8 := Safe.wr W6 (safe_blank X2.al Aa Fa_value) X2.chv (safe_blank X2.al Aa Fa_value)
  show OEnds p e below _ T3 (mkF m 9 #[.val (.ref a), .val (.ref t), .val (.int (0 : Int32))] [])
  refine OEnds.go (fun _ q => XS.aloadN X4.here X4.hx rfl (hb hby d_jdk_42_method_151_9) rfl rfl q) ?_
  refine OEnds.go (fun _ q => XS.iloadN X4.here X4.hx rfl (hb hby d_jdk_42_method_151_10) rfl q) ?_
  show OEnds p e below _ T3 (mkF m 11 #[.val (.ref a), .val (.ref t), .val (.int (0 : Int32))] [(.int (0 : Int32)), (.ref a)])
  refine X4.putF (v := (.int (0 : Int32))) (own_k hw 30 rfl) Via.refl Fa_coder_h5 Aa_h5 (Or.inr ⟨(own_k hw 31 rfl), rfl, hnm⟩) (own_k hw 5 rfl) (ty := FieldType.byte) (by decide) rfl rfl Sf8 gza (hb hby d_jdk_42_method_151_11) ?_
  intro T9 h11 X10 W12
  have Fa_coder_h11 := Fa_coder_h5.same W12
  have Aa_h11 := Aa_h5.wr W12
  have Fa_value_h11 := Fa_value_h5.other W12 (Or.inr (slot_ne (a0 := a0) (Or.inr (own_k hw 33 rfl)) (Or.inr (own_k hw 31 rfl)) (by decide) (t := (FieldType.array FieldType.byte)) (by decide) (t' := FieldType.byte) (by decide)))
  have K13 := K7.wr W12 (Or.inl (List.mem_of_getElem? (i := 0) rfl))
  have Sf14 := Safe.wr W12 Sf8 X4.chv Sf8
  show OEnds p e below _ T9 (mkF m 14 #[.val (.ref a), .val (.ref t), .val (.int (0 : Int32))] [])
  exact X10.ret0 hE hlk  hret (hb hby d_jdk_42_method_151_14) (by decide) (by decide) ⟨rfl, K13, Aa_h11, Fa_value_h11, Fa_coder_h11⟩
theorem con_valC {l : Launch} {Z : State} {a0 : Array Value} {cz : Int32} {fm : Value} (H : Ctx Z a0 cz fm) (v : Int32) (hv : ¬ v < 0 ∧ ¬ (255 : Int32) < v) (h0 : Heap)  :
    ConX l Z consts_1 (⟨"java/lang/String", "valueOf", "(C)Ljava/lang/String;"⟩ : MethodName) jdk_42_method_139_code 1 (some (FieldType.object "java/lang/String")) [] ({ frames := 2, cells := 2, slots := 5, locals := 27 } : Room) #[(.int v)] h0 (fun r h => ∃ x : Addr, r = some (.ref x) ∧ Ext h0 h ∧ OStr Z h x [v]) := by
  obtain ⟨hw, hE, S0, hcz, S1, rf⟩ := id H
  refine ConX.of own_pf27 ?_
  intro p e s m below meth c T hby hml hret hlk hnm X0
  have EX0 := ext_refl h0
  refine OEnds.cast (own_ef13 m v ) ?_
  show OEnds p e below _ T (mkF m 0 #[.val (.int v)] [])
  refine X0.getS (own_k hw 18 rfl) Via.refl (S0.ext X0.old) (hb hby d_jdk_42_method_139_0) ?_
  intro T1 X2
  show OEnds p e below _ T1 (mkF m 3 #[.val (.int v)] [(.int cz)])
  refine OEnds.go (fun _ q => XS.ifNo X2.here X2.hx rfl (hb hby d_jdk_42_method_139_3) rfl ((if0 _ _).trans (feq hcz).1) q) ?_
  show OEnds p e below _ T1 (mkF m 6 #[.val (.int v)] [])
  refine OEnds.go (fun _ q => XS.iloadN X2.here X2.hx rfl (hb hby d_jdk_42_method_139_6) rfl q) ?_
  show OEnds p e below _ T1 (mkF m 7 #[.val (.int v)] [(.int v)])
  refine X2.callS hE (con_canE H v hv.2 h0) (own_k hw 40 rfl) (own_k hw 41 rfl) (own_k hw 42 rfl) (own_k hw 43 rfl)  (by decide) (W := 0) (by decide) (by decide) (argsL := [(.int v)]) (rest := []) rfl (lenOf own_pd17 rfl) rfl (by rw [hml]; rfl) (Nat.le_of_eq rfl) (hb hby d_jdk_42_method_139_7) (by decide) (by decide) ?_
  intro v8 vm6 T3 h5 X4 C7 q9
  obtain ⟨rfl, rfl⟩ := q9
  show OEnds p e below _ T3 (mkF m 10 #[.val (.int v)] [(.int (1 : Int32))])
  refine OEnds.go (fun _ q => XS.ifNo X4.here X4.hx rfl (hb hby d_jdk_42_method_139_10) rfl ((if0 _ _).trans (feq (by decide)).1) q) ?_
  show OEnds p e below _ T3 (mkF m 13 #[.val (.int v)] [])
  refine X4.newO (own_k hw 44 rfl) (own_k hw 5 rfl) (own_k hw 6 rfl) (hb hby d_jdk_42_method_139_13) (by decide) (by decide) ?_
  intro T10 h12 a14 ga14 X11 E13 Aa14 Da14 Ua14
  have gza14 : Z.heap.size ≤ a14 := ga14 ▸ X4.old.1
  have EX_h12 := ext_trans EX0 E13
  have Fa14_coder : Fld Z h12 a14 "java/lang/String" "coder" "B" (.int (0 : Int32)) := Da14 (Or.inr (own_k hw 31 rfl)) (ty := FieldType.byte) (by decide)
  have Fa14_value : Fld Z h12 a14 "java/lang/String" "value" "[B" .null := Da14 (Or.inr (own_k hw 33 rfl)) (ty := (FieldType.array FieldType.byte)) (by decide)
  show OEnds p e below _ T10 (mkF m 16 #[.val (.int v)] [(.ref a14)])
  refine OEnds.go (fun _ q => XS.dup X11.here X11.hx rfl (hb hby d_jdk_42_method_139_16) rfl rfl q) ?_
  refine OEnds.go (fun _ q => XS.iloadN X11.here X11.hx rfl (hb hby d_jdk_42_method_139_17) rfl q) ?_
  show OEnds p e below _ T10 (mkF m 18 #[.val (.int v)] [(.int v), (.ref a14), (.ref a14)])
  refine X11.callS hE (con_toB H v h12) (own_k hw 45 rfl) (own_k hw 46 rfl) (own_k hw 42 rfl) (own_k hw 47 rfl)  (by decide) (W := 2) (by decide) (by decide) (argsL := [(.int v)]) (rest := [(.ref a14), (.ref a14)]) rfl (lenOf own_pd18 rfl) rfl (by rw [hml]; rfl) (Nat.le_of_eq rfl) (hb hby d_jdk_42_method_139_18) (by decide) (by decide) ?_
  intro v20 vm18 T15 h17 X16 C19 q21
  obtain ⟨t, kb, rfl, Et, Kt, ft⟩ := q21
  have Aa14_h17 := Aa14.ext Et
  have Fa14_coder_h17 := Fa14_coder.ext Et
  have Fa14_value_h17 := Fa14_value.ext Et
  have EBa14_h17 := ext_trans E13 Et
  have EX_h17 := ext_trans EX_h12 Et
  show OEnds p e below _ T15 (mkF m 21 #[.val (.int v)] [(.ref t), (.ref a14), (.ref a14)])
  refine OEnds.go (fun _ q => XS.iconst X16.here X16.hx rfl (hb hby d_jdk_42_method_139_21) q) ?_
  show OEnds p e below _ T15 (mkF m 22 #[.val (.int v)] [(.int (0 : Int32)), (.ref t), (.ref a14), (.ref a14)])
  refine X16.callI hE (con_sBB H a14 t gza14 h17 Aa14_h17 Fa14_value_h17 Fa14_coder_h17) (own_k hw 48 rfl) (own_k hw 49 rfl) (own_k hw 6 rfl) (own_k hw 50 rfl) rfl (by decide) (W := 1) (by decide) (by decide) (a := a14) (argsL := [(.ref t), (.int (0 : Int32))]) (rest := [(.ref a14)]) rfl (lenOf own_pd19 rfl) rfl (by rw [hml]; rfl) (Nat.le_of_eq rfl) (hb hby d_jdk_42_method_139_22) (by decide) (by decide) ?_
  intro v31 vm29 T26 h28 X27 C30 q32
  obtain ⟨rfl, K22, E23, Ff24_value, Ff25_coder⟩ := q32
  have EBa14_h28 := ext_keep EBa14_h17 K22 (allS (Nat.le_of_eq ga14) all0)
  have Kt_h28 := Kt.keep K22 (ninS (Nat.ne_of_gt (Nat.lt_of_lt_of_le Aa14.lt ft)) nin0)
  have EX_h28 := ext_keep EX_h17 K22 (allS (Nat.le_trans EX0.1 (Nat.le_of_eq ga14)) all0)
  show OEnds p e below _ T26 (mkF m 25 #[.val (.int v)] [(.ref a14)])
  exact X27.retRef hE hlk rfl (t := (FieldType.object "java/lang/String")) rfl hret (hb hby d_jdk_42_method_139_25) (by decide) (by decide) ⟨a14, rfl, EX_h28, E23, Ff25_coder, ⟨t, kb, Ff24_value, Kt_h28⟩, all_cons hv all_nil, Nat.le_of_ble_eq_true rfl⟩
theorem con_str {l : Launch} {Z : State} {a0 : Array Value} {cz : Int32} {fm : Value} (H : Ctx Z a0 cz fm) (i c0 c1 : Int32) (h0b : ¬ c0 < 0 ∧ ¬ (255 : Int32) < c0) (h1b : ¬ c1 < 0 ∧ ¬ (255 : Int32) < c1) (h0 : Heap)  :
    ConX l Z consts_1 (⟨"com/example/fritillary/fritillary/GeneratorTableSourcePinLaw", "str", "(ICC)Ljava/lang/String;"⟩ : MethodName) method_2_code 3 (some (FieldType.object "java/lang/String")) [] ({ frames := 4, cells := 3, slots := 8, locals := 66 } : Room) #[(.int i), (.int c0), (.int c1)] h0 (fun r h => ∃ x : Addr, r = some (.ref x) ∧ Ext h0 h ∧ OStr Z h x (own_txt i c0 c1)) := by
  obtain ⟨hw, hE, S0, hcz, S1, rf⟩ := id H
  refine ConX.of own_pf28 ?_
  intro p e s m below meth c T hby hml hret hlk hnm X0
  have EX0 := ext_refl h0
  refine OEnds.cast (own_ef15 m i c0 c1 ) ?_
  show OEnds p e below _ T (mkF m 0 #[.val (.int i), .val (.int c0), .val (.int c1)] [])
  refine OEnds.go (fun _ q => XS.iloadN X0.here X0.hx rfl (hb hby d_method_2_0) rfl q) ?_
  show OEnds p e below _ T (mkF m 1 #[.val (.int i), .val (.int c0), .val (.int c1)] [(.int i)])
  by_cases hi0 : i = (0 : Int32)
  · skip
    refine OEnds.go (fun _ q => XS.ifNo X0.here X0.hx rfl (hb hby d_method_2_1) rfl ((if0 _ _).trans (teq hi0).2) q) ?_
    show OEnds p e below _ T (mkF m 4 #[.val (.int i), .val (.int c0), .val (.int c1)] [])
    refine X0.ldcR hE (own_k hw 34 rfl) (own_wS hw) (List.mem_of_getElem? (i := 0) rfl) (vs := []) (z := 0) ⟨by decide, rfl⟩ (by decide) (by decide) (hb hby d_method_2_4) (j := 0) (by decide) (by decide) (by decide) (by decide) ?_
    intro vm1 T2 h3 a4 a5 ka5 X6 E7 C8 Aa4 Ca4 Va4 Ka5 ne9
    have EX_h3 := ext_trans EX0 E7
    show OEnds p e below _ T2 (mkF m 6 #[.val (.int i), .val (.int c0), .val (.int c1)] [(.ref a4)])
    have hS0 : OStr Z h3 a4 [] := ⟨Aa4, Ca4, ⟨a5, ka5, Va4, Ka5⟩, all_nil, by decide⟩
    have hS := hS0
    rw [← own_txt0 (c0 := c0) (c1 := c1) hi0] at hS
    exact X6.retRef hE hlk rfl (t := (FieldType.object "java/lang/String")) rfl hret (hb hby d_method_2_6) (by decide) (by decide) ⟨a4, rfl, EX_h3, hS⟩
  · skip
    refine OEnds.go (fun _ q => XS.ifYes X0.here X0.hx rfl (pc0 := 1) (pc' := 7) rfl (hb hby d_method_2_1) rfl ((if0 _ _).trans (feq hi0).2) (by decide) (by decide) q) ?_
    show OEnds p e below _ T (mkF m 7 #[.val (.int i), .val (.int c0), .val (.int c1)] [])
    refine OEnds.go (fun _ q => XS.iloadN X0.here X0.hx rfl (hb hby d_method_2_7) rfl q) ?_
    refine OEnds.go (fun _ q => XS.iconst X0.here X0.hx rfl (hb hby d_method_2_8) q) ?_
    show OEnds p e below _ T (mkF m 9 #[.val (.int i), .val (.int c0), .val (.int c1)] [(.int (1 : Int32)), (.int i)])
    by_cases hi1 : i = (1 : Int32)
    · skip
      refine OEnds.go (fun _ q => XS.icmpNo X0.here X0.hx rfl (hb hby d_method_2_9) rfl (teq hi1).2 q) ?_
      show OEnds p e below _ T (mkF m 12 #[.val (.int i), .val (.int c0), .val (.int c1)] [])
      refine OEnds.go (fun _ q => XS.iloadN X0.here X0.hx rfl (hb hby d_method_2_12) rfl q) ?_
      show OEnds p e below _ T (mkF m 13 #[.val (.int i), .val (.int c0), .val (.int c1)] [(.int c0)])
      refine X0.callS hE (con_valC H c0 h0b h0) (own_k hw 37 rfl) (own_k hw 38 rfl) (own_k hw 6 rfl) (own_k hw 39 rfl)  (by decide) (W := 0) (by decide) (by decide) (argsL := [(.int c0)]) (rest := []) rfl (lenOf own_pd20 rfl) rfl (by rw [hml]; rfl) (Nat.le_of_eq rfl) (hb hby d_method_2_13) (by decide) (by decide) ?_
      intro v18 vm16 T13 h15 X14 C17 q19
      obtain ⟨a10, rfl, E11, Str12⟩ := q19
      have EX_h15 := ext_trans EX0 E11
      show OEnds p e below _ T13 (mkF m 16 #[.val (.int i), .val (.int c0), .val (.int c1)] [(.ref a10)])
      have hS := Str12
      rw [← own_txt1 (c0 := c0) (c1 := c1) hi0 hi1] at hS
      exact X14.retRef hE hlk rfl (t := (FieldType.object "java/lang/String")) rfl hret (hb hby d_method_2_16) (by decide) (by decide) ⟨a10, rfl, EX_h15, hS⟩
    · skip
      refine OEnds.go (fun _ q => XS.icmpYes X0.here X0.hx rfl (pc0 := 9) (pc' := 17) rfl (hb hby d_method_2_9) rfl (feq hi1).2 (by decide) (by decide) q) ?_
      show OEnds p e below _ T (mkF m 17 #[.val (.int i), .val (.int c0), .val (.int c1)] [])
      refine X0.newO (own_k hw 4 rfl) (own_k hw 5 rfl) (own_k hw 6 rfl) (hb hby d_method_2_17) (by decide) (by decide) ?_
      intro T20 h22 a24 ga24 X21 E23 Aa24 Da24 Ua24
      have gza24 : Z.heap.size ≤ a24 := ga24 ▸ X0.old.1
      have EX_h22 := ext_trans EX0 E23
      have Fa24_coder : Fld Z h22 a24 "java/lang/String" "coder" "B" (.int (0 : Int32)) := Da24 (Or.inr (own_k hw 31 rfl)) (ty := FieldType.byte) (by decide)
      have Fa24_value : Fld Z h22 a24 "java/lang/String" "value" "[B" .null := Da24 (Or.inr (own_k hw 33 rfl)) (ty := (FieldType.array FieldType.byte)) (by decide)
      show OEnds p e below _ T20 (mkF m 20 #[.val (.int i), .val (.int c0), .val (.int c1)] [(.ref a24)])
      refine OEnds.go (fun _ q => XS.dup X21.here X21.hx rfl (hb hby d_method_2_20) rfl rfl q) ?_
      refine OEnds.go (fun _ q => XS.iconst X21.here X21.hx rfl (hb hby d_method_2_21) q) ?_
      show OEnds p e below _ T20 (mkF m 22 #[.val (.int i), .val (.int c0), .val (.int c1)] [(.int (2 : Int32)), (.ref a24), (.ref a24)])
      refine X21.newP (own_k hw 7 rfl) (hb hby d_method_2_22) (by decide) (cap := 2) (by decide) (by decide) (by decide) (by decide) ?_
      intro T25 h27 a29 ka29 ga29 X26 E28 Ka29
      have gza29 : Z.heap.size ≤ a29 := ga29 ▸ X21.old.1
      have Aa24_h27 := Aa24.ext E28
      have Fa24_coder_h27 := Fa24_coder.ext E28
      have Fa24_value_h27 := Fa24_value.ext E28
      have EBa24_h27 := ext_trans E23 E28
      have EX_h27 := ext_trans EX_h22 E28
      have Ka29_0 : Arv Z h27 a29 ka29 .char (2 : Int32) [.int (0 : Int32), .int (0 : Int32)] (.int (0 : Int32)) := Ka29.pad (pad_rep [] (.int (0 : Int32)) 2)
      show OEnds p e below _ T25 (mkF m 24 #[.val (.int i), .val (.int c0), .val (.int c1)] [(.ref a29), (.ref a24), (.ref a24)])
      refine OEnds.go (fun _ q => XS.dup X26.here X26.hx rfl (hb hby d_method_2_24) rfl rfl q) ?_
      refine OEnds.go (fun _ q => XS.iconst X26.here X26.hx rfl (hb hby d_method_2_25) q) ?_
      show OEnds p e below _ T25 (mkF m 26 #[.val (.int i), .val (.int c0), .val (.int c1)] [(.int (0 : Int32)), (.ref a29), (.ref a29), (.ref a24), (.ref a24)])
      refine OEnds.go (fun _ q => XS.iloadN X26.here X26.hx rfl (hb hby d_method_2_26) rfl q) ?_
      show OEnds p e below _ T25 (mkF m 27 #[.val (.int i), .val (.int c0), .val (.int c1)] [(.int c0), (.int (0 : Int32)), (.ref a29), (.ref a29), (.ref a24), (.ref a24)])
      refine X26.stC Ka29_0 (by decide) (up255 h0b) (i := 0) rfl (Nat.le_of_ble_eq_true rfl) gza29 (hb hby d_method_2_27) ?_
      intro T30 h32 X31 W33 Ka29_h32x
      have Ka29_h32 : Arv Z h32 a29 ka29 .char (2 : Int32) [.int c0, .int (0 : Int32)] (.int (0 : Int32)) := Ka29_h32x
      have EBa29_h32 := ext_wr E28 W33 (Nat.le_of_eq ga29)
      have Aa24_h32 := Aa24.ext EBa29_h32
      have Fa24_coder_h32 := Fa24_coder.ext EBa29_h32
      have Fa24_value_h32 := Fa24_value.ext EBa29_h32
      have EX_h32 := ext_wr EX_h27 W33 (Nat.le_trans EX_h22.1 (Nat.le_of_eq ga29))
      have EBa24_h32 := ext_wr EBa24_h27 W33 (Nat.le_trans E23.1 (Nat.le_of_eq ga29))
      show OEnds p e below _ T30 (mkF m 28 #[.val (.int i), .val (.int c0), .val (.int c1)] [(.ref a29), (.ref a24), (.ref a24)])
      refine OEnds.go (fun _ q => XS.dup X31.here X31.hx rfl (hb hby d_method_2_28) rfl rfl q) ?_
      refine OEnds.go (fun _ q => XS.iconst X31.here X31.hx rfl (hb hby d_method_2_29) q) ?_
      show OEnds p e below _ T30 (mkF m 30 #[.val (.int i), .val (.int c0), .val (.int c1)] [(.int (1 : Int32)), (.ref a29), (.ref a29), (.ref a24), (.ref a24)])
      refine OEnds.go (fun _ q => XS.iloadN X31.here X31.hx rfl (hb hby d_method_2_30) rfl q) ?_
      show OEnds p e below _ T30 (mkF m 31 #[.val (.int i), .val (.int c0), .val (.int c1)] [(.int c1), (.int (1 : Int32)), (.ref a29), (.ref a29), (.ref a24), (.ref a24)])
      refine X31.stC Ka29_h32 (by decide) (up255 h1b) (i := 1) rfl (Nat.le_of_ble_eq_true rfl) gza29 (hb hby d_method_2_31) ?_
      intro T34 h36 X35 W37 Ka29_h36x
      have Ka29_h36 : Arv Z h36 a29 ka29 .char (2 : Int32) [.int c0, .int c1] (.int (0 : Int32)) := Ka29_h36x
      have EBa29_h36 := ext_wr EBa29_h32 W37 (Nat.le_of_eq ga29)
      have Aa24_h36 := Aa24.ext EBa29_h36
      have Fa24_coder_h36 := Fa24_coder.ext EBa29_h36
      have Fa24_value_h36 := Fa24_value.ext EBa29_h36
      have EX_h36 := ext_wr EX_h32 W37 (Nat.le_trans EX_h22.1 (Nat.le_of_eq ga29))
      have EBa24_h36 := ext_wr EBa24_h32 W37 (Nat.le_trans E23.1 (Nat.le_of_eq ga29))
      show OEnds p e below _ T34 (mkF m 32 #[.val (.int i), .val (.int c0), .val (.int c1)] [(.ref a29), (.ref a24), (.ref a24)])
      refine own_newStr H X35 (cs := [c0, c1]) (j := 2) gza24 Aa24_h36 Fa24_value_h36 Fa24_coder_h36 Ka29_h36 rfl rfl (by decide) (by decide) (all_cons h0b (all_cons h1b all_nil)) (own_k hw 8 rfl) (W := 1) (by decide) (by decide) (by rw [hml]; rfl) (Nat.le_of_eq rfl) (hb hby d_method_2_32) (by decide) (by decide) ?_
      intro T38 h40 X39 K41 Str42
      have EBa24_h40 := ext_keep EBa24_h36 K41 (allS (Nat.le_of_eq ga24) all0)
      have EX_h40 := ext_keep EX_h36 K41 (allS (Nat.le_trans EX0.1 (Nat.le_of_eq ga24)) all0)
      show OEnds p e below _ T38 (mkF m 35 #[.val (.int i), .val (.int c0), .val (.int c1)] [(.ref a24)])
      have hS := Str42
      rw [← own_txt2 (c0 := c0) (c1 := c1) hi0 hi1] at hS
      exact X39.retRef hE hlk rfl (t := (FieldType.object "java/lang/String")) rfl hret (hb hby d_method_2_35) (by decide) (by decide) ⟨a24, rfl, EX_h40, hS⟩
theorem con_rec {l : Launch} {Z : State} {a0 : Array Value} {cz : Int32} {fm : Value} (H : Ctx Z a0 cz fm) (a : Addr) (h0 : Heap)  :
    ConX l Z consts_1 (⟨"java/lang/Record", "<init>", "()V"⟩ : MethodName) jdk_30_method_1_code 1 (none : Option FieldType) [] ({ frames := 1, cells := 0, slots := 0, locals := 12 } : Room) #[(.ref a)] h0 (fun r h => r = none ∧ h0 = h) := by
  obtain ⟨hw, hE, S0, hcz, S1, rf⟩ := id H
  refine ConX.of own_pf29 ?_
  intro p e s m below meth c T hby hml hret hlk hnm X0
  have EX0 := ext_refl h0
  refine OEnds.cast (own_ef4 m a ) ?_
  show OEnds p e below _ T (mkF m 0 #[.val (.ref a)] [])
  refine OEnds.go (fun _ q => XS.aloadN X0.here X0.hx rfl (hb hby d_jdk_30_method_1_0) rfl rfl q) ?_
  show OEnds p e below _ T (mkF m 1 #[.val (.ref a)] [(.ref a)])
  refine X0.initO (own_k hw 62 rfl) (own_k hw 16 rfl) (own_k hw 17 rfl) (by rw [hml]; rfl) (hb hby d_jdk_30_method_1_1) (by decide) (W := 0) (Nat.le_of_eq rfl) (by decide) ?_
  intro T1 X2
  show OEnds p e below _ T1 (mkF m 4 #[.val (.ref a)] [])
  exact X2.ret0 hE hlk  hret (hb hby d_jdk_30_method_1_4) (by decide) (by decide) ⟨rfl, rfl⟩
theorem con_gt {l : Launch} {Z : State} {a0 : Array Value} {cz : Int32} {fm : Value} (H : Ctx Z a0 cz fm) (a : Addr) (s1 : Addr) (s2 : Addr) (s3 : Addr) (s4 : Addr) (s5 : Addr) (f6 : Int64) (f7 : Int32) (gza : Z.heap.size ≤ a) (h0 : Heap) (Aa : Exa Z h0 a "com/example/fritillary/fritillary/IdGeneration$GeneratorTable") (Fa_table : Fld Z h0 a "com/example/fritillary/fritillary/IdGeneration$GeneratorTable" "table" "Ljava/lang/String;" .null) (Fa_canonicalTable : Fld Z h0 a "com/example/fritillary/fritillary/IdGeneration$GeneratorTable" "canonicalTable" "Ljava/lang/String;" .null) (Fa_keyColumn : Fld Z h0 a "com/example/fritillary/fritillary/IdGeneration$GeneratorTable" "keyColumn" "Ljava/lang/String;" .null) (Fa_valueColumn : Fld Z h0 a "com/example/fritillary/fritillary/IdGeneration$GeneratorTable" "valueColumn" "Ljava/lang/String;" .null) (Fa_key : Fld Z h0 a "com/example/fritillary/fritillary/IdGeneration$GeneratorTable" "key" "Ljava/lang/String;" .null) (Fa_first : Fld Z h0 a "com/example/fritillary/fritillary/IdGeneration$GeneratorTable" "first" "J" (.long (0 : Int64))) (Fa_allocationSize : Fld Z h0 a "com/example/fritillary/fritillary/IdGeneration$GeneratorTable" "allocationSize" "I" (.int (0 : Int32))) :
    ConX l Z consts_1 (⟨"com/example/fritillary/fritillary/IdGeneration$GeneratorTable", "<init>", "(Ljava/lang/String;Ljava/lang/String;Ljava/lang/String;Ljava/lang/String;Ljava/lang/String;JI)V"⟩ : MethodName) prog_14_method_1_code 9 (none : Option FieldType) [] ({ frames := 2, cells := 0, slots := 0, locals := 24 } : Room) #[(.ref a), (.ref s1), (.ref s2), (.ref s3), (.ref s4), (.ref s5), (.long f6), (.int f7)] h0 (fun r h => r = none ∧ Keep h0 h [a] ∧ Exa Z h a "com/example/fritillary/fritillary/IdGeneration$GeneratorTable" ∧ Fld Z h a "com/example/fritillary/fritillary/IdGeneration$GeneratorTable" "table" "Ljava/lang/String;" (.ref s1) ∧ Fld Z h a "com/example/fritillary/fritillary/IdGeneration$GeneratorTable" "canonicalTable" "Ljava/lang/String;" (.ref s2) ∧ Fld Z h a "com/example/fritillary/fritillary/IdGeneration$GeneratorTable" "keyColumn" "Ljava/lang/String;" (.ref s3) ∧ Fld Z h a "com/example/fritillary/fritillary/IdGeneration$GeneratorTable" "valueColumn" "Ljava/lang/String;" (.ref s4) ∧ Fld Z h a "com/example/fritillary/fritillary/IdGeneration$GeneratorTable" "key" "Ljava/lang/String;" (.ref s5) ∧ Fld Z h a "com/example/fritillary/fritillary/IdGeneration$GeneratorTable" "first" "J" (.long f6) ∧ Fld Z h a "com/example/fritillary/fritillary/IdGeneration$GeneratorTable" "allocationSize" "I" (.int f7)) := by
  obtain ⟨hw, hE, S0, hcz, S1, rf⟩ := id H
  refine ConX.of own_pf30 ?_
  intro p e s m below meth c T hby hml hret hlk hnm X0
  have EX0 := ext_refl h0
  refine OEnds.cast (own_ef16 m a s1 s2 s3 s4 s5 f6 f7 ) ?_
  show OEnds p e below _ T (mkF m 0 #[.val (.ref a), .val (.ref s1), .val (.ref s2), .val (.ref s3), .val (.ref s4), .val (.ref s5), .val (.long f6), .second, .val (.int f7)] [])
  have K0 := Keep.refl h0 [a]
  refine OEnds.go (fun _ q => XS.aloadN X0.here X0.hx rfl (hb hby d_prog_14_method_1_0) rfl rfl q) ?_
  show OEnds p e below _ T (mkF m 1 #[.val (.ref a), .val (.ref s1), .val (.ref s2), .val (.ref s3), .val (.ref s4), .val (.ref s5), .val (.long f6), .second, .val (.int f7)] [(.ref a)])
  refine X0.callI hE (con_rec H a h0) (own_k hw 57 rfl) (own_k hw 58 rfl) (own_k hw 60 rfl) (own_k hw 61 rfl) rfl (by decide) (W := 0) (by decide) (by decide) (a := a) (argsL := []) (rest := []) rfl (lenOf own_pd21 rfl) rfl (by rw [hml]; rfl) (Nat.le_of_eq rfl) (hb hby d_prog_14_method_1_1) (by decide) (by decide) ?_
  intro v6 vm4 T1 h3 X2 C5 q7
  obtain ⟨rfl, rfl⟩ := q7
  show OEnds p e below _ T1 (mkF m 4 #[.val (.ref a), .val (.ref s1), .val (.ref s2), .val (.ref s3), .val (.ref s4), .val (.ref s5), .val (.long f6), .second, .val (.int f7)] [])
  refine OEnds.go (fun _ q => XS.aloadN X2.here X2.hx rfl (hb hby d_prog_14_method_1_4) rfl rfl q) ?_
  refine OEnds.go (fun _ q => XS.aloadN X2.here X2.hx rfl (hb hby d_prog_14_method_1_5) rfl rfl q) ?_
  show OEnds p e below _ T1 (mkF m 6 #[.val (.ref a), .val (.ref s1), .val (.ref s2), .val (.ref s3), .val (.ref s4), .val (.ref s5), .val (.long f6), .second, .val (.int f7)] [(.ref s1), (.ref a)])
  refine X2.putF (v := (.ref s1)) (own_k hw 63 rfl) Via.refl Fa_table Aa (Or.inr ⟨(own_k hw 64 rfl), rfl, hnm⟩) (own_k hw 52 rfl) (ty := (FieldType.object "java/lang/String")) (by decide) rfl rfl (Safe.exa X2.al Aa (by decide) (by decide)) gza (hb hby d_prog_14_method_1_6) ?_
  intro T8 h10 X9 W11
  have Fa_table_h10 := Fa_table.same W11
  have Aa_h10 := Aa.wr W11
  have Fa_canonicalTable_h10 := Fa_canonicalTable.other W11 (Or.inr (slot_ne (a0 := a0) (Or.inr (own_k hw 66 rfl)) (Or.inr (own_k hw 64 rfl)) (by decide) (t := (FieldType.object "java/lang/String")) (by decide) (t' := (FieldType.object "java/lang/String")) (by decide)))
  have Fa_keyColumn_h10 := Fa_keyColumn.other W11 (Or.inr (slot_ne (a0 := a0) (Or.inr (own_k hw 68 rfl)) (Or.inr (own_k hw 64 rfl)) (by decide) (t := (FieldType.object "java/lang/String")) (by decide) (t' := (FieldType.object "java/lang/String")) (by decide)))
  have Fa_valueColumn_h10 := Fa_valueColumn.other W11 (Or.inr (slot_ne (a0 := a0) (Or.inr (own_k hw 70 rfl)) (Or.inr (own_k hw 64 rfl)) (by decide) (t := (FieldType.object "java/lang/String")) (by decide) (t' := (FieldType.object "java/lang/String")) (by decide)))
  have Fa_key_h10 := Fa_key.other W11 (Or.inr (slot_ne (a0 := a0) (Or.inr (own_k hw 72 rfl)) (Or.inr (own_k hw 64 rfl)) (by decide) (t := (FieldType.object "java/lang/String")) (by decide) (t' := (FieldType.object "java/lang/String")) (by decide)))
  have Fa_first_h10 := Fa_first.other W11 (Or.inr (slot_ne (a0 := a0) (Or.inr (own_k hw 74 rfl)) (Or.inr (own_k hw 64 rfl)) (by decide) (t := FieldType.long) (by decide) (t' := (FieldType.object "java/lang/String")) (by decide)))
  have Fa_allocationSize_h10 := Fa_allocationSize.other W11 (Or.inr (slot_ne (a0 := a0) (Or.inr (own_k hw 76 rfl)) (Or.inr (own_k hw 64 rfl)) (by decide) (t := FieldType.int) (by decide) (t' := (FieldType.object "java/lang/String")) (by decide)))
  have K12 := K0.wr W11 (Or.inl (List.mem_of_getElem? (i := 0) rfl))
  show OEnds p e below _ T8 (mkF m 9 #[.val (.ref a), .val (.ref s1), .val (.ref s2), .val (.ref s3), .val (.ref s4), .val (.ref s5), .val (.long f6), .second, .val (.int f7)] [])
  refine OEnds.go (fun _ q => XS.aloadN X9.here X9.hx rfl (hb hby d_prog_14_method_1_9) rfl rfl q) ?_
  refine OEnds.go (fun _ q => XS.aloadN X9.here X9.hx rfl (hb hby d_prog_14_method_1_10) rfl rfl q) ?_
  show OEnds p e below _ T8 (mkF m 11 #[.val (.ref a), .val (.ref s1), .val (.ref s2), .val (.ref s3), .val (.ref s4), .val (.ref s5), .val (.long f6), .second, .val (.int f7)] [(.ref s2), (.ref a)])
  refine X9.putF (v := (.ref s2)) (own_k hw 65 rfl) Via.refl Fa_canonicalTable_h10 Aa_h10 (Or.inr ⟨(own_k hw 66 rfl), rfl, hnm⟩) (own_k hw 52 rfl) (ty := (FieldType.object "java/lang/String")) (by decide) rfl rfl (Safe.exa X9.al Aa_h10 (by decide) (by decide)) gza (hb hby d_prog_14_method_1_11) ?_
  intro T13 h15 X14 W16
  have Fa_canonicalTable_h15 := Fa_canonicalTable_h10.same W16
  have Aa_h15 := Aa_h10.wr W16
  have Fa_table_h15 := Fa_table_h10.other W16 (Or.inr (slot_ne (a0 := a0) (Or.inr (own_k hw 64 rfl)) (Or.inr (own_k hw 66 rfl)) (by decide) (t := (FieldType.object "java/lang/String")) (by decide) (t' := (FieldType.object "java/lang/String")) (by decide)))
  have Fa_keyColumn_h15 := Fa_keyColumn_h10.other W16 (Or.inr (slot_ne (a0 := a0) (Or.inr (own_k hw 68 rfl)) (Or.inr (own_k hw 66 rfl)) (by decide) (t := (FieldType.object "java/lang/String")) (by decide) (t' := (FieldType.object "java/lang/String")) (by decide)))
  have Fa_valueColumn_h15 := Fa_valueColumn_h10.other W16 (Or.inr (slot_ne (a0 := a0) (Or.inr (own_k hw 70 rfl)) (Or.inr (own_k hw 66 rfl)) (by decide) (t := (FieldType.object "java/lang/String")) (by decide) (t' := (FieldType.object "java/lang/String")) (by decide)))
  have Fa_key_h15 := Fa_key_h10.other W16 (Or.inr (slot_ne (a0 := a0) (Or.inr (own_k hw 72 rfl)) (Or.inr (own_k hw 66 rfl)) (by decide) (t := (FieldType.object "java/lang/String")) (by decide) (t' := (FieldType.object "java/lang/String")) (by decide)))
  have Fa_first_h15 := Fa_first_h10.other W16 (Or.inr (slot_ne (a0 := a0) (Or.inr (own_k hw 74 rfl)) (Or.inr (own_k hw 66 rfl)) (by decide) (t := FieldType.long) (by decide) (t' := (FieldType.object "java/lang/String")) (by decide)))
  have Fa_allocationSize_h15 := Fa_allocationSize_h10.other W16 (Or.inr (slot_ne (a0 := a0) (Or.inr (own_k hw 76 rfl)) (Or.inr (own_k hw 66 rfl)) (by decide) (t := FieldType.int) (by decide) (t' := (FieldType.object "java/lang/String")) (by decide)))
  have K17 := K12.wr W16 (Or.inl (List.mem_of_getElem? (i := 0) rfl))
  show OEnds p e below _ T13 (mkF m 14 #[.val (.ref a), .val (.ref s1), .val (.ref s2), .val (.ref s3), .val (.ref s4), .val (.ref s5), .val (.long f6), .second, .val (.int f7)] [])
  refine OEnds.go (fun _ q => XS.aloadN X14.here X14.hx rfl (hb hby d_prog_14_method_1_14) rfl rfl q) ?_
  refine OEnds.go (fun _ q => XS.aloadN X14.here X14.hx rfl (hb hby d_prog_14_method_1_15) rfl rfl q) ?_
  show OEnds p e below _ T13 (mkF m 16 #[.val (.ref a), .val (.ref s1), .val (.ref s2), .val (.ref s3), .val (.ref s4), .val (.ref s5), .val (.long f6), .second, .val (.int f7)] [(.ref s3), (.ref a)])
  refine X14.putF (v := (.ref s3)) (own_k hw 67 rfl) Via.refl Fa_keyColumn_h15 Aa_h15 (Or.inr ⟨(own_k hw 68 rfl), rfl, hnm⟩) (own_k hw 52 rfl) (ty := (FieldType.object "java/lang/String")) (by decide) rfl rfl (Safe.exa X14.al Aa_h15 (by decide) (by decide)) gza (hb hby d_prog_14_method_1_16) ?_
  intro T18 h20 X19 W21
  have Fa_keyColumn_h20 := Fa_keyColumn_h15.same W21
  have Aa_h20 := Aa_h15.wr W21
  have Fa_canonicalTable_h20 := Fa_canonicalTable_h15.other W21 (Or.inr (slot_ne (a0 := a0) (Or.inr (own_k hw 66 rfl)) (Or.inr (own_k hw 68 rfl)) (by decide) (t := (FieldType.object "java/lang/String")) (by decide) (t' := (FieldType.object "java/lang/String")) (by decide)))
  have Fa_table_h20 := Fa_table_h15.other W21 (Or.inr (slot_ne (a0 := a0) (Or.inr (own_k hw 64 rfl)) (Or.inr (own_k hw 68 rfl)) (by decide) (t := (FieldType.object "java/lang/String")) (by decide) (t' := (FieldType.object "java/lang/String")) (by decide)))
  have Fa_valueColumn_h20 := Fa_valueColumn_h15.other W21 (Or.inr (slot_ne (a0 := a0) (Or.inr (own_k hw 70 rfl)) (Or.inr (own_k hw 68 rfl)) (by decide) (t := (FieldType.object "java/lang/String")) (by decide) (t' := (FieldType.object "java/lang/String")) (by decide)))
  have Fa_key_h20 := Fa_key_h15.other W21 (Or.inr (slot_ne (a0 := a0) (Or.inr (own_k hw 72 rfl)) (Or.inr (own_k hw 68 rfl)) (by decide) (t := (FieldType.object "java/lang/String")) (by decide) (t' := (FieldType.object "java/lang/String")) (by decide)))
  have Fa_first_h20 := Fa_first_h15.other W21 (Or.inr (slot_ne (a0 := a0) (Or.inr (own_k hw 74 rfl)) (Or.inr (own_k hw 68 rfl)) (by decide) (t := FieldType.long) (by decide) (t' := (FieldType.object "java/lang/String")) (by decide)))
  have Fa_allocationSize_h20 := Fa_allocationSize_h15.other W21 (Or.inr (slot_ne (a0 := a0) (Or.inr (own_k hw 76 rfl)) (Or.inr (own_k hw 68 rfl)) (by decide) (t := FieldType.int) (by decide) (t' := (FieldType.object "java/lang/String")) (by decide)))
  have K22 := K17.wr W21 (Or.inl (List.mem_of_getElem? (i := 0) rfl))
  show OEnds p e below _ T18 (mkF m 19 #[.val (.ref a), .val (.ref s1), .val (.ref s2), .val (.ref s3), .val (.ref s4), .val (.ref s5), .val (.long f6), .second, .val (.int f7)] [])
  refine OEnds.go (fun _ q => XS.aloadN X19.here X19.hx rfl (hb hby d_prog_14_method_1_19) rfl rfl q) ?_
  refine OEnds.go (fun _ q => XS.aload X19.here X19.hx rfl (hb hby d_prog_14_method_1_20) rfl rfl q) ?_
  show OEnds p e below _ T18 (mkF m 22 #[.val (.ref a), .val (.ref s1), .val (.ref s2), .val (.ref s3), .val (.ref s4), .val (.ref s5), .val (.long f6), .second, .val (.int f7)] [(.ref s4), (.ref a)])
  refine X19.putF (v := (.ref s4)) (own_k hw 69 rfl) Via.refl Fa_valueColumn_h20 Aa_h20 (Or.inr ⟨(own_k hw 70 rfl), rfl, hnm⟩) (own_k hw 52 rfl) (ty := (FieldType.object "java/lang/String")) (by decide) rfl rfl (Safe.exa X19.al Aa_h20 (by decide) (by decide)) gza (hb hby d_prog_14_method_1_22) ?_
  intro T23 h25 X24 W26
  have Fa_valueColumn_h25 := Fa_valueColumn_h20.same W26
  have Aa_h25 := Aa_h20.wr W26
  have Fa_keyColumn_h25 := Fa_keyColumn_h20.other W26 (Or.inr (slot_ne (a0 := a0) (Or.inr (own_k hw 68 rfl)) (Or.inr (own_k hw 70 rfl)) (by decide) (t := (FieldType.object "java/lang/String")) (by decide) (t' := (FieldType.object "java/lang/String")) (by decide)))
  have Fa_canonicalTable_h25 := Fa_canonicalTable_h20.other W26 (Or.inr (slot_ne (a0 := a0) (Or.inr (own_k hw 66 rfl)) (Or.inr (own_k hw 70 rfl)) (by decide) (t := (FieldType.object "java/lang/String")) (by decide) (t' := (FieldType.object "java/lang/String")) (by decide)))
  have Fa_table_h25 := Fa_table_h20.other W26 (Or.inr (slot_ne (a0 := a0) (Or.inr (own_k hw 64 rfl)) (Or.inr (own_k hw 70 rfl)) (by decide) (t := (FieldType.object "java/lang/String")) (by decide) (t' := (FieldType.object "java/lang/String")) (by decide)))
  have Fa_key_h25 := Fa_key_h20.other W26 (Or.inr (slot_ne (a0 := a0) (Or.inr (own_k hw 72 rfl)) (Or.inr (own_k hw 70 rfl)) (by decide) (t := (FieldType.object "java/lang/String")) (by decide) (t' := (FieldType.object "java/lang/String")) (by decide)))
  have Fa_first_h25 := Fa_first_h20.other W26 (Or.inr (slot_ne (a0 := a0) (Or.inr (own_k hw 74 rfl)) (Or.inr (own_k hw 70 rfl)) (by decide) (t := FieldType.long) (by decide) (t' := (FieldType.object "java/lang/String")) (by decide)))
  have Fa_allocationSize_h25 := Fa_allocationSize_h20.other W26 (Or.inr (slot_ne (a0 := a0) (Or.inr (own_k hw 76 rfl)) (Or.inr (own_k hw 70 rfl)) (by decide) (t := FieldType.int) (by decide) (t' := (FieldType.object "java/lang/String")) (by decide)))
  have K27 := K22.wr W26 (Or.inl (List.mem_of_getElem? (i := 0) rfl))
  show OEnds p e below _ T23 (mkF m 25 #[.val (.ref a), .val (.ref s1), .val (.ref s2), .val (.ref s3), .val (.ref s4), .val (.ref s5), .val (.long f6), .second, .val (.int f7)] [])
  refine OEnds.go (fun _ q => XS.aloadN X24.here X24.hx rfl (hb hby d_prog_14_method_1_25) rfl rfl q) ?_
  refine OEnds.go (fun _ q => XS.aload X24.here X24.hx rfl (hb hby d_prog_14_method_1_26) rfl rfl q) ?_
  show OEnds p e below _ T23 (mkF m 28 #[.val (.ref a), .val (.ref s1), .val (.ref s2), .val (.ref s3), .val (.ref s4), .val (.ref s5), .val (.long f6), .second, .val (.int f7)] [(.ref s5), (.ref a)])
  refine X24.putF (v := (.ref s5)) (own_k hw 71 rfl) Via.refl Fa_key_h25 Aa_h25 (Or.inr ⟨(own_k hw 72 rfl), rfl, hnm⟩) (own_k hw 52 rfl) (ty := (FieldType.object "java/lang/String")) (by decide) rfl rfl (Safe.exa X24.al Aa_h25 (by decide) (by decide)) gza (hb hby d_prog_14_method_1_28) ?_
  intro T28 h30 X29 W31
  have Fa_key_h30 := Fa_key_h25.same W31
  have Aa_h30 := Aa_h25.wr W31
  have Fa_valueColumn_h30 := Fa_valueColumn_h25.other W31 (Or.inr (slot_ne (a0 := a0) (Or.inr (own_k hw 70 rfl)) (Or.inr (own_k hw 72 rfl)) (by decide) (t := (FieldType.object "java/lang/String")) (by decide) (t' := (FieldType.object "java/lang/String")) (by decide)))
  have Fa_keyColumn_h30 := Fa_keyColumn_h25.other W31 (Or.inr (slot_ne (a0 := a0) (Or.inr (own_k hw 68 rfl)) (Or.inr (own_k hw 72 rfl)) (by decide) (t := (FieldType.object "java/lang/String")) (by decide) (t' := (FieldType.object "java/lang/String")) (by decide)))
  have Fa_canonicalTable_h30 := Fa_canonicalTable_h25.other W31 (Or.inr (slot_ne (a0 := a0) (Or.inr (own_k hw 66 rfl)) (Or.inr (own_k hw 72 rfl)) (by decide) (t := (FieldType.object "java/lang/String")) (by decide) (t' := (FieldType.object "java/lang/String")) (by decide)))
  have Fa_table_h30 := Fa_table_h25.other W31 (Or.inr (slot_ne (a0 := a0) (Or.inr (own_k hw 64 rfl)) (Or.inr (own_k hw 72 rfl)) (by decide) (t := (FieldType.object "java/lang/String")) (by decide) (t' := (FieldType.object "java/lang/String")) (by decide)))
  have Fa_first_h30 := Fa_first_h25.other W31 (Or.inr (slot_ne (a0 := a0) (Or.inr (own_k hw 74 rfl)) (Or.inr (own_k hw 72 rfl)) (by decide) (t := FieldType.long) (by decide) (t' := (FieldType.object "java/lang/String")) (by decide)))
  have Fa_allocationSize_h30 := Fa_allocationSize_h25.other W31 (Or.inr (slot_ne (a0 := a0) (Or.inr (own_k hw 76 rfl)) (Or.inr (own_k hw 72 rfl)) (by decide) (t := FieldType.int) (by decide) (t' := (FieldType.object "java/lang/String")) (by decide)))
  have K32 := K27.wr W31 (Or.inl (List.mem_of_getElem? (i := 0) rfl))
  show OEnds p e below _ T28 (mkF m 31 #[.val (.ref a), .val (.ref s1), .val (.ref s2), .val (.ref s3), .val (.ref s4), .val (.ref s5), .val (.long f6), .second, .val (.int f7)] [])
  refine OEnds.go (fun _ q => XS.aloadN X29.here X29.hx rfl (hb hby d_prog_14_method_1_31) rfl rfl q) ?_
  refine OEnds.go (fun _ q => XS.lload X29.here X29.hx rfl (hb hby d_prog_14_method_1_32) rfl q) ?_
  show OEnds p e below _ T28 (mkF m 34 #[.val (.ref a), .val (.ref s1), .val (.ref s2), .val (.ref s3), .val (.ref s4), .val (.ref s5), .val (.long f6), .second, .val (.int f7)] [(.long f6), (.ref a)])
  refine X29.putF (v := (.long f6)) (own_k hw 73 rfl) Via.refl Fa_first_h30 Aa_h30 (Or.inr ⟨(own_k hw 74 rfl), rfl, hnm⟩) (own_k hw 52 rfl) (ty := FieldType.long) (by decide) rfl rfl (Safe.exa X29.al Aa_h30 (by decide) (by decide)) gza (hb hby d_prog_14_method_1_34) ?_
  intro T33 h35 X34 W36
  have Fa_first_h35 := Fa_first_h30.same W36
  have Aa_h35 := Aa_h30.wr W36
  have Fa_key_h35 := Fa_key_h30.other W36 (Or.inr (slot_ne (a0 := a0) (Or.inr (own_k hw 72 rfl)) (Or.inr (own_k hw 74 rfl)) (by decide) (t := (FieldType.object "java/lang/String")) (by decide) (t' := FieldType.long) (by decide)))
  have Fa_valueColumn_h35 := Fa_valueColumn_h30.other W36 (Or.inr (slot_ne (a0 := a0) (Or.inr (own_k hw 70 rfl)) (Or.inr (own_k hw 74 rfl)) (by decide) (t := (FieldType.object "java/lang/String")) (by decide) (t' := FieldType.long) (by decide)))
  have Fa_keyColumn_h35 := Fa_keyColumn_h30.other W36 (Or.inr (slot_ne (a0 := a0) (Or.inr (own_k hw 68 rfl)) (Or.inr (own_k hw 74 rfl)) (by decide) (t := (FieldType.object "java/lang/String")) (by decide) (t' := FieldType.long) (by decide)))
  have Fa_canonicalTable_h35 := Fa_canonicalTable_h30.other W36 (Or.inr (slot_ne (a0 := a0) (Or.inr (own_k hw 66 rfl)) (Or.inr (own_k hw 74 rfl)) (by decide) (t := (FieldType.object "java/lang/String")) (by decide) (t' := FieldType.long) (by decide)))
  have Fa_table_h35 := Fa_table_h30.other W36 (Or.inr (slot_ne (a0 := a0) (Or.inr (own_k hw 64 rfl)) (Or.inr (own_k hw 74 rfl)) (by decide) (t := (FieldType.object "java/lang/String")) (by decide) (t' := FieldType.long) (by decide)))
  have Fa_allocationSize_h35 := Fa_allocationSize_h30.other W36 (Or.inr (slot_ne (a0 := a0) (Or.inr (own_k hw 76 rfl)) (Or.inr (own_k hw 74 rfl)) (by decide) (t := FieldType.int) (by decide) (t' := FieldType.long) (by decide)))
  have K37 := K32.wr W36 (Or.inl (List.mem_of_getElem? (i := 0) rfl))
  show OEnds p e below _ T33 (mkF m 37 #[.val (.ref a), .val (.ref s1), .val (.ref s2), .val (.ref s3), .val (.ref s4), .val (.ref s5), .val (.long f6), .second, .val (.int f7)] [])
  refine OEnds.go (fun _ q => XS.aloadN X34.here X34.hx rfl (hb hby d_prog_14_method_1_37) rfl rfl q) ?_
  refine OEnds.go (fun _ q => XS.iload X34.here X34.hx rfl (hb hby d_prog_14_method_1_38) rfl q) ?_
  show OEnds p e below _ T33 (mkF m 40 #[.val (.ref a), .val (.ref s1), .val (.ref s2), .val (.ref s3), .val (.ref s4), .val (.ref s5), .val (.long f6), .second, .val (.int f7)] [(.int f7), (.ref a)])
  refine X34.putF (v := (.int f7)) (own_k hw 75 rfl) Via.refl Fa_allocationSize_h35 Aa_h35 (Or.inr ⟨(own_k hw 76 rfl), rfl, hnm⟩) (own_k hw 52 rfl) (ty := FieldType.int) (by decide) rfl rfl (Safe.exa X34.al Aa_h35 (by decide) (by decide)) gza (hb hby d_prog_14_method_1_40) ?_
  intro T38 h40 X39 W41
  have Fa_allocationSize_h40 := Fa_allocationSize_h35.same W41
  have Aa_h40 := Aa_h35.wr W41
  have Fa_first_h40 := Fa_first_h35.other W41 (Or.inr (slot_ne (a0 := a0) (Or.inr (own_k hw 74 rfl)) (Or.inr (own_k hw 76 rfl)) (by decide) (t := FieldType.long) (by decide) (t' := FieldType.int) (by decide)))
  have Fa_key_h40 := Fa_key_h35.other W41 (Or.inr (slot_ne (a0 := a0) (Or.inr (own_k hw 72 rfl)) (Or.inr (own_k hw 76 rfl)) (by decide) (t := (FieldType.object "java/lang/String")) (by decide) (t' := FieldType.int) (by decide)))
  have Fa_valueColumn_h40 := Fa_valueColumn_h35.other W41 (Or.inr (slot_ne (a0 := a0) (Or.inr (own_k hw 70 rfl)) (Or.inr (own_k hw 76 rfl)) (by decide) (t := (FieldType.object "java/lang/String")) (by decide) (t' := FieldType.int) (by decide)))
  have Fa_keyColumn_h40 := Fa_keyColumn_h35.other W41 (Or.inr (slot_ne (a0 := a0) (Or.inr (own_k hw 68 rfl)) (Or.inr (own_k hw 76 rfl)) (by decide) (t := (FieldType.object "java/lang/String")) (by decide) (t' := FieldType.int) (by decide)))
  have Fa_canonicalTable_h40 := Fa_canonicalTable_h35.other W41 (Or.inr (slot_ne (a0 := a0) (Or.inr (own_k hw 66 rfl)) (Or.inr (own_k hw 76 rfl)) (by decide) (t := (FieldType.object "java/lang/String")) (by decide) (t' := FieldType.int) (by decide)))
  have Fa_table_h40 := Fa_table_h35.other W41 (Or.inr (slot_ne (a0 := a0) (Or.inr (own_k hw 64 rfl)) (Or.inr (own_k hw 76 rfl)) (by decide) (t := (FieldType.object "java/lang/String")) (by decide) (t' := FieldType.int) (by decide)))
  have K42 := K37.wr W41 (Or.inl (List.mem_of_getElem? (i := 0) rfl))
  show OEnds p e below _ T38 (mkF m 43 #[.val (.ref a), .val (.ref s1), .val (.ref s2), .val (.ref s3), .val (.ref s4), .val (.ref s5), .val (.long f6), .second, .val (.int f7)] [])
  exact X39.ret0 hE hlk  hret (hb hby d_prog_14_method_1_43) (by decide) (by decide) ⟨rfl, K42, Aa_h40, Fa_table_h40, Fa_canonicalTable_h40, Fa_keyColumn_h40, Fa_valueColumn_h40, Fa_key_h40, Fa_first_h40, Fa_allocationSize_h40⟩
theorem con_src {l : Launch} {Z : State} {a0 : Array Value} {cz : Int32} {fm : Value} (H : Ctx Z a0 cz fm) (a kx tx : Addr) (ks ts : List Int32) (hks : ks.length ≤ 2) (hts : ts.length ≤ 2) (h0 : Heap) (Fk : Fld Z h0 a "com/example/fritillary/fritillary/IdGeneration$GeneratorTable" "key" "Ljava/lang/String;" (.ref kx)) (Ft : Fld Z h0 a "com/example/fritillary/fritillary/IdGeneration$GeneratorTable" "canonicalTable" "Ljava/lang/String;" (.ref tx)) (Sk : OStr Z h0 kx ks) (St : OStr Z h0 tx ts) :
    ConX l Z consts_1 (⟨"com/example/fritillary/fritillary/IdGeneration$GeneratorTable", "source", "()Ljava/lang/String;"⟩ : MethodName) prog_14_method_2_code 1 (some (FieldType.object "java/lang/String")) [] ({ frames := 6, cells := 9, slots := 164, locals := 133 } : Room) #[(.ref a)] h0 (fun r h => ∃ y : Addr, r = some (.ref y) ∧ Ext h0 h ∧ OStr Z h y (own_row ++ ks ++ own_mid ++ ts)) := by
  obtain ⟨hw, hE, S0, hcz, S1, rf⟩ := id H
  refine ConX.of own_pf31 ?_
  intro p e s m below meth c T hby hml hret hlk hnm X0
  have EX0 := ext_refl h0
  refine OEnds.cast (own_ef4 m a ) ?_
  show OEnds p e below _ T (mkF m 0 #[.val (.ref a)] [])
  refine X0.newO (own_k hw 82 rfl) (own_k hw 83 rfl) (own_k hw 84 rfl) (hb hby d_prog_14_method_2_0) (by decide) (by decide) ?_
  intro T1 h3 a5 ga5 X2 E4 Aa5 Da5 Ua5
  have gza5 : Z.heap.size ≤ a5 := ga5 ▸ X0.old.1
  have EX_h3 := ext_trans EX0 E4
  have Fa5_value : Fld Z h3 a5 "java/lang/AbstractStringBuilder" "value" "[B" .null := Da5 (Or.inl (own_k hw 97 rfl)) (ty := (FieldType.array FieldType.byte)) (by decide)
  have Fa5_coder : Fld Z h3 a5 "java/lang/AbstractStringBuilder" "coder" "B" (.int (0 : Int32)) := Da5 (Or.inl (own_k hw 99 rfl)) (ty := FieldType.byte) (by decide)
  have Fa5_count : Fld Z h3 a5 "java/lang/AbstractStringBuilder" "count" "I" (.int (0 : Int32)) := Da5 (Or.inl (own_k hw 122 rfl)) (ty := FieldType.int) (by decide)
  show OEnds p e below _ T1 (mkF m 3 #[.val (.ref a)] [(.ref a5)])
  refine OEnds.go (fun _ q => XS.dup X2.here X2.hx rfl (hb hby d_prog_14_method_2_3) rfl rfl q) ?_
  show OEnds p e below _ T1 (mkF m 4 #[.val (.ref a)] [(.ref a5), (.ref a5)])
  refine X2.payI (ConN.back (W := 1) (con_sbI H a5 gza5 h3 Aa5 Fa5_count Fa5_coder Fa5_value) X2.old X2.hZ (own_k hw 87 rfl) (own_k hw 84 rfl) (by decide) (by decide)) ?_ (own_k hw 85 rfl) (own_k hw 86 rfl) (own_k hw 87 rfl) rfl (by decide) (a := a5) (argsL := []) (rest := [(.ref a5)]) rfl (lenOf own_pd21 rfl) rfl (by rw [hml]; rfl) (Nat.le_of_eq rfl) (hb hby d_prog_14_method_2_4) (by decide) (by decide) ?_
  · rintro v hh L ⟨⟨_, -, q3, -⟩, q2, q5⟩
    exact ⟨q2, ext_keep X2.old q3 (allS gza5 all0), CHr.keep q3 (sfS (Safe.exa X2.al Aa5 (by decide) (by decide)) sf0) X2.chv⟩
  intro v6 T7 h8 L9 X10 q11
  obtain ⟨⟨t, rfl, K1, ft, Sb1, At1⟩, -⟩ := q11
  show OEnds p e below _ T7 (mkF m 7 #[.val (.ref a)] [(.ref a5)])
  have ge_t : h0.size ≤ t := Nat.le_trans EX_h3.1 ft
  have gzt : Z.heap.size ≤ t := Nat.le_trans X2.old.1 ft
  have ge_b : h0.size ≤ a5 := Nat.le_of_eq ga5
  have EXi := ext_keep EX_h3 K1 (allS ge_b all0)
  have Sft := Safe.keep (EL := consts_1) K1 (sfS (Safe.exa X2.al Aa5 (by decide) (by decide)) sf0) X2.chv (Safe.new ft)
  have hl1 : (([] : List Int32) ++ own_row).length = 5 := rfl
  have hlr : own_row.length = 5 := rfl
  have hl2 : ((([] : List Int32) ++ own_row) ++ ks).length = 5 + ks.length := by rw [List.length_append, hl1]
  have hlm : own_mid.length = 11 := rfl
  have hl3 : (((([] : List Int32) ++ own_row) ++ ks) ++ own_mid).length = 16 + ks.length := by rw [List.length_append, hl2, hlm]; omega
  have hl4 : ((((([] : List Int32) ++ own_row) ++ ks) ++ own_mid) ++ ts).length = 16 + ks.length + ts.length := by rw [List.length_append, hl3]
  have Eb_Sb1 := Sb1.1
  refine X10.ldcR hE (own_k hw 100 rfl) (own_wS hw) (List.mem_of_getElem? (i := 1) rfl) (vs := ((own_row.map lo8).map Value.int)) (z := 5) own_row_t (by decide) (by decide) (hb hby d_prog_14_method_2_7) (j := 20) (by decide +kernel) (by decide) (by decide) (by decide) ?_
  intro vm13 T14 h15 a16 a17 ka17 X18 E19 C20 Aa16 Ca16 Va16 Ka17 ne12
  have Sf22 := C20.safe At1.lt Sft
  have Sb1_h15 := Sb1.ext E19
  have Eb_Sb1_h15 := Eb_Sb1.ext E19
  have At1_h15 := At1.ext E19
  have EX_h15 := ext_trans EXi E19
  have SL21 : OStr Z h15 a16 own_row := ⟨Aa16, Ca16, ⟨a17, ka17, Va16, Ka17⟩, own_row_b, by decide⟩
  show OEnds p e below _ T14 (mkF m 9 #[.val (.ref a)] [(.ref a16), (.ref a5)])
  refine X18.payV (ConN.back (W := 0) (con_sapN H a5 t a16 [] own_row 16 (by decide) (by decide) gza5 gzt h15 Sb1_h15 SL21) X18.old X18.hZ (own_k hw 105 rfl) (own_k hw 84 rfl) (by decide) (by decide)) ?_ (own_k hw 101 rfl) (own_k hw 102 rfl) (own_k hw 104 rfl) (own_k hw 103 rfl) (X18.nf (own_k hw 104 rfl)) (by decide) Eb_Sb1_h15 (argsL := [(.ref a16)]) (rest := []) rfl (lenOf own_pd22 rfl) rfl (by rw [hml]; rfl) (Nat.le_of_eq rfl) (hb hby d_prog_14_method_2_9) (by decide) (by decide) ?_
  · rintro v hh L ⟨⟨-, q3, -⟩, q2, q5⟩
    exact ⟨q2, ext_keep X18.old q3 (allS gza5 (allS gzt all0)), CHr.keep q3 (sfS (Safe.exa X18.al Eb_Sb1_h15 (by decide) (by decide)) (sfS Sf22 sf0)) X18.chv⟩
  intro v24 T25 h26 L27 X28 q29
  obtain ⟨⟨rfl, K_r23, S_r23⟩, -⟩ := q29
  show OEnds p e below _ T25 (mkF m 12 #[.val (.ref a)] [(.ref a5)])
  have EX_r23 := ext_keep EX_h15 K_r23 (allS ge_b (allS ge_t all0))
  have Sf_r23 := Safe.keep (EL := consts_1) K_r23 (sfS (Safe.exa X18.al Eb_Sb1_h15 (by decide) (by decide)) (sfS Sf22 sf0)) X18.chv Sf22
  have A_r23 := At1_h15.keep K_r23
  have Eb_S_r23 := S_r23.1
  have F30 := Fk.ext EX_r23
  refine OEnds.go (fun _ q => XS.aloadN X28.here X28.hx rfl (hb hby d_prog_14_method_2_12) rfl rfl q) ?_
  show OEnds p e below _ T25 (mkF m 13 #[.val (.ref a)] [(.ref a), (.ref a5)])
  refine X28.getF (own_k hw 71 rfl) Via.refl F30 (hb hby d_prog_14_method_2_13) ?_
  intro T31 X32
  show OEnds p e below _ T31 (mkF m 16 #[.val (.ref a)] [(.ref kx), (.ref a5)])
  have Sk2 := Sk.ext EX_r23
  refine X32.payV (ConN.back (W := 0) (con_sapN H a5 t kx (([] : List Int32) ++ own_row) ks 16 (by omega) (by decide) gza5 gzt h26 S_r23 Sk2) X32.old X32.hZ (own_k hw 105 rfl) (own_k hw 84 rfl) (by decide) (by decide)) ?_ (own_k hw 101 rfl) (own_k hw 102 rfl) (own_k hw 104 rfl) (own_k hw 103 rfl) (X32.nf (own_k hw 104 rfl)) (by decide) Eb_S_r23 (argsL := [(.ref kx)]) (rest := []) rfl (lenOf own_pd22 rfl) rfl (by rw [hml]; rfl) (Nat.le_of_eq rfl) (hb hby d_prog_14_method_2_16) (by decide) (by decide) ?_
  · rintro v hh L ⟨⟨-, q3, -⟩, q2, q5⟩
    exact ⟨q2, ext_keep X32.old q3 (allS gza5 (allS gzt all0)), CHr.keep q3 (sfS (Safe.exa X32.al Eb_S_r23 (by decide) (by decide)) (sfS Sf_r23 sf0)) X32.chv⟩
  intro v34 T35 h36 L37 X38 q39
  obtain ⟨⟨rfl, K_r33, S_r33⟩, -⟩ := q39
  show OEnds p e below _ T35 (mkF m 19 #[.val (.ref a)] [(.ref a5)])
  have EX_r33 := ext_keep EX_r23 K_r33 (allS ge_b (allS ge_t all0))
  have Sf_r33 := Safe.keep (EL := consts_1) K_r33 (sfS (Safe.exa X32.al Eb_S_r23 (by decide) (by decide)) (sfS Sf_r23 sf0)) X32.chv Sf_r23
  have A_r33 := A_r23.keep K_r33
  have Eb_S_r33 := S_r33.1
  refine X38.ldcR hE (own_k hw 148 rfl) (own_wS hw) (List.mem_of_getElem? (i := 2) rfl) (vs := ((own_mid.map lo8).map Value.int)) (z := 11) own_mid_t (by decide) (by decide) (hb hby d_prog_14_method_2_19) (j := 44) (by decide +kernel) (by decide) (by decide) (by decide) ?_
  intro vm41 T42 h43 a44 a45 ka45 X46 E47 C48 Aa44 Ca44 Va44 Ka45 ne40
  have Sf50 := C48.safe A_r33.lt Sf_r33
  have S_r33_h43 := S_r33.ext E47
  have Eb_S_r33_h43 := Eb_S_r33.ext E47
  have A_r33_h43 := A_r33.ext E47
  have EX_h43 := ext_trans EX_r33 E47
  have SL49 : OStr Z h43 a44 own_mid := ⟨Aa44, Ca44, ⟨a45, ka45, Va44, Ka45⟩, own_mid_b, by decide⟩
  show OEnds p e below _ T42 (mkF m 21 #[.val (.ref a)] [(.ref a44), (.ref a5)])
  by_cases hk0 : ks.length = 0
  · skip
    refine X46.payV (ConN.back (W := 0) (con_sapN H a5 t a44 ((([] : List Int32) ++ own_row) ++ ks) own_mid 16 (by omega) (by decide) gza5 gzt h43 S_r33_h43 SL49) X46.old X46.hZ (own_k hw 105 rfl) (own_k hw 84 rfl) (by decide) (by decide)) ?_ (own_k hw 101 rfl) (own_k hw 102 rfl) (own_k hw 104 rfl) (own_k hw 103 rfl) (X46.nf (own_k hw 104 rfl)) (by decide) Eb_S_r33_h43 (argsL := [(.ref a44)]) (rest := []) rfl (lenOf own_pd22 rfl) rfl (by rw [hml]; rfl) (Nat.le_of_eq rfl) (hb hby d_prog_14_method_2_21) (by decide) (by decide) ?_
    · rintro v hh L ⟨⟨-, q3, -⟩, q2, q5⟩
      exact ⟨q2, ext_keep X46.old q3 (allS gza5 (allS gzt all0)), CHr.keep q3 (sfS (Safe.exa X46.al Eb_S_r33_h43 (by decide) (by decide)) (sfS Sf50 sf0)) X46.chv⟩
    intro v52 T53 h54 L55 X56 q57
    obtain ⟨⟨rfl, K_r51, S_r51⟩, -⟩ := q57
    show OEnds p e below _ T53 (mkF m 24 #[.val (.ref a)] [(.ref a5)])
    have EX_r51 := ext_keep EX_h43 K_r51 (allS ge_b (allS ge_t all0))
    have Sf_r51 := Safe.keep (EL := consts_1) K_r51 (sfS (Safe.exa X46.al Eb_S_r33_h43 (by decide) (by decide)) (sfS Sf50 sf0)) X46.chv Sf50
    have A_r51 := A_r33_h43.keep K_r51
    have Eb_S_r51 := S_r51.1
    refine OEnds.go (fun _ q => XS.aloadN X56.here X56.hx rfl (hb hby d_prog_14_method_2_24) rfl rfl q) ?_
    show OEnds p e below _ T53 (mkF m 25 #[.val (.ref a)] [(.ref a), (.ref a5)])
    by_cases ht0 : ts.length = 0
    · skip
      have F58 := Ft.ext EX_r51
      refine X56.getF (own_k hw 65 rfl) Via.refl F58 (hb hby d_prog_14_method_2_25) ?_
      intro T59 X60
      show OEnds p e below _ T59 (mkF m 28 #[.val (.ref a)] [(.ref tx), (.ref a5)])
      have St61 := St.ext EX_r51
      refine X60.payV (ConN.back (W := 0) (con_sapN H a5 t tx (((([] : List Int32) ++ own_row) ++ ks) ++ own_mid) ts 16 (by omega) (by decide) gza5 gzt h54 S_r51 St61) X60.old X60.hZ (own_k hw 105 rfl) (own_k hw 84 rfl) (by decide) (by decide)) ?_ (own_k hw 101 rfl) (own_k hw 102 rfl) (own_k hw 104 rfl) (own_k hw 103 rfl) (X60.nf (own_k hw 104 rfl)) (by decide) Eb_S_r51 (argsL := [(.ref tx)]) (rest := []) rfl (lenOf own_pd22 rfl) rfl (by rw [hml]; rfl) (Nat.le_of_eq rfl) (hb hby d_prog_14_method_2_28) (by decide) (by decide) ?_
      · rintro v hh L ⟨⟨-, q3, -⟩, q2, q5⟩
        exact ⟨q2, ext_keep X60.old q3 (allS gza5 (allS gzt all0)), CHr.keep q3 (sfS (Safe.exa X60.al Eb_S_r51 (by decide) (by decide)) (sfS Sf_r51 sf0)) X60.chv⟩
      intro v63 T64 h65 L66 X67 q68
      obtain ⟨⟨rfl, K_r62, S_r62⟩, -⟩ := q68
      show OEnds p e below _ T64 (mkF m 31 #[.val (.ref a)] [(.ref a5)])
      have EX_r62 := ext_keep EX_r51 K_r62 (allS ge_b (allS ge_t all0))
      have Sf_r62 := Safe.keep (EL := consts_1) K_r62 (sfS (Safe.exa X60.al Eb_S_r51 (by decide) (by decide)) (sfS Sf_r51 sf0)) X60.chv Sf_r51
      have A_r62 := A_r51.keep K_r62
      have Eb_S_r62 := S_r62.1
      refine X67.payV (ConN.back (W := 0) (con_toS H a5 t ((((([] : List Int32) ++ own_row) ++ ks) ++ own_mid) ++ ts) 16 (by decide) (all_app (all_app (all_app (all_app all_nil own_row_b) Sk.2.2.2.1) own_mid_b) St.2.2.2.1) h65 S_r62 (Or.inr ⟨by omega, A_r62⟩)) X67.old X67.hZ (own_k hw 176 rfl) (own_k hw 84 rfl) (by decide) (by decide)) ?_ (own_k hw 172 rfl) (own_k hw 173 rfl) (own_k hw 175 rfl) (own_k hw 174 rfl) (X67.nf (own_k hw 175 rfl)) (by decide) Eb_S_r62 (argsL := []) (rest := []) rfl (lenOf own_pd23 rfl) rfl (by rw [hml]; rfl) (Nat.le_of_eq rfl) (hb hby d_prog_14_method_2_31) (by decide) (by decide) ?_
      · rintro v hh L ⟨⟨_, -, q3, -⟩, q2, q5⟩
        exact ⟨q2, q5, CHr.ext q3 X67.chv⟩
      intro v69 T70 h71 L72 X73 q74
      obtain ⟨⟨yy, rfl, Ey, Sy⟩, -⟩ := q74
      show OEnds p e below _ T70 (mkF m 34 #[.val (.ref a)] [(.ref yy)])
      exact X73.retRef hE hlk rfl (t := (FieldType.object "java/lang/String")) rfl hret (hb hby d_prog_14_method_2_34) (by decide) (by decide) ⟨yy, rfl, ext_trans EX_r62 Ey, Sy⟩
    · skip
      have F75 := Ft.ext EX_r51
      refine X56.getF (own_k hw 65 rfl) Via.refl F75 (hb hby d_prog_14_method_2_25) ?_
      intro T76 X77
      show OEnds p e below _ T76 (mkF m 28 #[.val (.ref a)] [(.ref tx), (.ref a5)])
      have St78 := St.ext EX_r51
      refine X77.payV (ConN.back (W := 0) (con_sapG H a5 t tx (((([] : List Int32) ++ own_row) ++ ks) ++ own_mid) ts (by omega) (by omega) (by omega) gza5 gzt h54 S_r51 St78) X77.old X77.hZ (own_k hw 105 rfl) (own_k hw 84 rfl) (by decide) (by decide)) ?_ (own_k hw 101 rfl) (own_k hw 102 rfl) (own_k hw 104 rfl) (own_k hw 103 rfl) (X77.nf (own_k hw 104 rfl)) (by decide) Eb_S_r51 (argsL := [(.ref tx)]) (rest := []) rfl (lenOf own_pd22 rfl) rfl (by rw [hml]; rfl) (Nat.le_of_eq rfl) (hb hby d_prog_14_method_2_28) (by decide) (by decide) ?_
      · rintro v hh L ⟨⟨_, -, q3, -⟩, q2, q5⟩
        exact ⟨q2, ext_keep X77.old q3 (allS gza5 all0), CHr.keep q3 (sfS (Safe.exa X77.al Eb_S_r51 (by decide) (by decide)) sf0) X77.chv⟩
      intro v80 T81 h82 L83 X84 q85
      obtain ⟨⟨t_r79, rfl, K_r79, f_r79, S_r79⟩, -⟩ := q85
      show OEnds p e below _ T81 (mkF m 31 #[.val (.ref a)] [(.ref a5)])
      have EX_r79 := ext_keep EX_r51 K_r79 (allS ge_b all0)
      have ge_t_r79 : h0.size ≤ t_r79 := Nat.le_trans EX_r51.1 f_r79
      have gz_t_r79 : Z.heap.size ≤ t_r79 := Nat.le_trans X77.old.1 f_r79
      have Sf_r79 := Safe.keep (EL := consts_1) K_r79 (sfS (Safe.exa X77.al Eb_S_r51 (by decide) (by decide)) sf0) X77.chv (Safe.new f_r79)
      have Eb_S_r79 := S_r79.1
      refine X84.payV (ConN.back (W := 0) (con_toS H a5 t_r79 ((((([] : List Int32) ++ own_row) ++ ks) ++ own_mid) ++ ts) 34 (by decide) (all_app (all_app (all_app (all_app all_nil own_row_b) Sk.2.2.2.1) own_mid_b) St.2.2.2.1) h82 S_r79 (Or.inl (by omega))) X84.old X84.hZ (own_k hw 176 rfl) (own_k hw 84 rfl) (by decide) (by decide)) ?_ (own_k hw 172 rfl) (own_k hw 173 rfl) (own_k hw 175 rfl) (own_k hw 174 rfl) (X84.nf (own_k hw 175 rfl)) (by decide) Eb_S_r79 (argsL := []) (rest := []) rfl (lenOf own_pd23 rfl) rfl (by rw [hml]; rfl) (Nat.le_of_eq rfl) (hb hby d_prog_14_method_2_31) (by decide) (by decide) ?_
      · rintro v hh L ⟨⟨_, -, q3, -⟩, q2, q5⟩
        exact ⟨q2, q5, CHr.ext q3 X84.chv⟩
      intro v86 T87 h88 L89 X90 q91
      obtain ⟨⟨yy, rfl, Ey, Sy⟩, -⟩ := q91
      show OEnds p e below _ T87 (mkF m 34 #[.val (.ref a)] [(.ref yy)])
      exact X90.retRef hE hlk rfl (t := (FieldType.object "java/lang/String")) rfl hret (hb hby d_prog_14_method_2_34) (by decide) (by decide) ⟨yy, rfl, ext_trans EX_r79 Ey, Sy⟩
  · skip
    refine X46.payV (ConN.back (W := 0) (con_sapG H a5 t a44 ((([] : List Int32) ++ own_row) ++ ks) own_mid (by omega) (by omega) (by omega) gza5 gzt h43 S_r33_h43 SL49) X46.old X46.hZ (own_k hw 105 rfl) (own_k hw 84 rfl) (by decide) (by decide)) ?_ (own_k hw 101 rfl) (own_k hw 102 rfl) (own_k hw 104 rfl) (own_k hw 103 rfl) (X46.nf (own_k hw 104 rfl)) (by decide) Eb_S_r33_h43 (argsL := [(.ref a44)]) (rest := []) rfl (lenOf own_pd22 rfl) rfl (by rw [hml]; rfl) (Nat.le_of_eq rfl) (hb hby d_prog_14_method_2_21) (by decide) (by decide) ?_
    · rintro v hh L ⟨⟨_, -, q3, -⟩, q2, q5⟩
      exact ⟨q2, ext_keep X46.old q3 (allS gza5 all0), CHr.keep q3 (sfS (Safe.exa X46.al Eb_S_r33_h43 (by decide) (by decide)) sf0) X46.chv⟩
    intro v93 T94 h95 L96 X97 q98
    obtain ⟨⟨t_r92, rfl, K_r92, f_r92, S_r92⟩, -⟩ := q98
    show OEnds p e below _ T94 (mkF m 24 #[.val (.ref a)] [(.ref a5)])
    have EX_r92 := ext_keep EX_h43 K_r92 (allS ge_b all0)
    have ge_t_r92 : h0.size ≤ t_r92 := Nat.le_trans EX_h43.1 f_r92
    have gz_t_r92 : Z.heap.size ≤ t_r92 := Nat.le_trans X46.old.1 f_r92
    have Sf_r92 := Safe.keep (EL := consts_1) K_r92 (sfS (Safe.exa X46.al Eb_S_r33_h43 (by decide) (by decide)) sf0) X46.chv (Safe.new f_r92)
    have Eb_S_r92 := S_r92.1
    refine OEnds.go (fun _ q => XS.aloadN X97.here X97.hx rfl (hb hby d_prog_14_method_2_24) rfl rfl q) ?_
    show OEnds p e below _ T94 (mkF m 25 #[.val (.ref a)] [(.ref a), (.ref a5)])
    have F99 := Ft.ext EX_r92
    refine X97.getF (own_k hw 65 rfl) Via.refl F99 (hb hby d_prog_14_method_2_25) ?_
    intro T100 X101
    show OEnds p e below _ T100 (mkF m 28 #[.val (.ref a)] [(.ref tx), (.ref a5)])
    have St102 := St.ext EX_r92
    refine X101.payV (ConN.back (W := 0) (con_sapN H a5 t_r92 tx (((([] : List Int32) ++ own_row) ++ ks) ++ own_mid) ts 34 (by omega) (by decide) gza5 gz_t_r92 h95 S_r92 St102) X101.old X101.hZ (own_k hw 105 rfl) (own_k hw 84 rfl) (by decide) (by decide)) ?_ (own_k hw 101 rfl) (own_k hw 102 rfl) (own_k hw 104 rfl) (own_k hw 103 rfl) (X101.nf (own_k hw 104 rfl)) (by decide) Eb_S_r92 (argsL := [(.ref tx)]) (rest := []) rfl (lenOf own_pd22 rfl) rfl (by rw [hml]; rfl) (Nat.le_of_eq rfl) (hb hby d_prog_14_method_2_28) (by decide) (by decide) ?_
    · rintro v hh L ⟨⟨-, q3, -⟩, q2, q5⟩
      exact ⟨q2, ext_keep X101.old q3 (allS gza5 (allS gz_t_r92 all0)), CHr.keep q3 (sfS (Safe.exa X101.al Eb_S_r92 (by decide) (by decide)) (sfS Sf_r92 sf0)) X101.chv⟩
    intro v104 T105 h106 L107 X108 q109
    obtain ⟨⟨rfl, K_r103, S_r103⟩, -⟩ := q109
    show OEnds p e below _ T105 (mkF m 31 #[.val (.ref a)] [(.ref a5)])
    have EX_r103 := ext_keep EX_r92 K_r103 (allS ge_b (allS ge_t_r92 all0))
    have Sf_r103 := Safe.keep (EL := consts_1) K_r103 (sfS (Safe.exa X101.al Eb_S_r92 (by decide) (by decide)) (sfS Sf_r92 sf0)) X101.chv Sf_r92
    have Eb_S_r103 := S_r103.1
    refine X108.payV (ConN.back (W := 0) (con_toS H a5 t_r92 ((((([] : List Int32) ++ own_row) ++ ks) ++ own_mid) ++ ts) 34 (by decide) (all_app (all_app (all_app (all_app all_nil own_row_b) Sk.2.2.2.1) own_mid_b) St.2.2.2.1) h106 S_r103 (Or.inl (by omega))) X108.old X108.hZ (own_k hw 176 rfl) (own_k hw 84 rfl) (by decide) (by decide)) ?_ (own_k hw 172 rfl) (own_k hw 173 rfl) (own_k hw 175 rfl) (own_k hw 174 rfl) (X108.nf (own_k hw 175 rfl)) (by decide) Eb_S_r103 (argsL := []) (rest := []) rfl (lenOf own_pd23 rfl) rfl (by rw [hml]; rfl) (Nat.le_of_eq rfl) (hb hby d_prog_14_method_2_31) (by decide) (by decide) ?_
    · rintro v hh L ⟨⟨_, -, q3, -⟩, q2, q5⟩
      exact ⟨q2, q5, CHr.ext q3 X108.chv⟩
    intro v110 T111 h112 L113 X114 q115
    obtain ⟨⟨yy, rfl, Ey, Sy⟩, -⟩ := q115
    show OEnds p e below _ T111 (mkF m 34 #[.val (.ref a)] [(.ref yy)])
    exact X114.retRef hE hlk rfl (t := (FieldType.object "java/lang/String")) rfl hret (hb hby d_prog_14_method_2_34) (by decide) (by decide) ⟨yy, rfl, ext_trans EX_r103 Ey, Sy⟩
theorem con_law {l : Launch} {Z : State} {a0 : Array Value} {cz : Int32} {fm : Value} (H : Ctx Z a0 cz fm) (x0 x1 x2 x3 : Int32) (x4 : Int64) (x5 : Int32) (h0 : Heap)  :
    ConX l Z consts_1 x code maxLocals ret tables_1 room_1 #[(.int x0), (.int x1), (.int x2), (.int x3), (.long x4), (.int x5)] h0 (fun r h => r = some (.int 1)) := by
  obtain ⟨hw, hE, S0, hcz, S1, rf⟩ := id H
  refine ConX.of own_pf32 ?_
  intro p e s m below meth c T hby hml hret hlk hnm X0
  have EX0 := ext_refl h0
  refine OEnds.cast (own_ef17 m x0 x1 x2 x3 x4 x5 ) ?_
  show OEnds p e below _ T (mkF m 0 #[.val (.int x0), .val (.int x1), .val (.int x2), .val (.int x3), .val (.long x4), .second, .val (.int x5), .unset, .unset, .unset, .unset, .unset, .unset, .unset, .unset, .unset, .unset, .unset, .unset, .unset, .unset, .unset, .unset] [])
  refine OEnds.go (fun _ q => XS.iloadN X0.here X0.hx rfl (hb hby at_0) rfl q) ?_
  show OEnds p e below _ T (mkF m 1 #[.val (.int x0), .val (.int x1), .val (.int x2), .val (.int x3), .val (.long x4), .second, .val (.int x5), .unset, .unset, .unset, .unset, .unset, .unset, .unset, .unset, .unset, .unset, .unset, .unset, .unset, .unset, .unset, .unset] [(.int x0)])
  refine OEnds.go (fun _ q => XS.sipush X0.here X0.hx rfl (hb hby at_1) q) ?_
  show OEnds p e below _ T (mkF m 4 #[.val (.int x0), .val (.int x1), .val (.int x2), .val (.int x3), .val (.long x4), .second, .val (.int x5), .unset, .unset, .unset, .unset, .unset, .unset, .unset, .unset, .unset, .unset, .unset, .unset, .unset, .unset, .unset, .unset] [(.int (255 : Int32)), (.int x0)])
  refine OEnds.go (fun _ q => XS.iand X0.here X0.hx rfl (hb hby at_4) rfl q) ?_
  show OEnds p e below _ T (mkF m 5 #[.val (.int x0), .val (.int x1), .val (.int x2), .val (.int x3), .val (.long x4), .second, .val (.int x5), .unset, .unset, .unset, .unset, .unset, .unset, .unset, .unset, .unset, .unset, .unset, .unset, .unset, .unset, .unset, .unset] [(.int (x0 &&& (255 : Int32)))])
  refine OEnds.go (fun _ q => XS.i2c X0.here X0.hx rfl (hb hby at_5) rfl q) ?_
  show OEnds p e below _ T (mkF m 6 #[.val (.int x0), .val (.int x1), .val (.int x2), .val (.int x3), .val (.long x4), .second, .val (.int x5), .unset, .unset, .unset, .unset, .unset, .unset, .unset, .unset, .unset, .unset, .unset, .unset, .unset, .unset, .unset, .unset] [(.int ((x0 &&& (255 : Int32)).toUInt32.toUInt16.toUInt32.toInt32))])
  obtain ⟨k0, hk0⟩ : ∃ z : Int32, z = ((x0 &&& (255 : Int32)).toUInt32.toUInt16.toUInt32.toInt32) := ⟨_, rfl⟩
  rw [← hk0]
  show OEnds p e below _ T (mkF m 6 #[.val (.int x0), .val (.int x1), .val (.int x2), .val (.int x3), .val (.long x4), .second, .val (.int x5), .unset, .unset, .unset, .unset, .unset, .unset, .unset, .unset, .unset, .unset, .unset, .unset, .unset, .unset, .unset, .unset] [(.int k0)])
  have hk0b : ¬ k0 < 0 ∧ ¬ (255 : Int32) < k0 := hk0 ▸ ch255 _
  refine OEnds.go (fun _ q => XS.istore X0.here X0.hx rfl (hb hby at_6) rfl (l' := #[.val (.int x0), .val (.int x1), .val (.int x2), .val (.int x3), .val (.long x4), .second, .val (.int x5), .val (.int k0), .unset, .unset, .unset, .unset, .unset, .unset, .unset, .unset, .unset, .unset, .unset, .unset, .unset, .unset, .unset]) rfl q) ?_
  show OEnds p e below _ T (mkF m 8 #[.val (.int x0), .val (.int x1), .val (.int x2), .val (.int x3), .val (.long x4), .second, .val (.int x5), .val (.int k0), .unset, .unset, .unset, .unset, .unset, .unset, .unset, .unset, .unset, .unset, .unset, .unset, .unset, .unset, .unset] [])
  refine OEnds.go (fun _ q => XS.iloadN X0.here X0.hx rfl (hb hby at_8) rfl q) ?_
  show OEnds p e below _ T (mkF m 9 #[.val (.int x0), .val (.int x1), .val (.int x2), .val (.int x3), .val (.long x4), .second, .val (.int x5), .val (.int k0), .unset, .unset, .unset, .unset, .unset, .unset, .unset, .unset, .unset, .unset, .unset, .unset, .unset, .unset, .unset] [(.int x0)])
  refine OEnds.go (fun _ q => XS.bipush X0.here X0.hx rfl (hb hby at_9) q) ?_
  show OEnds p e below _ T (mkF m 11 #[.val (.int x0), .val (.int x1), .val (.int x2), .val (.int x3), .val (.long x4), .second, .val (.int x5), .val (.int k0), .unset, .unset, .unset, .unset, .unset, .unset, .unset, .unset, .unset, .unset, .unset, .unset, .unset, .unset, .unset] [(.int (8 : Int32)), (.int x0)])
  refine OEnds.go (fun _ q => XS.iushr X0.here X0.hx rfl (hb hby at_11) rfl q) ?_
  show OEnds p e below _ T (mkF m 12 #[.val (.int x0), .val (.int x1), .val (.int x2), .val (.int x3), .val (.long x4), .second, .val (.int x5), .val (.int k0), .unset, .unset, .unset, .unset, .unset, .unset, .unset, .unset, .unset, .unset, .unset, .unset, .unset, .unset, .unset] [(.int (x0.toUInt32 >>> ((8 : Int32) &&& 31).toUInt32).toInt32)])
  refine OEnds.go (fun _ q => XS.sipush X0.here X0.hx rfl (hb hby at_12) q) ?_
  show OEnds p e below _ T (mkF m 15 #[.val (.int x0), .val (.int x1), .val (.int x2), .val (.int x3), .val (.long x4), .second, .val (.int x5), .val (.int k0), .unset, .unset, .unset, .unset, .unset, .unset, .unset, .unset, .unset, .unset, .unset, .unset, .unset, .unset, .unset] [(.int (255 : Int32)), (.int (x0.toUInt32 >>> ((8 : Int32) &&& 31).toUInt32).toInt32)])
  refine OEnds.go (fun _ q => XS.iand X0.here X0.hx rfl (hb hby at_15) rfl q) ?_
  show OEnds p e below _ T (mkF m 16 #[.val (.int x0), .val (.int x1), .val (.int x2), .val (.int x3), .val (.long x4), .second, .val (.int x5), .val (.int k0), .unset, .unset, .unset, .unset, .unset, .unset, .unset, .unset, .unset, .unset, .unset, .unset, .unset, .unset, .unset] [(.int ((x0.toUInt32 >>> ((8 : Int32) &&& 31).toUInt32).toInt32 &&& (255 : Int32)))])
  refine OEnds.go (fun _ q => XS.i2c X0.here X0.hx rfl (hb hby at_16) rfl q) ?_
  show OEnds p e below _ T (mkF m 17 #[.val (.int x0), .val (.int x1), .val (.int x2), .val (.int x3), .val (.long x4), .second, .val (.int x5), .val (.int k0), .unset, .unset, .unset, .unset, .unset, .unset, .unset, .unset, .unset, .unset, .unset, .unset, .unset, .unset, .unset] [(.int (((x0.toUInt32 >>> ((8 : Int32) &&& 31).toUInt32).toInt32 &&& (255 : Int32)).toUInt32.toUInt16.toUInt32.toInt32))])
  obtain ⟨k1, hk1⟩ : ∃ z : Int32, z = (((x0.toUInt32 >>> ((8 : Int32) &&& 31).toUInt32).toInt32 &&& (255 : Int32)).toUInt32.toUInt16.toUInt32.toInt32) := ⟨_, rfl⟩
  rw [← hk1]
  show OEnds p e below _ T (mkF m 17 #[.val (.int x0), .val (.int x1), .val (.int x2), .val (.int x3), .val (.long x4), .second, .val (.int x5), .val (.int k0), .unset, .unset, .unset, .unset, .unset, .unset, .unset, .unset, .unset, .unset, .unset, .unset, .unset, .unset, .unset] [(.int k1)])
  have hk1b : ¬ k1 < 0 ∧ ¬ (255 : Int32) < k1 := hk1 ▸ ch255 _
  refine OEnds.go (fun _ q => XS.istore X0.here X0.hx rfl (hb hby at_17) rfl (l' := #[.val (.int x0), .val (.int x1), .val (.int x2), .val (.int x3), .val (.long x4), .second, .val (.int x5), .val (.int k0), .val (.int k1), .unset, .unset, .unset, .unset, .unset, .unset, .unset, .unset, .unset, .unset, .unset, .unset, .unset, .unset]) rfl q) ?_
  show OEnds p e below _ T (mkF m 19 #[.val (.int x0), .val (.int x1), .val (.int x2), .val (.int x3), .val (.long x4), .second, .val (.int x5), .val (.int k0), .val (.int k1), .unset, .unset, .unset, .unset, .unset, .unset, .unset, .unset, .unset, .unset, .unset, .unset, .unset, .unset] [])
  refine OEnds.go (fun _ q => XS.iloadN X0.here X0.hx rfl (hb hby at_19) rfl q) ?_
  show OEnds p e below _ T (mkF m 20 #[.val (.int x0), .val (.int x1), .val (.int x2), .val (.int x3), .val (.long x4), .second, .val (.int x5), .val (.int k0), .val (.int k1), .unset, .unset, .unset, .unset, .unset, .unset, .unset, .unset, .unset, .unset, .unset, .unset, .unset, .unset] [(.int x1)])
  refine OEnds.go (fun _ q => XS.sipush X0.here X0.hx rfl (hb hby at_20) q) ?_
  show OEnds p e below _ T (mkF m 23 #[.val (.int x0), .val (.int x1), .val (.int x2), .val (.int x3), .val (.long x4), .second, .val (.int x5), .val (.int k0), .val (.int k1), .unset, .unset, .unset, .unset, .unset, .unset, .unset, .unset, .unset, .unset, .unset, .unset, .unset, .unset] [(.int (255 : Int32)), (.int x1)])
  refine OEnds.go (fun _ q => XS.iand X0.here X0.hx rfl (hb hby at_23) rfl q) ?_
  show OEnds p e below _ T (mkF m 24 #[.val (.int x0), .val (.int x1), .val (.int x2), .val (.int x3), .val (.long x4), .second, .val (.int x5), .val (.int k0), .val (.int k1), .unset, .unset, .unset, .unset, .unset, .unset, .unset, .unset, .unset, .unset, .unset, .unset, .unset, .unset] [(.int (x1 &&& (255 : Int32)))])
  refine OEnds.go (fun _ q => XS.i2c X0.here X0.hx rfl (hb hby at_24) rfl q) ?_
  show OEnds p e below _ T (mkF m 25 #[.val (.int x0), .val (.int x1), .val (.int x2), .val (.int x3), .val (.long x4), .second, .val (.int x5), .val (.int k0), .val (.int k1), .unset, .unset, .unset, .unset, .unset, .unset, .unset, .unset, .unset, .unset, .unset, .unset, .unset, .unset] [(.int ((x1 &&& (255 : Int32)).toUInt32.toUInt16.toUInt32.toInt32))])
  obtain ⟨t0, ht0⟩ : ∃ z : Int32, z = ((x1 &&& (255 : Int32)).toUInt32.toUInt16.toUInt32.toInt32) := ⟨_, rfl⟩
  rw [← ht0]
  show OEnds p e below _ T (mkF m 25 #[.val (.int x0), .val (.int x1), .val (.int x2), .val (.int x3), .val (.long x4), .second, .val (.int x5), .val (.int k0), .val (.int k1), .unset, .unset, .unset, .unset, .unset, .unset, .unset, .unset, .unset, .unset, .unset, .unset, .unset, .unset] [(.int t0)])
  have ht0b : ¬ t0 < 0 ∧ ¬ (255 : Int32) < t0 := ht0 ▸ ch255 _
  refine OEnds.go (fun _ q => XS.istore X0.here X0.hx rfl (hb hby at_25) rfl (l' := #[.val (.int x0), .val (.int x1), .val (.int x2), .val (.int x3), .val (.long x4), .second, .val (.int x5), .val (.int k0), .val (.int k1), .val (.int t0), .unset, .unset, .unset, .unset, .unset, .unset, .unset, .unset, .unset, .unset, .unset, .unset, .unset]) rfl q) ?_
  show OEnds p e below _ T (mkF m 27 #[.val (.int x0), .val (.int x1), .val (.int x2), .val (.int x3), .val (.long x4), .second, .val (.int x5), .val (.int k0), .val (.int k1), .val (.int t0), .unset, .unset, .unset, .unset, .unset, .unset, .unset, .unset, .unset, .unset, .unset, .unset, .unset] [])
  refine OEnds.go (fun _ q => XS.iloadN X0.here X0.hx rfl (hb hby at_27) rfl q) ?_
  show OEnds p e below _ T (mkF m 28 #[.val (.int x0), .val (.int x1), .val (.int x2), .val (.int x3), .val (.long x4), .second, .val (.int x5), .val (.int k0), .val (.int k1), .val (.int t0), .unset, .unset, .unset, .unset, .unset, .unset, .unset, .unset, .unset, .unset, .unset, .unset, .unset] [(.int x1)])
  refine OEnds.go (fun _ q => XS.bipush X0.here X0.hx rfl (hb hby at_28) q) ?_
  show OEnds p e below _ T (mkF m 30 #[.val (.int x0), .val (.int x1), .val (.int x2), .val (.int x3), .val (.long x4), .second, .val (.int x5), .val (.int k0), .val (.int k1), .val (.int t0), .unset, .unset, .unset, .unset, .unset, .unset, .unset, .unset, .unset, .unset, .unset, .unset, .unset] [(.int (8 : Int32)), (.int x1)])
  refine OEnds.go (fun _ q => XS.iushr X0.here X0.hx rfl (hb hby at_30) rfl q) ?_
  show OEnds p e below _ T (mkF m 31 #[.val (.int x0), .val (.int x1), .val (.int x2), .val (.int x3), .val (.long x4), .second, .val (.int x5), .val (.int k0), .val (.int k1), .val (.int t0), .unset, .unset, .unset, .unset, .unset, .unset, .unset, .unset, .unset, .unset, .unset, .unset, .unset] [(.int (x1.toUInt32 >>> ((8 : Int32) &&& 31).toUInt32).toInt32)])
  refine OEnds.go (fun _ q => XS.sipush X0.here X0.hx rfl (hb hby at_31) q) ?_
  show OEnds p e below _ T (mkF m 34 #[.val (.int x0), .val (.int x1), .val (.int x2), .val (.int x3), .val (.long x4), .second, .val (.int x5), .val (.int k0), .val (.int k1), .val (.int t0), .unset, .unset, .unset, .unset, .unset, .unset, .unset, .unset, .unset, .unset, .unset, .unset, .unset] [(.int (255 : Int32)), (.int (x1.toUInt32 >>> ((8 : Int32) &&& 31).toUInt32).toInt32)])
  refine OEnds.go (fun _ q => XS.iand X0.here X0.hx rfl (hb hby at_34) rfl q) ?_
  show OEnds p e below _ T (mkF m 35 #[.val (.int x0), .val (.int x1), .val (.int x2), .val (.int x3), .val (.long x4), .second, .val (.int x5), .val (.int k0), .val (.int k1), .val (.int t0), .unset, .unset, .unset, .unset, .unset, .unset, .unset, .unset, .unset, .unset, .unset, .unset, .unset] [(.int ((x1.toUInt32 >>> ((8 : Int32) &&& 31).toUInt32).toInt32 &&& (255 : Int32)))])
  refine OEnds.go (fun _ q => XS.i2c X0.here X0.hx rfl (hb hby at_35) rfl q) ?_
  show OEnds p e below _ T (mkF m 36 #[.val (.int x0), .val (.int x1), .val (.int x2), .val (.int x3), .val (.long x4), .second, .val (.int x5), .val (.int k0), .val (.int k1), .val (.int t0), .unset, .unset, .unset, .unset, .unset, .unset, .unset, .unset, .unset, .unset, .unset, .unset, .unset] [(.int (((x1.toUInt32 >>> ((8 : Int32) &&& 31).toUInt32).toInt32 &&& (255 : Int32)).toUInt32.toUInt16.toUInt32.toInt32))])
  obtain ⟨t1, ht1⟩ : ∃ z : Int32, z = (((x1.toUInt32 >>> ((8 : Int32) &&& 31).toUInt32).toInt32 &&& (255 : Int32)).toUInt32.toUInt16.toUInt32.toInt32) := ⟨_, rfl⟩
  rw [← ht1]
  show OEnds p e below _ T (mkF m 36 #[.val (.int x0), .val (.int x1), .val (.int x2), .val (.int x3), .val (.long x4), .second, .val (.int x5), .val (.int k0), .val (.int k1), .val (.int t0), .unset, .unset, .unset, .unset, .unset, .unset, .unset, .unset, .unset, .unset, .unset, .unset, .unset] [(.int t1)])
  have ht1b : ¬ t1 < 0 ∧ ¬ (255 : Int32) < t1 := ht1 ▸ ch255 _
  refine OEnds.go (fun _ q => XS.istore X0.here X0.hx rfl (hb hby at_36) rfl (l' := #[.val (.int x0), .val (.int x1), .val (.int x2), .val (.int x3), .val (.long x4), .second, .val (.int x5), .val (.int k0), .val (.int k1), .val (.int t0), .val (.int t1), .unset, .unset, .unset, .unset, .unset, .unset, .unset, .unset, .unset, .unset, .unset, .unset]) rfl q) ?_
  show OEnds p e below _ T (mkF m 38 #[.val (.int x0), .val (.int x1), .val (.int x2), .val (.int x3), .val (.long x4), .second, .val (.int x5), .val (.int k0), .val (.int k1), .val (.int t0), .val (.int t1), .unset, .unset, .unset, .unset, .unset, .unset, .unset, .unset, .unset, .unset, .unset, .unset] [])
  refine OEnds.go (fun _ q => XS.iloadN X0.here X0.hx rfl (hb hby at_38) rfl q) ?_
  show OEnds p e below _ T (mkF m 39 #[.val (.int x0), .val (.int x1), .val (.int x2), .val (.int x3), .val (.long x4), .second, .val (.int x5), .val (.int k0), .val (.int k1), .val (.int t0), .val (.int t1), .unset, .unset, .unset, .unset, .unset, .unset, .unset, .unset, .unset, .unset, .unset, .unset] [(.int x2)])
  refine OEnds.go (fun _ q => XS.iconst X0.here X0.hx rfl (hb hby at_39) q) ?_
  show OEnds p e below _ T (mkF m 40 #[.val (.int x0), .val (.int x1), .val (.int x2), .val (.int x3), .val (.long x4), .second, .val (.int x5), .val (.int k0), .val (.int k1), .val (.int t0), .val (.int t1), .unset, .unset, .unset, .unset, .unset, .unset, .unset, .unset, .unset, .unset, .unset, .unset] [(.int (3 : Int32)), (.int x2)])
  refine OEnds.go (fun _ q => XS.iand X0.here X0.hx rfl (hb hby at_40) rfl q) ?_
  show OEnds p e below _ T (mkF m 41 #[.val (.int x0), .val (.int x1), .val (.int x2), .val (.int x3), .val (.long x4), .second, .val (.int x5), .val (.int k0), .val (.int k1), .val (.int t0), .val (.int t1), .unset, .unset, .unset, .unset, .unset, .unset, .unset, .unset, .unset, .unset, .unset, .unset] [(.int (x2 &&& (3 : Int32)))])
  refine OEnds.go (fun _ q => XS.iconst X0.here X0.hx rfl (hb hby at_41) q) ?_
  show OEnds p e below _ T (mkF m 42 #[.val (.int x0), .val (.int x1), .val (.int x2), .val (.int x3), .val (.long x4), .second, .val (.int x5), .val (.int k0), .val (.int k1), .val (.int t0), .val (.int t1), .unset, .unset, .unset, .unset, .unset, .unset, .unset, .unset, .unset, .unset, .unset, .unset] [(.int (3 : Int32)), (.int (x2 &&& (3 : Int32)))])
  refine OEnds.go (fun _ q => own_irem X0.here X0.hx rfl (hb hby at_42) rfl (by decide) q) ?_
  show OEnds p e below _ T (mkF m 43 #[.val (.int x0), .val (.int x1), .val (.int x2), .val (.int x3), .val (.long x4), .second, .val (.int x5), .val (.int k0), .val (.int k1), .val (.int t0), .val (.int t1), .unset, .unset, .unset, .unset, .unset, .unset, .unset, .unset, .unset, .unset, .unset, .unset] [(.int ((x2 &&& (3 : Int32)) % (3 : Int32)))])
  obtain ⟨kl, hkl⟩ : ∃ z : Int32, z = ((x2 &&& (3 : Int32)) % (3 : Int32)) := ⟨_, rfl⟩
  rw [← hkl]
  show OEnds p e below _ T (mkF m 43 #[.val (.int x0), .val (.int x1), .val (.int x2), .val (.int x3), .val (.long x4), .second, .val (.int x5), .val (.int k0), .val (.int k1), .val (.int t0), .val (.int t1), .unset, .unset, .unset, .unset, .unset, .unset, .unset, .unset, .unset, .unset, .unset, .unset] [(.int kl)])
  have hkl3 := own_mod3 hkl
  refine OEnds.go (fun _ q => XS.istore X0.here X0.hx rfl (hb hby at_43) rfl (l' := #[.val (.int x0), .val (.int x1), .val (.int x2), .val (.int x3), .val (.long x4), .second, .val (.int x5), .val (.int k0), .val (.int k1), .val (.int t0), .val (.int t1), .val (.int kl), .unset, .unset, .unset, .unset, .unset, .unset, .unset, .unset, .unset, .unset, .unset]) rfl q) ?_
  show OEnds p e below _ T (mkF m 45 #[.val (.int x0), .val (.int x1), .val (.int x2), .val (.int x3), .val (.long x4), .second, .val (.int x5), .val (.int k0), .val (.int k1), .val (.int t0), .val (.int t1), .val (.int kl), .unset, .unset, .unset, .unset, .unset, .unset, .unset, .unset, .unset, .unset, .unset] [])
  refine OEnds.go (fun _ q => XS.iloadN X0.here X0.hx rfl (hb hby at_45) rfl q) ?_
  show OEnds p e below _ T (mkF m 46 #[.val (.int x0), .val (.int x1), .val (.int x2), .val (.int x3), .val (.long x4), .second, .val (.int x5), .val (.int k0), .val (.int k1), .val (.int t0), .val (.int t1), .val (.int kl), .unset, .unset, .unset, .unset, .unset, .unset, .unset, .unset, .unset, .unset, .unset] [(.int x2)])
  refine OEnds.go (fun _ q => XS.iconst X0.here X0.hx rfl (hb hby at_46) q) ?_
  show OEnds p e below _ T (mkF m 47 #[.val (.int x0), .val (.int x1), .val (.int x2), .val (.int x3), .val (.long x4), .second, .val (.int x5), .val (.int k0), .val (.int k1), .val (.int t0), .val (.int t1), .val (.int kl), .unset, .unset, .unset, .unset, .unset, .unset, .unset, .unset, .unset, .unset, .unset] [(.int (2 : Int32)), (.int x2)])
  refine OEnds.go (fun _ q => XS.iushr X0.here X0.hx rfl (hb hby at_47) rfl q) ?_
  show OEnds p e below _ T (mkF m 48 #[.val (.int x0), .val (.int x1), .val (.int x2), .val (.int x3), .val (.long x4), .second, .val (.int x5), .val (.int k0), .val (.int k1), .val (.int t0), .val (.int t1), .val (.int kl), .unset, .unset, .unset, .unset, .unset, .unset, .unset, .unset, .unset, .unset, .unset] [(.int (x2.toUInt32 >>> ((2 : Int32) &&& 31).toUInt32).toInt32)])
  refine OEnds.go (fun _ q => XS.iconst X0.here X0.hx rfl (hb hby at_48) q) ?_
  show OEnds p e below _ T (mkF m 49 #[.val (.int x0), .val (.int x1), .val (.int x2), .val (.int x3), .val (.long x4), .second, .val (.int x5), .val (.int k0), .val (.int k1), .val (.int t0), .val (.int t1), .val (.int kl), .unset, .unset, .unset, .unset, .unset, .unset, .unset, .unset, .unset, .unset, .unset] [(.int (3 : Int32)), (.int (x2.toUInt32 >>> ((2 : Int32) &&& 31).toUInt32).toInt32)])
  refine OEnds.go (fun _ q => XS.iand X0.here X0.hx rfl (hb hby at_49) rfl q) ?_
  show OEnds p e below _ T (mkF m 50 #[.val (.int x0), .val (.int x1), .val (.int x2), .val (.int x3), .val (.long x4), .second, .val (.int x5), .val (.int k0), .val (.int k1), .val (.int t0), .val (.int t1), .val (.int kl), .unset, .unset, .unset, .unset, .unset, .unset, .unset, .unset, .unset, .unset, .unset] [(.int ((x2.toUInt32 >>> ((2 : Int32) &&& 31).toUInt32).toInt32 &&& (3 : Int32)))])
  refine OEnds.go (fun _ q => XS.iconst X0.here X0.hx rfl (hb hby at_50) q) ?_
  show OEnds p e below _ T (mkF m 51 #[.val (.int x0), .val (.int x1), .val (.int x2), .val (.int x3), .val (.long x4), .second, .val (.int x5), .val (.int k0), .val (.int k1), .val (.int t0), .val (.int t1), .val (.int kl), .unset, .unset, .unset, .unset, .unset, .unset, .unset, .unset, .unset, .unset, .unset] [(.int (3 : Int32)), (.int ((x2.toUInt32 >>> ((2 : Int32) &&& 31).toUInt32).toInt32 &&& (3 : Int32)))])
  refine OEnds.go (fun _ q => own_irem X0.here X0.hx rfl (hb hby at_51) rfl (by decide) q) ?_
  show OEnds p e below _ T (mkF m 52 #[.val (.int x0), .val (.int x1), .val (.int x2), .val (.int x3), .val (.long x4), .second, .val (.int x5), .val (.int k0), .val (.int k1), .val (.int t0), .val (.int t1), .val (.int kl), .unset, .unset, .unset, .unset, .unset, .unset, .unset, .unset, .unset, .unset, .unset] [(.int (((x2.toUInt32 >>> ((2 : Int32) &&& 31).toUInt32).toInt32 &&& (3 : Int32)) % (3 : Int32)))])
  obtain ⟨tl, htl⟩ : ∃ z : Int32, z = (((x2.toUInt32 >>> ((2 : Int32) &&& 31).toUInt32).toInt32 &&& (3 : Int32)) % (3 : Int32)) := ⟨_, rfl⟩
  rw [← htl]
  show OEnds p e below _ T (mkF m 52 #[.val (.int x0), .val (.int x1), .val (.int x2), .val (.int x3), .val (.long x4), .second, .val (.int x5), .val (.int k0), .val (.int k1), .val (.int t0), .val (.int t1), .val (.int kl), .unset, .unset, .unset, .unset, .unset, .unset, .unset, .unset, .unset, .unset, .unset] [(.int tl)])
  have htl3 := own_mod3 htl
  refine OEnds.go (fun _ q => XS.istore X0.here X0.hx rfl (hb hby at_52) rfl (l' := #[.val (.int x0), .val (.int x1), .val (.int x2), .val (.int x3), .val (.long x4), .second, .val (.int x5), .val (.int k0), .val (.int k1), .val (.int t0), .val (.int t1), .val (.int kl), .val (.int tl), .unset, .unset, .unset, .unset, .unset, .unset, .unset, .unset, .unset, .unset]) rfl q) ?_
  refine OEnds.go (fun _ q => XS.iload X0.here X0.hx rfl (hb hby at_54) rfl q) ?_
  show OEnds p e below _ T (mkF m 56 #[.val (.int x0), .val (.int x1), .val (.int x2), .val (.int x3), .val (.long x4), .second, .val (.int x5), .val (.int k0), .val (.int k1), .val (.int t0), .val (.int t1), .val (.int kl), .val (.int tl), .unset, .unset, .unset, .unset, .unset, .unset, .unset, .unset, .unset, .unset] [(.int kl)])
  refine OEnds.go (fun _ q => XS.iload X0.here X0.hx rfl (hb hby at_56) rfl q) ?_
  refine OEnds.go (fun _ q => XS.iload X0.here X0.hx rfl (hb hby at_58) rfl q) ?_
  show OEnds p e below _ T (mkF m 60 #[.val (.int x0), .val (.int x1), .val (.int x2), .val (.int x3), .val (.long x4), .second, .val (.int x5), .val (.int k0), .val (.int k1), .val (.int t0), .val (.int t1), .val (.int kl), .val (.int tl), .unset, .unset, .unset, .unset, .unset, .unset, .unset, .unset, .unset, .unset] [(.int k1), (.int k0), (.int kl)])
  refine X0.callS hE (con_str H kl k0 k1 hk0b hk1b h0) (own_k hw 0 rfl) (own_k hw 1 rfl) (own_k hw 2 rfl) (own_k hw 3 rfl)  (by decide) (W := 0) (by decide) (by decide) (argsL := [(.int kl), (.int k0), (.int k1)]) (rest := []) rfl (lenOf own_pd24 rfl) rfl (by rw [hml]; rfl) (Nat.le_of_eq rfl) (hb hby at_60) (by decide) (by decide) ?_
  intro v6 vm4 T1 h3 X2 C5 q7
  obtain ⟨kx, rfl, Ekx, Skx⟩ := q7
  have EX_h3 := ext_trans EX0 Ekx
  show OEnds p e below _ T1 (mkF m 63 #[.val (.int x0), .val (.int x1), .val (.int x2), .val (.int x3), .val (.long x4), .second, .val (.int x5), .val (.int k0), .val (.int k1), .val (.int t0), .val (.int t1), .val (.int kl), .val (.int tl), .unset, .unset, .unset, .unset, .unset, .unset, .unset, .unset, .unset, .unset] [(.ref kx)])
  refine OEnds.go (fun _ q => XS.astore X2.here X2.hx rfl (hb hby at_63) rfl rfl (l' := #[.val (.int x0), .val (.int x1), .val (.int x2), .val (.int x3), .val (.long x4), .second, .val (.int x5), .val (.int k0), .val (.int k1), .val (.int t0), .val (.int t1), .val (.int kl), .val (.int tl), .val (.ref kx), .unset, .unset, .unset, .unset, .unset, .unset, .unset, .unset, .unset]) rfl q) ?_
  refine OEnds.go (fun _ q => XS.iload X2.here X2.hx rfl (hb hby at_65) rfl q) ?_
  show OEnds p e below _ T1 (mkF m 67 #[.val (.int x0), .val (.int x1), .val (.int x2), .val (.int x3), .val (.long x4), .second, .val (.int x5), .val (.int k0), .val (.int k1), .val (.int t0), .val (.int t1), .val (.int kl), .val (.int tl), .val (.ref kx), .unset, .unset, .unset, .unset, .unset, .unset, .unset, .unset, .unset] [(.int tl)])
  refine OEnds.go (fun _ q => XS.iload X2.here X2.hx rfl (hb hby at_67) rfl q) ?_
  refine OEnds.go (fun _ q => XS.iload X2.here X2.hx rfl (hb hby at_69) rfl q) ?_
  show OEnds p e below _ T1 (mkF m 71 #[.val (.int x0), .val (.int x1), .val (.int x2), .val (.int x3), .val (.long x4), .second, .val (.int x5), .val (.int k0), .val (.int k1), .val (.int t0), .val (.int t1), .val (.int kl), .val (.int tl), .val (.ref kx), .unset, .unset, .unset, .unset, .unset, .unset, .unset, .unset, .unset] [(.int t1), (.int t0), (.int tl)])
  refine X2.callS hE (con_str H tl t0 t1 ht0b ht1b h3) (own_k hw 0 rfl) (own_k hw 1 rfl) (own_k hw 2 rfl) (own_k hw 3 rfl)  (by decide) (W := 0) (by decide) (by decide) (argsL := [(.int tl), (.int t0), (.int t1)]) (rest := []) rfl (lenOf own_pd24 rfl) rfl (by rw [hml]; rfl) (Nat.le_of_eq rfl) (hb hby at_71) (by decide) (by decide) ?_
  intro v13 vm11 T8 h10 X9 C12 q14
  obtain ⟨tx, rfl, Etx, Stx⟩ := q14
  have Skx_h10 := Skx.ext Etx
  have EX_h10 := ext_trans EX_h3 Etx
  show OEnds p e below _ T8 (mkF m 74 #[.val (.int x0), .val (.int x1), .val (.int x2), .val (.int x3), .val (.long x4), .second, .val (.int x5), .val (.int k0), .val (.int k1), .val (.int t0), .val (.int t1), .val (.int kl), .val (.int tl), .val (.ref kx), .unset, .unset, .unset, .unset, .unset, .unset, .unset, .unset, .unset] [(.ref tx)])
  refine OEnds.go (fun _ q => XS.astore X9.here X9.hx rfl (hb hby at_74) rfl rfl (l' := #[.val (.int x0), .val (.int x1), .val (.int x2), .val (.int x3), .val (.long x4), .second, .val (.int x5), .val (.int k0), .val (.int k1), .val (.int t0), .val (.int t1), .val (.int kl), .val (.int tl), .val (.ref kx), .val (.ref tx), .unset, .unset, .unset, .unset, .unset, .unset, .unset, .unset]) rfl q) ?_
  refine OEnds.go (fun _ q => XS.iloadN X9.here X9.hx rfl (hb hby at_76) rfl q) ?_
  show OEnds p e below _ T8 (mkF m 77 #[.val (.int x0), .val (.int x1), .val (.int x2), .val (.int x3), .val (.long x4), .second, .val (.int x5), .val (.int k0), .val (.int k1), .val (.int t0), .val (.int t1), .val (.int kl), .val (.int tl), .val (.ref kx), .val (.ref tx), .unset, .unset, .unset, .unset, .unset, .unset, .unset, .unset] [(.int x3)])
  refine OEnds.go (fun _ q => XS.sipush X9.here X9.hx rfl (hb hby at_77) q) ?_
  refine OEnds.go (fun _ q => XS.iand X9.here X9.hx rfl (hb hby at_80) rfl q) ?_
  show OEnds p e below _ T8 (mkF m 81 #[.val (.int x0), .val (.int x1), .val (.int x2), .val (.int x3), .val (.long x4), .second, .val (.int x5), .val (.int k0), .val (.int k1), .val (.int t0), .val (.int t1), .val (.int kl), .val (.int tl), .val (.ref kx), .val (.ref tx), .unset, .unset, .unset, .unset, .unset, .unset, .unset, .unset] [(.int (x3 &&& (255 : Int32)))])
  refine OEnds.go (fun _ q => XS.i2c X9.here X9.hx rfl (hb hby at_81) rfl q) ?_
  show OEnds p e below _ T8 (mkF m 82 #[.val (.int x0), .val (.int x1), .val (.int x2), .val (.int x3), .val (.long x4), .second, .val (.int x5), .val (.int k0), .val (.int k1), .val (.int t0), .val (.int t1), .val (.int kl), .val (.int tl), .val (.ref kx), .val (.ref tx), .unset, .unset, .unset, .unset, .unset, .unset, .unset, .unset] [(.int ((x3 &&& (255 : Int32)).toUInt32.toUInt16.toUInt32.toInt32))])
  obtain ⟨d0, hd0⟩ : ∃ z : Int32, z = ((x3 &&& (255 : Int32)).toUInt32.toUInt16.toUInt32.toInt32) := ⟨_, rfl⟩
  rw [← hd0]
  show OEnds p e below _ T8 (mkF m 82 #[.val (.int x0), .val (.int x1), .val (.int x2), .val (.int x3), .val (.long x4), .second, .val (.int x5), .val (.int k0), .val (.int k1), .val (.int t0), .val (.int t1), .val (.int kl), .val (.int tl), .val (.ref kx), .val (.ref tx), .unset, .unset, .unset, .unset, .unset, .unset, .unset, .unset] [(.int d0)])
  have hd0b : ¬ d0 < 0 ∧ ¬ (255 : Int32) < d0 := hd0 ▸ ch255 _
  refine X9.callS hE (con_valC H d0 hd0b h10) (own_k hw 37 rfl) (own_k hw 38 rfl) (own_k hw 6 rfl) (own_k hw 39 rfl)  (by decide) (W := 0) (by decide) (by decide) (argsL := [(.int d0)]) (rest := []) rfl (lenOf own_pd20 rfl) rfl (by rw [hml]; rfl) (Nat.le_of_eq rfl) (hb hby at_82) (by decide) (by decide) ?_
  intro v23 vm21 T18 h20 X19 C22 q24
  obtain ⟨a15, rfl, E16, Str17⟩ := q24
  have Skx_h20 := Skx_h10.ext E16
  have Stx_h20 := Stx.ext E16
  have EX_h20 := ext_trans EX_h10 E16
  show OEnds p e below _ T18 (mkF m 85 #[.val (.int x0), .val (.int x1), .val (.int x2), .val (.int x3), .val (.long x4), .second, .val (.int x5), .val (.int k0), .val (.int k1), .val (.int t0), .val (.int t1), .val (.int kl), .val (.int tl), .val (.ref kx), .val (.ref tx), .unset, .unset, .unset, .unset, .unset, .unset, .unset, .unset] [(.ref a15)])
  refine OEnds.go (fun _ q => XS.astore X19.here X19.hx rfl (hb hby at_85) rfl rfl (l' := #[.val (.int x0), .val (.int x1), .val (.int x2), .val (.int x3), .val (.long x4), .second, .val (.int x5), .val (.int k0), .val (.int k1), .val (.int t0), .val (.int t1), .val (.int kl), .val (.int tl), .val (.ref kx), .val (.ref tx), .val (.ref a15), .unset, .unset, .unset, .unset, .unset, .unset, .unset]) rfl q) ?_
  refine OEnds.go (fun _ q => XS.iloadN X19.here X19.hx rfl (hb hby at_87) rfl q) ?_
  show OEnds p e below _ T18 (mkF m 88 #[.val (.int x0), .val (.int x1), .val (.int x2), .val (.int x3), .val (.long x4), .second, .val (.int x5), .val (.int k0), .val (.int k1), .val (.int t0), .val (.int t1), .val (.int kl), .val (.int tl), .val (.ref kx), .val (.ref tx), .val (.ref a15), .unset, .unset, .unset, .unset, .unset, .unset, .unset] [(.int x3)])
  refine OEnds.go (fun _ q => XS.bipush X19.here X19.hx rfl (hb hby at_88) q) ?_
  refine OEnds.go (fun _ q => XS.iushr X19.here X19.hx rfl (hb hby at_90) rfl q) ?_
  show OEnds p e below _ T18 (mkF m 91 #[.val (.int x0), .val (.int x1), .val (.int x2), .val (.int x3), .val (.long x4), .second, .val (.int x5), .val (.int k0), .val (.int k1), .val (.int t0), .val (.int t1), .val (.int kl), .val (.int tl), .val (.ref kx), .val (.ref tx), .val (.ref a15), .unset, .unset, .unset, .unset, .unset, .unset, .unset] [(.int (x3.toUInt32 >>> ((8 : Int32) &&& 31).toUInt32).toInt32)])
  refine OEnds.go (fun _ q => XS.sipush X19.here X19.hx rfl (hb hby at_91) q) ?_
  refine OEnds.go (fun _ q => XS.iand X19.here X19.hx rfl (hb hby at_94) rfl q) ?_
  show OEnds p e below _ T18 (mkF m 95 #[.val (.int x0), .val (.int x1), .val (.int x2), .val (.int x3), .val (.long x4), .second, .val (.int x5), .val (.int k0), .val (.int k1), .val (.int t0), .val (.int t1), .val (.int kl), .val (.int tl), .val (.ref kx), .val (.ref tx), .val (.ref a15), .unset, .unset, .unset, .unset, .unset, .unset, .unset] [(.int ((x3.toUInt32 >>> ((8 : Int32) &&& 31).toUInt32).toInt32 &&& (255 : Int32)))])
  refine OEnds.go (fun _ q => XS.i2c X19.here X19.hx rfl (hb hby at_95) rfl q) ?_
  show OEnds p e below _ T18 (mkF m 96 #[.val (.int x0), .val (.int x1), .val (.int x2), .val (.int x3), .val (.long x4), .second, .val (.int x5), .val (.int k0), .val (.int k1), .val (.int t0), .val (.int t1), .val (.int kl), .val (.int tl), .val (.ref kx), .val (.ref tx), .val (.ref a15), .unset, .unset, .unset, .unset, .unset, .unset, .unset] [(.int (((x3.toUInt32 >>> ((8 : Int32) &&& 31).toUInt32).toInt32 &&& (255 : Int32)).toUInt32.toUInt16.toUInt32.toInt32))])
  obtain ⟨d1, hd1⟩ : ∃ z : Int32, z = (((x3.toUInt32 >>> ((8 : Int32) &&& 31).toUInt32).toInt32 &&& (255 : Int32)).toUInt32.toUInt16.toUInt32.toInt32) := ⟨_, rfl⟩
  rw [← hd1]
  show OEnds p e below _ T18 (mkF m 96 #[.val (.int x0), .val (.int x1), .val (.int x2), .val (.int x3), .val (.long x4), .second, .val (.int x5), .val (.int k0), .val (.int k1), .val (.int t0), .val (.int t1), .val (.int kl), .val (.int tl), .val (.ref kx), .val (.ref tx), .val (.ref a15), .unset, .unset, .unset, .unset, .unset, .unset, .unset] [(.int d1)])
  have hd1b : ¬ d1 < 0 ∧ ¬ (255 : Int32) < d1 := hd1 ▸ ch255 _
  refine X19.callS hE (con_valC H d1 hd1b h20) (own_k hw 37 rfl) (own_k hw 38 rfl) (own_k hw 6 rfl) (own_k hw 39 rfl)  (by decide) (W := 0) (by decide) (by decide) (argsL := [(.int d1)]) (rest := []) rfl (lenOf own_pd20 rfl) rfl (by rw [hml]; rfl) (Nat.le_of_eq rfl) (hb hby at_96) (by decide) (by decide) ?_
  intro v33 vm31 T28 h30 X29 C32 q34
  obtain ⟨a25, rfl, E26, Str27⟩ := q34
  have Skx_h30 := Skx_h20.ext E26
  have Stx_h30 := Stx_h20.ext E26
  have Str17_h30 := Str17.ext E26
  have EX_h30 := ext_trans EX_h20 E26
  show OEnds p e below _ T28 (mkF m 99 #[.val (.int x0), .val (.int x1), .val (.int x2), .val (.int x3), .val (.long x4), .second, .val (.int x5), .val (.int k0), .val (.int k1), .val (.int t0), .val (.int t1), .val (.int kl), .val (.int tl), .val (.ref kx), .val (.ref tx), .val (.ref a15), .unset, .unset, .unset, .unset, .unset, .unset, .unset] [(.ref a25)])
  refine OEnds.go (fun _ q => XS.astore X29.here X29.hx rfl (hb hby at_99) rfl rfl (l' := #[.val (.int x0), .val (.int x1), .val (.int x2), .val (.int x3), .val (.long x4), .second, .val (.int x5), .val (.int k0), .val (.int k1), .val (.int t0), .val (.int t1), .val (.int kl), .val (.int tl), .val (.ref kx), .val (.ref tx), .val (.ref a15), .val (.ref a25), .unset, .unset, .unset, .unset, .unset, .unset]) rfl q) ?_
  refine OEnds.go (fun _ q => XS.iloadN X29.here X29.hx rfl (hb hby at_101) rfl q) ?_
  show OEnds p e below _ T28 (mkF m 102 #[.val (.int x0), .val (.int x1), .val (.int x2), .val (.int x3), .val (.long x4), .second, .val (.int x5), .val (.int k0), .val (.int k1), .val (.int t0), .val (.int t1), .val (.int kl), .val (.int tl), .val (.ref kx), .val (.ref tx), .val (.ref a15), .val (.ref a25), .unset, .unset, .unset, .unset, .unset, .unset] [(.int x3)])
  refine OEnds.go (fun _ q => XS.bipush X29.here X29.hx rfl (hb hby at_102) q) ?_
  refine OEnds.go (fun _ q => XS.iushr X29.here X29.hx rfl (hb hby at_104) rfl q) ?_
  show OEnds p e below _ T28 (mkF m 105 #[.val (.int x0), .val (.int x1), .val (.int x2), .val (.int x3), .val (.long x4), .second, .val (.int x5), .val (.int k0), .val (.int k1), .val (.int t0), .val (.int t1), .val (.int kl), .val (.int tl), .val (.ref kx), .val (.ref tx), .val (.ref a15), .val (.ref a25), .unset, .unset, .unset, .unset, .unset, .unset] [(.int (x3.toUInt32 >>> ((16 : Int32) &&& 31).toUInt32).toInt32)])
  refine OEnds.go (fun _ q => XS.sipush X29.here X29.hx rfl (hb hby at_105) q) ?_
  refine OEnds.go (fun _ q => XS.iand X29.here X29.hx rfl (hb hby at_108) rfl q) ?_
  show OEnds p e below _ T28 (mkF m 109 #[.val (.int x0), .val (.int x1), .val (.int x2), .val (.int x3), .val (.long x4), .second, .val (.int x5), .val (.int k0), .val (.int k1), .val (.int t0), .val (.int t1), .val (.int kl), .val (.int tl), .val (.ref kx), .val (.ref tx), .val (.ref a15), .val (.ref a25), .unset, .unset, .unset, .unset, .unset, .unset] [(.int ((x3.toUInt32 >>> ((16 : Int32) &&& 31).toUInt32).toInt32 &&& (255 : Int32)))])
  refine OEnds.go (fun _ q => XS.i2c X29.here X29.hx rfl (hb hby at_109) rfl q) ?_
  show OEnds p e below _ T28 (mkF m 110 #[.val (.int x0), .val (.int x1), .val (.int x2), .val (.int x3), .val (.long x4), .second, .val (.int x5), .val (.int k0), .val (.int k1), .val (.int t0), .val (.int t1), .val (.int kl), .val (.int tl), .val (.ref kx), .val (.ref tx), .val (.ref a15), .val (.ref a25), .unset, .unset, .unset, .unset, .unset, .unset] [(.int (((x3.toUInt32 >>> ((16 : Int32) &&& 31).toUInt32).toInt32 &&& (255 : Int32)).toUInt32.toUInt16.toUInt32.toInt32))])
  obtain ⟨d2, hd2⟩ : ∃ z : Int32, z = (((x3.toUInt32 >>> ((16 : Int32) &&& 31).toUInt32).toInt32 &&& (255 : Int32)).toUInt32.toUInt16.toUInt32.toInt32) := ⟨_, rfl⟩
  rw [← hd2]
  show OEnds p e below _ T28 (mkF m 110 #[.val (.int x0), .val (.int x1), .val (.int x2), .val (.int x3), .val (.long x4), .second, .val (.int x5), .val (.int k0), .val (.int k1), .val (.int t0), .val (.int t1), .val (.int kl), .val (.int tl), .val (.ref kx), .val (.ref tx), .val (.ref a15), .val (.ref a25), .unset, .unset, .unset, .unset, .unset, .unset] [(.int d2)])
  have hd2b : ¬ d2 < 0 ∧ ¬ (255 : Int32) < d2 := hd2 ▸ ch255 _
  refine X29.callS hE (con_valC H d2 hd2b h30) (own_k hw 37 rfl) (own_k hw 38 rfl) (own_k hw 6 rfl) (own_k hw 39 rfl)  (by decide) (W := 0) (by decide) (by decide) (argsL := [(.int d2)]) (rest := []) rfl (lenOf own_pd20 rfl) rfl (by rw [hml]; rfl) (Nat.le_of_eq rfl) (hb hby at_110) (by decide) (by decide) ?_
  intro v43 vm41 T38 h40 X39 C42 q44
  obtain ⟨a35, rfl, E36, Str37⟩ := q44
  have Skx_h40 := Skx_h30.ext E36
  have Stx_h40 := Stx_h30.ext E36
  have Str17_h40 := Str17_h30.ext E36
  have Str27_h40 := Str27.ext E36
  have EX_h40 := ext_trans EX_h30 E36
  show OEnds p e below _ T38 (mkF m 113 #[.val (.int x0), .val (.int x1), .val (.int x2), .val (.int x3), .val (.long x4), .second, .val (.int x5), .val (.int k0), .val (.int k1), .val (.int t0), .val (.int t1), .val (.int kl), .val (.int tl), .val (.ref kx), .val (.ref tx), .val (.ref a15), .val (.ref a25), .unset, .unset, .unset, .unset, .unset, .unset] [(.ref a35)])
  refine OEnds.go (fun _ q => XS.astore X39.here X39.hx rfl (hb hby at_113) rfl rfl (l' := #[.val (.int x0), .val (.int x1), .val (.int x2), .val (.int x3), .val (.long x4), .second, .val (.int x5), .val (.int k0), .val (.int k1), .val (.int t0), .val (.int t1), .val (.int kl), .val (.int tl), .val (.ref kx), .val (.ref tx), .val (.ref a15), .val (.ref a25), .val (.ref a35), .unset, .unset, .unset, .unset, .unset]) rfl q) ?_
  show OEnds p e below _ T38 (mkF m 115 #[.val (.int x0), .val (.int x1), .val (.int x2), .val (.int x3), .val (.long x4), .second, .val (.int x5), .val (.int k0), .val (.int k1), .val (.int t0), .val (.int t1), .val (.int kl), .val (.int tl), .val (.ref kx), .val (.ref tx), .val (.ref a15), .val (.ref a25), .val (.ref a35), .unset, .unset, .unset, .unset, .unset] [])
  refine X39.newO (own_k hw 51 rfl) (own_k hw 52 rfl) (own_k hw 53 rfl) (hb hby at_115) (by decide) (by decide) ?_
  intro T45 h47 a49 ga49 X46 E48 Aa49 Da49 Ua49
  have gza49 : Z.heap.size ≤ a49 := ga49 ▸ X39.old.1
  have Skx_h47 := Skx_h40.ext E48
  have Stx_h47 := Stx_h40.ext E48
  have Str17_h47 := Str17_h40.ext E48
  have Str27_h47 := Str27_h40.ext E48
  have Str37_h47 := Str37.ext E48
  have EX_h47 := ext_trans EX_h40 E48
  have Fa49_table : Fld Z h47 a49 "com/example/fritillary/fritillary/IdGeneration$GeneratorTable" "table" "Ljava/lang/String;" .null := Da49 (Or.inr (own_k hw 64 rfl)) (ty := (FieldType.object "java/lang/String")) (by decide)
  have Fa49_canonicalTable : Fld Z h47 a49 "com/example/fritillary/fritillary/IdGeneration$GeneratorTable" "canonicalTable" "Ljava/lang/String;" .null := Da49 (Or.inr (own_k hw 66 rfl)) (ty := (FieldType.object "java/lang/String")) (by decide)
  have Fa49_keyColumn : Fld Z h47 a49 "com/example/fritillary/fritillary/IdGeneration$GeneratorTable" "keyColumn" "Ljava/lang/String;" .null := Da49 (Or.inr (own_k hw 68 rfl)) (ty := (FieldType.object "java/lang/String")) (by decide)
  have Fa49_valueColumn : Fld Z h47 a49 "com/example/fritillary/fritillary/IdGeneration$GeneratorTable" "valueColumn" "Ljava/lang/String;" .null := Da49 (Or.inr (own_k hw 70 rfl)) (ty := (FieldType.object "java/lang/String")) (by decide)
  have Fa49_key : Fld Z h47 a49 "com/example/fritillary/fritillary/IdGeneration$GeneratorTable" "key" "Ljava/lang/String;" .null := Da49 (Or.inr (own_k hw 72 rfl)) (ty := (FieldType.object "java/lang/String")) (by decide)
  have Fa49_first : Fld Z h47 a49 "com/example/fritillary/fritillary/IdGeneration$GeneratorTable" "first" "J" (.long (0 : Int64)) := Da49 (Or.inr (own_k hw 74 rfl)) (ty := FieldType.long) (by decide)
  have Fa49_allocationSize : Fld Z h47 a49 "com/example/fritillary/fritillary/IdGeneration$GeneratorTable" "allocationSize" "I" (.int (0 : Int32)) := Da49 (Or.inr (own_k hw 76 rfl)) (ty := FieldType.int) (by decide)
  show OEnds p e below _ T45 (mkF m 118 #[.val (.int x0), .val (.int x1), .val (.int x2), .val (.int x3), .val (.long x4), .second, .val (.int x5), .val (.int k0), .val (.int k1), .val (.int t0), .val (.int t1), .val (.int kl), .val (.int tl), .val (.ref kx), .val (.ref tx), .val (.ref a15), .val (.ref a25), .val (.ref a35), .unset, .unset, .unset, .unset, .unset] [(.ref a49)])
  refine OEnds.go (fun _ q => XS.dup X46.here X46.hx rfl (hb hby at_118) rfl rfl q) ?_
  refine OEnds.go (fun _ q => XS.aload X46.here X46.hx rfl (hb hby at_119) rfl rfl q) ?_
  show OEnds p e below _ T45 (mkF m 121 #[.val (.int x0), .val (.int x1), .val (.int x2), .val (.int x3), .val (.long x4), .second, .val (.int x5), .val (.int k0), .val (.int k1), .val (.int t0), .val (.int t1), .val (.int kl), .val (.int tl), .val (.ref kx), .val (.ref tx), .val (.ref a15), .val (.ref a25), .val (.ref a35), .unset, .unset, .unset, .unset, .unset] [(.ref a15), (.ref a49), (.ref a49)])
  refine OEnds.go (fun _ q => XS.aload X46.here X46.hx rfl (hb hby at_121) rfl rfl q) ?_
  refine OEnds.go (fun _ q => XS.aload X46.here X46.hx rfl (hb hby at_123) rfl rfl q) ?_
  show OEnds p e below _ T45 (mkF m 125 #[.val (.int x0), .val (.int x1), .val (.int x2), .val (.int x3), .val (.long x4), .second, .val (.int x5), .val (.int k0), .val (.int k1), .val (.int t0), .val (.int t1), .val (.int kl), .val (.int tl), .val (.ref kx), .val (.ref tx), .val (.ref a15), .val (.ref a25), .val (.ref a35), .unset, .unset, .unset, .unset, .unset] [(.ref a25), (.ref tx), (.ref a15), (.ref a49), (.ref a49)])
  refine OEnds.go (fun _ q => XS.aload X46.here X46.hx rfl (hb hby at_125) rfl rfl q) ?_
  refine OEnds.go (fun _ q => XS.aload X46.here X46.hx rfl (hb hby at_127) rfl rfl q) ?_
  show OEnds p e below _ T45 (mkF m 129 #[.val (.int x0), .val (.int x1), .val (.int x2), .val (.int x3), .val (.long x4), .second, .val (.int x5), .val (.int k0), .val (.int k1), .val (.int t0), .val (.int t1), .val (.int kl), .val (.int tl), .val (.ref kx), .val (.ref tx), .val (.ref a15), .val (.ref a25), .val (.ref a35), .unset, .unset, .unset, .unset, .unset] [(.ref kx), (.ref a35), (.ref a25), (.ref tx), (.ref a15), (.ref a49), (.ref a49)])
  refine OEnds.go (fun _ q => XS.lload X46.here X46.hx rfl (hb hby at_129) rfl q) ?_
  refine OEnds.go (fun _ q => XS.iload X46.here X46.hx rfl (hb hby at_131) rfl q) ?_
  show OEnds p e below _ T45 (mkF m 133 #[.val (.int x0), .val (.int x1), .val (.int x2), .val (.int x3), .val (.long x4), .second, .val (.int x5), .val (.int k0), .val (.int k1), .val (.int t0), .val (.int t1), .val (.int kl), .val (.int tl), .val (.ref kx), .val (.ref tx), .val (.ref a15), .val (.ref a25), .val (.ref a35), .unset, .unset, .unset, .unset, .unset] [(.int x5), (.long x4), (.ref kx), (.ref a35), (.ref a25), (.ref tx), (.ref a15), (.ref a49), (.ref a49)])
  refine X46.callI hE (con_gt H a49 a15 tx a25 a35 kx x4 x5 gza49 h47 Aa49 Fa49_table Fa49_canonicalTable Fa49_keyColumn Fa49_valueColumn Fa49_key Fa49_first Fa49_allocationSize) (own_k hw 54 rfl) (own_k hw 55 rfl) (own_k hw 53 rfl) (own_k hw 56 rfl) rfl (by decide) (W := 1) (by decide) (by decide) (a := a49) (argsL := [(.ref a15), (.ref tx), (.ref a25), (.ref a35), (.ref kx), (.long x4), (.int x5)]) (rest := [(.ref a49)]) rfl (lenOf own_pd25 rfl) rfl (by rw [hml]; rfl) (Nat.le_of_eq rfl) (hb hby at_133) (by decide) (by decide) ?_
  intro v64 vm62 T59 h61 X60 C63 q65
  obtain ⟨rfl, K50, E51, Ff52_table, Ff53_canonicalTable, Ff54_keyColumn, Ff55_valueColumn, Ff56_key, Ff57_first, Ff58_allocationSize⟩ := q65
  have EBa49_h61 := ext_keep E48 K50 (allS (Nat.le_of_eq ga49) all0)
  have Skx_h61 := Skx_h40.ext EBa49_h61
  have Stx_h61 := Stx_h40.ext EBa49_h61
  have Str17_h61 := Str17_h40.ext EBa49_h61
  have Str27_h61 := Str27_h40.ext EBa49_h61
  have Str37_h61 := Str37.ext EBa49_h61
  have EX_h61 := ext_keep EX_h47 K50 (allS (Nat.le_trans EX_h40.1 (Nat.le_of_eq ga49)) all0)
  show OEnds p e below _ T59 (mkF m 136 #[.val (.int x0), .val (.int x1), .val (.int x2), .val (.int x3), .val (.long x4), .second, .val (.int x5), .val (.int k0), .val (.int k1), .val (.int t0), .val (.int t1), .val (.int kl), .val (.int tl), .val (.ref kx), .val (.ref tx), .val (.ref a15), .val (.ref a25), .val (.ref a35), .unset, .unset, .unset, .unset, .unset] [(.ref a49)])
  refine OEnds.go (fun _ q => XS.astore X60.here X60.hx rfl (hb hby at_136) rfl rfl (l' := #[.val (.int x0), .val (.int x1), .val (.int x2), .val (.int x3), .val (.long x4), .second, .val (.int x5), .val (.int k0), .val (.int k1), .val (.int t0), .val (.int t1), .val (.int kl), .val (.int tl), .val (.ref kx), .val (.ref tx), .val (.ref a15), .val (.ref a25), .val (.ref a35), .val (.ref a49), .unset, .unset, .unset, .unset]) rfl q) ?_
  refine OEnds.go (fun _ q => XS.aload X60.here X60.hx rfl (hb hby at_138) rfl rfl q) ?_
  show OEnds p e below _ T59 (mkF m 140 #[.val (.int x0), .val (.int x1), .val (.int x2), .val (.int x3), .val (.long x4), .second, .val (.int x5), .val (.int k0), .val (.int k1), .val (.int t0), .val (.int t1), .val (.int kl), .val (.int tl), .val (.ref kx), .val (.ref tx), .val (.ref a15), .val (.ref a25), .val (.ref a35), .val (.ref a49), .unset, .unset, .unset, .unset] [(.ref a49)])
  refine X60.callV hE (con_src H a49 kx tx (own_txt kl k0 k1) (own_txt tl t0 t1) (own_txt_len _ _ _) (own_txt_len _ _ _) h61 Ff56_key Ff53_canonicalTable Skx_h61 Stx_h61) (own_k hw 77 rfl) (own_k hw 78 rfl) (own_k hw 80 rfl) (own_k hw 79 rfl) (own_k hw 53 rfl) (own_k hw 81 rfl) (X60.nf (own_k hw 80 rfl)) (by decide) (W := 0) (by decide) (by decide) E51 (argsL := []) (rest := []) rfl (lenOf own_pd23 rfl) rfl (by rw [hml]; rfl) (Nat.le_of_eq rfl) (hb hby at_140) (by decide) (by decide) ?_
  intro v71 vm69 T66 h68 X67 C70 q72
  obtain ⟨rr, rfl, Er, Sr⟩ := q72
  have Skx_h68 := Skx_h61.ext Er
  have Stx_h68 := Stx_h61.ext Er
  have Str17_h68 := Str17_h61.ext Er
  have Str27_h68 := Str27_h61.ext Er
  have Str37_h68 := Str37_h61.ext Er
  have E51_h68 := E51.ext Er
  have Ff52_table_h68 := Ff52_table.ext Er
  have Ff53_canonicalTable_h68 := Ff53_canonicalTable.ext Er
  have Ff54_keyColumn_h68 := Ff54_keyColumn.ext Er
  have Ff55_valueColumn_h68 := Ff55_valueColumn.ext Er
  have Ff56_key_h68 := Ff56_key.ext Er
  have Ff57_first_h68 := Ff57_first.ext Er
  have Ff58_allocationSize_h68 := Ff58_allocationSize.ext Er
  have EX_h68 := ext_trans EX_h61 Er
  show OEnds p e below _ T66 (mkF m 143 #[.val (.int x0), .val (.int x1), .val (.int x2), .val (.int x3), .val (.long x4), .second, .val (.int x5), .val (.int k0), .val (.int k1), .val (.int t0), .val (.int t1), .val (.int kl), .val (.int tl), .val (.ref kx), .val (.ref tx), .val (.ref a15), .val (.ref a25), .val (.ref a35), .val (.ref a49), .unset, .unset, .unset, .unset] [(.ref rr)])
  obtain ⟨nk, hnk, hk2, lk, gk0, gk1⟩ := own_txtN (c0 := k0) (c1 := k1) hkl3
  obtain ⟨nt, hnt, ht2, lt, gt0, gt1⟩ := own_txtN (c0 := t0) (c1 := t1) htl3
  obtain ⟨hL, hA, hB, hC, hD⟩ := own_parts lk lt
  generalize hRS : (own_row ++ own_txt kl k0 k1 ++ own_mid ++ own_txt tl t0 t1) = RS at Sr hL hA hB hC hD
  obtain rfl := hnk
  obtain rfl := hnt
  show OEnds p e below _ T66 (mkF m 143 #[.val (.int x0), .val (.int x1), .val (.int x2), .val (.int x3), .val (.long x4), .second, .val (.int x5), .val (.int k0), .val (.int k1), .val (.int t0), .val (.int t1), .val (.int (Int32.ofNat nk)), .val (.int (Int32.ofNat nt)), .val (.ref kx), .val (.ref tx), .val (.ref a15), .val (.ref a25), .val (.ref a35), .val (.ref a49), .unset, .unset, .unset, .unset] [(.ref rr)])
  refine OEnds.go (fun _ q => XS.astore X67.here X67.hx rfl (hb hby at_143) rfl rfl (l' := #[.val (.int x0), .val (.int x1), .val (.int x2), .val (.int x3), .val (.long x4), .second, .val (.int x5), .val (.int k0), .val (.int k1), .val (.int t0), .val (.int t1), .val (.int (Int32.ofNat nk)), .val (.int (Int32.ofNat nt)), .val (.ref kx), .val (.ref tx), .val (.ref a15), .val (.ref a25), .val (.ref a35), .val (.ref a49), .val (.ref rr), .unset, .unset, .unset]) rfl q) ?_
  refine OEnds.go (fun _ q => XS.aload X67.here X67.hx rfl (hb hby at_145) rfl rfl q) ?_
  show OEnds p e below _ T66 (mkF m 147 #[.val (.int x0), .val (.int x1), .val (.int x2), .val (.int x3), .val (.long x4), .second, .val (.int x5), .val (.int k0), .val (.int k1), .val (.int t0), .val (.int t1), .val (.int (Int32.ofNat nk)), .val (.int (Int32.ofNat nt)), .val (.ref kx), .val (.ref tx), .val (.ref a15), .val (.ref a25), .val (.ref a35), .val (.ref a49), .val (.ref rr), .unset, .unset, .unset] [(.ref rr)])
  refine OEnds.go (fun _ q => XS.ifnullNo X67.here X67.hx rfl (hb hby at_147) rfl q) ?_
  show OEnds p e below _ T66 (mkF m 150 #[.val (.int x0), .val (.int x1), .val (.int x2), .val (.int x3), .val (.long x4), .second, .val (.int x5), .val (.int k0), .val (.int k1), .val (.int t0), .val (.int t1), .val (.int (Int32.ofNat nk)), .val (.int (Int32.ofNat nt)), .val (.ref kx), .val (.ref tx), .val (.ref a15), .val (.ref a25), .val (.ref a35), .val (.ref a49), .val (.ref rr), .unset, .unset, .unset] [])
  refine OEnds.go (fun _ q => XS.aload X67.here X67.hx rfl (hb hby at_150) rfl rfl q) ?_
  show OEnds p e below _ T66 (mkF m 152 #[.val (.int x0), .val (.int x1), .val (.int x2), .val (.int x3), .val (.long x4), .second, .val (.int x5), .val (.int k0), .val (.int k1), .val (.int t0), .val (.int t1), .val (.int (Int32.ofNat nk)), .val (.int (Int32.ofNat nt)), .val (.ref kx), .val (.ref tx), .val (.ref a15), .val (.ref a25), .val (.ref a35), .val (.ref a49), .val (.ref rr), .unset, .unset, .unset] [(.ref rr)])
  refine X67.payV (own_len H (W := 0) X67.hZ X67.old Sr (by decide) (by decide)) (okPure X67) (own_k hw 211 rfl) (own_k hw 112 rfl) (own_k hw 114 rfl) (own_k hw 113 rfl) (X67.nf (own_k hw 114 rfl)) (by decide) Sr.exa (argsL := []) (rest := []) rfl (lenOf own_pd7 rfl) rfl (by rw [hml]; rfl) (Nat.le_of_eq rfl) (hb hby at_152) (by decide) (by decide) ?_
  intro v73 T74 h75 L76 X77 q78
  obtain ⟨rfl, -, e79⟩ := q78
  obtain rfl := e79.symm
  show OEnds p e below _ T74 (mkF m 155 #[.val (.int x0), .val (.int x1), .val (.int x2), .val (.int x3), .val (.long x4), .second, .val (.int x5), .val (.int k0), .val (.int k1), .val (.int t0), .val (.int t1), .val (.int (Int32.ofNat nk)), .val (.int (Int32.ofNat nt)), .val (.ref kx), .val (.ref tx), .val (.ref a15), .val (.ref a25), .val (.ref a35), .val (.ref a49), .val (.ref rr), .unset, .unset, .unset] [(.int (Int32.ofNat RS.length))])
  refine OEnds.go (fun _ q => XS.bipush X77.here X77.hx rfl (hb hby at_155) q) ?_
  show OEnds p e below _ T74 (mkF m 157 #[.val (.int x0), .val (.int x1), .val (.int x2), .val (.int x3), .val (.long x4), .second, .val (.int x5), .val (.int k0), .val (.int k1), .val (.int t0), .val (.int t1), .val (.int (Int32.ofNat nk)), .val (.int (Int32.ofNat nt)), .val (.ref kx), .val (.ref tx), .val (.ref a15), .val (.ref a25), .val (.ref a35), .val (.ref a49), .val (.ref rr), .unset, .unset, .unset] [(.int (16 : Int32)), (.int (Int32.ofNat RS.length))])
  refine OEnds.go (fun _ q => XS.iload X77.here X77.hx rfl (hb hby at_157) rfl q) ?_
  show OEnds p e below _ T74 (mkF m 159 #[.val (.int x0), .val (.int x1), .val (.int x2), .val (.int x3), .val (.long x4), .second, .val (.int x5), .val (.int k0), .val (.int k1), .val (.int t0), .val (.int t1), .val (.int (Int32.ofNat nk)), .val (.int (Int32.ofNat nt)), .val (.ref kx), .val (.ref tx), .val (.ref a15), .val (.ref a25), .val (.ref a35), .val (.ref a49), .val (.ref rr), .unset, .unset, .unset] [(.int (Int32.ofNat nk)), (.int (16 : Int32)), (.int (Int32.ofNat RS.length))])
  refine OEnds.go (fun _ q => XS.iadd X77.here X77.hx rfl (hb hby at_159) rfl q) ?_
  show OEnds p e below _ T74 (mkF m 160 #[.val (.int x0), .val (.int x1), .val (.int x2), .val (.int x3), .val (.long x4), .second, .val (.int x5), .val (.int k0), .val (.int k1), .val (.int t0), .val (.int t1), .val (.int (Int32.ofNat nk)), .val (.int (Int32.ofNat nt)), .val (.ref kx), .val (.ref tx), .val (.ref a15), .val (.ref a25), .val (.ref a35), .val (.ref a49), .val (.ref rr), .unset, .unset, .unset] [(.int ((16 : Int32) + (Int32.ofNat nk))), (.int (Int32.ofNat RS.length))])
  rw [show ((16 : Int32) + (Int32.ofNat nk)) = (Int32.ofNat (16 + nk)) from ofN_add (a := 16) (by omega)]
  show OEnds p e below _ T74 (mkF m 160 #[.val (.int x0), .val (.int x1), .val (.int x2), .val (.int x3), .val (.long x4), .second, .val (.int x5), .val (.int k0), .val (.int k1), .val (.int t0), .val (.int t1), .val (.int (Int32.ofNat nk)), .val (.int (Int32.ofNat nt)), .val (.ref kx), .val (.ref tx), .val (.ref a15), .val (.ref a25), .val (.ref a35), .val (.ref a49), .val (.ref rr), .unset, .unset, .unset] [(.int (Int32.ofNat (16 + nk))), (.int (Int32.ofNat RS.length))])
  refine OEnds.go (fun _ q => XS.iload X77.here X77.hx rfl (hb hby at_160) rfl q) ?_
  show OEnds p e below _ T74 (mkF m 162 #[.val (.int x0), .val (.int x1), .val (.int x2), .val (.int x3), .val (.long x4), .second, .val (.int x5), .val (.int k0), .val (.int k1), .val (.int t0), .val (.int t1), .val (.int (Int32.ofNat nk)), .val (.int (Int32.ofNat nt)), .val (.ref kx), .val (.ref tx), .val (.ref a15), .val (.ref a25), .val (.ref a35), .val (.ref a49), .val (.ref rr), .unset, .unset, .unset] [(.int (Int32.ofNat nt)), (.int (Int32.ofNat (16 + nk))), (.int (Int32.ofNat RS.length))])
  refine OEnds.go (fun _ q => XS.iadd X77.here X77.hx rfl (hb hby at_162) rfl q) ?_
  show OEnds p e below _ T74 (mkF m 163 #[.val (.int x0), .val (.int x1), .val (.int x2), .val (.int x3), .val (.long x4), .second, .val (.int x5), .val (.int k0), .val (.int k1), .val (.int t0), .val (.int t1), .val (.int (Int32.ofNat nk)), .val (.int (Int32.ofNat nt)), .val (.ref kx), .val (.ref tx), .val (.ref a15), .val (.ref a25), .val (.ref a35), .val (.ref a49), .val (.ref rr), .unset, .unset, .unset] [(.int ((Int32.ofNat (16 + nk)) + (Int32.ofNat nt))), (.int (Int32.ofNat RS.length))])
  rw [show ((Int32.ofNat (16 + nk)) + (Int32.ofNat nt)) = (Int32.ofNat (16 + nk + nt)) from ofN_add (by omega)]
  show OEnds p e below _ T74 (mkF m 163 #[.val (.int x0), .val (.int x1), .val (.int x2), .val (.int x3), .val (.long x4), .second, .val (.int x5), .val (.int k0), .val (.int k1), .val (.int t0), .val (.int t1), .val (.int (Int32.ofNat nk)), .val (.int (Int32.ofNat nt)), .val (.ref kx), .val (.ref tx), .val (.ref a15), .val (.ref a25), .val (.ref a35), .val (.ref a49), .val (.ref rr), .unset, .unset, .unset] [(.int (Int32.ofNat (16 + nk + nt))), (.int (Int32.ofNat RS.length))])
  refine OEnds.go (fun _ q => XS.icmpYes X77.here X77.hx rfl (pc0 := 163) (pc' := 168) rfl (hb hby at_163) rfl (teq (congrArg Int32.ofNat hL)).1 (by decide) (by decide) q) ?_
  show OEnds p e below _ T74 (mkF m 168 #[.val (.int x0), .val (.int x1), .val (.int x2), .val (.int x3), .val (.long x4), .second, .val (.int x5), .val (.int k0), .val (.int k1), .val (.int t0), .val (.int t1), .val (.int (Int32.ofNat nk)), .val (.int (Int32.ofNat nt)), .val (.ref kx), .val (.ref tx), .val (.ref a15), .val (.ref a25), .val (.ref a35), .val (.ref a49), .val (.ref rr), .unset, .unset, .unset] [])
  refine OEnds.go (fun _ q => XS.aload X77.here X77.hx rfl (hb hby at_168) rfl rfl q) ?_
  refine OEnds.go (fun _ q => XS.iconst X77.here X77.hx rfl (hb hby at_170) q) ?_
  show OEnds p e below _ T74 (mkF m 171 #[.val (.int x0), .val (.int x1), .val (.int x2), .val (.int x3), .val (.long x4), .second, .val (.int x5), .val (.int k0), .val (.int k1), .val (.int t0), .val (.int t1), .val (.int (Int32.ofNat nk)), .val (.int (Int32.ofNat nt)), .val (.ref kx), .val (.ref tx), .val (.ref a15), .val (.ref a25), .val (.ref a35), .val (.ref a49), .val (.ref rr), .unset, .unset, .unset] [(.int (0 : Int32)), (.ref rr)])
  refine X77.payV (own_chr H (W := 0) X77.hZ X77.old (i := 0) Sr (by omega) rfl (by decide) (by decide)) (okPure X77) (own_k hw 212 rfl) (own_k hw 213 rfl) (own_k hw 215 rfl) (own_k hw 214 rfl) (X77.nf (own_k hw 215 rfl)) (by decide) Sr.exa (argsL := [(.int (0 : Int32))]) (rest := []) rfl (lenOf own_pd26 rfl) rfl (by rw [hml]; rfl) (Nat.le_of_eq rfl) (hb hby at_171) (by decide) (by decide) ?_
  intro v80 T81 h82 L83 X84 q85
  obtain ⟨rfl, -, e86⟩ := q85
  obtain rfl := e86.symm
  show OEnds p e below _ T81 (mkF m 174 #[.val (.int x0), .val (.int x1), .val (.int x2), .val (.int x3), .val (.long x4), .second, .val (.int x5), .val (.int k0), .val (.int k1), .val (.int t0), .val (.int t1), .val (.int (Int32.ofNat nk)), .val (.int (Int32.ofNat nt)), .val (.ref kx), .val (.ref tx), .val (.ref a15), .val (.ref a25), .val (.ref a35), .val (.ref a49), .val (.ref rr), .unset, .unset, .unset] [(.int (RS.getD 0 0))])
  refine OEnds.go (fun _ q => XS.bipush X84.here X84.hx rfl (hb hby at_174) q) ?_
  show OEnds p e below _ T81 (mkF m 176 #[.val (.int x0), .val (.int x1), .val (.int x2), .val (.int x3), .val (.long x4), .second, .val (.int x5), .val (.int k0), .val (.int k1), .val (.int t0), .val (.int t1), .val (.int (Int32.ofNat nk)), .val (.int (Int32.ofNat nt)), .val (.ref kx), .val (.ref tx), .val (.ref a15), .val (.ref a25), .val (.ref a35), .val (.ref a49), .val (.ref rr), .unset, .unset, .unset] [(.int (114 : Int32)), (.int (RS.getD 0 0))])
  refine OEnds.go (fun _ q => XS.icmpNo X84.here X84.hx rfl (hb hby at_176) rfl (teq (show RS.getD 0 0 = (114 : Int32) from hA 0 (by decide))).2 q) ?_
  show OEnds p e below _ T81 (mkF m 179 #[.val (.int x0), .val (.int x1), .val (.int x2), .val (.int x3), .val (.long x4), .second, .val (.int x5), .val (.int k0), .val (.int k1), .val (.int t0), .val (.int t1), .val (.int (Int32.ofNat nk)), .val (.int (Int32.ofNat nt)), .val (.ref kx), .val (.ref tx), .val (.ref a15), .val (.ref a25), .val (.ref a35), .val (.ref a49), .val (.ref rr), .unset, .unset, .unset] [])
  refine OEnds.go (fun _ q => XS.aload X84.here X84.hx rfl (hb hby at_179) rfl rfl q) ?_
  refine OEnds.go (fun _ q => XS.iconst X84.here X84.hx rfl (hb hby at_181) q) ?_
  show OEnds p e below _ T81 (mkF m 182 #[.val (.int x0), .val (.int x1), .val (.int x2), .val (.int x3), .val (.long x4), .second, .val (.int x5), .val (.int k0), .val (.int k1), .val (.int t0), .val (.int t1), .val (.int (Int32.ofNat nk)), .val (.int (Int32.ofNat nt)), .val (.ref kx), .val (.ref tx), .val (.ref a15), .val (.ref a25), .val (.ref a35), .val (.ref a49), .val (.ref rr), .unset, .unset, .unset] [(.int (1 : Int32)), (.ref rr)])
  refine X84.payV (own_chr H (W := 0) X84.hZ X84.old (i := 1) Sr (by omega) rfl (by decide) (by decide)) (okPure X84) (own_k hw 212 rfl) (own_k hw 213 rfl) (own_k hw 215 rfl) (own_k hw 214 rfl) (X84.nf (own_k hw 215 rfl)) (by decide) Sr.exa (argsL := [(.int (1 : Int32))]) (rest := []) rfl (lenOf own_pd26 rfl) rfl (by rw [hml]; rfl) (Nat.le_of_eq rfl) (hb hby at_182) (by decide) (by decide) ?_
  intro v87 T88 h89 L90 X91 q92
  obtain ⟨rfl, -, e93⟩ := q92
  obtain rfl := e93.symm
  show OEnds p e below _ T88 (mkF m 185 #[.val (.int x0), .val (.int x1), .val (.int x2), .val (.int x3), .val (.long x4), .second, .val (.int x5), .val (.int k0), .val (.int k1), .val (.int t0), .val (.int t1), .val (.int (Int32.ofNat nk)), .val (.int (Int32.ofNat nt)), .val (.ref kx), .val (.ref tx), .val (.ref a15), .val (.ref a25), .val (.ref a35), .val (.ref a49), .val (.ref rr), .unset, .unset, .unset] [(.int (RS.getD 1 0))])
  refine OEnds.go (fun _ q => XS.bipush X91.here X91.hx rfl (hb hby at_185) q) ?_
  show OEnds p e below _ T88 (mkF m 187 #[.val (.int x0), .val (.int x1), .val (.int x2), .val (.int x3), .val (.long x4), .second, .val (.int x5), .val (.int k0), .val (.int k1), .val (.int t0), .val (.int t1), .val (.int (Int32.ofNat nk)), .val (.int (Int32.ofNat nt)), .val (.ref kx), .val (.ref tx), .val (.ref a15), .val (.ref a25), .val (.ref a35), .val (.ref a49), .val (.ref rr), .unset, .unset, .unset] [(.int (111 : Int32)), (.int (RS.getD 1 0))])
  refine OEnds.go (fun _ q => XS.icmpNo X91.here X91.hx rfl (hb hby at_187) rfl (teq (show RS.getD 1 0 = (111 : Int32) from hA 1 (by decide))).2 q) ?_
  show OEnds p e below _ T88 (mkF m 190 #[.val (.int x0), .val (.int x1), .val (.int x2), .val (.int x3), .val (.long x4), .second, .val (.int x5), .val (.int k0), .val (.int k1), .val (.int t0), .val (.int t1), .val (.int (Int32.ofNat nk)), .val (.int (Int32.ofNat nt)), .val (.ref kx), .val (.ref tx), .val (.ref a15), .val (.ref a25), .val (.ref a35), .val (.ref a49), .val (.ref rr), .unset, .unset, .unset] [])
  refine OEnds.go (fun _ q => XS.aload X91.here X91.hx rfl (hb hby at_190) rfl rfl q) ?_
  refine OEnds.go (fun _ q => XS.iconst X91.here X91.hx rfl (hb hby at_192) q) ?_
  show OEnds p e below _ T88 (mkF m 193 #[.val (.int x0), .val (.int x1), .val (.int x2), .val (.int x3), .val (.long x4), .second, .val (.int x5), .val (.int k0), .val (.int k1), .val (.int t0), .val (.int t1), .val (.int (Int32.ofNat nk)), .val (.int (Int32.ofNat nt)), .val (.ref kx), .val (.ref tx), .val (.ref a15), .val (.ref a25), .val (.ref a35), .val (.ref a49), .val (.ref rr), .unset, .unset, .unset] [(.int (2 : Int32)), (.ref rr)])
  refine X91.payV (own_chr H (W := 0) X91.hZ X91.old (i := 2) Sr (by omega) rfl (by decide) (by decide)) (okPure X91) (own_k hw 212 rfl) (own_k hw 213 rfl) (own_k hw 215 rfl) (own_k hw 214 rfl) (X91.nf (own_k hw 215 rfl)) (by decide) Sr.exa (argsL := [(.int (2 : Int32))]) (rest := []) rfl (lenOf own_pd26 rfl) rfl (by rw [hml]; rfl) (Nat.le_of_eq rfl) (hb hby at_193) (by decide) (by decide) ?_
  intro v94 T95 h96 L97 X98 q99
  obtain ⟨rfl, -, e100⟩ := q99
  obtain rfl := e100.symm
  show OEnds p e below _ T95 (mkF m 196 #[.val (.int x0), .val (.int x1), .val (.int x2), .val (.int x3), .val (.long x4), .second, .val (.int x5), .val (.int k0), .val (.int k1), .val (.int t0), .val (.int t1), .val (.int (Int32.ofNat nk)), .val (.int (Int32.ofNat nt)), .val (.ref kx), .val (.ref tx), .val (.ref a15), .val (.ref a25), .val (.ref a35), .val (.ref a49), .val (.ref rr), .unset, .unset, .unset] [(.int (RS.getD 2 0))])
  refine OEnds.go (fun _ q => XS.bipush X98.here X98.hx rfl (hb hby at_196) q) ?_
  show OEnds p e below _ T95 (mkF m 198 #[.val (.int x0), .val (.int x1), .val (.int x2), .val (.int x3), .val (.long x4), .second, .val (.int x5), .val (.int k0), .val (.int k1), .val (.int t0), .val (.int t1), .val (.int (Int32.ofNat nk)), .val (.int (Int32.ofNat nt)), .val (.ref kx), .val (.ref tx), .val (.ref a15), .val (.ref a25), .val (.ref a35), .val (.ref a49), .val (.ref rr), .unset, .unset, .unset] [(.int (119 : Int32)), (.int (RS.getD 2 0))])
  refine OEnds.go (fun _ q => XS.icmpNo X98.here X98.hx rfl (hb hby at_198) rfl (teq (show RS.getD 2 0 = (119 : Int32) from hA 2 (by decide))).2 q) ?_
  show OEnds p e below _ T95 (mkF m 201 #[.val (.int x0), .val (.int x1), .val (.int x2), .val (.int x3), .val (.long x4), .second, .val (.int x5), .val (.int k0), .val (.int k1), .val (.int t0), .val (.int t1), .val (.int (Int32.ofNat nk)), .val (.int (Int32.ofNat nt)), .val (.ref kx), .val (.ref tx), .val (.ref a15), .val (.ref a25), .val (.ref a35), .val (.ref a49), .val (.ref rr), .unset, .unset, .unset] [])
  refine OEnds.go (fun _ q => XS.aload X98.here X98.hx rfl (hb hby at_201) rfl rfl q) ?_
  refine OEnds.go (fun _ q => XS.iconst X98.here X98.hx rfl (hb hby at_203) q) ?_
  show OEnds p e below _ T95 (mkF m 204 #[.val (.int x0), .val (.int x1), .val (.int x2), .val (.int x3), .val (.long x4), .second, .val (.int x5), .val (.int k0), .val (.int k1), .val (.int t0), .val (.int t1), .val (.int (Int32.ofNat nk)), .val (.int (Int32.ofNat nt)), .val (.ref kx), .val (.ref tx), .val (.ref a15), .val (.ref a25), .val (.ref a35), .val (.ref a49), .val (.ref rr), .unset, .unset, .unset] [(.int (3 : Int32)), (.ref rr)])
  refine X98.payV (own_chr H (W := 0) X98.hZ X98.old (i := 3) Sr (by omega) rfl (by decide) (by decide)) (okPure X98) (own_k hw 212 rfl) (own_k hw 213 rfl) (own_k hw 215 rfl) (own_k hw 214 rfl) (X98.nf (own_k hw 215 rfl)) (by decide) Sr.exa (argsL := [(.int (3 : Int32))]) (rest := []) rfl (lenOf own_pd26 rfl) rfl (by rw [hml]; rfl) (Nat.le_of_eq rfl) (hb hby at_204) (by decide) (by decide) ?_
  intro v101 T102 h103 L104 X105 q106
  obtain ⟨rfl, -, e107⟩ := q106
  obtain rfl := e107.symm
  show OEnds p e below _ T102 (mkF m 207 #[.val (.int x0), .val (.int x1), .val (.int x2), .val (.int x3), .val (.long x4), .second, .val (.int x5), .val (.int k0), .val (.int k1), .val (.int t0), .val (.int t1), .val (.int (Int32.ofNat nk)), .val (.int (Int32.ofNat nt)), .val (.ref kx), .val (.ref tx), .val (.ref a15), .val (.ref a25), .val (.ref a35), .val (.ref a49), .val (.ref rr), .unset, .unset, .unset] [(.int (RS.getD 3 0))])
  refine OEnds.go (fun _ q => XS.bipush X105.here X105.hx rfl (hb hby at_207) q) ?_
  show OEnds p e below _ T102 (mkF m 209 #[.val (.int x0), .val (.int x1), .val (.int x2), .val (.int x3), .val (.long x4), .second, .val (.int x5), .val (.int k0), .val (.int k1), .val (.int t0), .val (.int t1), .val (.int (Int32.ofNat nk)), .val (.int (Int32.ofNat nt)), .val (.ref kx), .val (.ref tx), .val (.ref a15), .val (.ref a25), .val (.ref a35), .val (.ref a49), .val (.ref rr), .unset, .unset, .unset] [(.int (32 : Int32)), (.int (RS.getD 3 0))])
  refine OEnds.go (fun _ q => XS.icmpNo X105.here X105.hx rfl (hb hby at_209) rfl (teq (show RS.getD 3 0 = (32 : Int32) from hA 3 (by decide))).2 q) ?_
  show OEnds p e below _ T102 (mkF m 212 #[.val (.int x0), .val (.int x1), .val (.int x2), .val (.int x3), .val (.long x4), .second, .val (.int x5), .val (.int k0), .val (.int k1), .val (.int t0), .val (.int t1), .val (.int (Int32.ofNat nk)), .val (.int (Int32.ofNat nt)), .val (.ref kx), .val (.ref tx), .val (.ref a15), .val (.ref a25), .val (.ref a35), .val (.ref a49), .val (.ref rr), .unset, .unset, .unset] [])
  refine OEnds.go (fun _ q => XS.aload X105.here X105.hx rfl (hb hby at_212) rfl rfl q) ?_
  refine OEnds.go (fun _ q => XS.iconst X105.here X105.hx rfl (hb hby at_214) q) ?_
  show OEnds p e below _ T102 (mkF m 215 #[.val (.int x0), .val (.int x1), .val (.int x2), .val (.int x3), .val (.long x4), .second, .val (.int x5), .val (.int k0), .val (.int k1), .val (.int t0), .val (.int t1), .val (.int (Int32.ofNat nk)), .val (.int (Int32.ofNat nt)), .val (.ref kx), .val (.ref tx), .val (.ref a15), .val (.ref a25), .val (.ref a35), .val (.ref a49), .val (.ref rr), .unset, .unset, .unset] [(.int (4 : Int32)), (.ref rr)])
  refine X105.payV (own_chr H (W := 0) X105.hZ X105.old (i := 4) Sr (by omega) rfl (by decide) (by decide)) (okPure X105) (own_k hw 212 rfl) (own_k hw 213 rfl) (own_k hw 215 rfl) (own_k hw 214 rfl) (X105.nf (own_k hw 215 rfl)) (by decide) Sr.exa (argsL := [(.int (4 : Int32))]) (rest := []) rfl (lenOf own_pd26 rfl) rfl (by rw [hml]; rfl) (Nat.le_of_eq rfl) (hb hby at_215) (by decide) (by decide) ?_
  intro v108 T109 h110 L111 X112 q113
  obtain ⟨rfl, -, e114⟩ := q113
  obtain rfl := e114.symm
  show OEnds p e below _ T109 (mkF m 218 #[.val (.int x0), .val (.int x1), .val (.int x2), .val (.int x3), .val (.long x4), .second, .val (.int x5), .val (.int k0), .val (.int k1), .val (.int t0), .val (.int t1), .val (.int (Int32.ofNat nk)), .val (.int (Int32.ofNat nt)), .val (.ref kx), .val (.ref tx), .val (.ref a15), .val (.ref a25), .val (.ref a35), .val (.ref a49), .val (.ref rr), .unset, .unset, .unset] [(.int (RS.getD 4 0))])
  refine OEnds.go (fun _ q => XS.bipush X112.here X112.hx rfl (hb hby at_218) q) ?_
  show OEnds p e below _ T109 (mkF m 220 #[.val (.int x0), .val (.int x1), .val (.int x2), .val (.int x3), .val (.long x4), .second, .val (.int x5), .val (.int k0), .val (.int k1), .val (.int t0), .val (.int t1), .val (.int (Int32.ofNat nk)), .val (.int (Int32.ofNat nt)), .val (.ref kx), .val (.ref tx), .val (.ref a15), .val (.ref a25), .val (.ref a35), .val (.ref a49), .val (.ref rr), .unset, .unset, .unset] [(.int (39 : Int32)), (.int (RS.getD 4 0))])
  refine OEnds.go (fun _ q => XS.icmpNo X112.here X112.hx rfl (hb hby at_220) rfl (teq (show RS.getD 4 0 = (39 : Int32) from hA 4 (by decide))).2 q) ?_
  show OEnds p e below _ T109 (mkF m 223 #[.val (.int x0), .val (.int x1), .val (.int x2), .val (.int x3), .val (.long x4), .second, .val (.int x5), .val (.int k0), .val (.int k1), .val (.int t0), .val (.int t1), .val (.int (Int32.ofNat nk)), .val (.int (Int32.ofNat nt)), .val (.ref kx), .val (.ref tx), .val (.ref a15), .val (.ref a25), .val (.ref a35), .val (.ref a49), .val (.ref rr), .unset, .unset, .unset] [])
  refine OEnds.go (fun _ q => XS.iconst X112.here X112.hx rfl (hb hby at_223) q) ?_
  refine OEnds.go (fun _ q => XS.goto X112.here X112.hx rfl (pc0 := 224) (pc' := 228) rfl (hb hby at_224) (by decide) (by decide) q) ?_
  show OEnds p e below _ T109 (mkF m 228 #[.val (.int x0), .val (.int x1), .val (.int x2), .val (.int x3), .val (.long x4), .second, .val (.int x5), .val (.int k0), .val (.int k1), .val (.int t0), .val (.int t1), .val (.int (Int32.ofNat nk)), .val (.int (Int32.ofNat nt)), .val (.ref kx), .val (.ref tx), .val (.ref a15), .val (.ref a25), .val (.ref a35), .val (.ref a49), .val (.ref rr), .unset, .unset, .unset] [(.int (1 : Int32))])
  refine OEnds.go (fun _ q => XS.istore X112.here X112.hx rfl (hb hby at_228) rfl (l' := #[.val (.int x0), .val (.int x1), .val (.int x2), .val (.int x3), .val (.long x4), .second, .val (.int x5), .val (.int k0), .val (.int k1), .val (.int t0), .val (.int t1), .val (.int (Int32.ofNat nk)), .val (.int (Int32.ofNat nt)), .val (.ref kx), .val (.ref tx), .val (.ref a15), .val (.ref a25), .val (.ref a35), .val (.ref a49), .val (.ref rr), .val (.int (1 : Int32)), .unset, .unset]) rfl q) ?_
  refine OEnds.go (fun _ q => XS.iload X112.here X112.hx rfl (hb hby at_230) rfl q) ?_
  show OEnds p e below _ T109 (mkF m 232 #[.val (.int x0), .val (.int x1), .val (.int x2), .val (.int x3), .val (.long x4), .second, .val (.int x5), .val (.int k0), .val (.int k1), .val (.int t0), .val (.int t1), .val (.int (Int32.ofNat nk)), .val (.int (Int32.ofNat nt)), .val (.ref kx), .val (.ref tx), .val (.ref a15), .val (.ref a25), .val (.ref a35), .val (.ref a49), .val (.ref rr), .val (.int (1 : Int32)), .unset, .unset] [(.int (1 : Int32))])
  refine OEnds.go (fun _ q => XS.ifNo X112.here X112.hx rfl (hb hby at_232) rfl ((if0 _ _).trans (feq (by decide)).1) q) ?_
  show OEnds p e below _ T109 (mkF m 235 #[.val (.int x0), .val (.int x1), .val (.int x2), .val (.int x3), .val (.long x4), .second, .val (.int x5), .val (.int k0), .val (.int k1), .val (.int t0), .val (.int t1), .val (.int (Int32.ofNat nk)), .val (.int (Int32.ofNat nt)), .val (.ref kx), .val (.ref tx), .val (.ref a15), .val (.ref a25), .val (.ref a35), .val (.ref a49), .val (.ref rr), .val (.int (1 : Int32)), .unset, .unset] [])
  refine OEnds.go (fun _ q => XS.iload X112.here X112.hx rfl (hb hby at_235) rfl q) ?_
  refine OEnds.go (fun _ q => XS.iconst X112.here X112.hx rfl (hb hby at_237) q) ?_
  show OEnds p e below _ T109 (mkF m 238 #[.val (.int x0), .val (.int x1), .val (.int x2), .val (.int x3), .val (.long x4), .second, .val (.int x5), .val (.int k0), .val (.int k1), .val (.int t0), .val (.int t1), .val (.int (Int32.ofNat nk)), .val (.int (Int32.ofNat nt)), .val (.ref kx), .val (.ref tx), .val (.ref a15), .val (.ref a25), .val (.ref a35), .val (.ref a49), .val (.ref rr), .val (.int (1 : Int32)), .unset, .unset] [(.int (1 : Int32)), (.int (Int32.ofNat nk))])
  have Jka : ∀ (vmj116 : Vm) (Tj116 : State) (hj116 : Heap) , OSt p l e room_1 s m #[(.int x0), (.int x1), (.int x2), (.int x3), (.long x4), (.int x5)] below meth c "com/example/fritillary/fritillary/GeneratorTableSourcePinLaw" Z consts_1 vmj116 Tj116 hj116 22 202 → OStr Z hj116 rr RS → OEnds p e below (GW Z consts_1 s (fun r h => r = some (.int 1)) room_1.cells room_1.slots) Tj116 (mkF m 252 #[.val (.int x0), .val (.int x1), .val (.int x2), .val (.int x3), .val (.long x4), .second, .val (.int x5), .val (.int k0), .val (.int k1), .val (.int t0), .val (.int t1), .val (.int (Int32.ofNat nk)), .val (.int (Int32.ofNat nt)), .val (.ref kx), .val (.ref tx), .val (.ref a15), .val (.ref a25), .val (.ref a35), .val (.ref a49), .val (.ref rr), .val (.int (1 : Int32)), .unset, .unset] []) := by
    intro vmj116 Tj116 hj116  Xj116 f115_0
    refine OEnds.go (fun _ q => XS.iload Xj116.here Xj116.hx rfl (hb hby at_252) rfl q) ?_
    refine OEnds.go (fun _ q => XS.iconst Xj116.here Xj116.hx rfl (hb hby at_254) q) ?_
    show OEnds p e below _ Tj116 (mkF m 255 #[.val (.int x0), .val (.int x1), .val (.int x2), .val (.int x3), .val (.long x4), .second, .val (.int x5), .val (.int k0), .val (.int k1), .val (.int t0), .val (.int t1), .val (.int (Int32.ofNat nk)), .val (.int (Int32.ofNat nt)), .val (.ref kx), .val (.ref tx), .val (.ref a15), .val (.ref a25), .val (.ref a35), .val (.ref a49), .val (.ref rr), .val (.int (1 : Int32)), .unset, .unset] [(.int (2 : Int32)), (.int (Int32.ofNat nk))])
    have Jkb : ∀ (vmj118 : Vm) (Tj118 : State) (hj118 : Heap) , OSt p l e room_1 s m #[(.int x0), (.int x1), (.int x2), (.int x3), (.long x4), (.int x5)] below meth c "com/example/fritillary/fritillary/GeneratorTableSourcePinLaw" Z consts_1 vmj118 Tj118 hj118 22 202 → OStr Z hj118 rr RS → OEnds p e below (GW Z consts_1 s (fun r h => r = some (.int 1)) room_1.cells room_1.slots) Tj118 (mkF m 275 #[.val (.int x0), .val (.int x1), .val (.int x2), .val (.int x3), .val (.long x4), .second, .val (.int x5), .val (.int k0), .val (.int k1), .val (.int t0), .val (.int t1), .val (.int (Int32.ofNat nk)), .val (.int (Int32.ofNat nt)), .val (.ref kx), .val (.ref tx), .val (.ref a15), .val (.ref a25), .val (.ref a35), .val (.ref a49), .val (.ref rr), .val (.int (1 : Int32)), .unset, .unset] [(.int (1 : Int32))]) := by
      intro vmj118 Tj118 hj118  Xj118 f117_0
      refine OEnds.go (fun _ q => XS.istore Xj118.here Xj118.hx rfl (hb hby at_275) rfl (l' := #[.val (.int x0), .val (.int x1), .val (.int x2), .val (.int x3), .val (.long x4), .second, .val (.int x5), .val (.int k0), .val (.int k1), .val (.int t0), .val (.int t1), .val (.int (Int32.ofNat nk)), .val (.int (Int32.ofNat nt)), .val (.ref kx), .val (.ref tx), .val (.ref a15), .val (.ref a25), .val (.ref a35), .val (.ref a49), .val (.ref rr), .val (.int (1 : Int32)), .unset, .unset]) rfl q) ?_
      show OEnds p e below _ Tj118 (mkF m 277 #[.val (.int x0), .val (.int x1), .val (.int x2), .val (.int x3), .val (.long x4), .second, .val (.int x5), .val (.int k0), .val (.int k1), .val (.int t0), .val (.int t1), .val (.int (Int32.ofNat nk)), .val (.int (Int32.ofNat nt)), .val (.ref kx), .val (.ref tx), .val (.ref a15), .val (.ref a25), .val (.ref a35), .val (.ref a49), .val (.ref rr), .val (.int (1 : Int32)), .unset, .unset] [])
      refine OEnds.go (fun _ q => XS.iconst Xj118.here Xj118.hx rfl (hb hby at_277) q) ?_
      show OEnds p e below _ Tj118 (mkF m 278 #[.val (.int x0), .val (.int x1), .val (.int x2), .val (.int x3), .val (.long x4), .second, .val (.int x5), .val (.int k0), .val (.int k1), .val (.int t0), .val (.int t1), .val (.int (Int32.ofNat nk)), .val (.int (Int32.ofNat nt)), .val (.ref kx), .val (.ref tx), .val (.ref a15), .val (.ref a25), .val (.ref a35), .val (.ref a49), .val (.ref rr), .val (.int (1 : Int32)), .unset, .unset] [(.int (5 : Int32))])
      refine OEnds.go (fun _ q => XS.iload Xj118.here Xj118.hx rfl (hb hby at_278) rfl q) ?_
      show OEnds p e below _ Tj118 (mkF m 280 #[.val (.int x0), .val (.int x1), .val (.int x2), .val (.int x3), .val (.long x4), .second, .val (.int x5), .val (.int k0), .val (.int k1), .val (.int t0), .val (.int t1), .val (.int (Int32.ofNat nk)), .val (.int (Int32.ofNat nt)), .val (.ref kx), .val (.ref tx), .val (.ref a15), .val (.ref a25), .val (.ref a35), .val (.ref a49), .val (.ref rr), .val (.int (1 : Int32)), .unset, .unset] [(.int (Int32.ofNat nk)), (.int (5 : Int32))])
      refine OEnds.go (fun _ q => XS.iadd Xj118.here Xj118.hx rfl (hb hby at_280) rfl q) ?_
      show OEnds p e below _ Tj118 (mkF m 281 #[.val (.int x0), .val (.int x1), .val (.int x2), .val (.int x3), .val (.long x4), .second, .val (.int x5), .val (.int k0), .val (.int k1), .val (.int t0), .val (.int t1), .val (.int (Int32.ofNat nk)), .val (.int (Int32.ofNat nt)), .val (.ref kx), .val (.ref tx), .val (.ref a15), .val (.ref a25), .val (.ref a35), .val (.ref a49), .val (.ref rr), .val (.int (1 : Int32)), .unset, .unset] [(.int ((5 : Int32) + (Int32.ofNat nk)))])
      rw [show ((5 : Int32) + (Int32.ofNat nk)) = (Int32.ofNat (5 + nk)) from ofN_add (a := 5) (by omega)]
      show OEnds p e below _ Tj118 (mkF m 281 #[.val (.int x0), .val (.int x1), .val (.int x2), .val (.int x3), .val (.long x4), .second, .val (.int x5), .val (.int k0), .val (.int k1), .val (.int t0), .val (.int t1), .val (.int (Int32.ofNat nk)), .val (.int (Int32.ofNat nt)), .val (.ref kx), .val (.ref tx), .val (.ref a15), .val (.ref a25), .val (.ref a35), .val (.ref a49), .val (.ref rr), .val (.int (1 : Int32)), .unset, .unset] [(.int (Int32.ofNat (5 + nk)))])
      refine OEnds.go (fun _ q => XS.istore Xj118.here Xj118.hx rfl (hb hby at_281) rfl (l' := #[.val (.int x0), .val (.int x1), .val (.int x2), .val (.int x3), .val (.long x4), .second, .val (.int x5), .val (.int k0), .val (.int k1), .val (.int t0), .val (.int t1), .val (.int (Int32.ofNat nk)), .val (.int (Int32.ofNat nt)), .val (.ref kx), .val (.ref tx), .val (.ref a15), .val (.ref a25), .val (.ref a35), .val (.ref a49), .val (.ref rr), .val (.int (1 : Int32)), .val (.int (Int32.ofNat (5 + nk))), .unset]) rfl q) ?_
      refine OEnds.go (fun _ q => XS.iload Xj118.here Xj118.hx rfl (hb hby at_283) rfl q) ?_
      show OEnds p e below _ Tj118 (mkF m 285 #[.val (.int x0), .val (.int x1), .val (.int x2), .val (.int x3), .val (.long x4), .second, .val (.int x5), .val (.int k0), .val (.int k1), .val (.int t0), .val (.int t1), .val (.int (Int32.ofNat nk)), .val (.int (Int32.ofNat nt)), .val (.ref kx), .val (.ref tx), .val (.ref a15), .val (.ref a25), .val (.ref a35), .val (.ref a49), .val (.ref rr), .val (.int (1 : Int32)), .val (.int (Int32.ofNat (5 + nk))), .unset] [(.int (1 : Int32))])
      refine OEnds.go (fun _ q => XS.ifNo Xj118.here Xj118.hx rfl (hb hby at_285) rfl ((if0 _ _).trans (feq (by decide)).1) q) ?_
      show OEnds p e below _ Tj118 (mkF m 288 #[.val (.int x0), .val (.int x1), .val (.int x2), .val (.int x3), .val (.long x4), .second, .val (.int x5), .val (.int k0), .val (.int k1), .val (.int t0), .val (.int t1), .val (.int (Int32.ofNat nk)), .val (.int (Int32.ofNat nt)), .val (.ref kx), .val (.ref tx), .val (.ref a15), .val (.ref a25), .val (.ref a35), .val (.ref a49), .val (.ref rr), .val (.int (1 : Int32)), .val (.int (Int32.ofNat (5 + nk))), .unset] [])
      refine OEnds.go (fun _ q => XS.aload Xj118.here Xj118.hx rfl (hb hby at_288) rfl rfl q) ?_
      refine OEnds.go (fun _ q => XS.iload Xj118.here Xj118.hx rfl (hb hby at_290) rfl q) ?_
      show OEnds p e below _ Tj118 (mkF m 292 #[.val (.int x0), .val (.int x1), .val (.int x2), .val (.int x3), .val (.long x4), .second, .val (.int x5), .val (.int k0), .val (.int k1), .val (.int t0), .val (.int t1), .val (.int (Int32.ofNat nk)), .val (.int (Int32.ofNat nt)), .val (.ref kx), .val (.ref tx), .val (.ref a15), .val (.ref a25), .val (.ref a35), .val (.ref a49), .val (.ref rr), .val (.int (1 : Int32)), .val (.int (Int32.ofNat (5 + nk))), .unset] [(.int (Int32.ofNat (5 + nk))), (.ref rr)])
      refine Xj118.payV (own_chr H (W := 0) Xj118.hZ Xj118.old (i := (5 + nk)) f117_0 (by omega) rfl (by decide) (by decide)) (okPure Xj118) (own_k hw 212 rfl) (own_k hw 213 rfl) (own_k hw 215 rfl) (own_k hw 214 rfl) (Xj118.nf (own_k hw 215 rfl)) (by decide) f117_0.exa (argsL := [(.int (Int32.ofNat (5 + nk)))]) (rest := []) rfl (lenOf own_pd26 rfl) rfl (by rw [hml]; rfl) (Nat.le_of_eq rfl) (hb hby at_292) (by decide) (by decide) ?_
      intro v119 T120 h121 L122 X123 q124
      obtain ⟨rfl, -, e125⟩ := q124
      obtain rfl := e125.symm
      show OEnds p e below _ T120 (mkF m 295 #[.val (.int x0), .val (.int x1), .val (.int x2), .val (.int x3), .val (.long x4), .second, .val (.int x5), .val (.int k0), .val (.int k1), .val (.int t0), .val (.int t1), .val (.int (Int32.ofNat nk)), .val (.int (Int32.ofNat nt)), .val (.ref kx), .val (.ref tx), .val (.ref a15), .val (.ref a25), .val (.ref a35), .val (.ref a49), .val (.ref rr), .val (.int (1 : Int32)), .val (.int (Int32.ofNat (5 + nk))), .unset] [(.int (RS.getD (5 + nk) 0))])
      refine OEnds.go (fun _ q => XS.bipush X123.here X123.hx rfl (hb hby at_295) q) ?_
      show OEnds p e below _ T120 (mkF m 297 #[.val (.int x0), .val (.int x1), .val (.int x2), .val (.int x3), .val (.long x4), .second, .val (.int x5), .val (.int k0), .val (.int k1), .val (.int t0), .val (.int t1), .val (.int (Int32.ofNat nk)), .val (.int (Int32.ofNat nt)), .val (.ref kx), .val (.ref tx), .val (.ref a15), .val (.ref a25), .val (.ref a35), .val (.ref a49), .val (.ref rr), .val (.int (1 : Int32)), .val (.int (Int32.ofNat (5 + nk))), .unset] [(.int (39 : Int32)), (.int (RS.getD (5 + nk) 0))])
      refine OEnds.go (fun _ q => XS.icmpNo X123.here X123.hx rfl (hb hby at_297) rfl (teq (show RS.getD (5 + nk) 0 = (39 : Int32) from hC 0 (by decide))).2 q) ?_
      show OEnds p e below _ T120 (mkF m 300 #[.val (.int x0), .val (.int x1), .val (.int x2), .val (.int x3), .val (.long x4), .second, .val (.int x5), .val (.int k0), .val (.int k1), .val (.int t0), .val (.int t1), .val (.int (Int32.ofNat nk)), .val (.int (Int32.ofNat nt)), .val (.ref kx), .val (.ref tx), .val (.ref a15), .val (.ref a25), .val (.ref a35), .val (.ref a49), .val (.ref rr), .val (.int (1 : Int32)), .val (.int (Int32.ofNat (5 + nk))), .unset] [])
      refine OEnds.go (fun _ q => XS.aload X123.here X123.hx rfl (hb hby at_300) rfl rfl q) ?_
      show OEnds p e below _ T120 (mkF m 302 #[.val (.int x0), .val (.int x1), .val (.int x2), .val (.int x3), .val (.long x4), .second, .val (.int x5), .val (.int k0), .val (.int k1), .val (.int t0), .val (.int t1), .val (.int (Int32.ofNat nk)), .val (.int (Int32.ofNat nt)), .val (.ref kx), .val (.ref tx), .val (.ref a15), .val (.ref a25), .val (.ref a35), .val (.ref a49), .val (.ref rr), .val (.int (1 : Int32)), .val (.int (Int32.ofNat (5 + nk))), .unset] [(.ref rr)])
      refine OEnds.go (fun _ q => XS.iload X123.here X123.hx rfl (hb hby at_302) rfl q) ?_
      show OEnds p e below _ T120 (mkF m 304 #[.val (.int x0), .val (.int x1), .val (.int x2), .val (.int x3), .val (.long x4), .second, .val (.int x5), .val (.int k0), .val (.int k1), .val (.int t0), .val (.int t1), .val (.int (Int32.ofNat nk)), .val (.int (Int32.ofNat nt)), .val (.ref kx), .val (.ref tx), .val (.ref a15), .val (.ref a25), .val (.ref a35), .val (.ref a49), .val (.ref rr), .val (.int (1 : Int32)), .val (.int (Int32.ofNat (5 + nk))), .unset] [(.int (Int32.ofNat (5 + nk))), (.ref rr)])
      refine OEnds.go (fun _ q => XS.iconst X123.here X123.hx rfl (hb hby at_304) q) ?_
      show OEnds p e below _ T120 (mkF m 305 #[.val (.int x0), .val (.int x1), .val (.int x2), .val (.int x3), .val (.long x4), .second, .val (.int x5), .val (.int k0), .val (.int k1), .val (.int t0), .val (.int t1), .val (.int (Int32.ofNat nk)), .val (.int (Int32.ofNat nt)), .val (.ref kx), .val (.ref tx), .val (.ref a15), .val (.ref a25), .val (.ref a35), .val (.ref a49), .val (.ref rr), .val (.int (1 : Int32)), .val (.int (Int32.ofNat (5 + nk))), .unset] [(.int (1 : Int32)), (.int (Int32.ofNat (5 + nk))), (.ref rr)])
      refine OEnds.go (fun _ q => XS.iadd X123.here X123.hx rfl (hb hby at_305) rfl q) ?_
      show OEnds p e below _ T120 (mkF m 306 #[.val (.int x0), .val (.int x1), .val (.int x2), .val (.int x3), .val (.long x4), .second, .val (.int x5), .val (.int k0), .val (.int k1), .val (.int t0), .val (.int t1), .val (.int (Int32.ofNat nk)), .val (.int (Int32.ofNat nt)), .val (.ref kx), .val (.ref tx), .val (.ref a15), .val (.ref a25), .val (.ref a35), .val (.ref a49), .val (.ref rr), .val (.int (1 : Int32)), .val (.int (Int32.ofNat (5 + nk))), .unset] [(.int ((Int32.ofNat (5 + nk)) + (1 : Int32))), (.ref rr)])
      rw [show ((Int32.ofNat (5 + nk)) + (1 : Int32)) = (Int32.ofNat ((5 + nk) + 1)) from ofN_add (b := 1) (by omega)]
      show OEnds p e below _ T120 (mkF m 306 #[.val (.int x0), .val (.int x1), .val (.int x2), .val (.int x3), .val (.long x4), .second, .val (.int x5), .val (.int k0), .val (.int k1), .val (.int t0), .val (.int t1), .val (.int (Int32.ofNat nk)), .val (.int (Int32.ofNat nt)), .val (.ref kx), .val (.ref tx), .val (.ref a15), .val (.ref a25), .val (.ref a35), .val (.ref a49), .val (.ref rr), .val (.int (1 : Int32)), .val (.int (Int32.ofNat (5 + nk))), .unset] [(.int (Int32.ofNat ((5 + nk) + 1))), (.ref rr)])
      refine X123.payV (own_chr H (W := 0) X123.hZ X123.old (i := ((5 + nk) + 1)) f117_0 (by omega) rfl (by decide) (by decide)) (okPure X123) (own_k hw 212 rfl) (own_k hw 213 rfl) (own_k hw 215 rfl) (own_k hw 214 rfl) (X123.nf (own_k hw 215 rfl)) (by decide) f117_0.exa (argsL := [(.int (Int32.ofNat ((5 + nk) + 1)))]) (rest := []) rfl (lenOf own_pd26 rfl) rfl (by rw [hml]; rfl) (Nat.le_of_eq rfl) (hb hby at_306) (by decide) (by decide) ?_
      intro v126 T127 h128 L129 X130 q131
      obtain ⟨rfl, -, e132⟩ := q131
      obtain rfl := e132.symm
      show OEnds p e below _ T127 (mkF m 309 #[.val (.int x0), .val (.int x1), .val (.int x2), .val (.int x3), .val (.long x4), .second, .val (.int x5), .val (.int k0), .val (.int k1), .val (.int t0), .val (.int t1), .val (.int (Int32.ofNat nk)), .val (.int (Int32.ofNat nt)), .val (.ref kx), .val (.ref tx), .val (.ref a15), .val (.ref a25), .val (.ref a35), .val (.ref a49), .val (.ref rr), .val (.int (1 : Int32)), .val (.int (Int32.ofNat (5 + nk))), .unset] [(.int (RS.getD ((5 + nk) + 1) 0))])
      refine OEnds.go (fun _ q => XS.bipush X130.here X130.hx rfl (hb hby at_309) q) ?_
      show OEnds p e below _ T127 (mkF m 311 #[.val (.int x0), .val (.int x1), .val (.int x2), .val (.int x3), .val (.long x4), .second, .val (.int x5), .val (.int k0), .val (.int k1), .val (.int t0), .val (.int t1), .val (.int (Int32.ofNat nk)), .val (.int (Int32.ofNat nt)), .val (.ref kx), .val (.ref tx), .val (.ref a15), .val (.ref a25), .val (.ref a35), .val (.ref a49), .val (.ref rr), .val (.int (1 : Int32)), .val (.int (Int32.ofNat (5 + nk))), .unset] [(.int (32 : Int32)), (.int (RS.getD ((5 + nk) + 1) 0))])
      refine OEnds.go (fun _ q => XS.icmpNo X130.here X130.hx rfl (hb hby at_311) rfl (teq (show RS.getD ((5 + nk) + 1) 0 = (32 : Int32) from hC 1 (by decide))).2 q) ?_
      show OEnds p e below _ T127 (mkF m 314 #[.val (.int x0), .val (.int x1), .val (.int x2), .val (.int x3), .val (.long x4), .second, .val (.int x5), .val (.int k0), .val (.int k1), .val (.int t0), .val (.int t1), .val (.int (Int32.ofNat nk)), .val (.int (Int32.ofNat nt)), .val (.ref kx), .val (.ref tx), .val (.ref a15), .val (.ref a25), .val (.ref a35), .val (.ref a49), .val (.ref rr), .val (.int (1 : Int32)), .val (.int (Int32.ofNat (5 + nk))), .unset] [])
      refine OEnds.go (fun _ q => XS.aload X130.here X130.hx rfl (hb hby at_314) rfl rfl q) ?_
      show OEnds p e below _ T127 (mkF m 316 #[.val (.int x0), .val (.int x1), .val (.int x2), .val (.int x3), .val (.long x4), .second, .val (.int x5), .val (.int k0), .val (.int k1), .val (.int t0), .val (.int t1), .val (.int (Int32.ofNat nk)), .val (.int (Int32.ofNat nt)), .val (.ref kx), .val (.ref tx), .val (.ref a15), .val (.ref a25), .val (.ref a35), .val (.ref a49), .val (.ref rr), .val (.int (1 : Int32)), .val (.int (Int32.ofNat (5 + nk))), .unset] [(.ref rr)])
      refine OEnds.go (fun _ q => XS.iload X130.here X130.hx rfl (hb hby at_316) rfl q) ?_
      show OEnds p e below _ T127 (mkF m 318 #[.val (.int x0), .val (.int x1), .val (.int x2), .val (.int x3), .val (.long x4), .second, .val (.int x5), .val (.int k0), .val (.int k1), .val (.int t0), .val (.int t1), .val (.int (Int32.ofNat nk)), .val (.int (Int32.ofNat nt)), .val (.ref kx), .val (.ref tx), .val (.ref a15), .val (.ref a25), .val (.ref a35), .val (.ref a49), .val (.ref rr), .val (.int (1 : Int32)), .val (.int (Int32.ofNat (5 + nk))), .unset] [(.int (Int32.ofNat (5 + nk))), (.ref rr)])
      refine OEnds.go (fun _ q => XS.iconst X130.here X130.hx rfl (hb hby at_318) q) ?_
      show OEnds p e below _ T127 (mkF m 319 #[.val (.int x0), .val (.int x1), .val (.int x2), .val (.int x3), .val (.long x4), .second, .val (.int x5), .val (.int k0), .val (.int k1), .val (.int t0), .val (.int t1), .val (.int (Int32.ofNat nk)), .val (.int (Int32.ofNat nt)), .val (.ref kx), .val (.ref tx), .val (.ref a15), .val (.ref a25), .val (.ref a35), .val (.ref a49), .val (.ref rr), .val (.int (1 : Int32)), .val (.int (Int32.ofNat (5 + nk))), .unset] [(.int (2 : Int32)), (.int (Int32.ofNat (5 + nk))), (.ref rr)])
      refine OEnds.go (fun _ q => XS.iadd X130.here X130.hx rfl (hb hby at_319) rfl q) ?_
      show OEnds p e below _ T127 (mkF m 320 #[.val (.int x0), .val (.int x1), .val (.int x2), .val (.int x3), .val (.long x4), .second, .val (.int x5), .val (.int k0), .val (.int k1), .val (.int t0), .val (.int t1), .val (.int (Int32.ofNat nk)), .val (.int (Int32.ofNat nt)), .val (.ref kx), .val (.ref tx), .val (.ref a15), .val (.ref a25), .val (.ref a35), .val (.ref a49), .val (.ref rr), .val (.int (1 : Int32)), .val (.int (Int32.ofNat (5 + nk))), .unset] [(.int ((Int32.ofNat (5 + nk)) + (2 : Int32))), (.ref rr)])
      rw [show ((Int32.ofNat (5 + nk)) + (2 : Int32)) = (Int32.ofNat ((5 + nk) + 2)) from ofN_add (b := 2) (by omega)]
      show OEnds p e below _ T127 (mkF m 320 #[.val (.int x0), .val (.int x1), .val (.int x2), .val (.int x3), .val (.long x4), .second, .val (.int x5), .val (.int k0), .val (.int k1), .val (.int t0), .val (.int t1), .val (.int (Int32.ofNat nk)), .val (.int (Int32.ofNat nt)), .val (.ref kx), .val (.ref tx), .val (.ref a15), .val (.ref a25), .val (.ref a35), .val (.ref a49), .val (.ref rr), .val (.int (1 : Int32)), .val (.int (Int32.ofNat (5 + nk))), .unset] [(.int (Int32.ofNat ((5 + nk) + 2))), (.ref rr)])
      refine X130.payV (own_chr H (W := 0) X130.hZ X130.old (i := ((5 + nk) + 2)) f117_0 (by omega) rfl (by decide) (by decide)) (okPure X130) (own_k hw 212 rfl) (own_k hw 213 rfl) (own_k hw 215 rfl) (own_k hw 214 rfl) (X130.nf (own_k hw 215 rfl)) (by decide) f117_0.exa (argsL := [(.int (Int32.ofNat ((5 + nk) + 2)))]) (rest := []) rfl (lenOf own_pd26 rfl) rfl (by rw [hml]; rfl) (Nat.le_of_eq rfl) (hb hby at_320) (by decide) (by decide) ?_
      intro v133 T134 h135 L136 X137 q138
      obtain ⟨rfl, -, e139⟩ := q138
      obtain rfl := e139.symm
      show OEnds p e below _ T134 (mkF m 323 #[.val (.int x0), .val (.int x1), .val (.int x2), .val (.int x3), .val (.long x4), .second, .val (.int x5), .val (.int k0), .val (.int k1), .val (.int t0), .val (.int t1), .val (.int (Int32.ofNat nk)), .val (.int (Int32.ofNat nt)), .val (.ref kx), .val (.ref tx), .val (.ref a15), .val (.ref a25), .val (.ref a35), .val (.ref a49), .val (.ref rr), .val (.int (1 : Int32)), .val (.int (Int32.ofNat (5 + nk))), .unset] [(.int (RS.getD ((5 + nk) + 2) 0))])
      refine OEnds.go (fun _ q => XS.bipush X137.here X137.hx rfl (hb hby at_323) q) ?_
      show OEnds p e below _ T134 (mkF m 325 #[.val (.int x0), .val (.int x1), .val (.int x2), .val (.int x3), .val (.long x4), .second, .val (.int x5), .val (.int k0), .val (.int k1), .val (.int t0), .val (.int t1), .val (.int (Int32.ofNat nk)), .val (.int (Int32.ofNat nt)), .val (.ref kx), .val (.ref tx), .val (.ref a15), .val (.ref a25), .val (.ref a35), .val (.ref a49), .val (.ref rr), .val (.int (1 : Int32)), .val (.int (Int32.ofNat (5 + nk))), .unset] [(.int (111 : Int32)), (.int (RS.getD ((5 + nk) + 2) 0))])
      refine OEnds.go (fun _ q => XS.icmpNo X137.here X137.hx rfl (hb hby at_325) rfl (teq (show RS.getD ((5 + nk) + 2) 0 = (111 : Int32) from hC 2 (by decide))).2 q) ?_
      show OEnds p e below _ T134 (mkF m 328 #[.val (.int x0), .val (.int x1), .val (.int x2), .val (.int x3), .val (.long x4), .second, .val (.int x5), .val (.int k0), .val (.int k1), .val (.int t0), .val (.int t1), .val (.int (Int32.ofNat nk)), .val (.int (Int32.ofNat nt)), .val (.ref kx), .val (.ref tx), .val (.ref a15), .val (.ref a25), .val (.ref a35), .val (.ref a49), .val (.ref rr), .val (.int (1 : Int32)), .val (.int (Int32.ofNat (5 + nk))), .unset] [])
      refine OEnds.go (fun _ q => XS.aload X137.here X137.hx rfl (hb hby at_328) rfl rfl q) ?_
      show OEnds p e below _ T134 (mkF m 330 #[.val (.int x0), .val (.int x1), .val (.int x2), .val (.int x3), .val (.long x4), .second, .val (.int x5), .val (.int k0), .val (.int k1), .val (.int t0), .val (.int t1), .val (.int (Int32.ofNat nk)), .val (.int (Int32.ofNat nt)), .val (.ref kx), .val (.ref tx), .val (.ref a15), .val (.ref a25), .val (.ref a35), .val (.ref a49), .val (.ref rr), .val (.int (1 : Int32)), .val (.int (Int32.ofNat (5 + nk))), .unset] [(.ref rr)])
      refine OEnds.go (fun _ q => XS.iload X137.here X137.hx rfl (hb hby at_330) rfl q) ?_
      show OEnds p e below _ T134 (mkF m 332 #[.val (.int x0), .val (.int x1), .val (.int x2), .val (.int x3), .val (.long x4), .second, .val (.int x5), .val (.int k0), .val (.int k1), .val (.int t0), .val (.int t1), .val (.int (Int32.ofNat nk)), .val (.int (Int32.ofNat nt)), .val (.ref kx), .val (.ref tx), .val (.ref a15), .val (.ref a25), .val (.ref a35), .val (.ref a49), .val (.ref rr), .val (.int (1 : Int32)), .val (.int (Int32.ofNat (5 + nk))), .unset] [(.int (Int32.ofNat (5 + nk))), (.ref rr)])
      refine OEnds.go (fun _ q => XS.iconst X137.here X137.hx rfl (hb hby at_332) q) ?_
      show OEnds p e below _ T134 (mkF m 333 #[.val (.int x0), .val (.int x1), .val (.int x2), .val (.int x3), .val (.long x4), .second, .val (.int x5), .val (.int k0), .val (.int k1), .val (.int t0), .val (.int t1), .val (.int (Int32.ofNat nk)), .val (.int (Int32.ofNat nt)), .val (.ref kx), .val (.ref tx), .val (.ref a15), .val (.ref a25), .val (.ref a35), .val (.ref a49), .val (.ref rr), .val (.int (1 : Int32)), .val (.int (Int32.ofNat (5 + nk))), .unset] [(.int (3 : Int32)), (.int (Int32.ofNat (5 + nk))), (.ref rr)])
      refine OEnds.go (fun _ q => XS.iadd X137.here X137.hx rfl (hb hby at_333) rfl q) ?_
      show OEnds p e below _ T134 (mkF m 334 #[.val (.int x0), .val (.int x1), .val (.int x2), .val (.int x3), .val (.long x4), .second, .val (.int x5), .val (.int k0), .val (.int k1), .val (.int t0), .val (.int t1), .val (.int (Int32.ofNat nk)), .val (.int (Int32.ofNat nt)), .val (.ref kx), .val (.ref tx), .val (.ref a15), .val (.ref a25), .val (.ref a35), .val (.ref a49), .val (.ref rr), .val (.int (1 : Int32)), .val (.int (Int32.ofNat (5 + nk))), .unset] [(.int ((Int32.ofNat (5 + nk)) + (3 : Int32))), (.ref rr)])
      rw [show ((Int32.ofNat (5 + nk)) + (3 : Int32)) = (Int32.ofNat ((5 + nk) + 3)) from ofN_add (b := 3) (by omega)]
      show OEnds p e below _ T134 (mkF m 334 #[.val (.int x0), .val (.int x1), .val (.int x2), .val (.int x3), .val (.long x4), .second, .val (.int x5), .val (.int k0), .val (.int k1), .val (.int t0), .val (.int t1), .val (.int (Int32.ofNat nk)), .val (.int (Int32.ofNat nt)), .val (.ref kx), .val (.ref tx), .val (.ref a15), .val (.ref a25), .val (.ref a35), .val (.ref a49), .val (.ref rr), .val (.int (1 : Int32)), .val (.int (Int32.ofNat (5 + nk))), .unset] [(.int (Int32.ofNat ((5 + nk) + 3))), (.ref rr)])
      refine X137.payV (own_chr H (W := 0) X137.hZ X137.old (i := ((5 + nk) + 3)) f117_0 (by omega) rfl (by decide) (by decide)) (okPure X137) (own_k hw 212 rfl) (own_k hw 213 rfl) (own_k hw 215 rfl) (own_k hw 214 rfl) (X137.nf (own_k hw 215 rfl)) (by decide) f117_0.exa (argsL := [(.int (Int32.ofNat ((5 + nk) + 3)))]) (rest := []) rfl (lenOf own_pd26 rfl) rfl (by rw [hml]; rfl) (Nat.le_of_eq rfl) (hb hby at_334) (by decide) (by decide) ?_
      intro v140 T141 h142 L143 X144 q145
      obtain ⟨rfl, -, e146⟩ := q145
      obtain rfl := e146.symm
      show OEnds p e below _ T141 (mkF m 337 #[.val (.int x0), .val (.int x1), .val (.int x2), .val (.int x3), .val (.long x4), .second, .val (.int x5), .val (.int k0), .val (.int k1), .val (.int t0), .val (.int t1), .val (.int (Int32.ofNat nk)), .val (.int (Int32.ofNat nt)), .val (.ref kx), .val (.ref tx), .val (.ref a15), .val (.ref a25), .val (.ref a35), .val (.ref a49), .val (.ref rr), .val (.int (1 : Int32)), .val (.int (Int32.ofNat (5 + nk))), .unset] [(.int (RS.getD ((5 + nk) + 3) 0))])
      refine OEnds.go (fun _ q => XS.bipush X144.here X144.hx rfl (hb hby at_337) q) ?_
      show OEnds p e below _ T141 (mkF m 339 #[.val (.int x0), .val (.int x1), .val (.int x2), .val (.int x3), .val (.long x4), .second, .val (.int x5), .val (.int k0), .val (.int k1), .val (.int t0), .val (.int t1), .val (.int (Int32.ofNat nk)), .val (.int (Int32.ofNat nt)), .val (.ref kx), .val (.ref tx), .val (.ref a15), .val (.ref a25), .val (.ref a35), .val (.ref a49), .val (.ref rr), .val (.int (1 : Int32)), .val (.int (Int32.ofNat (5 + nk))), .unset] [(.int (102 : Int32)), (.int (RS.getD ((5 + nk) + 3) 0))])
      refine OEnds.go (fun _ q => XS.icmpNo X144.here X144.hx rfl (hb hby at_339) rfl (teq (show RS.getD ((5 + nk) + 3) 0 = (102 : Int32) from hC 3 (by decide))).2 q) ?_
      show OEnds p e below _ T141 (mkF m 342 #[.val (.int x0), .val (.int x1), .val (.int x2), .val (.int x3), .val (.long x4), .second, .val (.int x5), .val (.int k0), .val (.int k1), .val (.int t0), .val (.int t1), .val (.int (Int32.ofNat nk)), .val (.int (Int32.ofNat nt)), .val (.ref kx), .val (.ref tx), .val (.ref a15), .val (.ref a25), .val (.ref a35), .val (.ref a49), .val (.ref rr), .val (.int (1 : Int32)), .val (.int (Int32.ofNat (5 + nk))), .unset] [])
      refine OEnds.go (fun _ q => XS.aload X144.here X144.hx rfl (hb hby at_342) rfl rfl q) ?_
      show OEnds p e below _ T141 (mkF m 344 #[.val (.int x0), .val (.int x1), .val (.int x2), .val (.int x3), .val (.long x4), .second, .val (.int x5), .val (.int k0), .val (.int k1), .val (.int t0), .val (.int t1), .val (.int (Int32.ofNat nk)), .val (.int (Int32.ofNat nt)), .val (.ref kx), .val (.ref tx), .val (.ref a15), .val (.ref a25), .val (.ref a35), .val (.ref a49), .val (.ref rr), .val (.int (1 : Int32)), .val (.int (Int32.ofNat (5 + nk))), .unset] [(.ref rr)])
      refine OEnds.go (fun _ q => XS.iload X144.here X144.hx rfl (hb hby at_344) rfl q) ?_
      show OEnds p e below _ T141 (mkF m 346 #[.val (.int x0), .val (.int x1), .val (.int x2), .val (.int x3), .val (.long x4), .second, .val (.int x5), .val (.int k0), .val (.int k1), .val (.int t0), .val (.int t1), .val (.int (Int32.ofNat nk)), .val (.int (Int32.ofNat nt)), .val (.ref kx), .val (.ref tx), .val (.ref a15), .val (.ref a25), .val (.ref a35), .val (.ref a49), .val (.ref rr), .val (.int (1 : Int32)), .val (.int (Int32.ofNat (5 + nk))), .unset] [(.int (Int32.ofNat (5 + nk))), (.ref rr)])
      refine OEnds.go (fun _ q => XS.iconst X144.here X144.hx rfl (hb hby at_346) q) ?_
      show OEnds p e below _ T141 (mkF m 347 #[.val (.int x0), .val (.int x1), .val (.int x2), .val (.int x3), .val (.long x4), .second, .val (.int x5), .val (.int k0), .val (.int k1), .val (.int t0), .val (.int t1), .val (.int (Int32.ofNat nk)), .val (.int (Int32.ofNat nt)), .val (.ref kx), .val (.ref tx), .val (.ref a15), .val (.ref a25), .val (.ref a35), .val (.ref a49), .val (.ref rr), .val (.int (1 : Int32)), .val (.int (Int32.ofNat (5 + nk))), .unset] [(.int (4 : Int32)), (.int (Int32.ofNat (5 + nk))), (.ref rr)])
      refine OEnds.go (fun _ q => XS.iadd X144.here X144.hx rfl (hb hby at_347) rfl q) ?_
      show OEnds p e below _ T141 (mkF m 348 #[.val (.int x0), .val (.int x1), .val (.int x2), .val (.int x3), .val (.long x4), .second, .val (.int x5), .val (.int k0), .val (.int k1), .val (.int t0), .val (.int t1), .val (.int (Int32.ofNat nk)), .val (.int (Int32.ofNat nt)), .val (.ref kx), .val (.ref tx), .val (.ref a15), .val (.ref a25), .val (.ref a35), .val (.ref a49), .val (.ref rr), .val (.int (1 : Int32)), .val (.int (Int32.ofNat (5 + nk))), .unset] [(.int ((Int32.ofNat (5 + nk)) + (4 : Int32))), (.ref rr)])
      rw [show ((Int32.ofNat (5 + nk)) + (4 : Int32)) = (Int32.ofNat ((5 + nk) + 4)) from ofN_add (b := 4) (by omega)]
      show OEnds p e below _ T141 (mkF m 348 #[.val (.int x0), .val (.int x1), .val (.int x2), .val (.int x3), .val (.long x4), .second, .val (.int x5), .val (.int k0), .val (.int k1), .val (.int t0), .val (.int t1), .val (.int (Int32.ofNat nk)), .val (.int (Int32.ofNat nt)), .val (.ref kx), .val (.ref tx), .val (.ref a15), .val (.ref a25), .val (.ref a35), .val (.ref a49), .val (.ref rr), .val (.int (1 : Int32)), .val (.int (Int32.ofNat (5 + nk))), .unset] [(.int (Int32.ofNat ((5 + nk) + 4))), (.ref rr)])
      refine X144.payV (own_chr H (W := 0) X144.hZ X144.old (i := ((5 + nk) + 4)) f117_0 (by omega) rfl (by decide) (by decide)) (okPure X144) (own_k hw 212 rfl) (own_k hw 213 rfl) (own_k hw 215 rfl) (own_k hw 214 rfl) (X144.nf (own_k hw 215 rfl)) (by decide) f117_0.exa (argsL := [(.int (Int32.ofNat ((5 + nk) + 4)))]) (rest := []) rfl (lenOf own_pd26 rfl) rfl (by rw [hml]; rfl) (Nat.le_of_eq rfl) (hb hby at_348) (by decide) (by decide) ?_
      intro v147 T148 h149 L150 X151 q152
      obtain ⟨rfl, -, e153⟩ := q152
      obtain rfl := e153.symm
      show OEnds p e below _ T148 (mkF m 351 #[.val (.int x0), .val (.int x1), .val (.int x2), .val (.int x3), .val (.long x4), .second, .val (.int x5), .val (.int k0), .val (.int k1), .val (.int t0), .val (.int t1), .val (.int (Int32.ofNat nk)), .val (.int (Int32.ofNat nt)), .val (.ref kx), .val (.ref tx), .val (.ref a15), .val (.ref a25), .val (.ref a35), .val (.ref a49), .val (.ref rr), .val (.int (1 : Int32)), .val (.int (Int32.ofNat (5 + nk))), .unset] [(.int (RS.getD ((5 + nk) + 4) 0))])
      refine OEnds.go (fun _ q => XS.bipush X151.here X151.hx rfl (hb hby at_351) q) ?_
      show OEnds p e below _ T148 (mkF m 353 #[.val (.int x0), .val (.int x1), .val (.int x2), .val (.int x3), .val (.long x4), .second, .val (.int x5), .val (.int k0), .val (.int k1), .val (.int t0), .val (.int t1), .val (.int (Int32.ofNat nk)), .val (.int (Int32.ofNat nt)), .val (.ref kx), .val (.ref tx), .val (.ref a15), .val (.ref a25), .val (.ref a35), .val (.ref a49), .val (.ref rr), .val (.int (1 : Int32)), .val (.int (Int32.ofNat (5 + nk))), .unset] [(.int (32 : Int32)), (.int (RS.getD ((5 + nk) + 4) 0))])
      refine OEnds.go (fun _ q => XS.icmpNo X151.here X151.hx rfl (hb hby at_353) rfl (teq (show RS.getD ((5 + nk) + 4) 0 = (32 : Int32) from hC 4 (by decide))).2 q) ?_
      show OEnds p e below _ T148 (mkF m 356 #[.val (.int x0), .val (.int x1), .val (.int x2), .val (.int x3), .val (.long x4), .second, .val (.int x5), .val (.int k0), .val (.int k1), .val (.int t0), .val (.int t1), .val (.int (Int32.ofNat nk)), .val (.int (Int32.ofNat nt)), .val (.ref kx), .val (.ref tx), .val (.ref a15), .val (.ref a25), .val (.ref a35), .val (.ref a49), .val (.ref rr), .val (.int (1 : Int32)), .val (.int (Int32.ofNat (5 + nk))), .unset] [])
      refine OEnds.go (fun _ q => XS.aload X151.here X151.hx rfl (hb hby at_356) rfl rfl q) ?_
      show OEnds p e below _ T148 (mkF m 358 #[.val (.int x0), .val (.int x1), .val (.int x2), .val (.int x3), .val (.long x4), .second, .val (.int x5), .val (.int k0), .val (.int k1), .val (.int t0), .val (.int t1), .val (.int (Int32.ofNat nk)), .val (.int (Int32.ofNat nt)), .val (.ref kx), .val (.ref tx), .val (.ref a15), .val (.ref a25), .val (.ref a35), .val (.ref a49), .val (.ref rr), .val (.int (1 : Int32)), .val (.int (Int32.ofNat (5 + nk))), .unset] [(.ref rr)])
      refine OEnds.go (fun _ q => XS.iload X151.here X151.hx rfl (hb hby at_358) rfl q) ?_
      show OEnds p e below _ T148 (mkF m 360 #[.val (.int x0), .val (.int x1), .val (.int x2), .val (.int x3), .val (.long x4), .second, .val (.int x5), .val (.int k0), .val (.int k1), .val (.int t0), .val (.int t1), .val (.int (Int32.ofNat nk)), .val (.int (Int32.ofNat nt)), .val (.ref kx), .val (.ref tx), .val (.ref a15), .val (.ref a25), .val (.ref a35), .val (.ref a49), .val (.ref rr), .val (.int (1 : Int32)), .val (.int (Int32.ofNat (5 + nk))), .unset] [(.int (Int32.ofNat (5 + nk))), (.ref rr)])
      refine OEnds.go (fun _ q => XS.iconst X151.here X151.hx rfl (hb hby at_360) q) ?_
      show OEnds p e below _ T148 (mkF m 361 #[.val (.int x0), .val (.int x1), .val (.int x2), .val (.int x3), .val (.long x4), .second, .val (.int x5), .val (.int k0), .val (.int k1), .val (.int t0), .val (.int t1), .val (.int (Int32.ofNat nk)), .val (.int (Int32.ofNat nt)), .val (.ref kx), .val (.ref tx), .val (.ref a15), .val (.ref a25), .val (.ref a35), .val (.ref a49), .val (.ref rr), .val (.int (1 : Int32)), .val (.int (Int32.ofNat (5 + nk))), .unset] [(.int (5 : Int32)), (.int (Int32.ofNat (5 + nk))), (.ref rr)])
      refine OEnds.go (fun _ q => XS.iadd X151.here X151.hx rfl (hb hby at_361) rfl q) ?_
      show OEnds p e below _ T148 (mkF m 362 #[.val (.int x0), .val (.int x1), .val (.int x2), .val (.int x3), .val (.long x4), .second, .val (.int x5), .val (.int k0), .val (.int k1), .val (.int t0), .val (.int t1), .val (.int (Int32.ofNat nk)), .val (.int (Int32.ofNat nt)), .val (.ref kx), .val (.ref tx), .val (.ref a15), .val (.ref a25), .val (.ref a35), .val (.ref a49), .val (.ref rr), .val (.int (1 : Int32)), .val (.int (Int32.ofNat (5 + nk))), .unset] [(.int ((Int32.ofNat (5 + nk)) + (5 : Int32))), (.ref rr)])
      rw [show ((Int32.ofNat (5 + nk)) + (5 : Int32)) = (Int32.ofNat ((5 + nk) + 5)) from ofN_add (b := 5) (by omega)]
      show OEnds p e below _ T148 (mkF m 362 #[.val (.int x0), .val (.int x1), .val (.int x2), .val (.int x3), .val (.long x4), .second, .val (.int x5), .val (.int k0), .val (.int k1), .val (.int t0), .val (.int t1), .val (.int (Int32.ofNat nk)), .val (.int (Int32.ofNat nt)), .val (.ref kx), .val (.ref tx), .val (.ref a15), .val (.ref a25), .val (.ref a35), .val (.ref a49), .val (.ref rr), .val (.int (1 : Int32)), .val (.int (Int32.ofNat (5 + nk))), .unset] [(.int (Int32.ofNat ((5 + nk) + 5))), (.ref rr)])
      refine X151.payV (own_chr H (W := 0) X151.hZ X151.old (i := ((5 + nk) + 5)) f117_0 (by omega) rfl (by decide) (by decide)) (okPure X151) (own_k hw 212 rfl) (own_k hw 213 rfl) (own_k hw 215 rfl) (own_k hw 214 rfl) (X151.nf (own_k hw 215 rfl)) (by decide) f117_0.exa (argsL := [(.int (Int32.ofNat ((5 + nk) + 5)))]) (rest := []) rfl (lenOf own_pd26 rfl) rfl (by rw [hml]; rfl) (Nat.le_of_eq rfl) (hb hby at_362) (by decide) (by decide) ?_
      intro v154 T155 h156 L157 X158 q159
      obtain ⟨rfl, -, e160⟩ := q159
      obtain rfl := e160.symm
      show OEnds p e below _ T155 (mkF m 365 #[.val (.int x0), .val (.int x1), .val (.int x2), .val (.int x3), .val (.long x4), .second, .val (.int x5), .val (.int k0), .val (.int k1), .val (.int t0), .val (.int t1), .val (.int (Int32.ofNat nk)), .val (.int (Int32.ofNat nt)), .val (.ref kx), .val (.ref tx), .val (.ref a15), .val (.ref a25), .val (.ref a35), .val (.ref a49), .val (.ref rr), .val (.int (1 : Int32)), .val (.int (Int32.ofNat (5 + nk))), .unset] [(.int (RS.getD ((5 + nk) + 5) 0))])
      refine OEnds.go (fun _ q => XS.bipush X158.here X158.hx rfl (hb hby at_365) q) ?_
      show OEnds p e below _ T155 (mkF m 367 #[.val (.int x0), .val (.int x1), .val (.int x2), .val (.int x3), .val (.long x4), .second, .val (.int x5), .val (.int k0), .val (.int k1), .val (.int t0), .val (.int t1), .val (.int (Int32.ofNat nk)), .val (.int (Int32.ofNat nt)), .val (.ref kx), .val (.ref tx), .val (.ref a15), .val (.ref a25), .val (.ref a35), .val (.ref a49), .val (.ref rr), .val (.int (1 : Int32)), .val (.int (Int32.ofNat (5 + nk))), .unset] [(.int (116 : Int32)), (.int (RS.getD ((5 + nk) + 5) 0))])
      refine OEnds.go (fun _ q => XS.icmpNo X158.here X158.hx rfl (hb hby at_367) rfl (teq (show RS.getD ((5 + nk) + 5) 0 = (116 : Int32) from hC 5 (by decide))).2 q) ?_
      show OEnds p e below _ T155 (mkF m 370 #[.val (.int x0), .val (.int x1), .val (.int x2), .val (.int x3), .val (.long x4), .second, .val (.int x5), .val (.int k0), .val (.int k1), .val (.int t0), .val (.int t1), .val (.int (Int32.ofNat nk)), .val (.int (Int32.ofNat nt)), .val (.ref kx), .val (.ref tx), .val (.ref a15), .val (.ref a25), .val (.ref a35), .val (.ref a49), .val (.ref rr), .val (.int (1 : Int32)), .val (.int (Int32.ofNat (5 + nk))), .unset] [])
      refine OEnds.go (fun _ q => XS.aload X158.here X158.hx rfl (hb hby at_370) rfl rfl q) ?_
      show OEnds p e below _ T155 (mkF m 372 #[.val (.int x0), .val (.int x1), .val (.int x2), .val (.int x3), .val (.long x4), .second, .val (.int x5), .val (.int k0), .val (.int k1), .val (.int t0), .val (.int t1), .val (.int (Int32.ofNat nk)), .val (.int (Int32.ofNat nt)), .val (.ref kx), .val (.ref tx), .val (.ref a15), .val (.ref a25), .val (.ref a35), .val (.ref a49), .val (.ref rr), .val (.int (1 : Int32)), .val (.int (Int32.ofNat (5 + nk))), .unset] [(.ref rr)])
      refine OEnds.go (fun _ q => XS.iload X158.here X158.hx rfl (hb hby at_372) rfl q) ?_
      show OEnds p e below _ T155 (mkF m 374 #[.val (.int x0), .val (.int x1), .val (.int x2), .val (.int x3), .val (.long x4), .second, .val (.int x5), .val (.int k0), .val (.int k1), .val (.int t0), .val (.int t1), .val (.int (Int32.ofNat nk)), .val (.int (Int32.ofNat nt)), .val (.ref kx), .val (.ref tx), .val (.ref a15), .val (.ref a25), .val (.ref a35), .val (.ref a49), .val (.ref rr), .val (.int (1 : Int32)), .val (.int (Int32.ofNat (5 + nk))), .unset] [(.int (Int32.ofNat (5 + nk))), (.ref rr)])
      refine OEnds.go (fun _ q => XS.bipush X158.here X158.hx rfl (hb hby at_374) q) ?_
      show OEnds p e below _ T155 (mkF m 376 #[.val (.int x0), .val (.int x1), .val (.int x2), .val (.int x3), .val (.long x4), .second, .val (.int x5), .val (.int k0), .val (.int k1), .val (.int t0), .val (.int t1), .val (.int (Int32.ofNat nk)), .val (.int (Int32.ofNat nt)), .val (.ref kx), .val (.ref tx), .val (.ref a15), .val (.ref a25), .val (.ref a35), .val (.ref a49), .val (.ref rr), .val (.int (1 : Int32)), .val (.int (Int32.ofNat (5 + nk))), .unset] [(.int (6 : Int32)), (.int (Int32.ofNat (5 + nk))), (.ref rr)])
      refine OEnds.go (fun _ q => XS.iadd X158.here X158.hx rfl (hb hby at_376) rfl q) ?_
      show OEnds p e below _ T155 (mkF m 377 #[.val (.int x0), .val (.int x1), .val (.int x2), .val (.int x3), .val (.long x4), .second, .val (.int x5), .val (.int k0), .val (.int k1), .val (.int t0), .val (.int t1), .val (.int (Int32.ofNat nk)), .val (.int (Int32.ofNat nt)), .val (.ref kx), .val (.ref tx), .val (.ref a15), .val (.ref a25), .val (.ref a35), .val (.ref a49), .val (.ref rr), .val (.int (1 : Int32)), .val (.int (Int32.ofNat (5 + nk))), .unset] [(.int ((Int32.ofNat (5 + nk)) + (6 : Int32))), (.ref rr)])
      rw [show ((Int32.ofNat (5 + nk)) + (6 : Int32)) = (Int32.ofNat ((5 + nk) + 6)) from ofN_add (b := 6) (by omega)]
      show OEnds p e below _ T155 (mkF m 377 #[.val (.int x0), .val (.int x1), .val (.int x2), .val (.int x3), .val (.long x4), .second, .val (.int x5), .val (.int k0), .val (.int k1), .val (.int t0), .val (.int t1), .val (.int (Int32.ofNat nk)), .val (.int (Int32.ofNat nt)), .val (.ref kx), .val (.ref tx), .val (.ref a15), .val (.ref a25), .val (.ref a35), .val (.ref a49), .val (.ref rr), .val (.int (1 : Int32)), .val (.int (Int32.ofNat (5 + nk))), .unset] [(.int (Int32.ofNat ((5 + nk) + 6))), (.ref rr)])
      refine X158.payV (own_chr H (W := 0) X158.hZ X158.old (i := ((5 + nk) + 6)) f117_0 (by omega) rfl (by decide) (by decide)) (okPure X158) (own_k hw 212 rfl) (own_k hw 213 rfl) (own_k hw 215 rfl) (own_k hw 214 rfl) (X158.nf (own_k hw 215 rfl)) (by decide) f117_0.exa (argsL := [(.int (Int32.ofNat ((5 + nk) + 6)))]) (rest := []) rfl (lenOf own_pd26 rfl) rfl (by rw [hml]; rfl) (Nat.le_of_eq rfl) (hb hby at_377) (by decide) (by decide) ?_
      intro v161 T162 h163 L164 X165 q166
      obtain ⟨rfl, -, e167⟩ := q166
      obtain rfl := e167.symm
      show OEnds p e below _ T162 (mkF m 380 #[.val (.int x0), .val (.int x1), .val (.int x2), .val (.int x3), .val (.long x4), .second, .val (.int x5), .val (.int k0), .val (.int k1), .val (.int t0), .val (.int t1), .val (.int (Int32.ofNat nk)), .val (.int (Int32.ofNat nt)), .val (.ref kx), .val (.ref tx), .val (.ref a15), .val (.ref a25), .val (.ref a35), .val (.ref a49), .val (.ref rr), .val (.int (1 : Int32)), .val (.int (Int32.ofNat (5 + nk))), .unset] [(.int (RS.getD ((5 + nk) + 6) 0))])
      refine OEnds.go (fun _ q => XS.bipush X165.here X165.hx rfl (hb hby at_380) q) ?_
      show OEnds p e below _ T162 (mkF m 382 #[.val (.int x0), .val (.int x1), .val (.int x2), .val (.int x3), .val (.long x4), .second, .val (.int x5), .val (.int k0), .val (.int k1), .val (.int t0), .val (.int t1), .val (.int (Int32.ofNat nk)), .val (.int (Int32.ofNat nt)), .val (.ref kx), .val (.ref tx), .val (.ref a15), .val (.ref a25), .val (.ref a35), .val (.ref a49), .val (.ref rr), .val (.int (1 : Int32)), .val (.int (Int32.ofNat (5 + nk))), .unset] [(.int (97 : Int32)), (.int (RS.getD ((5 + nk) + 6) 0))])
      refine OEnds.go (fun _ q => XS.icmpNo X165.here X165.hx rfl (hb hby at_382) rfl (teq (show RS.getD ((5 + nk) + 6) 0 = (97 : Int32) from hC 6 (by decide))).2 q) ?_
      show OEnds p e below _ T162 (mkF m 385 #[.val (.int x0), .val (.int x1), .val (.int x2), .val (.int x3), .val (.long x4), .second, .val (.int x5), .val (.int k0), .val (.int k1), .val (.int t0), .val (.int t1), .val (.int (Int32.ofNat nk)), .val (.int (Int32.ofNat nt)), .val (.ref kx), .val (.ref tx), .val (.ref a15), .val (.ref a25), .val (.ref a35), .val (.ref a49), .val (.ref rr), .val (.int (1 : Int32)), .val (.int (Int32.ofNat (5 + nk))), .unset] [])
      refine OEnds.go (fun _ q => XS.aload X165.here X165.hx rfl (hb hby at_385) rfl rfl q) ?_
      show OEnds p e below _ T162 (mkF m 387 #[.val (.int x0), .val (.int x1), .val (.int x2), .val (.int x3), .val (.long x4), .second, .val (.int x5), .val (.int k0), .val (.int k1), .val (.int t0), .val (.int t1), .val (.int (Int32.ofNat nk)), .val (.int (Int32.ofNat nt)), .val (.ref kx), .val (.ref tx), .val (.ref a15), .val (.ref a25), .val (.ref a35), .val (.ref a49), .val (.ref rr), .val (.int (1 : Int32)), .val (.int (Int32.ofNat (5 + nk))), .unset] [(.ref rr)])
      refine OEnds.go (fun _ q => XS.iload X165.here X165.hx rfl (hb hby at_387) rfl q) ?_
      show OEnds p e below _ T162 (mkF m 389 #[.val (.int x0), .val (.int x1), .val (.int x2), .val (.int x3), .val (.long x4), .second, .val (.int x5), .val (.int k0), .val (.int k1), .val (.int t0), .val (.int t1), .val (.int (Int32.ofNat nk)), .val (.int (Int32.ofNat nt)), .val (.ref kx), .val (.ref tx), .val (.ref a15), .val (.ref a25), .val (.ref a35), .val (.ref a49), .val (.ref rr), .val (.int (1 : Int32)), .val (.int (Int32.ofNat (5 + nk))), .unset] [(.int (Int32.ofNat (5 + nk))), (.ref rr)])
      refine OEnds.go (fun _ q => XS.bipush X165.here X165.hx rfl (hb hby at_389) q) ?_
      show OEnds p e below _ T162 (mkF m 391 #[.val (.int x0), .val (.int x1), .val (.int x2), .val (.int x3), .val (.long x4), .second, .val (.int x5), .val (.int k0), .val (.int k1), .val (.int t0), .val (.int t1), .val (.int (Int32.ofNat nk)), .val (.int (Int32.ofNat nt)), .val (.ref kx), .val (.ref tx), .val (.ref a15), .val (.ref a25), .val (.ref a35), .val (.ref a49), .val (.ref rr), .val (.int (1 : Int32)), .val (.int (Int32.ofNat (5 + nk))), .unset] [(.int (7 : Int32)), (.int (Int32.ofNat (5 + nk))), (.ref rr)])
      refine OEnds.go (fun _ q => XS.iadd X165.here X165.hx rfl (hb hby at_391) rfl q) ?_
      show OEnds p e below _ T162 (mkF m 392 #[.val (.int x0), .val (.int x1), .val (.int x2), .val (.int x3), .val (.long x4), .second, .val (.int x5), .val (.int k0), .val (.int k1), .val (.int t0), .val (.int t1), .val (.int (Int32.ofNat nk)), .val (.int (Int32.ofNat nt)), .val (.ref kx), .val (.ref tx), .val (.ref a15), .val (.ref a25), .val (.ref a35), .val (.ref a49), .val (.ref rr), .val (.int (1 : Int32)), .val (.int (Int32.ofNat (5 + nk))), .unset] [(.int ((Int32.ofNat (5 + nk)) + (7 : Int32))), (.ref rr)])
      rw [show ((Int32.ofNat (5 + nk)) + (7 : Int32)) = (Int32.ofNat ((5 + nk) + 7)) from ofN_add (b := 7) (by omega)]
      show OEnds p e below _ T162 (mkF m 392 #[.val (.int x0), .val (.int x1), .val (.int x2), .val (.int x3), .val (.long x4), .second, .val (.int x5), .val (.int k0), .val (.int k1), .val (.int t0), .val (.int t1), .val (.int (Int32.ofNat nk)), .val (.int (Int32.ofNat nt)), .val (.ref kx), .val (.ref tx), .val (.ref a15), .val (.ref a25), .val (.ref a35), .val (.ref a49), .val (.ref rr), .val (.int (1 : Int32)), .val (.int (Int32.ofNat (5 + nk))), .unset] [(.int (Int32.ofNat ((5 + nk) + 7))), (.ref rr)])
      refine X165.payV (own_chr H (W := 0) X165.hZ X165.old (i := ((5 + nk) + 7)) f117_0 (by omega) rfl (by decide) (by decide)) (okPure X165) (own_k hw 212 rfl) (own_k hw 213 rfl) (own_k hw 215 rfl) (own_k hw 214 rfl) (X165.nf (own_k hw 215 rfl)) (by decide) f117_0.exa (argsL := [(.int (Int32.ofNat ((5 + nk) + 7)))]) (rest := []) rfl (lenOf own_pd26 rfl) rfl (by rw [hml]; rfl) (Nat.le_of_eq rfl) (hb hby at_392) (by decide) (by decide) ?_
      intro v168 T169 h170 L171 X172 q173
      obtain ⟨rfl, -, e174⟩ := q173
      obtain rfl := e174.symm
      show OEnds p e below _ T169 (mkF m 395 #[.val (.int x0), .val (.int x1), .val (.int x2), .val (.int x3), .val (.long x4), .second, .val (.int x5), .val (.int k0), .val (.int k1), .val (.int t0), .val (.int t1), .val (.int (Int32.ofNat nk)), .val (.int (Int32.ofNat nt)), .val (.ref kx), .val (.ref tx), .val (.ref a15), .val (.ref a25), .val (.ref a35), .val (.ref a49), .val (.ref rr), .val (.int (1 : Int32)), .val (.int (Int32.ofNat (5 + nk))), .unset] [(.int (RS.getD ((5 + nk) + 7) 0))])
      refine OEnds.go (fun _ q => XS.bipush X172.here X172.hx rfl (hb hby at_395) q) ?_
      show OEnds p e below _ T169 (mkF m 397 #[.val (.int x0), .val (.int x1), .val (.int x2), .val (.int x3), .val (.long x4), .second, .val (.int x5), .val (.int k0), .val (.int k1), .val (.int t0), .val (.int t1), .val (.int (Int32.ofNat nk)), .val (.int (Int32.ofNat nt)), .val (.ref kx), .val (.ref tx), .val (.ref a15), .val (.ref a25), .val (.ref a35), .val (.ref a49), .val (.ref rr), .val (.int (1 : Int32)), .val (.int (Int32.ofNat (5 + nk))), .unset] [(.int (98 : Int32)), (.int (RS.getD ((5 + nk) + 7) 0))])
      refine OEnds.go (fun _ q => XS.icmpNo X172.here X172.hx rfl (hb hby at_397) rfl (teq (show RS.getD ((5 + nk) + 7) 0 = (98 : Int32) from hC 7 (by decide))).2 q) ?_
      show OEnds p e below _ T169 (mkF m 400 #[.val (.int x0), .val (.int x1), .val (.int x2), .val (.int x3), .val (.long x4), .second, .val (.int x5), .val (.int k0), .val (.int k1), .val (.int t0), .val (.int t1), .val (.int (Int32.ofNat nk)), .val (.int (Int32.ofNat nt)), .val (.ref kx), .val (.ref tx), .val (.ref a15), .val (.ref a25), .val (.ref a35), .val (.ref a49), .val (.ref rr), .val (.int (1 : Int32)), .val (.int (Int32.ofNat (5 + nk))), .unset] [])
      refine OEnds.go (fun _ q => XS.aload X172.here X172.hx rfl (hb hby at_400) rfl rfl q) ?_
      show OEnds p e below _ T169 (mkF m 402 #[.val (.int x0), .val (.int x1), .val (.int x2), .val (.int x3), .val (.long x4), .second, .val (.int x5), .val (.int k0), .val (.int k1), .val (.int t0), .val (.int t1), .val (.int (Int32.ofNat nk)), .val (.int (Int32.ofNat nt)), .val (.ref kx), .val (.ref tx), .val (.ref a15), .val (.ref a25), .val (.ref a35), .val (.ref a49), .val (.ref rr), .val (.int (1 : Int32)), .val (.int (Int32.ofNat (5 + nk))), .unset] [(.ref rr)])
      refine OEnds.go (fun _ q => XS.iload X172.here X172.hx rfl (hb hby at_402) rfl q) ?_
      show OEnds p e below _ T169 (mkF m 404 #[.val (.int x0), .val (.int x1), .val (.int x2), .val (.int x3), .val (.long x4), .second, .val (.int x5), .val (.int k0), .val (.int k1), .val (.int t0), .val (.int t1), .val (.int (Int32.ofNat nk)), .val (.int (Int32.ofNat nt)), .val (.ref kx), .val (.ref tx), .val (.ref a15), .val (.ref a25), .val (.ref a35), .val (.ref a49), .val (.ref rr), .val (.int (1 : Int32)), .val (.int (Int32.ofNat (5 + nk))), .unset] [(.int (Int32.ofNat (5 + nk))), (.ref rr)])
      refine OEnds.go (fun _ q => XS.bipush X172.here X172.hx rfl (hb hby at_404) q) ?_
      show OEnds p e below _ T169 (mkF m 406 #[.val (.int x0), .val (.int x1), .val (.int x2), .val (.int x3), .val (.long x4), .second, .val (.int x5), .val (.int k0), .val (.int k1), .val (.int t0), .val (.int t1), .val (.int (Int32.ofNat nk)), .val (.int (Int32.ofNat nt)), .val (.ref kx), .val (.ref tx), .val (.ref a15), .val (.ref a25), .val (.ref a35), .val (.ref a49), .val (.ref rr), .val (.int (1 : Int32)), .val (.int (Int32.ofNat (5 + nk))), .unset] [(.int (8 : Int32)), (.int (Int32.ofNat (5 + nk))), (.ref rr)])
      refine OEnds.go (fun _ q => XS.iadd X172.here X172.hx rfl (hb hby at_406) rfl q) ?_
      show OEnds p e below _ T169 (mkF m 407 #[.val (.int x0), .val (.int x1), .val (.int x2), .val (.int x3), .val (.long x4), .second, .val (.int x5), .val (.int k0), .val (.int k1), .val (.int t0), .val (.int t1), .val (.int (Int32.ofNat nk)), .val (.int (Int32.ofNat nt)), .val (.ref kx), .val (.ref tx), .val (.ref a15), .val (.ref a25), .val (.ref a35), .val (.ref a49), .val (.ref rr), .val (.int (1 : Int32)), .val (.int (Int32.ofNat (5 + nk))), .unset] [(.int ((Int32.ofNat (5 + nk)) + (8 : Int32))), (.ref rr)])
      rw [show ((Int32.ofNat (5 + nk)) + (8 : Int32)) = (Int32.ofNat ((5 + nk) + 8)) from ofN_add (b := 8) (by omega)]
      show OEnds p e below _ T169 (mkF m 407 #[.val (.int x0), .val (.int x1), .val (.int x2), .val (.int x3), .val (.long x4), .second, .val (.int x5), .val (.int k0), .val (.int k1), .val (.int t0), .val (.int t1), .val (.int (Int32.ofNat nk)), .val (.int (Int32.ofNat nt)), .val (.ref kx), .val (.ref tx), .val (.ref a15), .val (.ref a25), .val (.ref a35), .val (.ref a49), .val (.ref rr), .val (.int (1 : Int32)), .val (.int (Int32.ofNat (5 + nk))), .unset] [(.int (Int32.ofNat ((5 + nk) + 8))), (.ref rr)])
      refine X172.payV (own_chr H (W := 0) X172.hZ X172.old (i := ((5 + nk) + 8)) f117_0 (by omega) rfl (by decide) (by decide)) (okPure X172) (own_k hw 212 rfl) (own_k hw 213 rfl) (own_k hw 215 rfl) (own_k hw 214 rfl) (X172.nf (own_k hw 215 rfl)) (by decide) f117_0.exa (argsL := [(.int (Int32.ofNat ((5 + nk) + 8)))]) (rest := []) rfl (lenOf own_pd26 rfl) rfl (by rw [hml]; rfl) (Nat.le_of_eq rfl) (hb hby at_407) (by decide) (by decide) ?_
      intro v175 T176 h177 L178 X179 q180
      obtain ⟨rfl, -, e181⟩ := q180
      obtain rfl := e181.symm
      show OEnds p e below _ T176 (mkF m 410 #[.val (.int x0), .val (.int x1), .val (.int x2), .val (.int x3), .val (.long x4), .second, .val (.int x5), .val (.int k0), .val (.int k1), .val (.int t0), .val (.int t1), .val (.int (Int32.ofNat nk)), .val (.int (Int32.ofNat nt)), .val (.ref kx), .val (.ref tx), .val (.ref a15), .val (.ref a25), .val (.ref a35), .val (.ref a49), .val (.ref rr), .val (.int (1 : Int32)), .val (.int (Int32.ofNat (5 + nk))), .unset] [(.int (RS.getD ((5 + nk) + 8) 0))])
      refine OEnds.go (fun _ q => XS.bipush X179.here X179.hx rfl (hb hby at_410) q) ?_
      show OEnds p e below _ T176 (mkF m 412 #[.val (.int x0), .val (.int x1), .val (.int x2), .val (.int x3), .val (.long x4), .second, .val (.int x5), .val (.int k0), .val (.int k1), .val (.int t0), .val (.int t1), .val (.int (Int32.ofNat nk)), .val (.int (Int32.ofNat nt)), .val (.ref kx), .val (.ref tx), .val (.ref a15), .val (.ref a25), .val (.ref a35), .val (.ref a49), .val (.ref rr), .val (.int (1 : Int32)), .val (.int (Int32.ofNat (5 + nk))), .unset] [(.int (108 : Int32)), (.int (RS.getD ((5 + nk) + 8) 0))])
      refine OEnds.go (fun _ q => XS.icmpNo X179.here X179.hx rfl (hb hby at_412) rfl (teq (show RS.getD ((5 + nk) + 8) 0 = (108 : Int32) from hC 8 (by decide))).2 q) ?_
      show OEnds p e below _ T176 (mkF m 415 #[.val (.int x0), .val (.int x1), .val (.int x2), .val (.int x3), .val (.long x4), .second, .val (.int x5), .val (.int k0), .val (.int k1), .val (.int t0), .val (.int t1), .val (.int (Int32.ofNat nk)), .val (.int (Int32.ofNat nt)), .val (.ref kx), .val (.ref tx), .val (.ref a15), .val (.ref a25), .val (.ref a35), .val (.ref a49), .val (.ref rr), .val (.int (1 : Int32)), .val (.int (Int32.ofNat (5 + nk))), .unset] [])
      refine OEnds.go (fun _ q => XS.aload X179.here X179.hx rfl (hb hby at_415) rfl rfl q) ?_
      show OEnds p e below _ T176 (mkF m 417 #[.val (.int x0), .val (.int x1), .val (.int x2), .val (.int x3), .val (.long x4), .second, .val (.int x5), .val (.int k0), .val (.int k1), .val (.int t0), .val (.int t1), .val (.int (Int32.ofNat nk)), .val (.int (Int32.ofNat nt)), .val (.ref kx), .val (.ref tx), .val (.ref a15), .val (.ref a25), .val (.ref a35), .val (.ref a49), .val (.ref rr), .val (.int (1 : Int32)), .val (.int (Int32.ofNat (5 + nk))), .unset] [(.ref rr)])
      refine OEnds.go (fun _ q => XS.iload X179.here X179.hx rfl (hb hby at_417) rfl q) ?_
      show OEnds p e below _ T176 (mkF m 419 #[.val (.int x0), .val (.int x1), .val (.int x2), .val (.int x3), .val (.long x4), .second, .val (.int x5), .val (.int k0), .val (.int k1), .val (.int t0), .val (.int t1), .val (.int (Int32.ofNat nk)), .val (.int (Int32.ofNat nt)), .val (.ref kx), .val (.ref tx), .val (.ref a15), .val (.ref a25), .val (.ref a35), .val (.ref a49), .val (.ref rr), .val (.int (1 : Int32)), .val (.int (Int32.ofNat (5 + nk))), .unset] [(.int (Int32.ofNat (5 + nk))), (.ref rr)])
      refine OEnds.go (fun _ q => XS.bipush X179.here X179.hx rfl (hb hby at_419) q) ?_
      show OEnds p e below _ T176 (mkF m 421 #[.val (.int x0), .val (.int x1), .val (.int x2), .val (.int x3), .val (.long x4), .second, .val (.int x5), .val (.int k0), .val (.int k1), .val (.int t0), .val (.int t1), .val (.int (Int32.ofNat nk)), .val (.int (Int32.ofNat nt)), .val (.ref kx), .val (.ref tx), .val (.ref a15), .val (.ref a25), .val (.ref a35), .val (.ref a49), .val (.ref rr), .val (.int (1 : Int32)), .val (.int (Int32.ofNat (5 + nk))), .unset] [(.int (9 : Int32)), (.int (Int32.ofNat (5 + nk))), (.ref rr)])
      refine OEnds.go (fun _ q => XS.iadd X179.here X179.hx rfl (hb hby at_421) rfl q) ?_
      show OEnds p e below _ T176 (mkF m 422 #[.val (.int x0), .val (.int x1), .val (.int x2), .val (.int x3), .val (.long x4), .second, .val (.int x5), .val (.int k0), .val (.int k1), .val (.int t0), .val (.int t1), .val (.int (Int32.ofNat nk)), .val (.int (Int32.ofNat nt)), .val (.ref kx), .val (.ref tx), .val (.ref a15), .val (.ref a25), .val (.ref a35), .val (.ref a49), .val (.ref rr), .val (.int (1 : Int32)), .val (.int (Int32.ofNat (5 + nk))), .unset] [(.int ((Int32.ofNat (5 + nk)) + (9 : Int32))), (.ref rr)])
      rw [show ((Int32.ofNat (5 + nk)) + (9 : Int32)) = (Int32.ofNat ((5 + nk) + 9)) from ofN_add (b := 9) (by omega)]
      show OEnds p e below _ T176 (mkF m 422 #[.val (.int x0), .val (.int x1), .val (.int x2), .val (.int x3), .val (.long x4), .second, .val (.int x5), .val (.int k0), .val (.int k1), .val (.int t0), .val (.int t1), .val (.int (Int32.ofNat nk)), .val (.int (Int32.ofNat nt)), .val (.ref kx), .val (.ref tx), .val (.ref a15), .val (.ref a25), .val (.ref a35), .val (.ref a49), .val (.ref rr), .val (.int (1 : Int32)), .val (.int (Int32.ofNat (5 + nk))), .unset] [(.int (Int32.ofNat ((5 + nk) + 9))), (.ref rr)])
      refine X179.payV (own_chr H (W := 0) X179.hZ X179.old (i := ((5 + nk) + 9)) f117_0 (by omega) rfl (by decide) (by decide)) (okPure X179) (own_k hw 212 rfl) (own_k hw 213 rfl) (own_k hw 215 rfl) (own_k hw 214 rfl) (X179.nf (own_k hw 215 rfl)) (by decide) f117_0.exa (argsL := [(.int (Int32.ofNat ((5 + nk) + 9)))]) (rest := []) rfl (lenOf own_pd26 rfl) rfl (by rw [hml]; rfl) (Nat.le_of_eq rfl) (hb hby at_422) (by decide) (by decide) ?_
      intro v182 T183 h184 L185 X186 q187
      obtain ⟨rfl, -, e188⟩ := q187
      obtain rfl := e188.symm
      show OEnds p e below _ T183 (mkF m 425 #[.val (.int x0), .val (.int x1), .val (.int x2), .val (.int x3), .val (.long x4), .second, .val (.int x5), .val (.int k0), .val (.int k1), .val (.int t0), .val (.int t1), .val (.int (Int32.ofNat nk)), .val (.int (Int32.ofNat nt)), .val (.ref kx), .val (.ref tx), .val (.ref a15), .val (.ref a25), .val (.ref a35), .val (.ref a49), .val (.ref rr), .val (.int (1 : Int32)), .val (.int (Int32.ofNat (5 + nk))), .unset] [(.int (RS.getD ((5 + nk) + 9) 0))])
      refine OEnds.go (fun _ q => XS.bipush X186.here X186.hx rfl (hb hby at_425) q) ?_
      show OEnds p e below _ T183 (mkF m 427 #[.val (.int x0), .val (.int x1), .val (.int x2), .val (.int x3), .val (.long x4), .second, .val (.int x5), .val (.int k0), .val (.int k1), .val (.int t0), .val (.int t1), .val (.int (Int32.ofNat nk)), .val (.int (Int32.ofNat nt)), .val (.ref kx), .val (.ref tx), .val (.ref a15), .val (.ref a25), .val (.ref a35), .val (.ref a49), .val (.ref rr), .val (.int (1 : Int32)), .val (.int (Int32.ofNat (5 + nk))), .unset] [(.int (101 : Int32)), (.int (RS.getD ((5 + nk) + 9) 0))])
      refine OEnds.go (fun _ q => XS.icmpNo X186.here X186.hx rfl (hb hby at_427) rfl (teq (show RS.getD ((5 + nk) + 9) 0 = (101 : Int32) from hC 9 (by decide))).2 q) ?_
      show OEnds p e below _ T183 (mkF m 430 #[.val (.int x0), .val (.int x1), .val (.int x2), .val (.int x3), .val (.long x4), .second, .val (.int x5), .val (.int k0), .val (.int k1), .val (.int t0), .val (.int t1), .val (.int (Int32.ofNat nk)), .val (.int (Int32.ofNat nt)), .val (.ref kx), .val (.ref tx), .val (.ref a15), .val (.ref a25), .val (.ref a35), .val (.ref a49), .val (.ref rr), .val (.int (1 : Int32)), .val (.int (Int32.ofNat (5 + nk))), .unset] [])
      refine OEnds.go (fun _ q => XS.aload X186.here X186.hx rfl (hb hby at_430) rfl rfl q) ?_
      show OEnds p e below _ T183 (mkF m 432 #[.val (.int x0), .val (.int x1), .val (.int x2), .val (.int x3), .val (.long x4), .second, .val (.int x5), .val (.int k0), .val (.int k1), .val (.int t0), .val (.int t1), .val (.int (Int32.ofNat nk)), .val (.int (Int32.ofNat nt)), .val (.ref kx), .val (.ref tx), .val (.ref a15), .val (.ref a25), .val (.ref a35), .val (.ref a49), .val (.ref rr), .val (.int (1 : Int32)), .val (.int (Int32.ofNat (5 + nk))), .unset] [(.ref rr)])
      refine OEnds.go (fun _ q => XS.iload X186.here X186.hx rfl (hb hby at_432) rfl q) ?_
      show OEnds p e below _ T183 (mkF m 434 #[.val (.int x0), .val (.int x1), .val (.int x2), .val (.int x3), .val (.long x4), .second, .val (.int x5), .val (.int k0), .val (.int k1), .val (.int t0), .val (.int t1), .val (.int (Int32.ofNat nk)), .val (.int (Int32.ofNat nt)), .val (.ref kx), .val (.ref tx), .val (.ref a15), .val (.ref a25), .val (.ref a35), .val (.ref a49), .val (.ref rr), .val (.int (1 : Int32)), .val (.int (Int32.ofNat (5 + nk))), .unset] [(.int (Int32.ofNat (5 + nk))), (.ref rr)])
      refine OEnds.go (fun _ q => XS.bipush X186.here X186.hx rfl (hb hby at_434) q) ?_
      show OEnds p e below _ T183 (mkF m 436 #[.val (.int x0), .val (.int x1), .val (.int x2), .val (.int x3), .val (.long x4), .second, .val (.int x5), .val (.int k0), .val (.int k1), .val (.int t0), .val (.int t1), .val (.int (Int32.ofNat nk)), .val (.int (Int32.ofNat nt)), .val (.ref kx), .val (.ref tx), .val (.ref a15), .val (.ref a25), .val (.ref a35), .val (.ref a49), .val (.ref rr), .val (.int (1 : Int32)), .val (.int (Int32.ofNat (5 + nk))), .unset] [(.int (10 : Int32)), (.int (Int32.ofNat (5 + nk))), (.ref rr)])
      refine OEnds.go (fun _ q => XS.iadd X186.here X186.hx rfl (hb hby at_436) rfl q) ?_
      show OEnds p e below _ T183 (mkF m 437 #[.val (.int x0), .val (.int x1), .val (.int x2), .val (.int x3), .val (.long x4), .second, .val (.int x5), .val (.int k0), .val (.int k1), .val (.int t0), .val (.int t1), .val (.int (Int32.ofNat nk)), .val (.int (Int32.ofNat nt)), .val (.ref kx), .val (.ref tx), .val (.ref a15), .val (.ref a25), .val (.ref a35), .val (.ref a49), .val (.ref rr), .val (.int (1 : Int32)), .val (.int (Int32.ofNat (5 + nk))), .unset] [(.int ((Int32.ofNat (5 + nk)) + (10 : Int32))), (.ref rr)])
      rw [show ((Int32.ofNat (5 + nk)) + (10 : Int32)) = (Int32.ofNat ((5 + nk) + 10)) from ofN_add (b := 10) (by omega)]
      show OEnds p e below _ T183 (mkF m 437 #[.val (.int x0), .val (.int x1), .val (.int x2), .val (.int x3), .val (.long x4), .second, .val (.int x5), .val (.int k0), .val (.int k1), .val (.int t0), .val (.int t1), .val (.int (Int32.ofNat nk)), .val (.int (Int32.ofNat nt)), .val (.ref kx), .val (.ref tx), .val (.ref a15), .val (.ref a25), .val (.ref a35), .val (.ref a49), .val (.ref rr), .val (.int (1 : Int32)), .val (.int (Int32.ofNat (5 + nk))), .unset] [(.int (Int32.ofNat ((5 + nk) + 10))), (.ref rr)])
      refine X186.payV (own_chr H (W := 0) X186.hZ X186.old (i := ((5 + nk) + 10)) f117_0 (by omega) rfl (by decide) (by decide)) (okPure X186) (own_k hw 212 rfl) (own_k hw 213 rfl) (own_k hw 215 rfl) (own_k hw 214 rfl) (X186.nf (own_k hw 215 rfl)) (by decide) f117_0.exa (argsL := [(.int (Int32.ofNat ((5 + nk) + 10)))]) (rest := []) rfl (lenOf own_pd26 rfl) rfl (by rw [hml]; rfl) (Nat.le_of_eq rfl) (hb hby at_437) (by decide) (by decide) ?_
      intro v189 T190 h191 L192 X193 q194
      obtain ⟨rfl, -, e195⟩ := q194
      obtain rfl := e195.symm
      show OEnds p e below _ T190 (mkF m 440 #[.val (.int x0), .val (.int x1), .val (.int x2), .val (.int x3), .val (.long x4), .second, .val (.int x5), .val (.int k0), .val (.int k1), .val (.int t0), .val (.int t1), .val (.int (Int32.ofNat nk)), .val (.int (Int32.ofNat nt)), .val (.ref kx), .val (.ref tx), .val (.ref a15), .val (.ref a25), .val (.ref a35), .val (.ref a49), .val (.ref rr), .val (.int (1 : Int32)), .val (.int (Int32.ofNat (5 + nk))), .unset] [(.int (RS.getD ((5 + nk) + 10) 0))])
      refine OEnds.go (fun _ q => XS.bipush X193.here X193.hx rfl (hb hby at_440) q) ?_
      show OEnds p e below _ T190 (mkF m 442 #[.val (.int x0), .val (.int x1), .val (.int x2), .val (.int x3), .val (.long x4), .second, .val (.int x5), .val (.int k0), .val (.int k1), .val (.int t0), .val (.int t1), .val (.int (Int32.ofNat nk)), .val (.int (Int32.ofNat nt)), .val (.ref kx), .val (.ref tx), .val (.ref a15), .val (.ref a25), .val (.ref a35), .val (.ref a49), .val (.ref rr), .val (.int (1 : Int32)), .val (.int (Int32.ofNat (5 + nk))), .unset] [(.int (32 : Int32)), (.int (RS.getD ((5 + nk) + 10) 0))])
      refine OEnds.go (fun _ q => XS.icmpNo X193.here X193.hx rfl (hb hby at_442) rfl (teq (show RS.getD ((5 + nk) + 10) 0 = (32 : Int32) from hC 10 (by decide))).2 q) ?_
      show OEnds p e below _ T190 (mkF m 445 #[.val (.int x0), .val (.int x1), .val (.int x2), .val (.int x3), .val (.long x4), .second, .val (.int x5), .val (.int k0), .val (.int k1), .val (.int t0), .val (.int t1), .val (.int (Int32.ofNat nk)), .val (.int (Int32.ofNat nt)), .val (.ref kx), .val (.ref tx), .val (.ref a15), .val (.ref a25), .val (.ref a35), .val (.ref a49), .val (.ref rr), .val (.int (1 : Int32)), .val (.int (Int32.ofNat (5 + nk))), .unset] [])
      refine OEnds.go (fun _ q => XS.iconst X193.here X193.hx rfl (hb hby at_445) q) ?_
      show OEnds p e below _ T190 (mkF m 446 #[.val (.int x0), .val (.int x1), .val (.int x2), .val (.int x3), .val (.long x4), .second, .val (.int x5), .val (.int k0), .val (.int k1), .val (.int t0), .val (.int t1), .val (.int (Int32.ofNat nk)), .val (.int (Int32.ofNat nt)), .val (.ref kx), .val (.ref tx), .val (.ref a15), .val (.ref a25), .val (.ref a35), .val (.ref a49), .val (.ref rr), .val (.int (1 : Int32)), .val (.int (Int32.ofNat (5 + nk))), .unset] [(.int (1 : Int32))])
      refine OEnds.go (fun _ q => XS.goto X193.here X193.hx rfl (pc0 := 446) (pc' := 450) rfl (hb hby at_446) (by decide) (by decide) q) ?_
      show OEnds p e below _ T190 (mkF m 450 #[.val (.int x0), .val (.int x1), .val (.int x2), .val (.int x3), .val (.long x4), .second, .val (.int x5), .val (.int k0), .val (.int k1), .val (.int t0), .val (.int t1), .val (.int (Int32.ofNat nk)), .val (.int (Int32.ofNat nt)), .val (.ref kx), .val (.ref tx), .val (.ref a15), .val (.ref a25), .val (.ref a35), .val (.ref a49), .val (.ref rr), .val (.int (1 : Int32)), .val (.int (Int32.ofNat (5 + nk))), .unset] [(.int (1 : Int32))])
      refine OEnds.go (fun _ q => XS.istore X193.here X193.hx rfl (hb hby at_450) rfl (l' := #[.val (.int x0), .val (.int x1), .val (.int x2), .val (.int x3), .val (.long x4), .second, .val (.int x5), .val (.int k0), .val (.int k1), .val (.int t0), .val (.int t1), .val (.int (Int32.ofNat nk)), .val (.int (Int32.ofNat nt)), .val (.ref kx), .val (.ref tx), .val (.ref a15), .val (.ref a25), .val (.ref a35), .val (.ref a49), .val (.ref rr), .val (.int (1 : Int32)), .val (.int (Int32.ofNat (5 + nk))), .unset]) rfl q) ?_
      show OEnds p e below _ T190 (mkF m 452 #[.val (.int x0), .val (.int x1), .val (.int x2), .val (.int x3), .val (.long x4), .second, .val (.int x5), .val (.int k0), .val (.int k1), .val (.int t0), .val (.int t1), .val (.int (Int32.ofNat nk)), .val (.int (Int32.ofNat nt)), .val (.ref kx), .val (.ref tx), .val (.ref a15), .val (.ref a25), .val (.ref a35), .val (.ref a49), .val (.ref rr), .val (.int (1 : Int32)), .val (.int (Int32.ofNat (5 + nk))), .unset] [])
      refine OEnds.go (fun _ q => XS.iload X193.here X193.hx rfl (hb hby at_452) rfl q) ?_
      show OEnds p e below _ T190 (mkF m 454 #[.val (.int x0), .val (.int x1), .val (.int x2), .val (.int x3), .val (.long x4), .second, .val (.int x5), .val (.int k0), .val (.int k1), .val (.int t0), .val (.int t1), .val (.int (Int32.ofNat nk)), .val (.int (Int32.ofNat nt)), .val (.ref kx), .val (.ref tx), .val (.ref a15), .val (.ref a25), .val (.ref a35), .val (.ref a49), .val (.ref rr), .val (.int (1 : Int32)), .val (.int (Int32.ofNat (5 + nk))), .unset] [(.int (Int32.ofNat (5 + nk)))])
      refine OEnds.go (fun _ q => XS.bipush X193.here X193.hx rfl (hb hby at_454) q) ?_
      show OEnds p e below _ T190 (mkF m 456 #[.val (.int x0), .val (.int x1), .val (.int x2), .val (.int x3), .val (.long x4), .second, .val (.int x5), .val (.int k0), .val (.int k1), .val (.int t0), .val (.int t1), .val (.int (Int32.ofNat nk)), .val (.int (Int32.ofNat nt)), .val (.ref kx), .val (.ref tx), .val (.ref a15), .val (.ref a25), .val (.ref a35), .val (.ref a49), .val (.ref rr), .val (.int (1 : Int32)), .val (.int (Int32.ofNat (5 + nk))), .unset] [(.int (11 : Int32)), (.int (Int32.ofNat (5 + nk)))])
      refine OEnds.go (fun _ q => XS.iadd X193.here X193.hx rfl (hb hby at_456) rfl q) ?_
      show OEnds p e below _ T190 (mkF m 457 #[.val (.int x0), .val (.int x1), .val (.int x2), .val (.int x3), .val (.long x4), .second, .val (.int x5), .val (.int k0), .val (.int k1), .val (.int t0), .val (.int t1), .val (.int (Int32.ofNat nk)), .val (.int (Int32.ofNat nt)), .val (.ref kx), .val (.ref tx), .val (.ref a15), .val (.ref a25), .val (.ref a35), .val (.ref a49), .val (.ref rr), .val (.int (1 : Int32)), .val (.int (Int32.ofNat (5 + nk))), .unset] [(.int ((Int32.ofNat (5 + nk)) + (11 : Int32)))])
      rw [show ((Int32.ofNat (5 + nk)) + (11 : Int32)) = (Int32.ofNat (5 + nk + 11)) from ofN_add (b := 11) (by omega)]
      show OEnds p e below _ T190 (mkF m 457 #[.val (.int x0), .val (.int x1), .val (.int x2), .val (.int x3), .val (.long x4), .second, .val (.int x5), .val (.int k0), .val (.int k1), .val (.int t0), .val (.int t1), .val (.int (Int32.ofNat nk)), .val (.int (Int32.ofNat nt)), .val (.ref kx), .val (.ref tx), .val (.ref a15), .val (.ref a25), .val (.ref a35), .val (.ref a49), .val (.ref rr), .val (.int (1 : Int32)), .val (.int (Int32.ofNat (5 + nk))), .unset] [(.int (Int32.ofNat (5 + nk + 11)))])
      refine OEnds.go (fun _ q => XS.istore X193.here X193.hx rfl (hb hby at_457) rfl (l' := #[.val (.int x0), .val (.int x1), .val (.int x2), .val (.int x3), .val (.long x4), .second, .val (.int x5), .val (.int k0), .val (.int k1), .val (.int t0), .val (.int t1), .val (.int (Int32.ofNat nk)), .val (.int (Int32.ofNat nt)), .val (.ref kx), .val (.ref tx), .val (.ref a15), .val (.ref a25), .val (.ref a35), .val (.ref a49), .val (.ref rr), .val (.int (1 : Int32)), .val (.int (Int32.ofNat (5 + nk))), .val (.int (Int32.ofNat (5 + nk + 11)))]) rfl q) ?_
      refine OEnds.go (fun _ q => XS.iload X193.here X193.hx rfl (hb hby at_459) rfl q) ?_
      show OEnds p e below _ T190 (mkF m 461 #[.val (.int x0), .val (.int x1), .val (.int x2), .val (.int x3), .val (.long x4), .second, .val (.int x5), .val (.int k0), .val (.int k1), .val (.int t0), .val (.int t1), .val (.int (Int32.ofNat nk)), .val (.int (Int32.ofNat nt)), .val (.ref kx), .val (.ref tx), .val (.ref a15), .val (.ref a25), .val (.ref a35), .val (.ref a49), .val (.ref rr), .val (.int (1 : Int32)), .val (.int (Int32.ofNat (5 + nk))), .val (.int (Int32.ofNat (5 + nk + 11)))] [(.int (1 : Int32))])
      refine OEnds.go (fun _ q => XS.ifNo X193.here X193.hx rfl (hb hby at_461) rfl ((if0 _ _).trans (feq (by decide)).1) q) ?_
      show OEnds p e below _ T190 (mkF m 464 #[.val (.int x0), .val (.int x1), .val (.int x2), .val (.int x3), .val (.long x4), .second, .val (.int x5), .val (.int k0), .val (.int k1), .val (.int t0), .val (.int t1), .val (.int (Int32.ofNat nk)), .val (.int (Int32.ofNat nt)), .val (.ref kx), .val (.ref tx), .val (.ref a15), .val (.ref a25), .val (.ref a35), .val (.ref a49), .val (.ref rr), .val (.int (1 : Int32)), .val (.int (Int32.ofNat (5 + nk))), .val (.int (Int32.ofNat (5 + nk + 11)))] [])
      refine OEnds.go (fun _ q => XS.iload X193.here X193.hx rfl (hb hby at_464) rfl q) ?_
      refine OEnds.go (fun _ q => XS.iconst X193.here X193.hx rfl (hb hby at_466) q) ?_
      show OEnds p e below _ T190 (mkF m 467 #[.val (.int x0), .val (.int x1), .val (.int x2), .val (.int x3), .val (.long x4), .second, .val (.int x5), .val (.int k0), .val (.int k1), .val (.int t0), .val (.int t1), .val (.int (Int32.ofNat nk)), .val (.int (Int32.ofNat nt)), .val (.ref kx), .val (.ref tx), .val (.ref a15), .val (.ref a25), .val (.ref a35), .val (.ref a49), .val (.ref rr), .val (.int (1 : Int32)), .val (.int (Int32.ofNat (5 + nk))), .val (.int (Int32.ofNat (5 + nk + 11)))] [(.int (1 : Int32)), (.int (Int32.ofNat nt))])
      have Jta : ∀ (vmj197 : Vm) (Tj197 : State) (hj197 : Heap) , OSt p l e room_1 s m #[(.int x0), (.int x1), (.int x2), (.int x3), (.long x4), (.int x5)] below meth c "com/example/fritillary/fritillary/GeneratorTableSourcePinLaw" Z consts_1 vmj197 Tj197 hj197 22 202 → OStr Z hj197 rr RS → OEnds p e below (GW Z consts_1 s (fun r h => r = some (.int 1)) room_1.cells room_1.slots) Tj197 (mkF m 482 #[.val (.int x0), .val (.int x1), .val (.int x2), .val (.int x3), .val (.long x4), .second, .val (.int x5), .val (.int k0), .val (.int k1), .val (.int t0), .val (.int t1), .val (.int (Int32.ofNat nk)), .val (.int (Int32.ofNat nt)), .val (.ref kx), .val (.ref tx), .val (.ref a15), .val (.ref a25), .val (.ref a35), .val (.ref a49), .val (.ref rr), .val (.int (1 : Int32)), .val (.int (Int32.ofNat (5 + nk))), .val (.int (Int32.ofNat (5 + nk + 11)))] []) := by
        intro vmj197 Tj197 hj197  Xj197 f196_0
        refine OEnds.go (fun _ q => XS.iload Xj197.here Xj197.hx rfl (hb hby at_482) rfl q) ?_
        refine OEnds.go (fun _ q => XS.iconst Xj197.here Xj197.hx rfl (hb hby at_484) q) ?_
        show OEnds p e below _ Tj197 (mkF m 485 #[.val (.int x0), .val (.int x1), .val (.int x2), .val (.int x3), .val (.long x4), .second, .val (.int x5), .val (.int k0), .val (.int k1), .val (.int t0), .val (.int t1), .val (.int (Int32.ofNat nk)), .val (.int (Int32.ofNat nt)), .val (.ref kx), .val (.ref tx), .val (.ref a15), .val (.ref a25), .val (.ref a35), .val (.ref a49), .val (.ref rr), .val (.int (1 : Int32)), .val (.int (Int32.ofNat (5 + nk))), .val (.int (Int32.ofNat (5 + nk + 11)))] [(.int (2 : Int32)), (.int (Int32.ofNat nt))])
        have Jtb : ∀ (vmj199 : Vm) (Tj199 : State) (hj199 : Heap) , OSt p l e room_1 s m #[(.int x0), (.int x1), (.int x2), (.int x3), (.long x4), (.int x5)] below meth c "com/example/fritillary/fritillary/GeneratorTableSourcePinLaw" Z consts_1 vmj199 Tj199 hj199 22 202 → OStr Z hj199 rr RS → OEnds p e below (GW Z consts_1 s (fun r h => r = some (.int 1)) room_1.cells room_1.slots) Tj199 (mkF m 507 #[.val (.int x0), .val (.int x1), .val (.int x2), .val (.int x3), .val (.long x4), .second, .val (.int x5), .val (.int k0), .val (.int k1), .val (.int t0), .val (.int t1), .val (.int (Int32.ofNat nk)), .val (.int (Int32.ofNat nt)), .val (.ref kx), .val (.ref tx), .val (.ref a15), .val (.ref a25), .val (.ref a35), .val (.ref a49), .val (.ref rr), .val (.int (1 : Int32)), .val (.int (Int32.ofNat (5 + nk))), .val (.int (Int32.ofNat (5 + nk + 11)))] [(.int (1 : Int32))]) := by
          intro vmj199 Tj199 hj199  Xj199 f198_0
          refine OEnds.go (fun _ q => XS.istore Xj199.here Xj199.hx rfl (hb hby at_507) rfl (l' := #[.val (.int x0), .val (.int x1), .val (.int x2), .val (.int x3), .val (.long x4), .second, .val (.int x5), .val (.int k0), .val (.int k1), .val (.int t0), .val (.int t1), .val (.int (Int32.ofNat nk)), .val (.int (Int32.ofNat nt)), .val (.ref kx), .val (.ref tx), .val (.ref a15), .val (.ref a25), .val (.ref a35), .val (.ref a49), .val (.ref rr), .val (.int (1 : Int32)), .val (.int (Int32.ofNat (5 + nk))), .val (.int (Int32.ofNat (5 + nk + 11)))]) rfl q) ?_
          refine OEnds.go (fun _ q => XS.iload Xj199.here Xj199.hx rfl (hb hby at_509) rfl q) ?_
          show OEnds p e below _ Tj199 (mkF m 511 #[.val (.int x0), .val (.int x1), .val (.int x2), .val (.int x3), .val (.long x4), .second, .val (.int x5), .val (.int k0), .val (.int k1), .val (.int t0), .val (.int t1), .val (.int (Int32.ofNat nk)), .val (.int (Int32.ofNat nt)), .val (.ref kx), .val (.ref tx), .val (.ref a15), .val (.ref a25), .val (.ref a35), .val (.ref a49), .val (.ref rr), .val (.int (1 : Int32)), .val (.int (Int32.ofNat (5 + nk))), .val (.int (Int32.ofNat (5 + nk + 11)))] [(.int (1 : Int32))])
          exact Xj199.retBool hE hlk (by first | exact Or.inl rfl | exact Or.inr rfl | assumption) hret (hb hby at_511) (by decide) (by decide) rfl
        by_cases ht2 : (Int32.ofNat nt) < (2 : Int32)
        · skip
          refine OEnds.go (fun _ q => XS.icmpYes Xj197.here Xj197.hx rfl (pc0 := 485) (pc' := 502) rfl (hb hby at_485) rfl (tlt ht2).1 (by decide) (by decide) q) ?_
          show OEnds p e below _ Tj197 (mkF m 502 #[.val (.int x0), .val (.int x1), .val (.int x2), .val (.int x3), .val (.long x4), .second, .val (.int x5), .val (.int k0), .val (.int k1), .val (.int t0), .val (.int t1), .val (.int (Int32.ofNat nk)), .val (.int (Int32.ofNat nt)), .val (.ref kx), .val (.ref tx), .val (.ref a15), .val (.ref a25), .val (.ref a35), .val (.ref a49), .val (.ref rr), .val (.int (1 : Int32)), .val (.int (Int32.ofNat (5 + nk))), .val (.int (Int32.ofNat (5 + nk + 11)))] [])
          refine OEnds.go (fun _ q => XS.iconst Xj197.here Xj197.hx rfl (hb hby at_502) q) ?_
          refine OEnds.go (fun _ q => XS.goto Xj197.here Xj197.hx rfl (pc0 := 503) (pc' := 507) rfl (hb hby at_503) (by decide) (by decide) q) ?_
          show OEnds p e below _ Tj197 (mkF m 507 #[.val (.int x0), .val (.int x1), .val (.int x2), .val (.int x3), .val (.long x4), .second, .val (.int x5), .val (.int k0), .val (.int k1), .val (.int t0), .val (.int t1), .val (.int (Int32.ofNat nk)), .val (.int (Int32.ofNat nt)), .val (.ref kx), .val (.ref tx), .val (.ref a15), .val (.ref a25), .val (.ref a35), .val (.ref a49), .val (.ref rr), .val (.int (1 : Int32)), .val (.int (Int32.ofNat (5 + nk))), .val (.int (Int32.ofNat (5 + nk + 11)))] [(.int (1 : Int32))])
          exact Jtb _ _ _  (Xj197.mono (by decide) (by decide)) f196_0  
        · skip
          refine OEnds.go (fun _ q => XS.icmpNo Xj197.here Xj197.hx rfl (hb hby at_485) rfl (flt ht2).1 q) ?_
          show OEnds p e below _ Tj197 (mkF m 488 #[.val (.int x0), .val (.int x1), .val (.int x2), .val (.int x3), .val (.long x4), .second, .val (.int x5), .val (.int k0), .val (.int k1), .val (.int t0), .val (.int t1), .val (.int (Int32.ofNat nk)), .val (.int (Int32.ofNat nt)), .val (.ref kx), .val (.ref tx), .val (.ref a15), .val (.ref a25), .val (.ref a35), .val (.ref a49), .val (.ref rr), .val (.int (1 : Int32)), .val (.int (Int32.ofNat (5 + nk))), .val (.int (Int32.ofNat (5 + nk + 11)))] [])
          have qt2 : 2 ≤ nt := Nat.le_of_not_lt fun q => ht2 ((ofN_lt (b := 2) (by omega) (by omega)).mpr q)
          refine OEnds.go (fun _ q => XS.aload Xj197.here Xj197.hx rfl (hb hby at_488) rfl rfl q) ?_
          show OEnds p e below _ Tj197 (mkF m 490 #[.val (.int x0), .val (.int x1), .val (.int x2), .val (.int x3), .val (.long x4), .second, .val (.int x5), .val (.int k0), .val (.int k1), .val (.int t0), .val (.int t1), .val (.int (Int32.ofNat nk)), .val (.int (Int32.ofNat nt)), .val (.ref kx), .val (.ref tx), .val (.ref a15), .val (.ref a25), .val (.ref a35), .val (.ref a49), .val (.ref rr), .val (.int (1 : Int32)), .val (.int (Int32.ofNat (5 + nk))), .val (.int (Int32.ofNat (5 + nk + 11)))] [(.ref rr)])
          refine OEnds.go (fun _ q => XS.iload Xj197.here Xj197.hx rfl (hb hby at_490) rfl q) ?_
          show OEnds p e below _ Tj197 (mkF m 492 #[.val (.int x0), .val (.int x1), .val (.int x2), .val (.int x3), .val (.long x4), .second, .val (.int x5), .val (.int k0), .val (.int k1), .val (.int t0), .val (.int t1), .val (.int (Int32.ofNat nk)), .val (.int (Int32.ofNat nt)), .val (.ref kx), .val (.ref tx), .val (.ref a15), .val (.ref a25), .val (.ref a35), .val (.ref a49), .val (.ref rr), .val (.int (1 : Int32)), .val (.int (Int32.ofNat (5 + nk))), .val (.int (Int32.ofNat (5 + nk + 11)))] [(.int (Int32.ofNat (5 + nk + 11))), (.ref rr)])
          refine OEnds.go (fun _ q => XS.iconst Xj197.here Xj197.hx rfl (hb hby at_492) q) ?_
          show OEnds p e below _ Tj197 (mkF m 493 #[.val (.int x0), .val (.int x1), .val (.int x2), .val (.int x3), .val (.long x4), .second, .val (.int x5), .val (.int k0), .val (.int k1), .val (.int t0), .val (.int t1), .val (.int (Int32.ofNat nk)), .val (.int (Int32.ofNat nt)), .val (.ref kx), .val (.ref tx), .val (.ref a15), .val (.ref a25), .val (.ref a35), .val (.ref a49), .val (.ref rr), .val (.int (1 : Int32)), .val (.int (Int32.ofNat (5 + nk))), .val (.int (Int32.ofNat (5 + nk + 11)))] [(.int (1 : Int32)), (.int (Int32.ofNat (5 + nk + 11))), (.ref rr)])
          refine OEnds.go (fun _ q => XS.iadd Xj197.here Xj197.hx rfl (hb hby at_493) rfl q) ?_
          show OEnds p e below _ Tj197 (mkF m 494 #[.val (.int x0), .val (.int x1), .val (.int x2), .val (.int x3), .val (.long x4), .second, .val (.int x5), .val (.int k0), .val (.int k1), .val (.int t0), .val (.int t1), .val (.int (Int32.ofNat nk)), .val (.int (Int32.ofNat nt)), .val (.ref kx), .val (.ref tx), .val (.ref a15), .val (.ref a25), .val (.ref a35), .val (.ref a49), .val (.ref rr), .val (.int (1 : Int32)), .val (.int (Int32.ofNat (5 + nk))), .val (.int (Int32.ofNat (5 + nk + 11)))] [(.int ((Int32.ofNat (5 + nk + 11)) + (1 : Int32))), (.ref rr)])
          rw [show ((Int32.ofNat (5 + nk + 11)) + (1 : Int32)) = (Int32.ofNat ((5 + nk + 11) + 1)) from ofN_add (b := 1) (by omega)]
          show OEnds p e below _ Tj197 (mkF m 494 #[.val (.int x0), .val (.int x1), .val (.int x2), .val (.int x3), .val (.long x4), .second, .val (.int x5), .val (.int k0), .val (.int k1), .val (.int t0), .val (.int t1), .val (.int (Int32.ofNat nk)), .val (.int (Int32.ofNat nt)), .val (.ref kx), .val (.ref tx), .val (.ref a15), .val (.ref a25), .val (.ref a35), .val (.ref a49), .val (.ref rr), .val (.int (1 : Int32)), .val (.int (Int32.ofNat (5 + nk))), .val (.int (Int32.ofNat (5 + nk + 11)))] [(.int (Int32.ofNat ((5 + nk + 11) + 1))), (.ref rr)])
          refine Xj197.payV (own_chr H (W := 0) Xj197.hZ Xj197.old (i := ((5 + nk + 11) + 1)) f196_0 (by omega) rfl (by decide) (by decide)) (okPure Xj197) (own_k hw 212 rfl) (own_k hw 213 rfl) (own_k hw 215 rfl) (own_k hw 214 rfl) (Xj197.nf (own_k hw 215 rfl)) (by decide) f196_0.exa (argsL := [(.int (Int32.ofNat ((5 + nk + 11) + 1)))]) (rest := []) rfl (lenOf own_pd26 rfl) rfl (by rw [hml]; rfl) (Nat.le_of_eq rfl) (hb hby at_494) (by decide) (by decide) ?_
          intro v200 T201 h202 L203 X204 q205
          obtain ⟨rfl, -, e206⟩ := q205
          obtain rfl := e206.symm
          show OEnds p e below _ T201 (mkF m 497 #[.val (.int x0), .val (.int x1), .val (.int x2), .val (.int x3), .val (.long x4), .second, .val (.int x5), .val (.int k0), .val (.int k1), .val (.int t0), .val (.int t1), .val (.int (Int32.ofNat nk)), .val (.int (Int32.ofNat nt)), .val (.ref kx), .val (.ref tx), .val (.ref a15), .val (.ref a25), .val (.ref a35), .val (.ref a49), .val (.ref rr), .val (.int (1 : Int32)), .val (.int (Int32.ofNat (5 + nk))), .val (.int (Int32.ofNat (5 + nk + 11)))] [(.int (RS.getD ((5 + nk + 11) + 1) 0))])
          refine OEnds.go (fun _ q => XS.iload X204.here X204.hx rfl (hb hby at_497) rfl q) ?_
          show OEnds p e below _ T201 (mkF m 499 #[.val (.int x0), .val (.int x1), .val (.int x2), .val (.int x3), .val (.long x4), .second, .val (.int x5), .val (.int k0), .val (.int k1), .val (.int t0), .val (.int t1), .val (.int (Int32.ofNat nk)), .val (.int (Int32.ofNat nt)), .val (.ref kx), .val (.ref tx), .val (.ref a15), .val (.ref a25), .val (.ref a35), .val (.ref a49), .val (.ref rr), .val (.int (1 : Int32)), .val (.int (Int32.ofNat (5 + nk))), .val (.int (Int32.ofNat (5 + nk + 11)))] [(.int t1), (.int (RS.getD ((5 + nk + 11) + 1) 0))])
          refine OEnds.go (fun _ q => XS.icmpNo X204.here X204.hx rfl (hb hby at_499) rfl (teq (show RS.getD ((5 + nk + 11) + 1) 0 = t1 from ((hD 1 qt2).trans (gt1 qt2)))).2 q) ?_
          show OEnds p e below _ T201 (mkF m 502 #[.val (.int x0), .val (.int x1), .val (.int x2), .val (.int x3), .val (.long x4), .second, .val (.int x5), .val (.int k0), .val (.int k1), .val (.int t0), .val (.int t1), .val (.int (Int32.ofNat nk)), .val (.int (Int32.ofNat nt)), .val (.ref kx), .val (.ref tx), .val (.ref a15), .val (.ref a25), .val (.ref a35), .val (.ref a49), .val (.ref rr), .val (.int (1 : Int32)), .val (.int (Int32.ofNat (5 + nk))), .val (.int (Int32.ofNat (5 + nk + 11)))] [])
          refine OEnds.go (fun _ q => XS.iconst X204.here X204.hx rfl (hb hby at_502) q) ?_
          refine OEnds.go (fun _ q => XS.goto X204.here X204.hx rfl (pc0 := 503) (pc' := 507) rfl (hb hby at_503) (by decide) (by decide) q) ?_
          show OEnds p e below _ T201 (mkF m 507 #[.val (.int x0), .val (.int x1), .val (.int x2), .val (.int x3), .val (.long x4), .second, .val (.int x5), .val (.int k0), .val (.int k1), .val (.int t0), .val (.int t1), .val (.int (Int32.ofNat nk)), .val (.int (Int32.ofNat nt)), .val (.ref kx), .val (.ref tx), .val (.ref a15), .val (.ref a25), .val (.ref a35), .val (.ref a49), .val (.ref rr), .val (.int (1 : Int32)), .val (.int (Int32.ofNat (5 + nk))), .val (.int (Int32.ofNat (5 + nk + 11)))] [(.int (1 : Int32))])
          exact Jtb _ _ _  (X204.mono (by decide) (by decide)) f196_0  
      by_cases ht1 : (Int32.ofNat nt) < (1 : Int32)
      · skip
        refine OEnds.go (fun _ q => XS.icmpYes X193.here X193.hx rfl (pc0 := 467) (pc' := 482) rfl (hb hby at_467) rfl (tlt ht1).1 (by decide) (by decide) q) ?_
        show OEnds p e below _ T190 (mkF m 482 #[.val (.int x0), .val (.int x1), .val (.int x2), .val (.int x3), .val (.long x4), .second, .val (.int x5), .val (.int k0), .val (.int k1), .val (.int t0), .val (.int t1), .val (.int (Int32.ofNat nk)), .val (.int (Int32.ofNat nt)), .val (.ref kx), .val (.ref tx), .val (.ref a15), .val (.ref a25), .val (.ref a35), .val (.ref a49), .val (.ref rr), .val (.int (1 : Int32)), .val (.int (Int32.ofNat (5 + nk))), .val (.int (Int32.ofNat (5 + nk + 11)))] [])
        exact Jta _ _ _  (X193.mono (by decide) (by decide)) f117_0  
      · skip
        refine OEnds.go (fun _ q => XS.icmpNo X193.here X193.hx rfl (hb hby at_467) rfl (flt ht1).1 q) ?_
        show OEnds p e below _ T190 (mkF m 470 #[.val (.int x0), .val (.int x1), .val (.int x2), .val (.int x3), .val (.long x4), .second, .val (.int x5), .val (.int k0), .val (.int k1), .val (.int t0), .val (.int t1), .val (.int (Int32.ofNat nk)), .val (.int (Int32.ofNat nt)), .val (.ref kx), .val (.ref tx), .val (.ref a15), .val (.ref a25), .val (.ref a35), .val (.ref a49), .val (.ref rr), .val (.int (1 : Int32)), .val (.int (Int32.ofNat (5 + nk))), .val (.int (Int32.ofNat (5 + nk + 11)))] [])
        have qt1 : 1 ≤ nt := Nat.le_of_not_lt fun q => ht1 ((ofN_lt (b := 1) (by omega) (by omega)).mpr q)
        refine OEnds.go (fun _ q => XS.aload X193.here X193.hx rfl (hb hby at_470) rfl rfl q) ?_
        refine OEnds.go (fun _ q => XS.iload X193.here X193.hx rfl (hb hby at_472) rfl q) ?_
        show OEnds p e below _ T190 (mkF m 474 #[.val (.int x0), .val (.int x1), .val (.int x2), .val (.int x3), .val (.long x4), .second, .val (.int x5), .val (.int k0), .val (.int k1), .val (.int t0), .val (.int t1), .val (.int (Int32.ofNat nk)), .val (.int (Int32.ofNat nt)), .val (.ref kx), .val (.ref tx), .val (.ref a15), .val (.ref a25), .val (.ref a35), .val (.ref a49), .val (.ref rr), .val (.int (1 : Int32)), .val (.int (Int32.ofNat (5 + nk))), .val (.int (Int32.ofNat (5 + nk + 11)))] [(.int (Int32.ofNat (5 + nk + 11))), (.ref rr)])
        refine X193.payV (own_chr H (W := 0) X193.hZ X193.old (i := (5 + nk + 11)) f117_0 (by omega) rfl (by decide) (by decide)) (okPure X193) (own_k hw 212 rfl) (own_k hw 213 rfl) (own_k hw 215 rfl) (own_k hw 214 rfl) (X193.nf (own_k hw 215 rfl)) (by decide) f117_0.exa (argsL := [(.int (Int32.ofNat (5 + nk + 11)))]) (rest := []) rfl (lenOf own_pd26 rfl) rfl (by rw [hml]; rfl) (Nat.le_of_eq rfl) (hb hby at_474) (by decide) (by decide) ?_
        intro v207 T208 h209 L210 X211 q212
        obtain ⟨rfl, -, e213⟩ := q212
        obtain rfl := e213.symm
        show OEnds p e below _ T208 (mkF m 477 #[.val (.int x0), .val (.int x1), .val (.int x2), .val (.int x3), .val (.long x4), .second, .val (.int x5), .val (.int k0), .val (.int k1), .val (.int t0), .val (.int t1), .val (.int (Int32.ofNat nk)), .val (.int (Int32.ofNat nt)), .val (.ref kx), .val (.ref tx), .val (.ref a15), .val (.ref a25), .val (.ref a35), .val (.ref a49), .val (.ref rr), .val (.int (1 : Int32)), .val (.int (Int32.ofNat (5 + nk))), .val (.int (Int32.ofNat (5 + nk + 11)))] [(.int (RS.getD (5 + nk + 11) 0))])
        refine OEnds.go (fun _ q => XS.iload X211.here X211.hx rfl (hb hby at_477) rfl q) ?_
        show OEnds p e below _ T208 (mkF m 479 #[.val (.int x0), .val (.int x1), .val (.int x2), .val (.int x3), .val (.long x4), .second, .val (.int x5), .val (.int k0), .val (.int k1), .val (.int t0), .val (.int t1), .val (.int (Int32.ofNat nk)), .val (.int (Int32.ofNat nt)), .val (.ref kx), .val (.ref tx), .val (.ref a15), .val (.ref a25), .val (.ref a35), .val (.ref a49), .val (.ref rr), .val (.int (1 : Int32)), .val (.int (Int32.ofNat (5 + nk))), .val (.int (Int32.ofNat (5 + nk + 11)))] [(.int t0), (.int (RS.getD (5 + nk + 11) 0))])
        refine OEnds.go (fun _ q => XS.icmpNo X211.here X211.hx rfl (hb hby at_479) rfl (teq (show RS.getD (5 + nk + 11) 0 = t0 from ((hD 0 qt1).trans (gt0 qt1)))).2 q) ?_
        show OEnds p e below _ T208 (mkF m 482 #[.val (.int x0), .val (.int x1), .val (.int x2), .val (.int x3), .val (.long x4), .second, .val (.int x5), .val (.int k0), .val (.int k1), .val (.int t0), .val (.int t1), .val (.int (Int32.ofNat nk)), .val (.int (Int32.ofNat nt)), .val (.ref kx), .val (.ref tx), .val (.ref a15), .val (.ref a25), .val (.ref a35), .val (.ref a49), .val (.ref rr), .val (.int (1 : Int32)), .val (.int (Int32.ofNat (5 + nk))), .val (.int (Int32.ofNat (5 + nk + 11)))] [])
        exact Jta _ _ _  (X211.mono (by decide) (by decide)) f117_0  
    by_cases hk2 : (Int32.ofNat nk) < (2 : Int32)
    · skip
      refine OEnds.go (fun _ q => XS.icmpYes Xj116.here Xj116.hx rfl (pc0 := 255) (pc' := 270) rfl (hb hby at_255) rfl (tlt hk2).1 (by decide) (by decide) q) ?_
      show OEnds p e below _ Tj116 (mkF m 270 #[.val (.int x0), .val (.int x1), .val (.int x2), .val (.int x3), .val (.long x4), .second, .val (.int x5), .val (.int k0), .val (.int k1), .val (.int t0), .val (.int t1), .val (.int (Int32.ofNat nk)), .val (.int (Int32.ofNat nt)), .val (.ref kx), .val (.ref tx), .val (.ref a15), .val (.ref a25), .val (.ref a35), .val (.ref a49), .val (.ref rr), .val (.int (1 : Int32)), .unset, .unset] [])
      refine OEnds.go (fun _ q => XS.iconst Xj116.here Xj116.hx rfl (hb hby at_270) q) ?_
      refine OEnds.go (fun _ q => XS.goto Xj116.here Xj116.hx rfl (pc0 := 271) (pc' := 275) rfl (hb hby at_271) (by decide) (by decide) q) ?_
      show OEnds p e below _ Tj116 (mkF m 275 #[.val (.int x0), .val (.int x1), .val (.int x2), .val (.int x3), .val (.long x4), .second, .val (.int x5), .val (.int k0), .val (.int k1), .val (.int t0), .val (.int t1), .val (.int (Int32.ofNat nk)), .val (.int (Int32.ofNat nt)), .val (.ref kx), .val (.ref tx), .val (.ref a15), .val (.ref a25), .val (.ref a35), .val (.ref a49), .val (.ref rr), .val (.int (1 : Int32)), .unset, .unset] [(.int (1 : Int32))])
      exact Jkb _ _ _  (Xj116.mono (by decide) (by decide)) f115_0  
    · skip
      refine OEnds.go (fun _ q => XS.icmpNo Xj116.here Xj116.hx rfl (hb hby at_255) rfl (flt hk2).1 q) ?_
      show OEnds p e below _ Tj116 (mkF m 258 #[.val (.int x0), .val (.int x1), .val (.int x2), .val (.int x3), .val (.long x4), .second, .val (.int x5), .val (.int k0), .val (.int k1), .val (.int t0), .val (.int t1), .val (.int (Int32.ofNat nk)), .val (.int (Int32.ofNat nt)), .val (.ref kx), .val (.ref tx), .val (.ref a15), .val (.ref a25), .val (.ref a35), .val (.ref a49), .val (.ref rr), .val (.int (1 : Int32)), .unset, .unset] [])
      have qk2 : 2 ≤ nk := Nat.le_of_not_lt fun q => hk2 ((ofN_lt (b := 2) (by omega) (by omega)).mpr q)
      refine OEnds.go (fun _ q => XS.aload Xj116.here Xj116.hx rfl (hb hby at_258) rfl rfl q) ?_
      refine OEnds.go (fun _ q => XS.bipush Xj116.here Xj116.hx rfl (hb hby at_260) q) ?_
      show OEnds p e below _ Tj116 (mkF m 262 #[.val (.int x0), .val (.int x1), .val (.int x2), .val (.int x3), .val (.long x4), .second, .val (.int x5), .val (.int k0), .val (.int k1), .val (.int t0), .val (.int t1), .val (.int (Int32.ofNat nk)), .val (.int (Int32.ofNat nt)), .val (.ref kx), .val (.ref tx), .val (.ref a15), .val (.ref a25), .val (.ref a35), .val (.ref a49), .val (.ref rr), .val (.int (1 : Int32)), .unset, .unset] [(.int (6 : Int32)), (.ref rr)])
      refine Xj116.payV (own_chr H (W := 0) Xj116.hZ Xj116.old (i := 6) f115_0 (by omega) rfl (by decide) (by decide)) (okPure Xj116) (own_k hw 212 rfl) (own_k hw 213 rfl) (own_k hw 215 rfl) (own_k hw 214 rfl) (Xj116.nf (own_k hw 215 rfl)) (by decide) f115_0.exa (argsL := [(.int (6 : Int32))]) (rest := []) rfl (lenOf own_pd26 rfl) rfl (by rw [hml]; rfl) (Nat.le_of_eq rfl) (hb hby at_262) (by decide) (by decide) ?_
      intro v214 T215 h216 L217 X218 q219
      obtain ⟨rfl, -, e220⟩ := q219
      obtain rfl := e220.symm
      show OEnds p e below _ T215 (mkF m 265 #[.val (.int x0), .val (.int x1), .val (.int x2), .val (.int x3), .val (.long x4), .second, .val (.int x5), .val (.int k0), .val (.int k1), .val (.int t0), .val (.int t1), .val (.int (Int32.ofNat nk)), .val (.int (Int32.ofNat nt)), .val (.ref kx), .val (.ref tx), .val (.ref a15), .val (.ref a25), .val (.ref a35), .val (.ref a49), .val (.ref rr), .val (.int (1 : Int32)), .unset, .unset] [(.int (RS.getD 6 0))])
      refine OEnds.go (fun _ q => XS.iload X218.here X218.hx rfl (hb hby at_265) rfl q) ?_
      show OEnds p e below _ T215 (mkF m 267 #[.val (.int x0), .val (.int x1), .val (.int x2), .val (.int x3), .val (.long x4), .second, .val (.int x5), .val (.int k0), .val (.int k1), .val (.int t0), .val (.int t1), .val (.int (Int32.ofNat nk)), .val (.int (Int32.ofNat nt)), .val (.ref kx), .val (.ref tx), .val (.ref a15), .val (.ref a25), .val (.ref a35), .val (.ref a49), .val (.ref rr), .val (.int (1 : Int32)), .unset, .unset] [(.int k1), (.int (RS.getD 6 0))])
      refine OEnds.go (fun _ q => XS.icmpNo X218.here X218.hx rfl (hb hby at_267) rfl (teq (show RS.getD 6 0 = k1 from ((hB 1 qk2).trans (gk1 qk2)))).2 q) ?_
      show OEnds p e below _ T215 (mkF m 270 #[.val (.int x0), .val (.int x1), .val (.int x2), .val (.int x3), .val (.long x4), .second, .val (.int x5), .val (.int k0), .val (.int k1), .val (.int t0), .val (.int t1), .val (.int (Int32.ofNat nk)), .val (.int (Int32.ofNat nt)), .val (.ref kx), .val (.ref tx), .val (.ref a15), .val (.ref a25), .val (.ref a35), .val (.ref a49), .val (.ref rr), .val (.int (1 : Int32)), .unset, .unset] [])
      refine OEnds.go (fun _ q => XS.iconst X218.here X218.hx rfl (hb hby at_270) q) ?_
      refine OEnds.go (fun _ q => XS.goto X218.here X218.hx rfl (pc0 := 271) (pc' := 275) rfl (hb hby at_271) (by decide) (by decide) q) ?_
      show OEnds p e below _ T215 (mkF m 275 #[.val (.int x0), .val (.int x1), .val (.int x2), .val (.int x3), .val (.long x4), .second, .val (.int x5), .val (.int k0), .val (.int k1), .val (.int t0), .val (.int t1), .val (.int (Int32.ofNat nk)), .val (.int (Int32.ofNat nt)), .val (.ref kx), .val (.ref tx), .val (.ref a15), .val (.ref a25), .val (.ref a35), .val (.ref a49), .val (.ref rr), .val (.int (1 : Int32)), .unset, .unset] [(.int (1 : Int32))])
      exact Jkb _ _ _  (X218.mono (by decide) (by decide)) f115_0  
  by_cases hk1 : (Int32.ofNat nk) < (1 : Int32)
  · skip
    refine OEnds.go (fun _ q => XS.icmpYes X112.here X112.hx rfl (pc0 := 238) (pc' := 252) rfl (hb hby at_238) rfl (tlt hk1).1 (by decide) (by decide) q) ?_
    show OEnds p e below _ T109 (mkF m 252 #[.val (.int x0), .val (.int x1), .val (.int x2), .val (.int x3), .val (.long x4), .second, .val (.int x5), .val (.int k0), .val (.int k1), .val (.int t0), .val (.int t1), .val (.int (Int32.ofNat nk)), .val (.int (Int32.ofNat nt)), .val (.ref kx), .val (.ref tx), .val (.ref a15), .val (.ref a25), .val (.ref a35), .val (.ref a49), .val (.ref rr), .val (.int (1 : Int32)), .unset, .unset] [])
    exact Jka _ _ _  (X112.mono (by decide) (by decide)) Sr  
  · skip
    refine OEnds.go (fun _ q => XS.icmpNo X112.here X112.hx rfl (hb hby at_238) rfl (flt hk1).1 q) ?_
    show OEnds p e below _ T109 (mkF m 241 #[.val (.int x0), .val (.int x1), .val (.int x2), .val (.int x3), .val (.long x4), .second, .val (.int x5), .val (.int k0), .val (.int k1), .val (.int t0), .val (.int t1), .val (.int (Int32.ofNat nk)), .val (.int (Int32.ofNat nt)), .val (.ref kx), .val (.ref tx), .val (.ref a15), .val (.ref a25), .val (.ref a35), .val (.ref a49), .val (.ref rr), .val (.int (1 : Int32)), .unset, .unset] [])
    have qk1 : 1 ≤ nk := Nat.le_of_not_lt fun q => hk1 ((ofN_lt (b := 1) (by omega) (by omega)).mpr q)
    refine OEnds.go (fun _ q => XS.aload X112.here X112.hx rfl (hb hby at_241) rfl rfl q) ?_
    refine OEnds.go (fun _ q => XS.iconst X112.here X112.hx rfl (hb hby at_243) q) ?_
    show OEnds p e below _ T109 (mkF m 244 #[.val (.int x0), .val (.int x1), .val (.int x2), .val (.int x3), .val (.long x4), .second, .val (.int x5), .val (.int k0), .val (.int k1), .val (.int t0), .val (.int t1), .val (.int (Int32.ofNat nk)), .val (.int (Int32.ofNat nt)), .val (.ref kx), .val (.ref tx), .val (.ref a15), .val (.ref a25), .val (.ref a35), .val (.ref a49), .val (.ref rr), .val (.int (1 : Int32)), .unset, .unset] [(.int (5 : Int32)), (.ref rr)])
    refine X112.payV (own_chr H (W := 0) X112.hZ X112.old (i := 5) Sr (by omega) rfl (by decide) (by decide)) (okPure X112) (own_k hw 212 rfl) (own_k hw 213 rfl) (own_k hw 215 rfl) (own_k hw 214 rfl) (X112.nf (own_k hw 215 rfl)) (by decide) Sr.exa (argsL := [(.int (5 : Int32))]) (rest := []) rfl (lenOf own_pd26 rfl) rfl (by rw [hml]; rfl) (Nat.le_of_eq rfl) (hb hby at_244) (by decide) (by decide) ?_
    intro v221 T222 h223 L224 X225 q226
    obtain ⟨rfl, -, e227⟩ := q226
    obtain rfl := e227.symm
    show OEnds p e below _ T222 (mkF m 247 #[.val (.int x0), .val (.int x1), .val (.int x2), .val (.int x3), .val (.long x4), .second, .val (.int x5), .val (.int k0), .val (.int k1), .val (.int t0), .val (.int t1), .val (.int (Int32.ofNat nk)), .val (.int (Int32.ofNat nt)), .val (.ref kx), .val (.ref tx), .val (.ref a15), .val (.ref a25), .val (.ref a35), .val (.ref a49), .val (.ref rr), .val (.int (1 : Int32)), .unset, .unset] [(.int (RS.getD 5 0))])
    refine OEnds.go (fun _ q => XS.iload X225.here X225.hx rfl (hb hby at_247) rfl q) ?_
    show OEnds p e below _ T222 (mkF m 249 #[.val (.int x0), .val (.int x1), .val (.int x2), .val (.int x3), .val (.long x4), .second, .val (.int x5), .val (.int k0), .val (.int k1), .val (.int t0), .val (.int t1), .val (.int (Int32.ofNat nk)), .val (.int (Int32.ofNat nt)), .val (.ref kx), .val (.ref tx), .val (.ref a15), .val (.ref a25), .val (.ref a35), .val (.ref a49), .val (.ref rr), .val (.int (1 : Int32)), .unset, .unset] [(.int k0), (.int (RS.getD 5 0))])
    refine OEnds.go (fun _ q => XS.icmpNo X225.here X225.hx rfl (hb hby at_249) rfl (teq (show RS.getD 5 0 = k0 from ((hB 0 qk1).trans (gk0 qk1)))).2 q) ?_
    show OEnds p e below _ T222 (mkF m 252 #[.val (.int x0), .val (.int x1), .val (.int x2), .val (.int x3), .val (.long x4), .second, .val (.int x5), .val (.int k0), .val (.int k1), .val (.int t0), .val (.int t1), .val (.int (Int32.ofNat nk)), .val (.int (Int32.ofNat nt)), .val (.ref kx), .val (.ref tx), .val (.ref a15), .val (.ref a25), .val (.ref a35), .val (.ref a49), .val (.ref rr), .val (.int (1 : Int32)), .unset, .unset] [])
    exact Jka _ _ _  (X225.mono (by decide) (by decide)) Sr  
theorem comes_1 {Post : Tables → Env → Array Value → State → Outcome → State → Prop} (hpost : ∀ tb e args s v u, (limb_1_1.after args s (.returned v) u = true ∧ limb_1_2.after args s (.returned v) u = true ∧ True) → ReturnedEndW s (.returned v) u (Jvm.fieldLocs frame_1_writes args s ++ Jvm.arrayLocs frame_1_arrays args s ++ Jvm.staticLocs frame_1_statics s) 56 3392 → Post tb e args s (.returned v) u) :
    ArmFor flags0 classFile x code maxLocals ret World_1 tables_1 room_1 Calls_1 rest_1 Pre_1 Post := by
  intro l hfl _ _ p e ha hc hk s m args below hf hA hF happ hP
  obtain ⟨hcalls, hrest, hpre⟩ := hP
  obtain ⟨-, -, -, hnamed, -, -, -, hat⟩ := (Spec.applies_iff hf).mp happ
  obtain ⟨hg, hn⟩ := and_e (Cond.before_iff.mp (show (Jvm.Cond.and given_1 narrow_1).before args s = true from hpre))
  obtain ⟨g0, gr⟩ := and_e hg
  obtain ⟨ga0, gr⟩ := and_e gr
  obtain ⟨ga1, gr⟩ := and_e gr
  obtain ⟨ga2, gr⟩ := and_e gr
  obtain ⟨ga3, gr⟩ := and_e gr
  obtain ⟨ga4, gr⟩ := and_e gr
  obtain ⟨w0, w1, w2, w3, w4, w5, rfl⟩ : ∃ w0 w1 w2 w3 w4 w5 : Value, args = #[w0, w1, w2, w3, w4, w5] := by
    have hs : args.size = 6 := by simpa [Cond.value, given_1] using g0
    obtain ⟨L⟩ := args
    match L, hs with
    | [w0, w1, w2, w3, w4, w5], _ => exact ⟨w0, w1, w2, w3, w4, w5, rfl⟩
  have hw := fun d (hd : d ∈ tables_1) => atoms_spec (ws := Jvm.Cond.code x code maxLocals ret :: tables_1) hat d (List.mem_cons_of_mem _ hd)
  obtain ⟨hsets, hown0⟩ := atoms_of _ (rest_1_c_eq ▸ (show rest_1_c.before _ s = true from hrest))
  have hfit : Fit s := fun {y c} hc i hi => by
    obtain ⟨ha, rfl⟩ := Array.getElem?_eq_some_iff.mp hc
    have q := List.all_eq_true.mp ((Array.all_eq_true_iff_forall_mem.mp hF) _ (Array.getElem_mem ha)) i (List.mem_range.mpr hi)
    simpa [Array.getElem?_eq_getElem hi] using q
  obtain ⟨i0, e0⟩ := is_v ga0
  obtain rfl : w0 = (.int i0) := Option.some.inj e0
  obtain ⟨i1, e1⟩ := is_v ga1
  obtain rfl : w1 = (.int i1) := Option.some.inj e1
  obtain ⟨i2, e2⟩ := is_v ga2
  obtain rfl : w2 = (.int i2) := Option.some.inj e2
  obtain ⟨i3, e3⟩ := is_v ga3
  obtain rfl : w3 = (.int i3) := Option.some.inj e3
  obtain ⟨i4, e4⟩ := isL_v ga4
  obtain rfl : w4 = (.long i4) := Option.some.inj e4
  obtain ⟨i5, e5⟩ := is_v gr
  obtain rfl : w5 = (.int i5) := Option.some.inj e5
  obtain ⟨cz, ecz⟩ := is_v (Cond.before_iff.mp (hsets _ (List.mem_of_getElem? (i := 1) rfl)))
  have S0 : Sta s s.heap "java/lang/String" "COMPACT_STRINGS" "Z" (.int cz) := Sta.start ecz (Or.inl (hsets _ (List.mem_of_getElem? (i := 0) rfl)))
  have hcz : ¬ (cz = (0 : Int32)) := gotF (Cond.eq_ints ecz (Term.int_eval (0))) (not_v (Cond.before_iff.mp (hsets _ (List.mem_of_getElem? (i := 2) rfl))))
  obtain ⟨fm, efm, rf⟩ := isR_v (Cond.before_iff.mp (hsets _ (List.mem_of_getElem? (i := 8) rfl)))
  have S1 : Sta s s.heap "jdk/internal/util/Preconditions" "SIOOBE_FORMATTER" "Ljava/util/function/BiFunction;" fm := Sta.start efm (Or.inl (hsets _ (List.mem_of_getElem? (i := 7) rfl)))
  have hE : EW s #[.int i0, .int i1, .int i2, .int i3, .long i4, .int i5] consts_1 := EW.cons (own_k hw 34 rfl) (by decide) (EW.cons (own_k hw 100 rfl) (by decide) (EW.cons (own_k hw 148 rfl) (by decide) (EW.nil)))
  have hCH : CHv s consts_1 s.vm s.heap := CHv.start hE hcalls.1 (hsets _ (List.mem_of_getElem? (i := 2) rfl)) (own_k hw 23 rfl) (own_k hw 5 rfl)
  obtain ⟨n, o, h1, h2, h3, v, L, rfl, ⟨rfl, N, -⟩, hq⟩ := con_law (l := l) (Z := s) (a0 := _) ⟨hw, hE, S0, hcz, S1, rf⟩ i0 i1 i2 i3 i4 i5 s.heap (ext_refl _) p e ha hc hk s m _ below hf ((Spec.applies_iff_loose hf).mp happ).1 ⟨rfl, State.Warmed39.refl s, rfl, hCH⟩ trivial
  refine ⟨n, _, h1, h2, h3, hpost _ _ _ _ _ _ ⟨Cond.after_iff.mpr rfl, Cond.after_iff.mpr (eq_i res_at (Term.int_eval (1)) rfl), trivial⟩ ⟨hq.2.1, hq.2.2.1, hq.2.2.2.1, (hq.2.2.2.2.sift fun y hy => Or.inr (N y hy)).mono (by decide) (by decide)⟩⟩
theorem main_1_1 : Claimed_1_1 := comes_1 fun _ _ _ _ _ _ h hF => ⟨h.1, hF⟩
theorem main_1_2 : Claimed_1_2 := comes_1 fun _ _ _ _ _ _ h hF => ⟨h.2.1, hF⟩
end Jvm.Pilot.@@N@@
namespace Jvm.Pilot.@@N@@
open Jvm Jvm.ClassFile Sem Op Lib Jvm.Free Jvm.Stand Jvm.Pilot.@@N@@.Jvm.D
/-! MADE BY PROGRAM (witnessworld.py) out of the Statement's table words and the real class files: 29 classes; the members and pool entries that the words name. The judged class is class 1, her method 2. -/
namespace start1
open Jvm.ClassFile
def u (s : String) : CpInfo := .utf8 (stringToUtf16 s)
/-- a pool by its gaps: so many unusable entries, then the entry; so many at the end -/
def gap : Nat → List CpInfo → List CpInfo
  | 0, r => r
  | n + 1, r => .unusable :: gap n r
def poolList (es : List (Nat × CpInfo)) (last : Nat) : List CpInfo := es.foldr (fun e r => gap e.1 (e.2 :: r)) (gap last [])
def pool (es : List (Nat × CpInfo)) (last : Nat) : Array CpInfo := ⟨poolList es last⟩
def fileOf (pool : Array CpInfo) (this : Nat) (attrs : Array Attribute := #[]) (ms : Array MethodInfo := #[]) (fl : Nat := 33) (sup : Nat := 0) (ifs : Array Nat := #[]) (fds : Array FieldInfo := #[]) : ClassFile where
  minorVersion := 0
  majorVersion := 65
  constantPool := pool
  accessFlags := fl
  thisClass := this
  superClass := sup
  interfaces := ifs
  fields := fds
  methods := ms
  attributes := attrs
def plain (name : String) (sup : Option ClassId) : Class where
  name := name
  kind := .ordinary
  loader := none
  accessFlags := 33
  super := sup
  interfaces := #[]
  cf := none
  fields := #[]
  methods := #[]
  instanceTypes := #[]
  staticTypes := #[]
  resolved := #[]
  callSites := []
  init := .initialized
  statics := none
  mirror := none

def pool0 : Array CpInfo := pool [(5, u "<init>"), (0, u "()V"), (1, .class_ 10), (1, u "java/lang/Object"), (85, u "clone"), (0, u "()Ljava/lang/Object;")] 26

def k0c0 : Code := { maxStack := 0, maxLocals := 1, code := object_method_1_code, exceptionTable := #[], attributes := #[] }
def k0m0 : Method := { name := "<init>", desc := "()V", sig := { parameters := [], returnType := none }, accessFlags := 1, code := some k0c0 }
def k0m1 : Method := { name := "clone", desc := "()Ljava/lang/Object;", sig := { parameters := [], returnType := some (.object "java/lang/Object") }, accessFlags := 260, code := none }
/-- java/lang/Object -/
def k0 : Class := { plain "java/lang/Object" none with
  accessFlags := 33
  interfaces := #[]
  cf := some (fileOf pool0 8 #[] #[{ accessFlags := 1, nameIndex := 5, descriptorIndex := 6, attributes := #[] }, { accessFlags := 260, nameIndex := 96, descriptorIndex := 97, attributes := #[] }] 33 0 #[] #[])
  fields := #[]
  methods := #[k0m0, k0m1]
  instanceTypes := #[]
  staticTypes := #[]
  resolved := Array.replicate 124 none
  statics := none }

def pool1 : Array CpInfo := pool [(2, .class_ 4), (1, u "java/lang/Object"), (0, u "<init>"), (0, u "()V"), (0, .string 8), (0, u ""), (0, .methodref 10 11), (0, .class_ 12), (0, .nameAndType 13 14), (0, u "java/lang/String"), (0, u "valueOf"), (0, u "(C)Ljava/lang/String;"), (0, .methodref 10 16), (0, .nameAndType 5 17), (0, u "([C)V"), (0, .methodref 19 20), (0, .class_ 21), (0, .nameAndType 22 23), (0, u "com/example/fritillary/fritillary/GeneratorTableSourcePinLaw"), (0, u "str"), (0, u "(ICC)Ljava/lang/String;"), (0, .class_ 25), (0, u "com/example/fritillary/fritillary/IdGeneration$GeneratorTable"), (0, .methodref 24 27), (0, .nameAndType 5 28), (0, u "(Ljava/lang/String;Ljava/lang/String;Ljava/lang/String;Ljava/lang/String;Ljava/lang/String;JI)V"), (0, .methodref 24 30), (0, .nameAndType 31 32), (0, u "source"), (0, u "()Ljava/lang/String;"), (0, .methodref 10 34), (0, .nameAndType 35 36), (0, u "length"), (0, u "()I"), (0, .methodref 10 38), (0, .nameAndType 39 40), (0, u "charAt"), (0, u "(I)C"), (3, u "law"), (0, u "(IIIIJI)Z")] 6

def k1m0 : Method := { name := "<init>", desc := "()V", sig := { parameters := [], returnType := none }, accessFlags := 1, code := none }
def k1c1 : Code := { maxStack := 6, maxLocals := 3, code := method_2_code, exceptionTable := #[], attributes := #[] }
def k1m1 : Method := { name := "str", desc := "(ICC)Ljava/lang/String;", sig := { parameters := [.int, .char, .char], returnType := some (.object "java/lang/String") }, accessFlags := 10, code := some k1c1 }
def k1c2 : Code := { maxStack := 10, maxLocals := 23, code := code, exceptionTable := #[], attributes := #[] }
def k1m2 : Method := { name := "law", desc := "(IIIIJI)Z", sig := { parameters := [.int, .int, .int, .int, .long, .int], returnType := some .boolean }, accessFlags := 9, code := some k1c2 }
/-- com/example/fritillary/fritillary/GeneratorTableSourcePinLaw -/
def k1 : Class := { plain "com/example/fritillary/fritillary/GeneratorTableSourcePinLaw" (some 0) with
  accessFlags := 49
  interfaces := #[]
  cf := some (fileOf pool1 19 #[] #[{ accessFlags := 1, nameIndex := 5, descriptorIndex := 6, attributes := #[] }, { accessFlags := 10, nameIndex := 22, descriptorIndex := 23, attributes := #[] }, { accessFlags := 9, nameIndex := 44, descriptorIndex := 45, attributes := #[] }] 49 2 #[] #[])
  fields := #[]
  methods := #[k1m0, k1m1, k1m2]
  instanceTypes := #[]
  staticTypes := #[]
  resolved := Array.replicate 52 none
  statics := none }

def pool2 : Array CpInfo := pool [(1, .class_ 2), (0, u "java/io/Serializable"), (0, .class_ 4), (0, u "java/lang/Object")] 2

/-- java/io/Serializable -/
def k2 : Class := { plain "java/io/Serializable" (some 0) with
  accessFlags := 1537
  interfaces := #[]
  cf := some (fileOf pool2 1 #[] #[] 1537 3 #[] #[])
  fields := #[]
  methods := #[]
  instanceTypes := #[]
  staticTypes := #[]
  resolved := Array.replicate 7 none
  statics := none }

def pool3 : Array CpInfo := pool [(1, .class_ 2), (0, u "java/lang/Comparable"), (0, .class_ 4), (0, u "java/lang/Object")] 7

/-- java/lang/Comparable -/
def k3 : Class := { plain "java/lang/Comparable" (some 0) with
  accessFlags := 1537
  interfaces := #[]
  cf := some (fileOf pool3 1 #[] #[] 1537 3 #[] #[])
  fields := #[]
  methods := #[]
  instanceTypes := #[]
  staticTypes := #[]
  resolved := Array.replicate 12 none
  statics := none }

def pool4 : Array CpInfo := pool [(2, .class_ 4), (1, u "java/lang/CharSequence"), (42, .class_ 48), (0, u "java/lang/CharSequence$1CodePointIterator"), (10, .class_ 60), (0, u "java/lang/CharSequence$1CharIterator"), (5, .class_ 67), (0, u "java/lang/Object")] 63

/-- java/lang/CharSequence -/
def k4 : Class := { plain "java/lang/CharSequence" (some 0) with
  accessFlags := 1537
  interfaces := #[]
  cf := some (fileOf pool4 2 #[.nestMembers #[47, 59]] #[] 1537 66 #[] #[])
  fields := #[]
  methods := #[]
  instanceTypes := #[]
  staticTypes := #[]
  resolved := Array.replicate 131 none
  statics := none }

def pool5 : Array CpInfo := pool [(1, .class_ 2), (0, u "java/lang/constant/Constable"), (0, .class_ 4), (0, u "java/lang/Object")] 6

/-- java/lang/constant/Constable -/
def k5 : Class := { plain "java/lang/constant/Constable" (some 0) with
  accessFlags := 1537
  interfaces := #[]
  cf := some (fileOf pool5 1 #[] #[] 1537 3 #[] #[])
  fields := #[]
  methods := #[]
  instanceTypes := #[]
  staticTypes := #[]
  resolved := Array.replicate 11 none
  statics := none }

def pool6 : Array CpInfo := pool [(1, .class_ 2), (0, u "java/lang/constant/ConstantDesc"), (0, .class_ 4), (0, u "java/lang/Object")] 32

/-- java/lang/constant/ConstantDesc -/
def k6 : Class := { plain "java/lang/constant/ConstantDesc" (some 0) with
  accessFlags := 1537
  interfaces := #[]
  cf := some (fileOf pool6 1 #[] #[] 1537 3 #[] #[])
  fields := #[]
  methods := #[]
  instanceTypes := #[]
  staticTypes := #[]
  resolved := Array.replicate 37 none
  statics := none }

def pool7 : Array CpInfo := pool [(1, .methodref 2 3), (0, .class_ 4), (0, .nameAndType 5 6), (0, u "java/lang/Object"), (0, u "<init>"), (0, u "()V"), (2, .fieldref 10 11), (0, .class_ 12), (0, .nameAndType 13 14), (0, u "java/lang/String"), (0, u "value"), (0, u "[B"), (0, .fieldref 10 16), (0, .nameAndType 17 18), (0, u "coder"), (0, u "B"), (2, u "hash"), (0, u "I"), (2, u "hashIsZero"), (0, u "Z"), (0, .methodref 10 28), (0, .nameAndType 5 29), (0, u "([CIILjava/lang/Void;)V"), (8, .fieldref 10 39), (0, .nameAndType 40 26), (0, u "COMPACT_STRINGS"), (1, .class_ 44), (1, u "java/lang/StringUTF16"), (0, u "compress"), (1, .methodref 42 48), (0, .nameAndType 49 50), (0, u "coderFromArrayLen"), (0, u "([BI)B"), (2, u "toBytes"), (0, .methodref 55 56), (0, .class_ 57), (0, .nameAndType 58 59), (0, u "java/util/Arrays"), (0, u "copyOfRange"), (0, u "([BII)[B"), (47, .class_ 109), (1, u "java/lang/StringLatin1"), (32, u "()Z"), (34, .methodref 42 178), (0, .nameAndType 45 179), (0, u "([CII)[B"), (13, .class_ 195), (1, u "java/lang/System"), (13, .methodref 10 210), (0, .nameAndType 5 211), (0, u "([BB)V"), (0, .methodref 193 213), (0, .nameAndType 214 215), (0, u "arraycopy"), (0, u "(Ljava/lang/Object;ILjava/lang/Object;II)V"), (118, u "()I"), (0, .methodref 10 336), (0, .nameAndType 17 337), (0, u "()B"), (2, u "()[B"), (22, u "([BI)C"), (5, u "(C)Z"), (21, u "(II)V"), (35, u "(I)C"), (61, .methodref 10 490), (0, .nameAndType 5 491), (0, u "(Ljava/lang/AbstractStringBuilder;Ljava/lang/Void;)V"), (0, .methodref 10 493), (0, .nameAndType 494 142), (0, u "isLatin1"), (0, .methodref 107 496), (0, .nameAndType 497 363), (0, u "charAt"), (3, u "checkIndex"), (4, .nameAndType 507 334), (0, u "length"), (24, u "getBytes"), (16, .methodref 550 506), (0, .class_ 551), (0, u "java/lang/AbstractStringBuilder"), (0, .methodref 550 553), (0, .nameAndType 554 340), (0, u "getValue"), (20, .class_ 576), (0, u "java/lang/CharSequence"), (22, u "CASE_INSENSITIVE_ORDER"), (0, u "Ljava/util/Comparator;"), (181, u "valueOf"), (0, u "(C)Ljava/lang/String;"), (37, u "([BIB)V"), (188, u "([C)V"), (4, .methodref 107 1016), (0, .nameAndType 1017 369), (0, u "canEncode"), (0, .methodref 107 1019), (0, .nameAndType 53 1020), (0, u "(C)[B"), (26, .methodref 550 493), (5, .fieldref 1054 1055), (0, .class_ 1056), (0, .nameAndType 1057 1058), (0, u "jdk/internal/util/Preconditions"), (0, u "SIOOBE_FORMATTER"), (0, u "Ljava/util/function/BiFunction;"), (0, .methodref 1054 1060), (0, .nameAndType 501 1061), (0, u "(IILjava/util/function/BiFunction;)I"), (39, u "serialPersistentFields"), (0, u "[Ljava/io/ObjectStreamField;"), (0, .class_ 1104), (0, u "java/lang/String$CaseInsensitiveComparator"), (1, .class_ 1107), (0, u "java/io/Serializable"), (0, .class_ 1109), (0, u "java/lang/Comparable"), (0, .class_ 1111), (0, u "java/lang/constant/Constable"), (0, .class_ 1113), (0, u "java/lang/constant/ConstantDesc"), (2, u "serialVersionUID"), (0, u "J"), (3, u "REPL"), (0, u "C"), (2, u "LATIN1"), (1, u "UTF16"), (105, u "(Ljava/lang/StringBuilder;)V")] 217

def k7m0 : Method := { name := "<init>", desc := "()V", sig := { parameters := [], returnType := none }, accessFlags := 1, code := none }
def k7c1 : Code := { maxStack := 5, maxLocals := 2, code := jdk_42_method_3_code, exceptionTable := #[], attributes := #[] }
def k7m1 : Method := { name := "<init>", desc := "([C)V", sig := { parameters := [(.array .char)], returnType := none }, accessFlags := 1, code := some k7c1 }
def k7c2 : Code := { maxStack := 3, maxLocals := 2, code := jdk_42_method_53_code, exceptionTable := #[], attributes := #[] }
def k7m2 : Method := { name := "<init>", desc := "(Ljava/lang/StringBuilder;)V", sig := { parameters := [(.object "java/lang/StringBuilder")], returnType := none }, accessFlags := 1, code := some k7c2 }
def k7c3 : Code := { maxStack := 2, maxLocals := 1, code := jdk_42_method_54_code, exceptionTable := #[], attributes := #[] }
def k7m3 : Method := { name := "length", desc := "()I", sig := { parameters := [], returnType := some .int }, accessFlags := 1, code := some k7c3 }
def k7c4 : Code := { maxStack := 2, maxLocals := 2, code := jdk_42_method_56_code, exceptionTable := #[], attributes := #[] }
def k7m4 : Method := { name := "charAt", desc := "(I)C", sig := { parameters := [.int], returnType := some .char }, accessFlags := 1, code := some k7c4 }
def k7c5 : Code := { maxStack := 4, maxLocals := 1, code := jdk_42_method_139_code, exceptionTable := #[], attributes := #[] }
def k7m5 : Method := { name := "valueOf", desc := "(C)Ljava/lang/String;", sig := { parameters := [.char], returnType := some (.object "java/lang/String") }, accessFlags := 9, code := some k7c5 }
def k7c6 : Code := { maxStack := 5, maxLocals := 4, code := jdk_42_method_147_code, exceptionTable := #[], attributes := #[] }
def k7m6 : Method := { name := "getBytes", desc := "([BIB)V", sig := { parameters := [(.array .byte), .int, .byte], returnType := none }, accessFlags := 0, code := some k7c6 }
def k7c7 : Code := { maxStack := 4, maxLocals := 6, code := jdk_42_method_149_code, exceptionTable := #[], attributes := #[] }
def k7m7 : Method := { name := "<init>", desc := "([CIILjava/lang/Void;)V", sig := { parameters := [(.array .char), .int, .int, (.object "java/lang/Void")], returnType := none }, accessFlags := 2, code := some k7c7 }
def k7c8 : Code := { maxStack := 5, maxLocals := 5, code := jdk_42_method_150_code, exceptionTable := #[], attributes := #[] }
def k7m8 : Method := { name := "<init>", desc := "(Ljava/lang/AbstractStringBuilder;Ljava/lang/Void;)V", sig := { parameters := [(.object "java/lang/AbstractStringBuilder"), (.object "java/lang/Void")], returnType := none }, accessFlags := 0, code := some k7c8 }
def k7c9 : Code := { maxStack := 2, maxLocals := 3, code := jdk_42_method_151_code, exceptionTable := #[], attributes := #[] }
def k7m9 : Method := { name := "<init>", desc := "([BB)V", sig := { parameters := [(.array .byte), .byte], returnType := none }, accessFlags := 0, code := some k7c9 }
def k7c10 : Code := { maxStack := 1, maxLocals := 1, code := jdk_42_method_152_code, exceptionTable := #[], attributes := #[] }
def k7m10 : Method := { name := "coder", desc := "()B", sig := { parameters := [], returnType := some .byte }, accessFlags := 0, code := some k7c10 }
def k7c11 : Code := { maxStack := 1, maxLocals := 1, code := jdk_42_method_154_code, exceptionTable := #[], attributes := #[] }
def k7m11 : Method := { name := "isLatin1", desc := "()Z", sig := { parameters := [], returnType := some .boolean }, accessFlags := 0, code := some k7c11 }
def k7c12 : Code := { maxStack := 3, maxLocals := 2, code := jdk_42_method_155_code, exceptionTable := #[], attributes := #[] }
def k7m12 : Method := { name := "checkIndex", desc := "(II)V", sig := { parameters := [.int, .int], returnType := none }, accessFlags := 8, code := some k7c12 }
/-- java/lang/String -/
def k7 : Class := { plain "java/lang/String" (some 0) with
  accessFlags := 49
  interfaces := #[2, 3, 4, 5, 6]
  cf := some (fileOf pool7 10 #[.nestMembers #[1103]] #[{ accessFlags := 1, nameIndex := 5, descriptorIndex := 6, attributes := #[] }, { accessFlags := 1, nameIndex := 5, descriptorIndex := 1010, attributes := #[] }, { accessFlags := 1, nameIndex := 5, descriptorIndex := 1233, attributes := #[] }, { accessFlags := 1, nameIndex := 507, descriptorIndex := 334, attributes := #[] }, { accessFlags := 1, nameIndex := 497, descriptorIndex := 427, attributes := #[] }, { accessFlags := 9, nameIndex := 782, descriptorIndex := 783, attributes := #[] }, { accessFlags := 0, nameIndex := 532, descriptorIndex := 821, attributes := #[] }, { accessFlags := 2, nameIndex := 5, descriptorIndex := 29, attributes := #[] }, { accessFlags := 0, nameIndex := 5, descriptorIndex := 491, attributes := #[] }, { accessFlags := 0, nameIndex := 5, descriptorIndex := 211, attributes := #[] }, { accessFlags := 0, nameIndex := 17, descriptorIndex := 337, attributes := #[] }, { accessFlags := 0, nameIndex := 494, descriptorIndex := 142, attributes := #[] }, { accessFlags := 8, nameIndex := 501, descriptorIndex := 391, attributes := #[] }] 49 2 #[1106, 1108, 575, 1110, 1112] #[{ accessFlags := 18, nameIndex := 13, descriptorIndex := 14, attributes := #[] }, { accessFlags := 18, nameIndex := 17, descriptorIndex := 18, attributes := #[] }, { accessFlags := 2, nameIndex := 21, descriptorIndex := 22, attributes := #[] }, { accessFlags := 2, nameIndex := 25, descriptorIndex := 26, attributes := #[] }, { accessFlags := 26, nameIndex := 1116, descriptorIndex := 1117, attributes := #[] }, { accessFlags := 24, nameIndex := 40, descriptorIndex := 26, attributes := #[] }, { accessFlags := 26, nameIndex := 1101, descriptorIndex := 1102, attributes := #[] }, { accessFlags := 26, nameIndex := 1121, descriptorIndex := 1122, attributes := #[] }, { accessFlags := 25, nameIndex := 599, descriptorIndex := 600, attributes := #[] }, { accessFlags := 24, nameIndex := 1125, descriptorIndex := 18, attributes := #[] }, { accessFlags := 24, nameIndex := 1127, descriptorIndex := 18, attributes := #[] }])
  fields := #[{ name := "value", type := (.array .byte), accessFlags := 18, slot := 0, constantValue := 0 }, { name := "coder", type := .byte, accessFlags := 18, slot := 1, constantValue := 0 }, { name := "hash", type := .int, accessFlags := 2, slot := 2, constantValue := 0 }, { name := "hashIsZero", type := .boolean, accessFlags := 2, slot := 3, constantValue := 0 }, { name := "serialVersionUID", type := .long, accessFlags := 26, slot := 0, constantValue := 0 }, { name := "COMPACT_STRINGS", type := .boolean, accessFlags := 24, slot := 1, constantValue := 0 }, { name := "serialPersistentFields", type := (.array (.object "java/io/ObjectStreamField")), accessFlags := 26, slot := 2, constantValue := 0 }, { name := "REPL", type := .char, accessFlags := 26, slot := 3, constantValue := 0 }, { name := "CASE_INSENSITIVE_ORDER", type := (.object "java/util/Comparator"), accessFlags := 25, slot := 4, constantValue := 0 }, { name := "LATIN1", type := .byte, accessFlags := 24, slot := 5, constantValue := 0 }, { name := "UTF16", type := .byte, accessFlags := 24, slot := 6, constantValue := 0 }]
  methods := #[k7m0, k7m1, k7m2, k7m3, k7m4, k7m5, k7m6, k7m7, k7m8, k7m9, k7m10, k7m11, k7m12]
  instanceTypes := #[(.array .byte), .byte, .int, .boolean]
  staticTypes := #[.long, .boolean, (.array (.object "java/io/ObjectStreamField")), .char, (.object "java/util/Comparator"), .byte, .byte]
  resolved := Array.replicate 1451 none
  statics := some 0 }

def pool8 : Array CpInfo := pool [(6, .class_ 8), (1, u "java/lang/Object"), (0, u "<init>"), (0, u "()V"), (1, .class_ 14), (1, u "java/lang/StringUTF16"), (31, u "$assertionsDisabled"), (0, u "Z"), (13, u "HI_BYTE_SHIFT"), (0, u "I"), (2, u "LO_BYTE_SHIFT"), (49, .methodref 12 116), (0, .nameAndType 117 118), (0, u "compress"), (0, u "([CI[BII)I"), (3, u "([CII)[B"), (138, u "coderFromArrayLen"), (0, u "([BI)B"), (106, .class_ 371), (1, u "java/lang/StringUTF16$LinesSpliterator"), (58, u "MAX_LENGTH"), (196, .class_ 628), (0, u "java/lang/StringUTF16$CodePointsSpliterator"), (0, .class_ 630), (0, u "java/lang/StringUTF16$CharsSpliterator")] 4

def k8m0 : Method := { name := "<init>", desc := "()V", sig := { parameters := [], returnType := none }, accessFlags := 0, code := none }
def k8c1 : Code := { maxStack := 2, maxLocals := 2, code := jdk_52_method_15_code, exceptionTable := #[], attributes := #[] }
def k8m1 : Method := { name := "coderFromArrayLen", desc := "([BI)B", sig := { parameters := [(.array .byte), .int], returnType := some .byte }, accessFlags := 8, code := some k8c1 }
def k8c2 : Code := { maxStack := 5, maxLocals := 6, code := jdk_52_method_16_code, exceptionTable := #[], attributes := #[] }
def k8m2 : Method := { name := "compress", desc := "([CII)[B", sig := { parameters := [(.array .char), .int, .int], returnType := some (.array .byte) }, accessFlags := 9, code := some k8c2 }
def k8c3 : Code := { maxStack := 3, maxLocals := 7, code := jdk_52_method_21_code, exceptionTable := #[], attributes := #[] }
def k8m3 : Method := { name := "compress", desc := "([CI[BII)I", sig := { parameters := [(.array .char), .int, (.array .byte), .int, .int], returnType := some .int }, accessFlags := 9, code := some k8c3 }
/-- java/lang/StringUTF16 -/
def k8 : Class := { plain "java/lang/StringUTF16" (some 0) with
  accessFlags := 48
  interfaces := #[]
  cf := some (fileOf pool8 12 #[.nestMembers #[627, 629, 369]] #[{ accessFlags := 0, nameIndex := 9, descriptorIndex := 10, attributes := #[] }, { accessFlags := 8, nameIndex := 261, descriptorIndex := 262, attributes := #[] }, { accessFlags := 9, nameIndex := 117, descriptorIndex := 122, attributes := #[] }, { accessFlags := 9, nameIndex := 117, descriptorIndex := 118, attributes := #[] }] 48 6 #[] #[{ accessFlags := 26, nameIndex := 61, descriptorIndex := 62, attributes := #[] }, { accessFlags := 26, nameIndex := 65, descriptorIndex := 62, attributes := #[] }, { accessFlags := 24, nameIndex := 430, descriptorIndex := 62, attributes := #[] }, { accessFlags := 4120, nameIndex := 46, descriptorIndex := 47, attributes := #[] }])
  fields := #[{ name := "HI_BYTE_SHIFT", type := .int, accessFlags := 26, slot := 0, constantValue := 0 }, { name := "LO_BYTE_SHIFT", type := .int, accessFlags := 26, slot := 1, constantValue := 0 }, { name := "MAX_LENGTH", type := .int, accessFlags := 24, slot := 2, constantValue := 0 }, { name := "$assertionsDisabled", type := .boolean, accessFlags := 4120, slot := 3, constantValue := 0 }]
  methods := #[k8m0, k8m1, k8m2, k8m3]
  instanceTypes := #[]
  staticTypes := #[.int, .int, .int, .boolean]
  resolved := Array.replicate 635 none
  statics := none }

def pool9 : Array CpInfo := pool [(1, .class_ 2), (0, u "java/lang/String"), (1, .class_ 6), (1, u "java/lang/Object"), (0, u "<init>"), (0, u "()V"), (0, .methodref 1 10), (0, .nameAndType 11 12), (0, u "checkIndex"), (0, u "(II)V"), (1, .class_ 16), (1, u "java/lang/StringLatin1"), (36, u "([BI)C"), (36, u "canEncode"), (14, u "(C)Z"), (15, u "$assertionsDisabled"), (0, u "Z"), (98, .class_ 223), (1, u "java/lang/StringLatin1$LinesSpliterator"), (28, u "charAt"), (127, u "toBytes"), (1, u "(C)[B"), (7, .class_ 391), (0, u "java/lang/StringLatin1$CharsSpliterator")] 3

def k9m0 : Method := { name := "<init>", desc := "()V", sig := { parameters := [], returnType := none }, accessFlags := 0, code := none }
def k9c1 : Code := { maxStack := 2, maxLocals := 2, code := jdk_43_method_2_code, exceptionTable := #[], attributes := #[] }
def k9m1 : Method := { name := "charAt", desc := "([BI)C", sig := { parameters := [(.array .byte), .int], returnType := some .char }, accessFlags := 9, code := some k9c1 }
def k9c2 : Code := { maxStack := 2, maxLocals := 1, code := jdk_43_method_3_code, exceptionTable := #[], attributes := #[] }
def k9m2 : Method := { name := "canEncode", desc := "(C)Z", sig := { parameters := [.char], returnType := some .boolean }, accessFlags := 9, code := some k9c2 }
def k9c3 : Code := { maxStack := 4, maxLocals := 1, code := jdk_43_method_46_code, exceptionTable := #[], attributes := #[] }
def k9m3 : Method := { name := "toBytes", desc := "(C)[B", sig := { parameters := [.char], returnType := some (.array .byte) }, accessFlags := 9, code := some k9c3 }
/-- java/lang/StringLatin1 -/
def k9 : Class := { plain "java/lang/StringLatin1" (some 0) with
  accessFlags := 48
  interfaces := #[]
  cf := some (fileOf pool9 14 #[.nestMembers #[390, 221]] #[{ accessFlags := 0, nameIndex := 7, descriptorIndex := 8, attributes := #[] }, { accessFlags := 9, nameIndex := 252, descriptorIndex := 53, attributes := #[] }, { accessFlags := 9, nameIndex := 90, descriptorIndex := 105, attributes := #[] }, { accessFlags := 9, nameIndex := 380, descriptorIndex := 382, attributes := #[] }] 48 4 #[] #[{ accessFlags := 4120, nameIndex := 121, descriptorIndex := 122, attributes := #[] }])
  fields := #[{ name := "$assertionsDisabled", type := .boolean, accessFlags := 4120, slot := 0, constantValue := 0 }]
  methods := #[k9m0, k9m1, k9m2, k9m3]
  instanceTypes := #[]
  staticTypes := #[.boolean]
  resolved := Array.replicate 395 none
  statics := none }

def pool10 : Array CpInfo := pool [(1, .methodref 2 3), (0, .class_ 4), (0, .nameAndType 5 6), (0, u "java/lang/Object"), (0, u "<init>"), (0, u "()V"), (0, .class_ 8), (0, u "java/lang/Record")] 13

def k10c0 : Code := { maxStack := 1, maxLocals := 1, code := jdk_30_method_1_code, exceptionTable := #[], attributes := #[] }
def k10m0 : Method := { name := "<init>", desc := "()V", sig := { parameters := [], returnType := none }, accessFlags := 4, code := some k10c0 }
/-- java/lang/Record -/
def k10 : Class := { plain "java/lang/Record" (some 0) with
  accessFlags := 1057
  interfaces := #[]
  cf := some (fileOf pool10 7 #[] #[{ accessFlags := 4, nameIndex := 5, descriptorIndex := 6, attributes := #[] }] 1057 2 #[] #[])
  fields := #[]
  methods := #[k10m0]
  instanceTypes := #[]
  staticTypes := #[]
  resolved := Array.replicate 22 none
  statics := none }

def pool11 : Array CpInfo := pool [(1, .class_ 2), (0, u "com/example/fritillary/fritillary/IdGeneration"), (0, .class_ 4), (0, u "java/lang/Object"), (3, .class_ 9), (0, u "com/example/fritillary/fritillary/IdGeneration$GeneratorTable"), (0, .class_ 11), (0, u "com/example/fritillary/fritillary/IdGeneration$Sequence"), (0, .class_ 13), (0, u "com/example/fritillary/fritillary/IdGeneration$Pooled"), (0, .class_ 15), (0, u "com/example/fritillary/fritillary/IdGeneration$RandomUuid"), (0, .class_ 17), (0, u "com/example/fritillary/fritillary/IdGeneration$Assigned"), (0, .class_ 19), (0, u "com/example/fritillary/fritillary/IdGeneration$Identity")] 8

/-- com/example/fritillary/fritillary/IdGeneration -/
def k11 : Class := { plain "com/example/fritillary/fritillary/IdGeneration" (some 0) with
  accessFlags := 1536
  interfaces := #[]
  cf := some (fileOf pool11 1 #[.nestMembers #[8, 10, 12, 14, 16, 18]] #[] 1536 3 #[] #[])
  fields := #[]
  methods := #[]
  instanceTypes := #[]
  staticTypes := #[]
  resolved := Array.replicate 28 none
  statics := none }

def pool12 : Array CpInfo := pool [(1, .class_ 2), (0, u "com/example/fritillary/fritillary/IdGeneration$Pooled"), (0, .class_ 4), (0, u "java/lang/Object"), (0, .class_ 6), (0, u "com/example/fritillary/fritillary/IdGeneration")] 18

/-- com/example/fritillary/fritillary/IdGeneration$Pooled -/
def k12 : Class := { plain "com/example/fritillary/fritillary/IdGeneration$Pooled" (some 0) with
  accessFlags := 1537
  interfaces := #[11]
  cf := some (fileOf pool12 1 #[.nestHost 5] #[] 1537 3 #[5] #[])
  fields := #[]
  methods := #[]
  instanceTypes := #[]
  staticTypes := #[]
  resolved := Array.replicate 25 none
  statics := none }

def pool13 : Array CpInfo := pool [(1, .methodref 2 3), (0, .class_ 4), (0, .nameAndType 5 6), (0, u "java/lang/Record"), (0, u "<init>"), (0, u "()V"), (0, .fieldref 8 9), (0, .class_ 10), (0, .nameAndType 11 12), (0, u "com/example/fritillary/fritillary/IdGeneration$GeneratorTable"), (0, u "table"), (0, u "Ljava/lang/String;"), (0, .fieldref 8 14), (0, .nameAndType 15 12), (0, u "canonicalTable"), (0, .fieldref 8 17), (0, .nameAndType 18 12), (0, u "keyColumn"), (0, .fieldref 8 20), (0, .nameAndType 21 12), (0, u "valueColumn"), (0, .fieldref 8 23), (0, .nameAndType 24 12), (0, u "key"), (0, .fieldref 8 26), (0, .nameAndType 27 28), (0, u "first"), (0, u "J"), (0, .fieldref 8 30), (0, .nameAndType 31 32), (0, u "allocationSize"), (0, u "I"), (0, .class_ 34), (0, u "java/lang/StringBuilder"), (0, .methodref 33 3), (0, .string 37), (0, u "row '"), (0, .methodref 33 39), (0, .nameAndType 40 41), (0, u "append"), (0, u "(Ljava/lang/String;)Ljava/lang/StringBuilder;"), (0, .string 43), (0, u "' of table "), (0, .methodref 33 45), (0, .nameAndType 46 47), (0, u "toString"), (0, u "()Ljava/lang/String;"), (11, .class_ 60), (0, u "com/example/fritillary/fritillary/IdGeneration$Pooled"), (0, u "(Ljava/lang/String;Ljava/lang/String;Ljava/lang/String;Ljava/lang/String;Ljava/lang/String;JI)V"), (3, u "source"), (6, .class_ 73), (0, u "com/example/fritillary/fritillary/IdGeneration")] 26

def k13c0 : Code := { maxStack := 3, maxLocals := 9, code := prog_14_method_1_code, exceptionTable := #[], attributes := #[] }
def k13m0 : Method := { name := "<init>", desc := "(Ljava/lang/String;Ljava/lang/String;Ljava/lang/String;Ljava/lang/String;Ljava/lang/String;JI)V", sig := { parameters := [(.object "java/lang/String"), (.object "java/lang/String"), (.object "java/lang/String"), (.object "java/lang/String"), (.object "java/lang/String"), .long, .int], returnType := none }, accessFlags := 1, code := some k13c0 }
def k13c1 : Code := { maxStack := 2, maxLocals := 1, code := prog_14_method_2_code, exceptionTable := #[], attributes := #[] }
def k13m1 : Method := { name := "source", desc := "()Ljava/lang/String;", sig := { parameters := [], returnType := some (.object "java/lang/String") }, accessFlags := 1, code := some k13c1 }
/-- com/example/fritillary/fritillary/IdGeneration$GeneratorTable -/
def k13 : Class := { plain "com/example/fritillary/fritillary/IdGeneration$GeneratorTable" (some 10) with
  accessFlags := 49
  interfaces := #[12]
  cf := some (fileOf pool13 8 #[.nestHost 72] #[{ accessFlags := 1, nameIndex := 5, descriptorIndex := 61, attributes := #[] }, { accessFlags := 1, nameIndex := 65, descriptorIndex := 47, attributes := #[] }] 49 2 #[59] #[{ accessFlags := 18, nameIndex := 11, descriptorIndex := 12, attributes := #[] }, { accessFlags := 18, nameIndex := 15, descriptorIndex := 12, attributes := #[] }, { accessFlags := 18, nameIndex := 18, descriptorIndex := 12, attributes := #[] }, { accessFlags := 18, nameIndex := 21, descriptorIndex := 12, attributes := #[] }, { accessFlags := 18, nameIndex := 24, descriptorIndex := 12, attributes := #[] }, { accessFlags := 18, nameIndex := 27, descriptorIndex := 28, attributes := #[] }, { accessFlags := 18, nameIndex := 31, descriptorIndex := 32, attributes := #[] }])
  fields := #[{ name := "table", type := (.object "java/lang/String"), accessFlags := 18, slot := 0, constantValue := 0 }, { name := "canonicalTable", type := (.object "java/lang/String"), accessFlags := 18, slot := 1, constantValue := 0 }, { name := "keyColumn", type := (.object "java/lang/String"), accessFlags := 18, slot := 2, constantValue := 0 }, { name := "valueColumn", type := (.object "java/lang/String"), accessFlags := 18, slot := 3, constantValue := 0 }, { name := "key", type := (.object "java/lang/String"), accessFlags := 18, slot := 4, constantValue := 0 }, { name := "first", type := .long, accessFlags := 18, slot := 5, constantValue := 0 }, { name := "allocationSize", type := .int, accessFlags := 18, slot := 6, constantValue := 0 }]
  methods := #[k13m0, k13m1]
  instanceTypes := #[(.object "java/lang/String"), (.object "java/lang/String"), (.object "java/lang/String"), (.object "java/lang/String"), (.object "java/lang/String"), .long, .int]
  staticTypes := #[]
  resolved := Array.replicate 100 none
  statics := none }

def pool14 : Array CpInfo := pool [(1, .class_ 2), (0, u "java/lang/Appendable"), (0, .class_ 4), (0, u "java/lang/Object")] 9

/-- java/lang/Appendable -/
def k14 : Class := { plain "java/lang/Appendable" (some 0) with
  accessFlags := 1537
  interfaces := #[]
  cf := some (fileOf pool14 1 #[] #[] 1537 3 #[] #[])
  fields := #[]
  methods := #[]
  instanceTypes := #[]
  staticTypes := #[]
  resolved := Array.replicate 14 none
  statics := none }

def pool15 : Array CpInfo := pool [(1, .class_ 2), (0, u "java/lang/String"), (0, .methodref 4 5), (0, .class_ 6), (0, .nameAndType 7 8), (0, u "java/lang/Object"), (0, u "<init>"), (0, u "()V"), (1, .class_ 12), (1, u "java/lang/AbstractStringBuilder"), (0, u "EMPTYVALUE"), (0, u "[B"), (0, .fieldref 10 16), (0, .nameAndType 17 14), (0, u "value"), (0, .fieldref 1 19), (0, .nameAndType 20 21), (0, u "COMPACT_STRINGS"), (0, u "Z"), (0, .fieldref 10 23), (0, .nameAndType 24 25), (0, u "coder"), (0, u "B"), (6, .methodref 1 33), (0, .nameAndType 34 35), (0, u "length"), (0, u "()I"), (3, .integer 2147483647), (0, .methodref 1 41), (0, .nameAndType 24 42), (0, u "()B"), (2, u "append"), (0, u "(Ljava/lang/String;)Ljava/lang/AbstractStringBuilder;"), (1, .class_ 49), (0, u "java/lang/CharSequence"), (19, u "(Ljava/lang/String;)V"), (5, u "maybeLatin1"), (3, .fieldref 10 80), (0, .nameAndType 81 82), (0, u "count"), (0, u "I"), (2, u "isLatin1"), (0, u "()Z"), (13, .methodref 10 101), (0, .nameAndType 102 103), (0, u "ensureCapacityInternal"), (0, u "(I)V"), (0, .methodref 10 105), (0, .nameAndType 106 107), (0, u "newCapacity"), (0, u "(I)I"), (0, .methodref 109 110), (0, .class_ 111), (0, .nameAndType 112 113), (0, u "java/util/Arrays"), (0, u "copyOf"), (0, u "([BI)[B"), (0, .methodref 115 116), (0, .class_ 117), (0, .nameAndType 118 119), (0, u "jdk/internal/util/ArraysSupport"), (0, u "newLength"), (0, u "(III)I"), (88, .methodref 10 209), (0, .nameAndType 210 211), (0, u "putStringAt"), (0, u "(ILjava/lang/String;)V"), (5, u "inflateIfNeededFor"), (2, .nameAndType 221 222), (0, u "getBytes"), (0, u "([BIB)V"), (174, .methodref 10 398), (0, .nameAndType 217 69), (0, .methodref 1 220), (3, u "()[B"), (40, .class_ 445), (0, u "java/lang/Appendable"), (106, u "getValue")] 56

def k15m0 : Method := { name := "<init>", desc := "()V", sig := { parameters := [], returnType := none }, accessFlags := 0, code := none }
def k15c1 : Code := { maxStack := 2, maxLocals := 2, code := jdk_68_method_2_code, exceptionTable := #[], attributes := #[] }
def k15m1 : Method := { name := "<init>", desc := "(I)V", sig := { parameters := [.int], returnType := none }, accessFlags := 0, code := some k15c1 }
def k15c2 : Code := { maxStack := 1, maxLocals := 1, code := jdk_68_method_6_code, exceptionTable := #[], attributes := #[] }
def k15m2 : Method := { name := "length", desc := "()I", sig := { parameters := [], returnType := some .int }, accessFlags := 1, code := some k15c2 }
def k15c3 : Code := { maxStack := 4, maxLocals := 3, code := jdk_68_method_9_code, exceptionTable := #[], attributes := #[] }
def k15m3 : Method := { name := "ensureCapacityInternal", desc := "(I)V", sig := { parameters := [.int], returnType := none }, accessFlags := 2, code := some k15c3 }
def k15c4 : Code := { maxStack := 5, maxLocals := 6, code := jdk_68_method_10_code, exceptionTable := #[], attributes := #[] }
def k15m4 : Method := { name := "newCapacity", desc := "(I)I", sig := { parameters := [.int], returnType := some .int }, accessFlags := 2, code := some k15c4 }
def k15c5 : Code := { maxStack := 3, maxLocals := 3, code := jdk_68_method_22_code, exceptionTable := #[], attributes := #[] }
def k15m5 : Method := { name := "append", desc := "(Ljava/lang/String;)Ljava/lang/AbstractStringBuilder;", sig := { parameters := [(.object "java/lang/String")], returnType := some (.object "java/lang/AbstractStringBuilder") }, accessFlags := 1, code := some k15c5 }
def k15c6 : Code := { maxStack := 1, maxLocals := 1, code := jdk_68_method_64_code, exceptionTable := #[], attributes := #[] }
def k15m6 : Method := { name := "getValue", desc := "()[B", sig := { parameters := [], returnType := some (.array .byte) }, accessFlags := 16, code := some k15c6 }
def k15c7 : Code := { maxStack := 1, maxLocals := 1, code := jdk_68_method_68_code, exceptionTable := #[], attributes := #[] }
def k15m7 : Method := { name := "isLatin1", desc := "()Z", sig := { parameters := [], returnType := some .boolean }, accessFlags := 16, code := some k15c7 }
def k15c8 : Code := { maxStack := 2, maxLocals := 2, code := jdk_68_method_71_code, exceptionTable := #[], attributes := #[] }
def k15m8 : Method := { name := "inflateIfNeededFor", desc := "(Ljava/lang/String;)V", sig := { parameters := [(.object "java/lang/String")], returnType := none }, accessFlags := 2, code := some k15c8 }
def k15c9 : Code := { maxStack := 4, maxLocals := 3, code := jdk_68_method_73_code, exceptionTable := #[], attributes := #[] }
def k15m9 : Method := { name := "putStringAt", desc := "(ILjava/lang/String;)V", sig := { parameters := [.int, (.object "java/lang/String")], returnType := none }, accessFlags := 2, code := some k15c9 }
/-- java/lang/AbstractStringBuilder -/
def k15 : Class := { plain "java/lang/AbstractStringBuilder" (some 0) with
  accessFlags := 1056
  interfaces := #[14, 4]
  cf := some (fileOf pool15 10 #[] #[{ accessFlags := 0, nameIndex := 7, descriptorIndex := 8, attributes := #[] }, { accessFlags := 0, nameIndex := 7, descriptorIndex := 103, attributes := #[] }, { accessFlags := 1, nameIndex := 34, descriptorIndex := 35, attributes := #[] }, { accessFlags := 2, nameIndex := 102, descriptorIndex := 103, attributes := #[] }, { accessFlags := 2, nameIndex := 106, descriptorIndex := 107, attributes := #[] }, { accessFlags := 1, nameIndex := 45, descriptorIndex := 46, attributes := #[] }, { accessFlags := 16, nameIndex := 552, descriptorIndex := 403, attributes := #[] }, { accessFlags := 16, nameIndex := 85, descriptorIndex := 86, attributes := #[] }, { accessFlags := 2, nameIndex := 217, descriptorIndex := 69, attributes := #[] }, { accessFlags := 2, nameIndex := 210, descriptorIndex := 211, attributes := #[] }] 1056 4 #[444, 48] #[{ accessFlags := 0, nameIndex := 17, descriptorIndex := 14, attributes := #[] }, { accessFlags := 0, nameIndex := 24, descriptorIndex := 25, attributes := #[] }, { accessFlags := 0, nameIndex := 75, descriptorIndex := 21, attributes := #[] }, { accessFlags := 0, nameIndex := 81, descriptorIndex := 82, attributes := #[] }, { accessFlags := 26, nameIndex := 13, descriptorIndex := 14, attributes := #[] }])
  fields := #[{ name := "value", type := (.array .byte), accessFlags := 0, slot := 0, constantValue := 0 }, { name := "coder", type := .byte, accessFlags := 0, slot := 1, constantValue := 0 }, { name := "maybeLatin1", type := .boolean, accessFlags := 0, slot := 2, constantValue := 0 }, { name := "count", type := .int, accessFlags := 0, slot := 3, constantValue := 0 }, { name := "EMPTYVALUE", type := (.array .byte), accessFlags := 26, slot := 0, constantValue := 0 }]
  methods := #[k15m0, k15m1, k15m2, k15m3, k15m4, k15m5, k15m6, k15m7, k15m8, k15m9]
  instanceTypes := #[(.array .byte), .byte, .boolean, .int]
  staticTypes := #[(.array .byte)]
  resolved := Array.replicate 609 none
  statics := none }

def pool16 : Array CpInfo := pool [(1, .methodref 2 3), (0, .class_ 4), (0, .nameAndType 5 6), (0, u "java/lang/AbstractStringBuilder"), (0, u "<init>"), (0, u "(I)V"), (11, .class_ 20), (1, u "java/lang/String"), (3, .class_ 26), (1, u "java/lang/StringBuilder"), (0, u "append"), (0, u "(Ljava/lang/String;)Ljava/lang/StringBuilder;"), (0, .methodref 2 30), (0, .nameAndType 27 31), (0, u "(Ljava/lang/String;)Ljava/lang/AbstractStringBuilder;"), (105, .methodref 18 138), (0, .nameAndType 5 139), (0, u "(Ljava/lang/StringBuilder;)V"), (5, u "()V"), (10, u "()I"), (186, .methodref 2 344), (0, .nameAndType 345 156), (0, u "length"), (3, .class_ 350), (0, u "java/lang/Appendable"), (0, .class_ 352), (0, u "java/io/Serializable"), (0, .class_ 354), (0, u "java/lang/Comparable"), (0, .class_ 356), (0, u "java/lang/CharSequence"), (0, u "serialVersionUID"), (0, u "J"), (40, u "toString"), (0, u "()Ljava/lang/String;")] 21

def k16c0 : Code := { maxStack := 2, maxLocals := 1, code := jdk_67_method_1_code, exceptionTable := #[], attributes := #[] }
def k16m0 : Method := { name := "<init>", desc := "()V", sig := { parameters := [], returnType := none }, accessFlags := 1, code := some k16c0 }
def k16c1 : Code := { maxStack := 2, maxLocals := 2, code := jdk_67_method_7_code, exceptionTable := #[], attributes := #[] }
def k16m1 : Method := { name := "append", desc := "(Ljava/lang/String;)Ljava/lang/StringBuilder;", sig := { parameters := [(.object "java/lang/String")], returnType := some (.object "java/lang/StringBuilder") }, accessFlags := 1, code := some k16c1 }
def k16c2 : Code := { maxStack := 3, maxLocals := 1, code := jdk_67_method_42_code, exceptionTable := #[], attributes := #[] }
def k16m2 : Method := { name := "toString", desc := "()Ljava/lang/String;", sig := { parameters := [], returnType := some (.object "java/lang/String") }, accessFlags := 1, code := some k16c2 }
def k16c3 : Code := { maxStack := 1, maxLocals := 1, code := jdk_67_method_93_code, exceptionTable := #[], attributes := #[] }
def k16m3 : Method := { name := "length", desc := "()I", sig := { parameters := [], returnType := some .int }, accessFlags := 4161, code := some k16c3 }
/-- java/lang/StringBuilder -/
def k16 : Class := { plain "java/lang/StringBuilder" (some 15) with
  accessFlags := 49
  interfaces := #[14, 2, 3, 4]
  cf := some (fileOf pool16 24 #[] #[{ accessFlags := 1, nameIndex := 5, descriptorIndex := 145, attributes := #[] }, { accessFlags := 1, nameIndex := 27, descriptorIndex := 28, attributes := #[] }, { accessFlags := 1, nameIndex := 399, descriptorIndex := 400, attributes := #[] }, { accessFlags := 4161, nameIndex := 345, descriptorIndex := 156, attributes := #[] }] 49 2 #[349, 351, 353, 355] #[{ accessFlags := 24, nameIndex := 357, descriptorIndex := 358, attributes := #[] }])
  fields := #[{ name := "serialVersionUID", type := .long, accessFlags := 24, slot := 0, constantValue := 0 }]
  methods := #[k16m0, k16m1, k16m2, k16m3]
  instanceTypes := #[(.array .byte), .byte, .boolean, .int]
  staticTypes := #[.long]
  resolved := Array.replicate 422 none
  statics := none }

def pool17 : Array CpInfo := pool [(2, .class_ 4), (1, u "java/lang/Object"), (0, u "<init>"), (0, u "()V"), (1, .class_ 10), (1, u "java/lang/System"), (0, u "allowSecurityManager"), (0, u "I"), (16, u "cons"), (0, u "Ljava/io/Console;"), (77, .class_ 110), (1, u "java/lang/System$CallersHolder"), (43, u "initialErrStream"), (0, u "Ljava/io/PrintStream;"), (19, u "security"), (0, u "Ljava/lang/SecurityManager;"), (31, .class_ 209), (0, u "java/lang/System$1"), (7, u "props"), (0, u "Ljava/util/Properties;"), (2, u "lineSeparator"), (0, u "Ljava/lang/String;"), (96, .class_ 321), (1, u "java/lang/System$LoggerFinder"), (5, .class_ 328), (0, u "java/lang/System$Logger"), (67, u "err"), (2, u "out"), (91, u "notSupportedJnuEncoding"), (15, u "in"), (17, u "initialIn"), (0, u "Ljava/io/InputStream;"), (35, u "bootLayer"), (0, u "Ljava/lang/ModuleLayer;"), (99, .class_ 664), (0, u "java/lang/System$2"), (9, u "NEVER"), (2, u "MAYBE"), (49, u "arraycopy"), (0, u "(Ljava/lang/Object;ILjava/lang/Object;II)V"), (72, .class_ 802), (0, u "java/lang/System$Logger$Level")] 31

def k17m0 : Method := { name := "<init>", desc := "()V", sig := { parameters := [], returnType := none }, accessFlags := 2, code := none }
def k17m1 : Method := { name := "arraycopy", desc := "(Ljava/lang/Object;ILjava/lang/Object;II)V", sig := { parameters := [(.object "java/lang/Object"), .int, (.object "java/lang/Object"), .int, .int], returnType := none }, accessFlags := 265, code := none }
/-- java/lang/System -/
def k17 : Class := { plain "java/lang/System" (some 0) with
  accessFlags := 49
  interfaces := #[]
  cf := some (fileOf pool17 8 #[.nestMembers #[319, 327, 801, 108, 663, 208]] #[{ accessFlags := 2, nameIndex := 5, descriptorIndex := 6, attributes := #[] }, { accessFlags := 265, nameIndex := 727, descriptorIndex := 728, attributes := #[] }] 49 2 #[] #[{ accessFlags := 25, nameIndex := 507, descriptorIndex := 526, attributes := #[] }, { accessFlags := 25, nameIndex := 399, descriptorIndex := 155, attributes := #[] }, { accessFlags := 25, nameIndex := 396, descriptorIndex := 155, attributes := #[] }, { accessFlags := 10, nameIndex := 525, descriptorIndex := 526, attributes := #[] }, { accessFlags := 26, nameIndex := 674, descriptorIndex := 12, attributes := #[] }, { accessFlags := 26, nameIndex := 677, descriptorIndex := 12, attributes := #[] }, { accessFlags := 10, nameIndex := 11, descriptorIndex := 12, attributes := #[] }, { accessFlags := 74, nameIndex := 175, descriptorIndex := 176, attributes := #[] }, { accessFlags := 10, nameIndex := 491, descriptorIndex := 222, attributes := #[] }, { accessFlags := 74, nameIndex := 29, descriptorIndex := 30, attributes := #[] }, { accessFlags := 74, nameIndex := 154, descriptorIndex := 155, attributes := #[] }, { accessFlags := 10, nameIndex := 217, descriptorIndex := 218, attributes := #[] }, { accessFlags := 10, nameIndex := 221, descriptorIndex := 222, attributes := #[] }, { accessFlags := 8, nameIndex := 562, descriptorIndex := 563, attributes := #[] }])
  fields := #[{ name := "in", type := (.object "java/io/InputStream"), accessFlags := 25, slot := 0, constantValue := 0 }, { name := "out", type := (.object "java/io/PrintStream"), accessFlags := 25, slot := 1, constantValue := 0 }, { name := "err", type := (.object "java/io/PrintStream"), accessFlags := 25, slot := 2, constantValue := 0 }, { name := "initialIn", type := (.object "java/io/InputStream"), accessFlags := 10, slot := 3, constantValue := 0 }, { name := "NEVER", type := .int, accessFlags := 26, slot := 4, constantValue := 0 }, { name := "MAYBE", type := .int, accessFlags := 26, slot := 5, constantValue := 0 }, { name := "allowSecurityManager", type := .int, accessFlags := 10, slot := 6, constantValue := 0 }, { name := "security", type := (.object "java/lang/SecurityManager"), accessFlags := 74, slot := 7, constantValue := 0 }, { name := "notSupportedJnuEncoding", type := (.object "java/lang/String"), accessFlags := 10, slot := 8, constantValue := 0 }, { name := "cons", type := (.object "java/io/Console"), accessFlags := 74, slot := 9, constantValue := 0 }, { name := "initialErrStream", type := (.object "java/io/PrintStream"), accessFlags := 74, slot := 10, constantValue := 0 }, { name := "props", type := (.object "java/util/Properties"), accessFlags := 10, slot := 11, constantValue := 0 }, { name := "lineSeparator", type := (.object "java/lang/String"), accessFlags := 10, slot := 12, constantValue := 0 }, { name := "bootLayer", type := (.object "java/lang/ModuleLayer"), accessFlags := 8, slot := 13, constantValue := 0 }]
  methods := #[k17m0, k17m1]
  instanceTypes := #[]
  staticTypes := #[(.object "java/io/InputStream"), (.object "java/io/PrintStream"), (.object "java/io/PrintStream"), (.object "java/io/InputStream"), .int, .int, .int, (.object "java/lang/SecurityManager"), (.object "java/lang/String"), (.object "java/io/Console"), (.object "java/io/PrintStream"), (.object "java/util/Properties"), (.object "java/lang/String"), (.object "java/lang/ModuleLayer")]
  resolved := Array.replicate 834 none
  statics := none }

def pool18 : Array CpInfo := pool [(9, u "<init>"), (6, .class_ 18), (1, u "java/lang/Object"), (0, u "()V"), (1, .class_ 23), (1, u "jdk/internal/util/ArraysSupport"), (0, u "LOG2_ARRAY_LONG_INDEX_SCALE"), (0, u "I"), (2, u "U"), (0, u "Ljdk/internal/misc/Unsafe;"), (8, u "BIG_ENDIAN"), (0, u "Z"), (8, u "LOG2_BYTE_BIT_SIZE"), (4, u "LOG2_ARRAY_INT_INDEX_SCALE"), (54, u "JLA"), (0, u "Ljdk/internal/access/JavaLangAccess;"), (11, u "LOG2_ARRAY_BOOLEAN_INDEX_SCALE"), (9, u "LOG2_ARRAY_BYTE_INDEX_SCALE"), (5, u "LOG2_ARRAY_CHAR_INDEX_SCALE"), (5, u "LOG2_ARRAY_SHORT_INDEX_SCALE"), (18, u "LOG2_ARRAY_FLOAT_INDEX_SCALE"), (24, u "LOG2_ARRAY_DOUBLE_INDEX_SCALE"), (6, .methodref 195 196), (0, .class_ 197), (0, .nameAndType 198 199), (0, u "java/lang/Math"), (0, u "max"), (0, u "(II)I"), (0, .integer 2147483639), (76, u "T_BOOLEAN"), (2, u "T_CHAR"), (1, u "T_FLOAT"), (1, u "T_DOUBLE"), (1, u "T_BYTE"), (1, u "T_SHORT"), (1, u "T_INT"), (1, u "T_LONG"), (1, u "SOFT_MAX_ARRAY_LENGTH"), (56, u "newLength"), (0, u "(III)I")] 25

def k18m0 : Method := { name := "<init>", desc := "()V", sig := { parameters := [], returnType := none }, accessFlags := 2, code := none }
def k18c1 : Code := { maxStack := 3, maxLocals := 4, code := jdk_48_method_27_code, exceptionTable := #[], attributes := #[] }
def k18m1 : Method := { name := "newLength", desc := "(III)I", sig := { parameters := [.int, .int, .int], returnType := some .int }, accessFlags := 9, code := some k18c1 }
/-- jdk/internal/util/ArraysSupport -/
def k18 : Class := { plain "jdk/internal/util/ArraysSupport" (some 0) with
  accessFlags := 33
  interfaces := #[]
  cf := some (fileOf pool18 21 #[] #[{ accessFlags := 2, nameIndex := 9, descriptorIndex := 19, attributes := #[] }, { accessFlags := 9, nameIndex := 351, descriptorIndex := 352, attributes := #[] }] 33 16 #[] #[{ accessFlags := 24, nameIndex := 28, descriptorIndex := 29, attributes := #[] }, { accessFlags := 26, nameIndex := 38, descriptorIndex := 39, attributes := #[] }, { accessFlags := 25, nameIndex := 121, descriptorIndex := 25, attributes := #[] }, { accessFlags := 25, nameIndex := 131, descriptorIndex := 25, attributes := #[] }, { accessFlags := 25, nameIndex := 137, descriptorIndex := 25, attributes := #[] }, { accessFlags := 25, nameIndex := 143, descriptorIndex := 25, attributes := #[] }, { accessFlags := 25, nameIndex := 53, descriptorIndex := 25, attributes := #[] }, { accessFlags := 25, nameIndex := 24, descriptorIndex := 25, attributes := #[] }, { accessFlags := 25, nameIndex := 162, descriptorIndex := 25, attributes := #[] }, { accessFlags := 25, nameIndex := 187, descriptorIndex := 25, attributes := #[] }, { accessFlags := 26, nameIndex := 48, descriptorIndex := 25, attributes := #[] }, { accessFlags := 25, nameIndex := 277, descriptorIndex := 25, attributes := #[] }, { accessFlags := 25, nameIndex := 280, descriptorIndex := 25, attributes := #[] }, { accessFlags := 25, nameIndex := 282, descriptorIndex := 25, attributes := #[] }, { accessFlags := 25, nameIndex := 284, descriptorIndex := 25, attributes := #[] }, { accessFlags := 25, nameIndex := 286, descriptorIndex := 25, attributes := #[] }, { accessFlags := 25, nameIndex := 288, descriptorIndex := 25, attributes := #[] }, { accessFlags := 25, nameIndex := 290, descriptorIndex := 25, attributes := #[] }, { accessFlags := 25, nameIndex := 292, descriptorIndex := 25, attributes := #[] }, { accessFlags := 26, nameIndex := 108, descriptorIndex := 109, attributes := #[] }, { accessFlags := 25, nameIndex := 294, descriptorIndex := 25, attributes := #[] }])
  fields := #[{ name := "U", type := (.object "jdk/internal/misc/Unsafe"), accessFlags := 24, slot := 0, constantValue := 0 }, { name := "BIG_ENDIAN", type := .boolean, accessFlags := 26, slot := 1, constantValue := 0 }, { name := "LOG2_ARRAY_BOOLEAN_INDEX_SCALE", type := .int, accessFlags := 25, slot := 2, constantValue := 0 }, { name := "LOG2_ARRAY_BYTE_INDEX_SCALE", type := .int, accessFlags := 25, slot := 3, constantValue := 0 }, { name := "LOG2_ARRAY_CHAR_INDEX_SCALE", type := .int, accessFlags := 25, slot := 4, constantValue := 0 }, { name := "LOG2_ARRAY_SHORT_INDEX_SCALE", type := .int, accessFlags := 25, slot := 5, constantValue := 0 }, { name := "LOG2_ARRAY_INT_INDEX_SCALE", type := .int, accessFlags := 25, slot := 6, constantValue := 0 }, { name := "LOG2_ARRAY_LONG_INDEX_SCALE", type := .int, accessFlags := 25, slot := 7, constantValue := 0 }, { name := "LOG2_ARRAY_FLOAT_INDEX_SCALE", type := .int, accessFlags := 25, slot := 8, constantValue := 0 }, { name := "LOG2_ARRAY_DOUBLE_INDEX_SCALE", type := .int, accessFlags := 25, slot := 9, constantValue := 0 }, { name := "LOG2_BYTE_BIT_SIZE", type := .int, accessFlags := 26, slot := 10, constantValue := 0 }, { name := "T_BOOLEAN", type := .int, accessFlags := 25, slot := 11, constantValue := 0 }, { name := "T_CHAR", type := .int, accessFlags := 25, slot := 12, constantValue := 0 }, { name := "T_FLOAT", type := .int, accessFlags := 25, slot := 13, constantValue := 0 }, { name := "T_DOUBLE", type := .int, accessFlags := 25, slot := 14, constantValue := 0 }, { name := "T_BYTE", type := .int, accessFlags := 25, slot := 15, constantValue := 0 }, { name := "T_SHORT", type := .int, accessFlags := 25, slot := 16, constantValue := 0 }, { name := "T_INT", type := .int, accessFlags := 25, slot := 17, constantValue := 0 }, { name := "T_LONG", type := .int, accessFlags := 25, slot := 18, constantValue := 0 }, { name := "JLA", type := (.object "jdk/internal/access/JavaLangAccess"), accessFlags := 26, slot := 19, constantValue := 0 }, { name := "SOFT_MAX_ARRAY_LENGTH", type := .int, accessFlags := 25, slot := 20, constantValue := 0 }]
  methods := #[k18m0, k18m1]
  instanceTypes := #[]
  staticTypes := #[(.object "jdk/internal/misc/Unsafe"), .boolean, .int, .int, .int, .int, .int, .int, .int, .int, .int, .int, .int, .int, .int, .int, .int, .int, .int, (.object "jdk/internal/access/JavaLangAccess"), .int]
  resolved := Array.replicate 378 none
  statics := none }

def pool19 : Array CpInfo := pool [(1, .class_ 2), (0, u "java/lang/Math"), (1, .class_ 6), (1, u "java/lang/Object"), (0, u "<init>"), (0, u "()V"), (89, .class_ 100), (1, u "java/lang/Math$RandomNumberGeneratorHolder"), (71, u "negativeZeroFloatBits"), (0, u "J"), (2, u "negativeZeroDoubleBits"), (21, u "max"), (2, u "min"), (43, u "$assertionsDisabled"), (0, u "Z"), (88, u "(II)I"), (2, u "twoToTheDoubleScaleDown"), (0, u "D"), (4, u "twoToTheDoubleScaleUp"), (9, u "E"), (3, u "PI"), (2, u "TAU"), (2, u "DEGREES_TO_RADIANS"), (0, u "RADIANS_TO_DEGREES")] 94

def k19m0 : Method := { name := "<init>", desc := "()V", sig := { parameters := [], returnType := none }, accessFlags := 2, code := none }
def k19c1 : Code := { maxStack := 2, maxLocals := 2, code := jdk_29_method_65_code, exceptionTable := #[], attributes := #[] }
def k19m1 : Method := { name := "max", desc := "(II)I", sig := { parameters := [.int, .int], returnType := some .int }, accessFlags := 9, code := some k19c1 }
def k19c2 : Code := { maxStack := 2, maxLocals := 2, code := jdk_29_method_69_code, exceptionTable := #[], attributes := #[] }
def k19m2 : Method := { name := "min", desc := "(II)I", sig := { parameters := [.int, .int], returnType := some .int }, accessFlags := 9, code := some k19c2 }
/-- java/lang/Math -/
def k19 : Class := { plain "java/lang/Math" (some 0) with
  accessFlags := 49
  interfaces := #[]
  cf := some (fileOf pool19 1 #[.nestMembers #[98]] #[{ accessFlags := 2, nameIndex := 7, descriptorIndex := 8, attributes := #[] }, { accessFlags := 9, nameIndex := 198, descriptorIndex := 335, attributes := #[] }, { accessFlags := 9, nameIndex := 201, descriptorIndex := 335, attributes := #[] }] 49 4 #[] #[{ accessFlags := 25, nameIndex := 354, descriptorIndex := 339, attributes := #[] }, { accessFlags := 25, nameIndex := 358, descriptorIndex := 339, attributes := #[] }, { accessFlags := 25, nameIndex := 361, descriptorIndex := 339, attributes := #[] }, { accessFlags := 26, nameIndex := 364, descriptorIndex := 339, attributes := #[] }, { accessFlags := 26, nameIndex := 365, descriptorIndex := 339, attributes := #[] }, { accessFlags := 26, nameIndex := 172, descriptorIndex := 173, attributes := #[] }, { accessFlags := 26, nameIndex := 176, descriptorIndex := 173, attributes := #[] }, { accessFlags := 8, nameIndex := 344, descriptorIndex := 339, attributes := #[] }, { accessFlags := 8, nameIndex := 338, descriptorIndex := 339, attributes := #[] }, { accessFlags := 4120, nameIndex := 245, descriptorIndex := 246, attributes := #[] }])
  fields := #[{ name := "E", type := .double, accessFlags := 25, slot := 0, constantValue := 0 }, { name := "PI", type := .double, accessFlags := 25, slot := 1, constantValue := 0 }, { name := "TAU", type := .double, accessFlags := 25, slot := 2, constantValue := 0 }, { name := "DEGREES_TO_RADIANS", type := .double, accessFlags := 26, slot := 3, constantValue := 0 }, { name := "RADIANS_TO_DEGREES", type := .double, accessFlags := 26, slot := 4, constantValue := 0 }, { name := "negativeZeroFloatBits", type := .long, accessFlags := 26, slot := 5, constantValue := 0 }, { name := "negativeZeroDoubleBits", type := .long, accessFlags := 26, slot := 6, constantValue := 0 }, { name := "twoToTheDoubleScaleUp", type := .double, accessFlags := 8, slot := 7, constantValue := 0 }, { name := "twoToTheDoubleScaleDown", type := .double, accessFlags := 8, slot := 8, constantValue := 0 }, { name := "$assertionsDisabled", type := .boolean, accessFlags := 4120, slot := 9, constantValue := 0 }]
  methods := #[k19m0, k19m1, k19m2]
  instanceTypes := #[]
  staticTypes := #[.double, .double, .double, .double, .double, .long, .long, .double, .double, .boolean]
  resolved := Array.replicate 460 none
  statics := none }

def pool20 : Array CpInfo := pool [(2, .class_ 4), (1, u "java/lang/Object"), (0, u "<init>"), (0, u "()V"), (7, .class_ 16), (1, u "java/util/Arrays"), (57, .class_ 76), (1, u "java/util/Arrays$NaturalOrder"), (32, u "()Ljava/lang/Object;"), (3, .class_ 115), (1, u "java/util/Arrays$LegacyMergeSort"), (1, u "Z"), (10, .nameAndType 129 109), (0, u "clone"), (9, u "copyOfRange"), (10, .methodref 151 152), (0, .class_ 153), (0, .nameAndType 154 155), (0, u "java/lang/System"), (0, u "arraycopy"), (0, u "(Ljava/lang/Object;ILjava/lang/Object;II)V"), (146, u "copyOf"), (1, .methodref 305 306), (0, .class_ 307), (0, .nameAndType 308 309), (0, u "java/lang/Math"), (0, u "min"), (0, u "(II)I"), (0, .methodref 311 128), (0, .class_ 312), (0, u "[B"), (26, .methodref 14 340), (0, .nameAndType 341 342), (0, u "copyOfRangeByte"), (0, u "([BII)[B"), (0, .methodref 14 344), (0, .nameAndType 345 346), (0, u "checkLength"), (0, u "(II)V"), (28, .class_ 376), (0, u "java/util/Arrays$ArrayList"), (68, u "$assertionsDisabled"), (269, u "MIN_ARRAY_SORT_GRAN"), (0, u "I"), (2, u "INSERTIONSORT_THRESHOLD"), (149, u "([BI)[B"), (105, .class_ 976), (0, u "java/util/Arrays$ArrayItr")] 52

def k20m0 : Method := { name := "<init>", desc := "()V", sig := { parameters := [], returnType := none }, accessFlags := 2, code := none }
def k20c1 : Code := { maxStack := 6, maxLocals := 3, code := jdk_65_method_121_code, exceptionTable := #[], attributes := #[] }
def k20m1 : Method := { name := "copyOf", desc := "([BI)[B", sig := { parameters := [(.array .byte), .int], returnType := some (.array .byte) }, accessFlags := 9, code := some k20c1 }
def k20c2 : Code := { maxStack := 4, maxLocals := 2, code := jdk_65_method_131_code, exceptionTable := #[], attributes := #[] }
def k20m2 : Method := { name := "checkLength", desc := "(II)V", sig := { parameters := [.int, .int], returnType := none }, accessFlags := 10, code := some k20c2 }
def k20c3 : Code := { maxStack := 3, maxLocals := 3, code := jdk_65_method_132_code, exceptionTable := #[], attributes := #[] }
def k20m3 : Method := { name := "copyOfRange", desc := "([BII)[B", sig := { parameters := [(.array .byte), .int, .int], returnType := some (.array .byte) }, accessFlags := 9, code := some k20c3 }
def k20c4 : Code := { maxStack := 6, maxLocals := 5, code := jdk_65_method_133_code, exceptionTable := #[], attributes := #[] }
def k20m4 : Method := { name := "copyOfRangeByte", desc := "([BII)[B", sig := { parameters := [(.array .byte), .int, .int], returnType := some (.array .byte) }, accessFlags := 10, code := some k20c4 }
/-- java/util/Arrays -/
def k20 : Class := { plain "java/util/Arrays" (some 0) with
  accessFlags := 49
  interfaces := #[]
  cf := some (fileOf pool20 14 #[.nestMembers #[975, 375, 113, 74]] #[{ accessFlags := 2, nameIndex := 5, descriptorIndex := 6, attributes := #[] }, { accessFlags := 9, nameIndex := 302, descriptorIndex := 869, attributes := #[] }, { accessFlags := 10, nameIndex := 345, descriptorIndex := 346, attributes := #[] }, { accessFlags := 9, nameIndex := 139, descriptorIndex := 342, attributes := #[] }, { accessFlags := 10, nameIndex := 341, descriptorIndex := 342, attributes := #[] }] 49 2 #[] #[{ accessFlags := 26, nameIndex := 715, descriptorIndex := 716, attributes := #[] }, { accessFlags := 26, nameIndex := 719, descriptorIndex := 716, attributes := #[] }, { accessFlags := 4120, nameIndex := 445, descriptorIndex := 117, attributes := #[] }])
  fields := #[{ name := "MIN_ARRAY_SORT_GRAN", type := .int, accessFlags := 26, slot := 0, constantValue := 0 }, { name := "INSERTIONSORT_THRESHOLD", type := .int, accessFlags := 26, slot := 1, constantValue := 0 }, { name := "$assertionsDisabled", type := .boolean, accessFlags := 4120, slot := 2, constantValue := 0 }]
  methods := #[k20m0, k20m1, k20m2, k20m3, k20m4]
  instanceTypes := #[]
  staticTypes := #[.int, .int, .boolean]
  resolved := Array.replicate 1029 none
  statics := none }

def pool21 : Array CpInfo := pool [(2, .class_ 4), (1, u "java/lang/Object"), (0, u "<init>"), (0, u "()V"), (17, .class_ 26), (1, u "jdk/internal/util/Preconditions"), (6, u "checkIndex"), (21, .class_ 56), (0, u "jdk/internal/util/Preconditions$4"), (57, .class_ 115), (0, u "jdk/internal/util/Preconditions$1"), (7, u "SIOOBE_FORMATTER"), (0, u "Ljava/util/function/BiFunction;"), (0, .class_ 126), (0, u "jdk/internal/util/Preconditions$2"), (3, u "AIOOBE_FORMATTER"), (0, .class_ 132), (0, u "jdk/internal/util/Preconditions$3"), (3, u "IOOBE_FORMATTER"), (41, u "(IILjava/util/function/BiFunction;)I")] 15

def k21m0 : Method := { name := "<init>", desc := "()V", sig := { parameters := [], returnType := none }, accessFlags := 1, code := none }
def k21c1 : Code := { maxStack := 3, maxLocals := 3, code := jdk_41_method_11_code, exceptionTable := #[], attributes := #[] }
def k21m1 : Method := { name := "checkIndex", desc := "(IILjava/util/function/BiFunction;)I", sig := { parameters := [.int, .int, (.object "java/util/function/BiFunction")], returnType := some .int }, accessFlags := 9, code := some k21c1 }
/-- jdk/internal/util/Preconditions -/
def k21 : Class := { plain "jdk/internal/util/Preconditions" (some 0) with
  accessFlags := 33
  interfaces := #[]
  cf := some (fileOf pool21 24 #[.nestMembers #[55, 131, 125, 114]] #[{ accessFlags := 1, nameIndex := 5, descriptorIndex := 6, attributes := #[] }, { accessFlags := 9, nameIndex := 33, descriptorIndex := 178, attributes := #[] }] 33 2 #[] #[{ accessFlags := 25, nameIndex := 123, descriptorIndex := 124, attributes := #[] }, { accessFlags := 25, nameIndex := 130, descriptorIndex := 124, attributes := #[] }, { accessFlags := 25, nameIndex := 136, descriptorIndex := 124, attributes := #[] }])
  fields := #[{ name := "SIOOBE_FORMATTER", type := (.object "java/util/function/BiFunction"), accessFlags := 25, slot := 0, constantValue := 0 }, { name := "AIOOBE_FORMATTER", type := (.object "java/util/function/BiFunction"), accessFlags := 25, slot := 1, constantValue := 0 }, { name := "IOOBE_FORMATTER", type := (.object "java/util/function/BiFunction"), accessFlags := 25, slot := 2, constantValue := 0 }]
  methods := #[k21m0, k21m1]
  instanceTypes := #[]
  staticTypes := #[(.object "java/util/function/BiFunction"), (.object "java/util/function/BiFunction"), (.object "java/util/function/BiFunction")]
  resolved := Array.replicate 194 none
  statics := some 1 }

def pool22 : Array CpInfo := pool [(1, .class_ 2), (0, u "java/lang/Cloneable"), (0, .class_ 4), (0, u "java/lang/Object")] 2

/-- java/lang/Cloneable -/
def k22 : Class := { plain "java/lang/Cloneable" (some 0) with
  accessFlags := 1537
  interfaces := #[]
  cf := some (fileOf pool22 1 #[] #[] 1537 3 #[] #[])
  fields := #[]
  methods := #[]
  instanceTypes := #[]
  staticTypes := #[]
  resolved := Array.replicate 7 none
  statics := none }

/-- the primitive byte -/
def k23 : Class := { plain "byte" none with kind := .primitive 'B', accessFlags := 0x411 }
/-- [B -/
def k24 : Class := { plain "[B" (some 0) with kind := .array 23 .byte, interfaces := #[22, 2], accessFlags := 1041 }

/-- the primitive char -/
def k25 : Class := { plain "char" none with kind := .primitive 'C', accessFlags := 0x411 }
/-- [C -/
def k26 : Class := { plain "[C" (some 0) with kind := .array 25 .char, interfaces := #[22, 2], accessFlags := 1041 }

/-- the primitive int -/
def k27 : Class := { plain "int" none with kind := .primitive 'I', accessFlags := 0x411 }
/-- [I -/
def k28 : Class := { plain "[I" (some 0) with kind := .array 27 .int, interfaces := #[22, 2], accessFlags := 1041 }

def heap : Heap := #[{ cls := 7, slots := #[.long 0, .int 1, .null, .int 0, .null, .int 0, .int 0], vm := .statics 7 },
  { cls := 21, slots := #[.null, .null, .null], vm := .statics 21 }]
def classes : Array Class := #[k0, k1, k2, k3, k4, k5, k6, k7, k8, k9, k10, k11, k12, k13, k14, k15, k16, k17, k18, k19, k20, k21, k22, k23, k24, k25, k26, k27, k28]
def interned : List (Array UInt16 × Addr) := []
def slotsUsed : Nat := 10
def theMethod : MethodId := ⟨1, 2⟩
def args0 : Array Value := #[.int 16961, .int 17475, .int 5, .int 4277313, .long 7, .int 3]
def aboutOver (below : List Frame) : State where
  vm := { classes := classes, interned := interned.toArray }
  heap := heap
  slotsUsed := slotsUsed
  threads := #[{ frames := .invoking theMethod args0 :: below }]
def below0 : List Frame := [.native { method := ⟨0, 0⟩, args := #[] }]
def about1 : State := aboutOver below0
def p0 : Program := .bare "" "" ""
def e0 : Env := launch0.env 0 0 0
theorem w_frames : about1.frames = Frame.invoking theMethod args0 :: below0 := rfl
set_option maxRecDepth 65536 in
theorem w_args : argsFit about1.vm theMethod args0 = true := by decide +kernel
set_option maxRecDepth 65536 in
theorem w_heap : heapFits about1 = true := by decide +kernel
set_option maxRecDepth 65536 in
theorem w_runnable : about1.curStatus? = some .runnable := by decide +kernel
set_option maxRecDepth 65536 in
theorem w_alone : about1.alone = true := by decide +kernel
set_option maxRecDepth 65536 in
theorem w_named : about1.methodNamed? x = some theMethod := by decide +kernel
set_option maxRecDepth 65536 in
theorem w_hears : about1.hears theMethod below0 = true := by decide +kernel
set_option maxRecDepth 65536 in
theorem w_ripe : about1.ripe theMethod args0 below0 = true := by decide +kernel
theorem w_running : about1.status = .running := rfl
set_option maxRecDepth 65536 in
theorem w_room : about1.hasRoom e0.platform room_1 = true :=
  launch0.hasRoom_least _ room_1 (by decide +kernel) (by decide +kernel) (by decide +kernel) (by decide +kernel) (by decide +kernel) (by decide +kernel)
theorem allAtoms_all (ts : List Jvm.Cond) (a : Array Jvm.Value) (st : Jvm.State) : (allAtoms ts).before a st = ts.all (fun c => c.before a st) := by
  induction ts with
  | nil => rfl
  | cons c t ih =>
    show (Jvm.Cond.and c (allAtoms t)).before a st = _
    rw [Jvm.Cond.before_and, ih, List.all_cons]
def words1 : List Jvm.Cond := Jvm.Cond.code x code maxLocals ret :: tables_1
/-- a 'code' word, met by the world's own term for the bytes: nothing is compared byte by byte -/
theorem code_word {y : MethodName} {bytes : ByteArray} {mx : Nat} {rt : Option FieldType} {a : Array Value} {s : State} {m : MethodId} {meth : Method} {c : Code} (h1 : s.methodNamed? y = some m) (h2 : s.vm.method? m = some meth) (h3 : meth.code = some c) (h4 : c.code = bytes)
    (h5 : (c.maxLocals == mx && c.exceptionTable.isEmpty && decide (c.maxStack ≤ mostOperands) && decide (meth.sig.returnType = rt) && !meth.locks && decide (parseMethodDescriptor y.desc = some meth.sig)) = true) : (Jvm.Cond.code y bytes mx rt).before a s = true := by
  simp only [Bool.and_eq_true, beq_iff_eq, Bool.not_eq_true', decide_eq_true_eq] at h5
  obtain ⟨⟨⟨⟨⟨g1, g2⟩, g3⟩, g4⟩, g5⟩, g6⟩ := h5
  simp [Cond.before, Cond.holds, Cond.value, h1, h2, h3, h4, g1, g2, g3, g4, g5, g6]
def isCode : Jvm.Cond → Bool
  | .code _ _ _ _ => true
  | _ => false
theorem all_split {L : List Jvm.Cond} {P : Jvm.Cond → Bool} (h1 : L.all (fun c => isCode c || P c) = true) (h2 : ∀ c ∈ L.filter isCode, P c = true) : L.all P = true := by
  refine List.all_eq_true.mpr fun c hc => ?_
  have h := List.all_eq_true.mp h1 c hc
  rcases Bool.eq_false_or_eq_true (isCode c) with hi | hi
  · exact h2 c (List.mem_filter.mpr ⟨hc, hi⟩)
  · simpa [hi] using h
set_option maxRecDepth 65536 in
theorem w_c0 : (Jvm.Cond.code x code maxLocals ret).before args0 about1 = true := code_word (m := ⟨1, 2⟩) (meth := k1m2) (c := k1c2) (by decide +kernel) rfl rfl rfl (by decide +kernel)
set_option maxRecDepth 65536 in
theorem w_c1 : (Jvm.Cond.code ({ cls := "com/example/fritillary/fritillary/GeneratorTableSourcePinLaw", name := "str", desc := "(ICC)Ljava/lang/String;" } : Jvm.MethodName) method_2_code (3 : Nat) (Option.some (Jvm.ClassFile.FieldType.object "java/lang/String"))).before args0 about1 = true := code_word (m := ⟨1, 1⟩) (meth := k1m1) (c := k1c1) (by decide +kernel) rfl rfl rfl (by decide +kernel)
set_option maxRecDepth 65536 in
theorem w_c2 : (Jvm.Cond.code ({ cls := "java/lang/String", name := "<init>", desc := "([C)V" } : Jvm.MethodName) jdk_42_method_3_code (2 : Nat) (Option.none : Option Jvm.ClassFile.FieldType)).before args0 about1 = true := code_word (m := ⟨7, 1⟩) (meth := k7m1) (c := k7c1) (by decide +kernel) rfl rfl rfl (by decide +kernel)
set_option maxRecDepth 65536 in
theorem w_c3 : (Jvm.Cond.code ({ cls := "java/lang/String", name := "<init>", desc := "([CIILjava/lang/Void;)V" } : Jvm.MethodName) jdk_42_method_149_code (6 : Nat) (Option.none : Option Jvm.ClassFile.FieldType)).before args0 about1 = true := code_word (m := ⟨7, 7⟩) (meth := k7m7) (c := k7c7) (by decide +kernel) rfl rfl rfl (by decide +kernel)
set_option maxRecDepth 65536 in
theorem w_c4 : (Jvm.Cond.code ({ cls := "java/lang/Object", name := "<init>", desc := "()V" } : Jvm.MethodName) object_method_1_code (1 : Nat) (Option.none : Option Jvm.ClassFile.FieldType)).before args0 about1 = true := code_word (m := ⟨0, 0⟩) (meth := k0m0) (c := k0c0) (by decide +kernel) rfl rfl rfl (by decide +kernel)
set_option maxRecDepth 65536 in
theorem w_c5 : (Jvm.Cond.code ({ cls := "java/lang/StringUTF16", name := "compress", desc := "([CII)[B" } : Jvm.MethodName) jdk_52_method_16_code (6 : Nat) (Option.some (Jvm.ClassFile.FieldType.array Jvm.ClassFile.FieldType.byte))).before args0 about1 = true := code_word (m := ⟨8, 2⟩) (meth := k8m2) (c := k8c2) (by decide +kernel) rfl rfl rfl (by decide +kernel)
set_option maxRecDepth 65536 in
theorem w_c6 : (Jvm.Cond.code ({ cls := "java/lang/StringUTF16", name := "compress", desc := "([CI[BII)I" } : Jvm.MethodName) jdk_52_method_21_code (7 : Nat) (Option.some Jvm.ClassFile.FieldType.int)).before args0 about1 = true := code_word (m := ⟨8, 3⟩) (meth := k8m3) (c := k8c3) (by decide +kernel) rfl rfl rfl (by decide +kernel)
set_option maxRecDepth 65536 in
theorem w_c7 : (Jvm.Cond.code ({ cls := "java/lang/StringUTF16", name := "coderFromArrayLen", desc := "([BI)B" } : Jvm.MethodName) jdk_52_method_15_code (2 : Nat) (Option.some Jvm.ClassFile.FieldType.byte)).before args0 about1 = true := code_word (m := ⟨8, 1⟩) (meth := k8m1) (c := k8c1) (by decide +kernel) rfl rfl rfl (by decide +kernel)
set_option maxRecDepth 65536 in
theorem w_c8 : (Jvm.Cond.code ({ cls := "java/lang/String", name := "valueOf", desc := "(C)Ljava/lang/String;" } : Jvm.MethodName) jdk_42_method_139_code (1 : Nat) (Option.some (Jvm.ClassFile.FieldType.object "java/lang/String"))).before args0 about1 = true := code_word (m := ⟨7, 5⟩) (meth := k7m5) (c := k7c5) (by decide +kernel) rfl rfl rfl (by decide +kernel)
set_option maxRecDepth 65536 in
theorem w_c9 : (Jvm.Cond.code ({ cls := "java/lang/StringLatin1", name := "canEncode", desc := "(C)Z" } : Jvm.MethodName) jdk_43_method_3_code (1 : Nat) (Option.some Jvm.ClassFile.FieldType.boolean)).before args0 about1 = true := code_word (m := ⟨9, 2⟩) (meth := k9m2) (c := k9c2) (by decide +kernel) rfl rfl rfl (by decide +kernel)
set_option maxRecDepth 65536 in
theorem w_c10 : (Jvm.Cond.code ({ cls := "java/lang/StringLatin1", name := "toBytes", desc := "(C)[B" } : Jvm.MethodName) jdk_43_method_46_code (1 : Nat) (Option.some (Jvm.ClassFile.FieldType.array Jvm.ClassFile.FieldType.byte))).before args0 about1 = true := code_word (m := ⟨9, 3⟩) (meth := k9m3) (c := k9c3) (by decide +kernel) rfl rfl rfl (by decide +kernel)
set_option maxRecDepth 65536 in
theorem w_c11 : (Jvm.Cond.code ({ cls := "java/lang/String", name := "<init>", desc := "([BB)V" } : Jvm.MethodName) jdk_42_method_151_code (3 : Nat) (Option.none : Option Jvm.ClassFile.FieldType)).before args0 about1 = true := code_word (m := ⟨7, 9⟩) (meth := k7m9) (c := k7c9) (by decide +kernel) rfl rfl rfl (by decide +kernel)
set_option maxRecDepth 65536 in
theorem w_c12 : (Jvm.Cond.code ({ cls := "com/example/fritillary/fritillary/IdGeneration$GeneratorTable", name := "<init>", desc := "(Ljava/lang/String;Ljava/lang/String;Ljava/lang/String;Ljava/lang/String;Ljava/lang/String;JI)V" } : Jvm.MethodName) prog_14_method_1_code (9 : Nat) (Option.none : Option Jvm.ClassFile.FieldType)).before args0 about1 = true := code_word (m := ⟨13, 0⟩) (meth := k13m0) (c := k13c0) (by decide +kernel) rfl rfl rfl (by decide +kernel)
set_option maxRecDepth 65536 in
theorem w_c13 : (Jvm.Cond.code ({ cls := "java/lang/Record", name := "<init>", desc := "()V" } : Jvm.MethodName) jdk_30_method_1_code (1 : Nat) (Option.none : Option Jvm.ClassFile.FieldType)).before args0 about1 = true := code_word (m := ⟨10, 0⟩) (meth := k10m0) (c := k10c0) (by decide +kernel) rfl rfl rfl (by decide +kernel)
set_option maxRecDepth 65536 in
theorem w_c14 : (Jvm.Cond.code ({ cls := "com/example/fritillary/fritillary/IdGeneration$GeneratorTable", name := "source", desc := "()Ljava/lang/String;" } : Jvm.MethodName) prog_14_method_2_code (1 : Nat) (Option.some (Jvm.ClassFile.FieldType.object "java/lang/String"))).before args0 about1 = true := code_word (m := ⟨13, 1⟩) (meth := k13m1) (c := k13c1) (by decide +kernel) rfl rfl rfl (by decide +kernel)
set_option maxRecDepth 65536 in
theorem w_c15 : (Jvm.Cond.code ({ cls := "java/lang/StringBuilder", name := "<init>", desc := "()V" } : Jvm.MethodName) jdk_67_method_1_code (1 : Nat) (Option.none : Option Jvm.ClassFile.FieldType)).before args0 about1 = true := code_word (m := ⟨16, 0⟩) (meth := k16m0) (c := k16c0) (by decide +kernel) rfl rfl rfl (by decide +kernel)
set_option maxRecDepth 65536 in
theorem w_c16 : (Jvm.Cond.code ({ cls := "java/lang/AbstractStringBuilder", name := "<init>", desc := "(I)V" } : Jvm.MethodName) jdk_68_method_2_code (2 : Nat) (Option.none : Option Jvm.ClassFile.FieldType)).before args0 about1 = true := code_word (m := ⟨15, 1⟩) (meth := k15m1) (c := k15c1) (by decide +kernel) rfl rfl rfl (by decide +kernel)
set_option maxRecDepth 65536 in
theorem w_c17 : (Jvm.Cond.code ({ cls := "java/lang/StringBuilder", name := "append", desc := "(Ljava/lang/String;)Ljava/lang/StringBuilder;" } : Jvm.MethodName) jdk_67_method_7_code (2 : Nat) (Option.some (Jvm.ClassFile.FieldType.object "java/lang/StringBuilder"))).before args0 about1 = true := code_word (m := ⟨16, 1⟩) (meth := k16m1) (c := k16c1) (by decide +kernel) rfl rfl rfl (by decide +kernel)
set_option maxRecDepth 65536 in
theorem w_c18 : (Jvm.Cond.code ({ cls := "java/lang/AbstractStringBuilder", name := "append", desc := "(Ljava/lang/String;)Ljava/lang/AbstractStringBuilder;" } : Jvm.MethodName) jdk_68_method_22_code (3 : Nat) (Option.some (Jvm.ClassFile.FieldType.object "java/lang/AbstractStringBuilder"))).before args0 about1 = true := code_word (m := ⟨15, 5⟩) (meth := k15m5) (c := k15c5) (by decide +kernel) rfl rfl rfl (by decide +kernel)
set_option maxRecDepth 65536 in
theorem w_c19 : (Jvm.Cond.code ({ cls := "java/lang/String", name := "length", desc := "()I" } : Jvm.MethodName) jdk_42_method_54_code (1 : Nat) (Option.some Jvm.ClassFile.FieldType.int)).before args0 about1 = true := code_word (m := ⟨7, 3⟩) (meth := k7m3) (c := k7c3) (by decide +kernel) rfl rfl rfl (by decide +kernel)
set_option maxRecDepth 65536 in
theorem w_c20 : (Jvm.Cond.code ({ cls := "java/lang/String", name := "coder", desc := "()B" } : Jvm.MethodName) jdk_42_method_152_code (1 : Nat) (Option.some Jvm.ClassFile.FieldType.byte)).before args0 about1 = true := code_word (m := ⟨7, 10⟩) (meth := k7m10) (c := k7c10) (by decide +kernel) rfl rfl rfl (by decide +kernel)
set_option maxRecDepth 65536 in
theorem w_c21 : (Jvm.Cond.code ({ cls := "java/lang/AbstractStringBuilder", name := "ensureCapacityInternal", desc := "(I)V" } : Jvm.MethodName) jdk_68_method_9_code (3 : Nat) (Option.none : Option Jvm.ClassFile.FieldType)).before args0 about1 = true := code_word (m := ⟨15, 3⟩) (meth := k15m3) (c := k15c3) (by decide +kernel) rfl rfl rfl (by decide +kernel)
set_option maxRecDepth 65536 in
theorem w_c22 : (Jvm.Cond.code ({ cls := "java/lang/AbstractStringBuilder", name := "putStringAt", desc := "(ILjava/lang/String;)V" } : Jvm.MethodName) jdk_68_method_73_code (3 : Nat) (Option.none : Option Jvm.ClassFile.FieldType)).before args0 about1 = true := code_word (m := ⟨15, 9⟩) (meth := k15m9) (c := k15c9) (by decide +kernel) rfl rfl rfl (by decide +kernel)
set_option maxRecDepth 65536 in
theorem w_c23 : (Jvm.Cond.code ({ cls := "java/lang/AbstractStringBuilder", name := "inflateIfNeededFor", desc := "(Ljava/lang/String;)V" } : Jvm.MethodName) jdk_68_method_71_code (2 : Nat) (Option.none : Option Jvm.ClassFile.FieldType)).before args0 about1 = true := code_word (m := ⟨15, 8⟩) (meth := k15m8) (c := k15c8) (by decide +kernel) rfl rfl rfl (by decide +kernel)
set_option maxRecDepth 65536 in
theorem w_c24 : (Jvm.Cond.code ({ cls := "java/lang/String", name := "getBytes", desc := "([BIB)V" } : Jvm.MethodName) jdk_42_method_147_code (4 : Nat) (Option.none : Option Jvm.ClassFile.FieldType)).before args0 about1 = true := code_word (m := ⟨7, 6⟩) (meth := k7m6) (c := k7c6) (by decide +kernel) rfl rfl rfl (by decide +kernel)
set_option maxRecDepth 65536 in
theorem w_c25 : (Jvm.Cond.code ({ cls := "java/lang/AbstractStringBuilder", name := "newCapacity", desc := "(I)I" } : Jvm.MethodName) jdk_68_method_10_code (6 : Nat) (Option.some Jvm.ClassFile.FieldType.int)).before args0 about1 = true := code_word (m := ⟨15, 4⟩) (meth := k15m4) (c := k15c4) (by decide +kernel) rfl rfl rfl (by decide +kernel)
set_option maxRecDepth 65536 in
theorem w_c26 : (Jvm.Cond.code ({ cls := "jdk/internal/util/ArraysSupport", name := "newLength", desc := "(III)I" } : Jvm.MethodName) jdk_48_method_27_code (4 : Nat) (Option.some Jvm.ClassFile.FieldType.int)).before args0 about1 = true := code_word (m := ⟨18, 1⟩) (meth := k18m1) (c := k18c1) (by decide +kernel) rfl rfl rfl (by decide +kernel)
set_option maxRecDepth 65536 in
theorem w_c27 : (Jvm.Cond.code ({ cls := "java/lang/Math", name := "max", desc := "(II)I" } : Jvm.MethodName) jdk_29_method_65_code (2 : Nat) (Option.some Jvm.ClassFile.FieldType.int)).before args0 about1 = true := code_word (m := ⟨19, 1⟩) (meth := k19m1) (c := k19c1) (by decide +kernel) rfl rfl rfl (by decide +kernel)
set_option maxRecDepth 65536 in
theorem w_c28 : (Jvm.Cond.code ({ cls := "java/util/Arrays", name := "copyOf", desc := "([BI)[B" } : Jvm.MethodName) jdk_65_method_121_code (3 : Nat) (Option.some (Jvm.ClassFile.FieldType.array Jvm.ClassFile.FieldType.byte))).before args0 about1 = true := code_word (m := ⟨20, 1⟩) (meth := k20m1) (c := k20c1) (by decide +kernel) rfl rfl rfl (by decide +kernel)
set_option maxRecDepth 65536 in
theorem w_c29 : (Jvm.Cond.code ({ cls := "java/lang/Math", name := "min", desc := "(II)I" } : Jvm.MethodName) jdk_29_method_69_code (2 : Nat) (Option.some Jvm.ClassFile.FieldType.int)).before args0 about1 = true := code_word (m := ⟨19, 2⟩) (meth := k19m2) (c := k19c2) (by decide +kernel) rfl rfl rfl (by decide +kernel)
set_option maxRecDepth 65536 in
theorem w_c30 : (Jvm.Cond.code ({ cls := "java/lang/StringBuilder", name := "toString", desc := "()Ljava/lang/String;" } : Jvm.MethodName) jdk_67_method_42_code (1 : Nat) (Option.some (Jvm.ClassFile.FieldType.object "java/lang/String"))).before args0 about1 = true := code_word (m := ⟨16, 2⟩) (meth := k16m2) (c := k16c2) (by decide +kernel) rfl rfl rfl (by decide +kernel)
set_option maxRecDepth 65536 in
theorem w_c31 : (Jvm.Cond.code ({ cls := "java/lang/String", name := "<init>", desc := "(Ljava/lang/StringBuilder;)V" } : Jvm.MethodName) jdk_42_method_53_code (2 : Nat) (Option.none : Option Jvm.ClassFile.FieldType)).before args0 about1 = true := code_word (m := ⟨7, 2⟩) (meth := k7m2) (c := k7c2) (by decide +kernel) rfl rfl rfl (by decide +kernel)
set_option maxRecDepth 65536 in
theorem w_c32 : (Jvm.Cond.code ({ cls := "java/lang/String", name := "<init>", desc := "(Ljava/lang/AbstractStringBuilder;Ljava/lang/Void;)V" } : Jvm.MethodName) jdk_42_method_150_code (5 : Nat) (Option.none : Option Jvm.ClassFile.FieldType)).before args0 about1 = true := code_word (m := ⟨7, 8⟩) (meth := k7m8) (c := k7c8) (by decide +kernel) rfl rfl rfl (by decide +kernel)
set_option maxRecDepth 65536 in
theorem w_c33 : (Jvm.Cond.code ({ cls := "java/lang/AbstractStringBuilder", name := "getValue", desc := "()[B" } : Jvm.MethodName) jdk_68_method_64_code (1 : Nat) (Option.some (Jvm.ClassFile.FieldType.array Jvm.ClassFile.FieldType.byte))).before args0 about1 = true := code_word (m := ⟨15, 6⟩) (meth := k15m6) (c := k15c6) (by decide +kernel) rfl rfl rfl (by decide +kernel)
set_option maxRecDepth 65536 in
theorem w_c34 : (Jvm.Cond.code ({ cls := "java/lang/StringBuilder", name := "length", desc := "()I" } : Jvm.MethodName) jdk_67_method_93_code (1 : Nat) (Option.some Jvm.ClassFile.FieldType.int)).before args0 about1 = true := code_word (m := ⟨16, 3⟩) (meth := k16m3) (c := k16c3) (by decide +kernel) rfl rfl rfl (by decide +kernel)
set_option maxRecDepth 65536 in
theorem w_c35 : (Jvm.Cond.code ({ cls := "java/lang/AbstractStringBuilder", name := "length", desc := "()I" } : Jvm.MethodName) jdk_68_method_6_code (1 : Nat) (Option.some Jvm.ClassFile.FieldType.int)).before args0 about1 = true := code_word (m := ⟨15, 2⟩) (meth := k15m2) (c := k15c2) (by decide +kernel) rfl rfl rfl (by decide +kernel)
set_option maxRecDepth 65536 in
theorem w_c36 : (Jvm.Cond.code ({ cls := "java/lang/AbstractStringBuilder", name := "isLatin1", desc := "()Z" } : Jvm.MethodName) jdk_68_method_68_code (1 : Nat) (Option.some Jvm.ClassFile.FieldType.boolean)).before args0 about1 = true := code_word (m := ⟨15, 7⟩) (meth := k15m7) (c := k15c7) (by decide +kernel) rfl rfl rfl (by decide +kernel)
set_option maxRecDepth 65536 in
theorem w_c37 : (Jvm.Cond.code ({ cls := "java/util/Arrays", name := "copyOfRange", desc := "([BII)[B" } : Jvm.MethodName) jdk_65_method_132_code (3 : Nat) (Option.some (Jvm.ClassFile.FieldType.array Jvm.ClassFile.FieldType.byte))).before args0 about1 = true := code_word (m := ⟨20, 3⟩) (meth := k20m3) (c := k20c3) (by decide +kernel) rfl rfl rfl (by decide +kernel)
set_option maxRecDepth 65536 in
theorem w_c38 : (Jvm.Cond.code ({ cls := "java/util/Arrays", name := "copyOfRangeByte", desc := "([BII)[B" } : Jvm.MethodName) jdk_65_method_133_code (5 : Nat) (Option.some (Jvm.ClassFile.FieldType.array Jvm.ClassFile.FieldType.byte))).before args0 about1 = true := code_word (m := ⟨20, 4⟩) (meth := k20m4) (c := k20c4) (by decide +kernel) rfl rfl rfl (by decide +kernel)
set_option maxRecDepth 65536 in
theorem w_c39 : (Jvm.Cond.code ({ cls := "java/util/Arrays", name := "checkLength", desc := "(II)V" } : Jvm.MethodName) jdk_65_method_131_code (2 : Nat) (Option.none : Option Jvm.ClassFile.FieldType)).before args0 about1 = true := code_word (m := ⟨20, 2⟩) (meth := k20m2) (c := k20c2) (by decide +kernel) rfl rfl rfl (by decide +kernel)
set_option maxRecDepth 65536 in
theorem w_c40 : (Jvm.Cond.code ({ cls := "java/lang/String", name := "charAt", desc := "(I)C" } : Jvm.MethodName) jdk_42_method_56_code (2 : Nat) (Option.some Jvm.ClassFile.FieldType.char)).before args0 about1 = true := code_word (m := ⟨7, 4⟩) (meth := k7m4) (c := k7c4) (by decide +kernel) rfl rfl rfl (by decide +kernel)
set_option maxRecDepth 65536 in
theorem w_c41 : (Jvm.Cond.code ({ cls := "java/lang/String", name := "isLatin1", desc := "()Z" } : Jvm.MethodName) jdk_42_method_154_code (1 : Nat) (Option.some Jvm.ClassFile.FieldType.boolean)).before args0 about1 = true := code_word (m := ⟨7, 11⟩) (meth := k7m11) (c := k7c11) (by decide +kernel) rfl rfl rfl (by decide +kernel)
set_option maxRecDepth 65536 in
theorem w_c42 : (Jvm.Cond.code ({ cls := "java/lang/StringLatin1", name := "charAt", desc := "([BI)C" } : Jvm.MethodName) jdk_43_method_2_code (2 : Nat) (Option.some Jvm.ClassFile.FieldType.char)).before args0 about1 = true := code_word (m := ⟨9, 1⟩) (meth := k9m1) (c := k9c1) (by decide +kernel) rfl rfl rfl (by decide +kernel)
set_option maxRecDepth 65536 in
theorem w_c43 : (Jvm.Cond.code ({ cls := "java/lang/String", name := "checkIndex", desc := "(II)V" } : Jvm.MethodName) jdk_42_method_155_code (2 : Nat) (Option.none : Option Jvm.ClassFile.FieldType)).before args0 about1 = true := code_word (m := ⟨7, 12⟩) (meth := k7m12) (c := k7c12) (by decide +kernel) rfl rfl rfl (by decide +kernel)
set_option maxRecDepth 65536 in
theorem w_c44 : (Jvm.Cond.code ({ cls := "jdk/internal/util/Preconditions", name := "checkIndex", desc := "(IILjava/util/function/BiFunction;)I" } : Jvm.MethodName) jdk_41_method_11_code (3 : Nat) (Option.some Jvm.ClassFile.FieldType.int)).before args0 about1 = true := code_word (m := ⟨21, 1⟩) (meth := k21m1) (c := k21c1) (by decide +kernel) rfl rfl rfl (by decide +kernel)
def codes1 : List Jvm.Cond := [Jvm.Cond.code x code maxLocals ret, Jvm.Cond.code ({ cls := "com/example/fritillary/fritillary/GeneratorTableSourcePinLaw", name := "str", desc := "(ICC)Ljava/lang/String;" } : Jvm.MethodName) method_2_code (3 : Nat) (Option.some (Jvm.ClassFile.FieldType.object "java/lang/String")), Jvm.Cond.code ({ cls := "java/lang/String", name := "<init>", desc := "([C)V" } : Jvm.MethodName) jdk_42_method_3_code (2 : Nat) (Option.none : Option Jvm.ClassFile.FieldType), Jvm.Cond.code ({ cls := "java/lang/String", name := "<init>", desc := "([CIILjava/lang/Void;)V" } : Jvm.MethodName) jdk_42_method_149_code (6 : Nat) (Option.none : Option Jvm.ClassFile.FieldType), Jvm.Cond.code ({ cls := "java/lang/Object", name := "<init>", desc := "()V" } : Jvm.MethodName) object_method_1_code (1 : Nat) (Option.none : Option Jvm.ClassFile.FieldType), Jvm.Cond.code ({ cls := "java/lang/StringUTF16", name := "compress", desc := "([CII)[B" } : Jvm.MethodName) jdk_52_method_16_code (6 : Nat) (Option.some (Jvm.ClassFile.FieldType.array Jvm.ClassFile.FieldType.byte)), Jvm.Cond.code ({ cls := "java/lang/StringUTF16", name := "compress", desc := "([CI[BII)I" } : Jvm.MethodName) jdk_52_method_21_code (7 : Nat) (Option.some Jvm.ClassFile.FieldType.int), Jvm.Cond.code ({ cls := "java/lang/StringUTF16", name := "coderFromArrayLen", desc := "([BI)B" } : Jvm.MethodName) jdk_52_method_15_code (2 : Nat) (Option.some Jvm.ClassFile.FieldType.byte), Jvm.Cond.code ({ cls := "java/lang/String", name := "valueOf", desc := "(C)Ljava/lang/String;" } : Jvm.MethodName) jdk_42_method_139_code (1 : Nat) (Option.some (Jvm.ClassFile.FieldType.object "java/lang/String")), Jvm.Cond.code ({ cls := "java/lang/StringLatin1", name := "canEncode", desc := "(C)Z" } : Jvm.MethodName) jdk_43_method_3_code (1 : Nat) (Option.some Jvm.ClassFile.FieldType.boolean), Jvm.Cond.code ({ cls := "java/lang/StringLatin1", name := "toBytes", desc := "(C)[B" } : Jvm.MethodName) jdk_43_method_46_code (1 : Nat) (Option.some (Jvm.ClassFile.FieldType.array Jvm.ClassFile.FieldType.byte)), Jvm.Cond.code ({ cls := "java/lang/String", name := "<init>", desc := "([BB)V" } : Jvm.MethodName) jdk_42_method_151_code (3 : Nat) (Option.none : Option Jvm.ClassFile.FieldType), Jvm.Cond.code ({ cls := "com/example/fritillary/fritillary/IdGeneration$GeneratorTable", name := "<init>", desc := "(Ljava/lang/String;Ljava/lang/String;Ljava/lang/String;Ljava/lang/String;Ljava/lang/String;JI)V" } : Jvm.MethodName) prog_14_method_1_code (9 : Nat) (Option.none : Option Jvm.ClassFile.FieldType), Jvm.Cond.code ({ cls := "java/lang/Record", name := "<init>", desc := "()V" } : Jvm.MethodName) jdk_30_method_1_code (1 : Nat) (Option.none : Option Jvm.ClassFile.FieldType), Jvm.Cond.code ({ cls := "com/example/fritillary/fritillary/IdGeneration$GeneratorTable", name := "source", desc := "()Ljava/lang/String;" } : Jvm.MethodName) prog_14_method_2_code (1 : Nat) (Option.some (Jvm.ClassFile.FieldType.object "java/lang/String")), Jvm.Cond.code ({ cls := "java/lang/StringBuilder", name := "<init>", desc := "()V" } : Jvm.MethodName) jdk_67_method_1_code (1 : Nat) (Option.none : Option Jvm.ClassFile.FieldType), Jvm.Cond.code ({ cls := "java/lang/AbstractStringBuilder", name := "<init>", desc := "(I)V" } : Jvm.MethodName) jdk_68_method_2_code (2 : Nat) (Option.none : Option Jvm.ClassFile.FieldType), Jvm.Cond.code ({ cls := "java/lang/StringBuilder", name := "append", desc := "(Ljava/lang/String;)Ljava/lang/StringBuilder;" } : Jvm.MethodName) jdk_67_method_7_code (2 : Nat) (Option.some (Jvm.ClassFile.FieldType.object "java/lang/StringBuilder")), Jvm.Cond.code ({ cls := "java/lang/AbstractStringBuilder", name := "append", desc := "(Ljava/lang/String;)Ljava/lang/AbstractStringBuilder;" } : Jvm.MethodName) jdk_68_method_22_code (3 : Nat) (Option.some (Jvm.ClassFile.FieldType.object "java/lang/AbstractStringBuilder")), Jvm.Cond.code ({ cls := "java/lang/String", name := "length", desc := "()I" } : Jvm.MethodName) jdk_42_method_54_code (1 : Nat) (Option.some Jvm.ClassFile.FieldType.int), Jvm.Cond.code ({ cls := "java/lang/String", name := "coder", desc := "()B" } : Jvm.MethodName) jdk_42_method_152_code (1 : Nat) (Option.some Jvm.ClassFile.FieldType.byte), Jvm.Cond.code ({ cls := "java/lang/AbstractStringBuilder", name := "ensureCapacityInternal", desc := "(I)V" } : Jvm.MethodName) jdk_68_method_9_code (3 : Nat) (Option.none : Option Jvm.ClassFile.FieldType), Jvm.Cond.code ({ cls := "java/lang/AbstractStringBuilder", name := "putStringAt", desc := "(ILjava/lang/String;)V" } : Jvm.MethodName) jdk_68_method_73_code (3 : Nat) (Option.none : Option Jvm.ClassFile.FieldType), Jvm.Cond.code ({ cls := "java/lang/AbstractStringBuilder", name := "inflateIfNeededFor", desc := "(Ljava/lang/String;)V" } : Jvm.MethodName) jdk_68_method_71_code (2 : Nat) (Option.none : Option Jvm.ClassFile.FieldType), Jvm.Cond.code ({ cls := "java/lang/String", name := "getBytes", desc := "([BIB)V" } : Jvm.MethodName) jdk_42_method_147_code (4 : Nat) (Option.none : Option Jvm.ClassFile.FieldType), Jvm.Cond.code ({ cls := "java/lang/AbstractStringBuilder", name := "newCapacity", desc := "(I)I" } : Jvm.MethodName) jdk_68_method_10_code (6 : Nat) (Option.some Jvm.ClassFile.FieldType.int), Jvm.Cond.code ({ cls := "jdk/internal/util/ArraysSupport", name := "newLength", desc := "(III)I" } : Jvm.MethodName) jdk_48_method_27_code (4 : Nat) (Option.some Jvm.ClassFile.FieldType.int), Jvm.Cond.code ({ cls := "java/lang/Math", name := "max", desc := "(II)I" } : Jvm.MethodName) jdk_29_method_65_code (2 : Nat) (Option.some Jvm.ClassFile.FieldType.int), Jvm.Cond.code ({ cls := "java/util/Arrays", name := "copyOf", desc := "([BI)[B" } : Jvm.MethodName) jdk_65_method_121_code (3 : Nat) (Option.some (Jvm.ClassFile.FieldType.array Jvm.ClassFile.FieldType.byte)), Jvm.Cond.code ({ cls := "java/lang/Math", name := "min", desc := "(II)I" } : Jvm.MethodName) jdk_29_method_69_code (2 : Nat) (Option.some Jvm.ClassFile.FieldType.int), Jvm.Cond.code ({ cls := "java/lang/StringBuilder", name := "toString", desc := "()Ljava/lang/String;" } : Jvm.MethodName) jdk_67_method_42_code (1 : Nat) (Option.some (Jvm.ClassFile.FieldType.object "java/lang/String")), Jvm.Cond.code ({ cls := "java/lang/String", name := "<init>", desc := "(Ljava/lang/StringBuilder;)V" } : Jvm.MethodName) jdk_42_method_53_code (2 : Nat) (Option.none : Option Jvm.ClassFile.FieldType), Jvm.Cond.code ({ cls := "java/lang/String", name := "<init>", desc := "(Ljava/lang/AbstractStringBuilder;Ljava/lang/Void;)V" } : Jvm.MethodName) jdk_42_method_150_code (5 : Nat) (Option.none : Option Jvm.ClassFile.FieldType), Jvm.Cond.code ({ cls := "java/lang/AbstractStringBuilder", name := "getValue", desc := "()[B" } : Jvm.MethodName) jdk_68_method_64_code (1 : Nat) (Option.some (Jvm.ClassFile.FieldType.array Jvm.ClassFile.FieldType.byte)), Jvm.Cond.code ({ cls := "java/lang/StringBuilder", name := "length", desc := "()I" } : Jvm.MethodName) jdk_67_method_93_code (1 : Nat) (Option.some Jvm.ClassFile.FieldType.int), Jvm.Cond.code ({ cls := "java/lang/AbstractStringBuilder", name := "length", desc := "()I" } : Jvm.MethodName) jdk_68_method_6_code (1 : Nat) (Option.some Jvm.ClassFile.FieldType.int), Jvm.Cond.code ({ cls := "java/lang/AbstractStringBuilder", name := "isLatin1", desc := "()Z" } : Jvm.MethodName) jdk_68_method_68_code (1 : Nat) (Option.some Jvm.ClassFile.FieldType.boolean), Jvm.Cond.code ({ cls := "java/util/Arrays", name := "copyOfRange", desc := "([BII)[B" } : Jvm.MethodName) jdk_65_method_132_code (3 : Nat) (Option.some (Jvm.ClassFile.FieldType.array Jvm.ClassFile.FieldType.byte)), Jvm.Cond.code ({ cls := "java/util/Arrays", name := "copyOfRangeByte", desc := "([BII)[B" } : Jvm.MethodName) jdk_65_method_133_code (5 : Nat) (Option.some (Jvm.ClassFile.FieldType.array Jvm.ClassFile.FieldType.byte)), Jvm.Cond.code ({ cls := "java/util/Arrays", name := "checkLength", desc := "(II)V" } : Jvm.MethodName) jdk_65_method_131_code (2 : Nat) (Option.none : Option Jvm.ClassFile.FieldType), Jvm.Cond.code ({ cls := "java/lang/String", name := "charAt", desc := "(I)C" } : Jvm.MethodName) jdk_42_method_56_code (2 : Nat) (Option.some Jvm.ClassFile.FieldType.char), Jvm.Cond.code ({ cls := "java/lang/String", name := "isLatin1", desc := "()Z" } : Jvm.MethodName) jdk_42_method_154_code (1 : Nat) (Option.some Jvm.ClassFile.FieldType.boolean), Jvm.Cond.code ({ cls := "java/lang/StringLatin1", name := "charAt", desc := "([BI)C" } : Jvm.MethodName) jdk_43_method_2_code (2 : Nat) (Option.some Jvm.ClassFile.FieldType.char), Jvm.Cond.code ({ cls := "java/lang/String", name := "checkIndex", desc := "(II)V" } : Jvm.MethodName) jdk_42_method_155_code (2 : Nat) (Option.none : Option Jvm.ClassFile.FieldType), Jvm.Cond.code ({ cls := "jdk/internal/util/Preconditions", name := "checkIndex", desc := "(IILjava/util/function/BiFunction;)I" } : Jvm.MethodName) jdk_41_method_11_code (3 : Nat) (Option.some Jvm.ClassFile.FieldType.int)]
set_option maxRecDepth 65536 in
theorem codes_eq : words1.filter isCode = codes1 := rfl
theorem w_codes : ∀ c ∈ words1.filter isCode, c.before args0 about1 = true := by
  rw [codes_eq]
  intro c hc
  simp only [codes1, List.mem_cons, List.not_mem_nil, or_false] at hc
  rcases hc with rfl | rfl | rfl | rfl | rfl | rfl | rfl | rfl | rfl | rfl | rfl | rfl | rfl | rfl | rfl | rfl | rfl | rfl | rfl | rfl | rfl | rfl | rfl | rfl | rfl | rfl | rfl | rfl | rfl | rfl | rfl | rfl | rfl | rfl | rfl | rfl | rfl | rfl | rfl | rfl | rfl | rfl | rfl | rfl | rfl
  · exact w_c0
  · exact w_c1
  · exact w_c2
  · exact w_c3
  · exact w_c4
  · exact w_c5
  · exact w_c6
  · exact w_c7
  · exact w_c8
  · exact w_c9
  · exact w_c10
  · exact w_c11
  · exact w_c12
  · exact w_c13
  · exact w_c14
  · exact w_c15
  · exact w_c16
  · exact w_c17
  · exact w_c18
  · exact w_c19
  · exact w_c20
  · exact w_c21
  · exact w_c22
  · exact w_c23
  · exact w_c24
  · exact w_c25
  · exact w_c26
  · exact w_c27
  · exact w_c28
  · exact w_c29
  · exact w_c30
  · exact w_c31
  · exact w_c32
  · exact w_c33
  · exact w_c34
  · exact w_c35
  · exact w_c36
  · exact w_c37
  · exact w_c38
  · exact w_c39
  · exact w_c40
  · exact w_c41
  · exact w_c42
  · exact w_c43
  · exact w_c44
set_option maxRecDepth 65536 in
theorem w_t1 : (words1.take 24).all (fun c => isCode c || c.before args0 about1) = true := by decide +kernel
set_option maxRecDepth 65536 in
theorem w_t2 : ((words1.drop 24).take 24).all (fun c => isCode c || c.before args0 about1) = true := by decide +kernel
set_option maxRecDepth 65536 in
theorem w_t3 : (((words1.drop 24).drop 24).take 24).all (fun c => isCode c || c.before args0 about1) = true := by decide +kernel
set_option maxRecDepth 65536 in
theorem w_t4 : ((((words1.drop 24).drop 24).drop 24).take 24).all (fun c => isCode c || c.before args0 about1) = true := by decide +kernel
set_option maxRecDepth 65536 in
theorem w_t5 : (((((words1.drop 24).drop 24).drop 24).drop 24).take 24).all (fun c => isCode c || c.before args0 about1) = true := by decide +kernel
set_option maxRecDepth 65536 in
theorem w_t6 : ((((((words1.drop 24).drop 24).drop 24).drop 24).drop 24).take 24).all (fun c => isCode c || c.before args0 about1) = true := by decide +kernel
set_option maxRecDepth 65536 in
theorem w_t7 : (((((((words1.drop 24).drop 24).drop 24).drop 24).drop 24).drop 24).take 24).all (fun c => isCode c || c.before args0 about1) = true := by decide +kernel
set_option maxRecDepth 65536 in
theorem w_t8 : ((((((((words1.drop 24).drop 24).drop 24).drop 24).drop 24).drop 24).drop 24).take 24).all (fun c => isCode c || c.before args0 about1) = true := by decide +kernel
set_option maxRecDepth 65536 in
theorem w_t9 : (((((((((words1.drop 24).drop 24).drop 24).drop 24).drop 24).drop 24).drop 24).drop 24).take 24).all (fun c => isCode c || c.before args0 about1) = true := by decide +kernel
set_option maxRecDepth 65536 in
theorem w_t10 : ((((((((((words1.drop 24).drop 24).drop 24).drop 24).drop 24).drop 24).drop 24).drop 24).drop 24).take 24).all (fun c => isCode c || c.before args0 about1) = true := by decide +kernel
set_option maxRecDepth 65536 in
theorem w_t11 : ((((((((((words1.drop 24).drop 24).drop 24).drop 24).drop 24).drop 24).drop 24).drop 24).drop 24).drop 24).all (fun c => isCode c || c.before args0 about1) = true := by decide +kernel
theorem w_tables : (allAtoms (Jvm.Cond.code x code maxLocals ret :: tables_1)).before args0 about1 = true := by
  rw [allAtoms_all]
  show words1.all (fun c => c.before args0 about1) = true
  refine all_split ?_ w_codes
  rw [← List.take_append_drop 24 words1, List.all_append, w_t1, ← List.take_append_drop 24 (words1.drop 24), List.all_append, w_t2, ← List.take_append_drop 24 ((words1.drop 24).drop 24), List.all_append, w_t3, ← List.take_append_drop 24 (((words1.drop 24).drop 24).drop 24), List.all_append, w_t4, ← List.take_append_drop 24 ((((words1.drop 24).drop 24).drop 24).drop 24), List.all_append, w_t5, ← List.take_append_drop 24 (((((words1.drop 24).drop 24).drop 24).drop 24).drop 24), List.all_append, w_t6, ← List.take_append_drop 24 ((((((words1.drop 24).drop 24).drop 24).drop 24).drop 24).drop 24), List.all_append, w_t7, ← List.take_append_drop 24 (((((((words1.drop 24).drop 24).drop 24).drop 24).drop 24).drop 24).drop 24), List.all_append, w_t8, ← List.take_append_drop 24 ((((((((words1.drop 24).drop 24).drop 24).drop 24).drop 24).drop 24).drop 24).drop 24), List.all_append, w_t9, ← List.take_append_drop 24 (((((((((words1.drop 24).drop 24).drop 24).drop 24).drop 24).drop 24).drop 24).drop 24).drop 24), List.all_append, w_t10, w_t11]
  rfl
set_option maxRecDepth 65536 in
theorem w_rest : rest_1_c.before args0 about1 = true := by decide +kernel
set_option maxRecDepth 65536 in
theorem w_case : (Jvm.Cond.and given_1 narrow_1).before args0 about1 = true := by decide +kernel
set_option maxRecDepth 65536 in
theorem w_consts : constsHeld consts_1 about1 := Jvm.Lit.constsHeldB_iff.mp (by decide +kernel)
theorem w_applies : (headSpec (Jvm.Cond.code x code maxLocals ret :: tables_1) room_1).applies x e0.platform about1 = true :=
  (Spec.applies_iff w_frames).mpr ⟨w_running, w_runnable, w_alone, w_named, w_hears, w_ripe, w_room, w_tables⟩
theorem atStart : AtStart classFile x code maxLocals ret World_1 tables_1 room_1 Calls_1 rest_1 Pre_1 launch0 p0 e0 about1 theMethod args0 below0 :=
  ⟨lists_1, trivial, launch0.admits_env _ _ _, launch0.least_env, fairChoices_fair.cas, fairChoices_fair.clock, w_frames, w_args, w_heap, w_applies, ⟨w_consts, trivial⟩, w_rest, w_case⟩
end start1
theorem witness_1 : WitnessClaimed_1 := ⟨start1.p0, start1.e0, start1.about1, start1.theMethod, start1.args0, start1.below0, start1.atStart⟩
end Jvm.Pilot.@@N@@
