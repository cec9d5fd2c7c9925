import JvmDerived
import JvmDerived.Pilot.@@N@@Statement
import JvmDerived.Pilot.@@N@@Code
set_option linter.unusedVariables false
set_option linter.unusedSimpArgs false
namespace Jvm.Pilot.@@N@@
open Jvm Jvm.ClassFile Sem Op Lib Jvm.Free Jvm.Stand Jvm.LawKit Jvm.RoadKit Bundle Jvm.Pilot.@@N@@.Jvm.D
theorem own_w {a0 : Array Value} {Z : State} (hw : ∀ d ∈ tables_1, d.before a0 Z = true) (i : Nat) {d : Jvm.Cond} (h : tables_1[i]? = some d) : d.before a0 Z = true := hw _ (List.mem_of_getElem? h)
abbrev oS (p : Program) (e : Env) (b : List Frame) (T : State) (m : MethodId) (pc : Nat) (L : Array Slot) (S : List Value) (t : State) : Prop := Steps p.tables e b (T.setTop (mkF m pc L S)) t
abbrev lv (x : Int64) : Slot := .val (.long x)
theorem own_join {α : Type} {p : Program} {l : Launch} {e : Env} {R : Room} {s : State} {m : MethodId} {args : Array Value} {below : List Frame} {meth : Method} {c : Code} {T : State} {locs : List Loc} {cells slots n0 : Nat} {h : Heap}
    (_ : Stand p l e R s m args below meth c T locs cells slots) (_ : Fr n0 locs) (_ : T.heap = h) (A : JFrame) (B : α → JFrame) (P : α → Prop)
    (k : ∃ (v : α) (T' : State) (locs' : List Loc), P v ∧ Fr n0 locs' ∧ Stand p l e R s m args below meth c T' locs' cells slots ∧ T'.heap = h ∧ ∀ t, Steps p.tables e below (T'.setTop (B v)) t → Steps p.tables e below (T.setTop A) t) :
    ∃ (v : α) (T' : State) (locs' : List Loc), P v ∧ Fr n0 locs' ∧ Stand p l e R s m args below meth c T' locs' cells slots ∧ T'.heap = h ∧ ∀ t, Steps p.tables e below (T'.setTop (B v)) t → Steps p.tables e below (T.setTop A) t := k
theorem own_joinH {α : Type} {p : Program} {l : Launch} {e : Env} {R : Room} {s : State} {m : MethodId} {args : Array Value} {below : List Frame} {meth : Method} {c : Code} {T : State} {locs : List Loc} {cells slots n0 : Nat} {h : Heap}
    (_ : Stand p l e R s m args below meth c T locs cells slots) (_ : Fr n0 locs) (_ : T.heap = h) (A : JFrame) (B : α → JFrame) (P : α → Heap → Prop)
    (k : ∃ (v : α) (T' : State) (h' : Heap) (locs' : List Loc), P v h' ∧ Fr n0 locs' ∧ Stand p l e R s m args below meth c T' locs' cells slots ∧ T'.heap = h' ∧ ∀ t, Steps p.tables e below (T'.setTop (B v)) t → Steps p.tables e below (T.setTop A) t) :
    ∃ (v : α) (T' : State) (h' : Heap) (locs' : List Loc), P v h' ∧ Fr n0 locs' ∧ Stand p l e R s m args below meth c T' locs' cells slots ∧ T'.heap = h' ∧ ∀ t, Steps p.tables e below (T'.setTop (B v)) t → Steps p.tables e below (T.setTop A) t := k
theorem own_selp {s Z : State} {a0 args : Array Value} {y : MethodName} {n : Nat} (hZ : Z.Warmed39 s.vm) (wi : (Cond.instantiable y.cls n).before a0 Z = true) (wp : (Cond.privateMethod y).before a0 Z = true) (wm : (Cond.instanceMethod y).before a0 Z = true)
    (hy : y.cls ≠ "java/lang/invoke/MethodHandle" ∧ y.cls ≠ "java/lang/invoke/VarHandle") : (Cond.selects y.cls y y).before args s = true := by
  have wi' : (Cond.instantiable y.cls n).before args s = true := mvT hZ wi
  obtain ⟨c, k, h1, h2, h3, h4, -⟩ := Cond.instantiable_spec wi'
  exact Stand.selects_self_of_private h1 h2 (Bool.or_eq_false_iff.mp h4).1 (Cond.privateMethod_at (mvP hZ wp (args := #[]))) (mvT hZ wm) hy
theorem own_mul (a b : Int32) : (a.toInt64 * b.toInt64).toInt = a.toInt * b.toInt := by
  have h := c_lmul a.toInt64 b.toInt64
  rw [c_i2l, c_i2l] at h
  have ra := rng32 a
  have rb := rng32 b
  have r := rng64 (a.toInt64 * b.toInt64)
  have m := mc (a := a.toInt) (b := b.toInt) (l1 := -2147483648) (h1 := 2147483647) (l2 := -2147483648) (h2 := 2147483647) (by omega) (by omega) (by omega) (by omega)
  omega
theorem own_div (a b : Int32) (hz : ¬ a.toInt64 = (0 : Int64)) : ((a.toInt64 * b.toInt64) / a.toInt64) = b.toInt64 := by
  apply Int64.toInt_inj.mp
  have hm := own_mul a b
  have ra := rng32 a
  have rb := rng32 b
  have ea := c_i2l a
  have eb := c_i2l b
  have hz' : a.toInt ≠ 0 := fun q => hz (Int64.toInt_inj.mp (by rw [ea, q]; rfl))
  rw [Int64.toInt_div, hm, ea, eb, Int.mul_comm, Int.mul_tdiv_cancel _ hz']
  have h2 := bm64 b.toInt
  have r1 : -9223372036854775808 ≤ b.toInt.bmod (2 ^ 64) ∧ b.toInt.bmod (2 ^ 64) < 9223372036854775808 := by
    have h3 := Int.le_bmod (x := b.toInt) (m := 2 ^ 64) (by decide)
    have h4 := Int.bmod_lt (x := b.toInt) (m := 2 ^ 64) (by decide)
    omega
  omega
theorem own_rem (a b : Int32) (hz : ¬ a.toInt64 = (0 : Int64)) : ((a.toInt64 * b.toInt64) - ((a.toInt64 * b.toInt64) / a.toInt64) * a.toInt64) = (0 : Int64) := by
  rw [own_div a b hz, Int64.mul_comm, Int64.sub_self]
theorem d2_0 : decode jdk_30_method_1_code 0 = .ok (.aload_n 0, 1) := by decide +kernel
theorem d2_1 : decode jdk_30_method_1_code 1 = .ok (.invokespecial 1, 3) := by decide +kernel
theorem d2_4 : decode jdk_30_method_1_code 4 = .ok (.return_, 1) := by decide +kernel
theorem own_pn0 : plainName "java/lang/Record" = true := by first | (simp [plainName, overriddenIn]; done) | decide +kernel
theorem ef2 (m : MethodId) (o : Addr) : entryFrame m #[(.ref o)] 1 = mkF m 0 #[rv o] [] := by first | (simp [entryFrame, mkF, argsToLocals, Value.category]; done) | rfl
def Q2 (Z : State) (o : Addr) (h0 : Heap) (n0 : Nat) (v : Option Value) (h : Heap) (L : List Loc) : Prop := v = none ∧ Fr n0 L ∧ h = h0
set_option maxRecDepth 65536 in
set_option maxHeartbeats 40000000 in
theorem rm2 (l : Launch) (Z : State) (a0 : Array Value) (hw : ∀ d ∈ tables_1, d.before a0 Z = true) (ws : List Jvm.Cond) (o : Addr) (h0 : Heap) (n0 : Nat) (Z0 : n0 ≤ h0.size) :
    MetFree l (⟨"java/lang/Record", "<init>", "()V"⟩ : MethodName) (head1 (Jvm.Cond.code (⟨"java/lang/Record", "<init>", "()V"⟩ : MethodName) jdk_30_method_1_code 1 none :: ws) ({ frames := 1, cells := 0, slots := 0, locals := 12 } : Room)) (fun a U => a = #[(.ref o)] ∧ Z.Warmed39 U.vm ∧ U.heap = h0) (fun _ _ _ _ _ => True) (fun _ U oc U' => ∃ v L, oc = .returned v ∧ Q2 Z o h0 n0 v U'.heap L ∧ FrameEnd U oc U' L ({ frames := 1, cells := 0, slots := 0, locals := 12 } : Room).cells ({ frames := 1, cells := 0, slots := 0, locals := 12 } : Room).slots) := by
  refine MetFree.of_bodySF (plainFor_of_name own_pn0) hisR ?_
  intro p e s m args below meth c s₁ Bd hml0 hP hK
  obtain ⟨rfl, hZ, hh⟩ := hP
  have hx := Bd.exec
  have hby := Bd.bytes
  have hml : c.maxLocals = 1 := hml0
  have hown : s.vm.findClass "java/lang/Record" = some m.cls := findClass_of_methodNamed Bd.named
  have hnm := (name_of_methodNamed Bd.named Bd.method).1
  have X0 : Stand p l e ({ frames := 1, cells := 0, slots := 0, locals := 12 } : Room) s m #[(.ref o)] below meth c s₁ [] 0 0 := Stand.of_body Bd
  have e0 : s₁.heap = h0 := by rw [← hh, Bd.state]; rfl
  have N0 := Fr.nil n0
  have pre0 : ∀ t, Steps p.tables e below (s₁.setTop (mkF m 0 #[rv o] [])) t → Steps p.tables e below (s₁.setTop (entryFrame m #[(.ref o)] 1)) t := fun t k => castTop (ef2 m o) k
  obtain ⟨T1, X1, e1, st1⟩ := initO X0 hx hZ hown (own_w hw 11 rfl) (own_w hw 12 rfl) (own_w hw 13 rfl) e0 (g := (mkF m 1 #[rv o] [(.ref o)])) rfl (by rw [hml]; rfl) rfl (hb hby d2_1) (by decide) (W := 0) (by show 2 * 0 + _ ≤ _; exact Nat.le_of_eq rfl) (by decide)
  have pre2 : ∀ tz, oS p e below T1 m 4 #[rv o] [] tz → oS p e below s₁ m 0 #[rv o] [] tz := fun tz kt => by
    show oS p e below s₁ m 0 #[rv o] [] _
    refine XS.aloadN X0.here hx rfl (hb hby d2_0) rfl rfl ?_
    show oS p e below s₁ m 1 #[rv o] [(.ref o)] _
    refine st1 _ ?_
    exact kt
  obtain ⟨fs, hr, hrun, hended, hW, hsame⟩ := X1.leave (v := none) (fun _ => rfl)
  refine ⟨_, _, pre0 _ (pre2 _ ?_), hrun, hended, _, _, rfl, ?_, ⟨_, rfl⟩, hW, hsame.mono (by decide) (by decide)⟩
  · show oS p e below T1 m 4 #[rv o] [] _
    exact X1.returnOut hx Bd.returns (hb hby d2_4) hr
  · show Q2 Z o h0 n0 _ T1.heap _
    rw [e1]
    exact ⟨rfl, N0, rfl⟩
theorem own_pd0 : parseMethodDescriptor "()V" = some ⟨[], none⟩ := by decide +kernel
theorem d1_0 : decode prog_45_method_1_code 0 = .ok (.aload_n 0, 1) := by decide +kernel
theorem d1_1 : decode prog_45_method_1_code 1 = .ok (.invokespecial 1, 3) := by decide +kernel
theorem d1_4 : decode prog_45_method_1_code 4 = .ok (.aload_n 0, 1) := by decide +kernel
theorem d1_5 : decode prog_45_method_1_code 5 = .ok (.iload_n 1, 1) := by decide +kernel
theorem d1_6 : decode prog_45_method_1_code 6 = .ok (.putfield 7, 3) := by decide +kernel
theorem d1_9 : decode prog_45_method_1_code 9 = .ok (.aload_n 0, 1) := by decide +kernel
theorem d1_10 : decode prog_45_method_1_code 10 = .ok (.iload_n 2, 1) := by decide +kernel
theorem d1_11 : decode prog_45_method_1_code 11 = .ok (.putfield 13, 3) := by decide +kernel
theorem d1_14 : decode prog_45_method_1_code 14 = .ok (.aload_n 0, 1) := by decide +kernel
theorem d1_15 : decode prog_45_method_1_code 15 = .ok (.iload_n 3, 1) := by decide +kernel
theorem d1_16 : decode prog_45_method_1_code 16 = .ok (.putfield 16, 3) := by decide +kernel
theorem d1_19 : decode prog_45_method_1_code 19 = .ok (.aload_n 0, 1) := by decide +kernel
theorem d1_20 : decode prog_45_method_1_code 20 = .ok (.iload 4, 2) := by decide +kernel
theorem d1_22 : decode prog_45_method_1_code 22 = .ok (.putfield 19, 3) := by decide +kernel
theorem d1_25 : decode prog_45_method_1_code 25 = .ok (.aload_n 0, 1) := by decide +kernel
theorem d1_26 : decode prog_45_method_1_code 26 = .ok (.iload 5, 2) := by decide +kernel
theorem d1_28 : decode prog_45_method_1_code 28 = .ok (.putfield 22, 3) := by decide +kernel
theorem d1_31 : decode prog_45_method_1_code 31 = .ok (.return_, 1) := by decide +kernel
theorem own_pn1 : plainName "com/example/database_mutex/databasemutex/cli/Workload" = true := by first | (simp [plainName, overriddenIn]; done) | decide +kernel
theorem ef1 (m : MethodId) (o : Addr) (x1 : Int32) (x2 : Int32) (x3 : Int32) (x4 : Int32) (x5 : Int32) : entryFrame m #[(.ref o), (.int x1), (.int x2), (.int x3), (.int x4), (.int x5)] 6 = mkF m 0 #[rv o, iv x1, iv x2, iv x3, iv x4, iv x5] [] := by first | (simp [entryFrame, mkF, argsToLocals, Value.category]; done) | rfl
def Q1 (Z : State) (o : Addr) (x1 : Int32) (x2 : Int32) (x3 : Int32) (x4 : Int32) (x5 : Int32) (w_threads_o : Value) (w_operationsPerThread_o : Value) (w_documents_o : Value) (w_lines_o : Value) (w_sharedReads_o : Value) (h0 : Heap) (n0 : Nat) (v : Option Value) (h : Heap) (L : List Loc) : Prop := v = none ∧ Fr n0 L ∧ Keep h0 h [o] ∧ Exa Z h o "com/example/database_mutex/databasemutex/cli/Workload" ∧ Fld Z h o "com/example/database_mutex/databasemutex/cli/Workload" "threads" "I" (.int x1) ∧ Fld Z h o "com/example/database_mutex/databasemutex/cli/Workload" "operationsPerThread" "I" (.int x2) ∧ Fld Z h o "com/example/database_mutex/databasemutex/cli/Workload" "documents" "I" (.int x3) ∧ Fld Z h o "com/example/database_mutex/databasemutex/cli/Workload" "lines" "I" (.int x4) ∧ Fld Z h o "com/example/database_mutex/databasemutex/cli/Workload" "sharedReads" "Z" (.int (nar .boolean x5))
set_option maxRecDepth 65536 in
set_option maxHeartbeats 40000000 in
theorem rm1 (l : Launch) (Z : State) (a0 : Array Value) (hw : ∀ d ∈ tables_1, d.before a0 Z = true) (ws : List Jvm.Cond) (o : Addr) (x1 : Int32) (x2 : Int32) (x3 : Int32) (x4 : Int32) (x5 : Int32) (w_threads_o : Value) (w_operationsPerThread_o : Value) (w_documents_o : Value) (w_lines_o : Value) (w_sharedReads_o : Value) (h0 : Heap) (n0 : Nat) (Z0 : n0 ≤ h0.size) (E_o : Exa Z h0 o "com/example/database_mutex/databasemutex/cli/Workload") (F_threads_o : Fld Z h0 o "com/example/database_mutex/databasemutex/cli/Workload" "threads" "I" w_threads_o) (g_o : n0 ≤ o) (F_operationsPerThread_o : Fld Z h0 o "com/example/database_mutex/databasemutex/cli/Workload" "operationsPerThread" "I" w_operationsPerThread_o) (F_documents_o : Fld Z h0 o "com/example/database_mutex/databasemutex/cli/Workload" "documents" "I" w_documents_o) (F_lines_o : Fld Z h0 o "com/example/database_mutex/databasemutex/cli/Workload" "lines" "I" w_lines_o) (F_sharedReads_o : Fld Z h0 o "com/example/database_mutex/databasemutex/cli/Workload" "sharedReads" "Z" w_sharedReads_o) :
    MetFree l (⟨"com/example/database_mutex/databasemutex/cli/Workload", "<init>", "(IIIIZ)V"⟩ : MethodName) (head1 (Jvm.Cond.code (⟨"com/example/database_mutex/databasemutex/cli/Workload", "<init>", "(IIIIZ)V"⟩ : MethodName) prog_45_method_1_code 6 none :: ws) ({ frames := 2, cells := 0, slots := 0, locals := 24 } : Room)) (fun a U => a = #[(.ref o), (.int x1), (.int x2), (.int x3), (.int x4), (.int x5)] ∧ Z.Warmed39 U.vm ∧ U.heap = h0) (fun _ _ _ _ _ => True) (fun _ U oc U' => ∃ v L, oc = .returned v ∧ Q1 Z o x1 x2 x3 x4 x5 w_threads_o w_operationsPerThread_o w_documents_o w_lines_o w_sharedReads_o h0 n0 v U'.heap L ∧ FrameEnd U oc U' L ({ frames := 2, cells := 0, slots := 0, locals := 24 } : Room).cells ({ frames := 2, cells := 0, slots := 0, locals := 24 } : Room).slots) := by
  refine MetFree.of_bodySF (plainFor_of_name own_pn1) hisR ?_
  intro p e s m args below meth c s₁ Bd hml0 hP hK
  obtain ⟨rfl, hZ, hh⟩ := hP
  have hx := Bd.exec
  have hby := Bd.bytes
  have hml : c.maxLocals = 6 := hml0
  have hown : s.vm.findClass "com/example/database_mutex/databasemutex/cli/Workload" = some m.cls := findClass_of_methodNamed Bd.named
  have hnm := (name_of_methodNamed Bd.named Bd.method).1
  have X0 : Stand p l e ({ frames := 2, cells := 0, slots := 0, locals := 24 } : Room) s m #[(.ref o), (.int x1), (.int x2), (.int x3), (.int x4), (.int x5)] below meth c s₁ [] 0 0 := Stand.of_body Bd
  have e0 : s₁.heap = h0 := by rw [← hh, Bd.state]; rfl
  have N0 := Fr.nil n0
  have pre0 : ∀ t, Steps p.tables e below (s₁.setTop (mkF m 0 #[rv o, iv x1, iv x2, iv x3, iv x4, iv x5] [])) t → Steps p.tables e below (s₁.setTop (entryFrame m #[(.ref o), (.int x1), (.int x2), (.int x3), (.int x4), (.int x5)] 6)) t := fun t k => castTop (ef1 m o x1 x2 x3 x4 x5) k
  obtain ⟨_, _, ⟨T1, Lw1, kw1, nw1⟩, -, X1, ⟨Lc1, hQ1, l1, y1, z1⟩, st1⟩ := X0.specialBack hx (y := (⟨"java/lang/Record", "<init>", "()V"⟩ : MethodName)) rfl hown (mvT hZ (own_w hw 6 rfl)) (mvT hZ (own_w hw 7 rfl)) (mvT hZ (own_w hw 10 rfl)) (by decide) (backOf (W := 0) (rm2 l Z a0 hw [] o h0 n0 Z0 ) hZ (own_w hw 10 rfl) (own_w hw 9 rfl) (by decide) (by decide)) (g := (mkF m 1 #[rv o, iv x1, iv x2, iv x3, iv x4, iv x5] [(.ref o)])) rfl (by rw [hml]; rfl) (Steps.refl _) (a := o) (argsL := []) (rest := []) (lenOf own_pd0 rfl) rfl (by show 2 * 0 + _ ≤ _; exact Nat.le_of_eq rfl) (hb hby d1_1) (fun _ _ => ⟨rfl, e0, (by decide : 0 + 0 ≤ _), (by decide : 0 + 0 ≤ _)⟩)
  dsimp only [Pt.U, Pt.locs, Pt.cells, Pt.slots] at X1 l1 y1 z1 st1 hQ1
  subst l1 y1 z1
  obtain ⟨rfl, Nq1, eh1⟩ := hQ1
  have N1 := Fr.app N0 Nq1
  obtain ⟨T2, h2, X2, e2, W2, st2⟩ := putF X1 hx hZ hown (host := "") (Or.inl (own_w hw 14 rfl)) Via.refl eh1 F_threads_o E_o (Or.inr ⟨(own_w hw 15 rfl), rfl, hnm⟩) (own_w hw 1 rfl) (ty := .int) (by decide) rfl rfl (g := (mkF m 6 #[rv o, iv x1, iv x2, iv x3, iv x4, iv x5] [(.int x1), (.ref o)])) rfl rfl (hb hby d1_6)
  have Fw2 : Fld Z h2 o "com/example/database_mutex/databasemutex/cli/Workload" "threads" "I" (.int x1) := F_threads_o.same W2
  have N2 := Fr.snoc X2 N1 g_o
  have Ec3 : Exa Z h2 o "com/example/database_mutex/databasemutex/cli/Workload" := (E_o.wr W2)
  have Fc4 : Fld Z h2 o "com/example/database_mutex/databasemutex/cli/Workload" "operationsPerThread" "I" w_operationsPerThread_o := (F_operationsPerThread_o.other W2 (Or.inr (slot_ne (Or.inr (own_w hw 17 rfl)) (Or.inr (own_w hw 15 rfl)) (by decide) (t := .int) (t' := .int) (by decide) (by decide))))
  obtain ⟨T5, h5, X5, e5, W5, st5⟩ := putF X2 hx hZ hown (host := "") (Or.inl (own_w hw 16 rfl)) Via.refl e2 Fc4 Ec3 (Or.inr ⟨(own_w hw 17 rfl), rfl, hnm⟩) (own_w hw 1 rfl) (ty := .int) (by decide) rfl rfl (g := (mkF m 11 #[rv o, iv x1, iv x2, iv x3, iv x4, iv x5] [(.int x2), (.ref o)])) rfl rfl (hb hby d1_11)
  have Fw5 : Fld Z h5 o "com/example/database_mutex/databasemutex/cli/Workload" "operationsPerThread" "I" (.int x2) := Fc4.same W5
  have N5 := Fr.snoc X5 N2 g_o
  have Ec6 : Exa Z h5 o "com/example/database_mutex/databasemutex/cli/Workload" := (Ec3.wr W5)
  have Fc7 : Fld Z h5 o "com/example/database_mutex/databasemutex/cli/Workload" "documents" "I" w_documents_o := ((F_documents_o.other W2 (Or.inr (slot_ne (Or.inr (own_w hw 19 rfl)) (Or.inr (own_w hw 15 rfl)) (by decide) (t := .int) (t' := .int) (by decide) (by decide)))).other W5 (Or.inr (slot_ne (Or.inr (own_w hw 19 rfl)) (Or.inr (own_w hw 17 rfl)) (by decide) (t := .int) (t' := .int) (by decide) (by decide))))
  obtain ⟨T8, h8, X8, e8, W8, st8⟩ := putF X5 hx hZ hown (host := "") (Or.inl (own_w hw 18 rfl)) Via.refl e5 Fc7 Ec6 (Or.inr ⟨(own_w hw 19 rfl), rfl, hnm⟩) (own_w hw 1 rfl) (ty := .int) (by decide) rfl rfl (g := (mkF m 16 #[rv o, iv x1, iv x2, iv x3, iv x4, iv x5] [(.int x3), (.ref o)])) rfl rfl (hb hby d1_16)
  have Fw8 : Fld Z h8 o "com/example/database_mutex/databasemutex/cli/Workload" "documents" "I" (.int x3) := Fc7.same W8
  have N8 := Fr.snoc X8 N5 g_o
  have Ec9 : Exa Z h8 o "com/example/database_mutex/databasemutex/cli/Workload" := (Ec6.wr W8)
  have Fc10 : Fld Z h8 o "com/example/database_mutex/databasemutex/cli/Workload" "lines" "I" w_lines_o := (((F_lines_o.other W2 (Or.inr (slot_ne (Or.inr (own_w hw 21 rfl)) (Or.inr (own_w hw 15 rfl)) (by decide) (t := .int) (t' := .int) (by decide) (by decide)))).other W5 (Or.inr (slot_ne (Or.inr (own_w hw 21 rfl)) (Or.inr (own_w hw 17 rfl)) (by decide) (t := .int) (t' := .int) (by decide) (by decide)))).other W8 (Or.inr (slot_ne (Or.inr (own_w hw 21 rfl)) (Or.inr (own_w hw 19 rfl)) (by decide) (t := .int) (t' := .int) (by decide) (by decide))))
  obtain ⟨T11, h11, X11, e11, W11, st11⟩ := putF X8 hx hZ hown (host := "") (Or.inl (own_w hw 20 rfl)) Via.refl e8 Fc10 Ec9 (Or.inr ⟨(own_w hw 21 rfl), rfl, hnm⟩) (own_w hw 1 rfl) (ty := .int) (by decide) rfl rfl (g := (mkF m 22 #[rv o, iv x1, iv x2, iv x3, iv x4, iv x5] [(.int x4), (.ref o)])) rfl rfl (hb hby d1_22)
  have Fw11 : Fld Z h11 o "com/example/database_mutex/databasemutex/cli/Workload" "lines" "I" (.int x4) := Fc10.same W11
  have N11 := Fr.snoc X11 N8 g_o
  have Ec12 : Exa Z h11 o "com/example/database_mutex/databasemutex/cli/Workload" := (Ec9.wr W11)
  have Fc13 : Fld Z h11 o "com/example/database_mutex/databasemutex/cli/Workload" "sharedReads" "Z" w_sharedReads_o := ((((F_sharedReads_o.other W2 (Or.inr (slot_ne (Or.inr (own_w hw 23 rfl)) (Or.inr (own_w hw 15 rfl)) (by decide) (t := .boolean) (t' := .int) (by decide) (by decide)))).other W5 (Or.inr (slot_ne (Or.inr (own_w hw 23 rfl)) (Or.inr (own_w hw 17 rfl)) (by decide) (t := .boolean) (t' := .int) (by decide) (by decide)))).other W8 (Or.inr (slot_ne (Or.inr (own_w hw 23 rfl)) (Or.inr (own_w hw 19 rfl)) (by decide) (t := .boolean) (t' := .int) (by decide) (by decide)))).other W11 (Or.inr (slot_ne (Or.inr (own_w hw 23 rfl)) (Or.inr (own_w hw 21 rfl)) (by decide) (t := .boolean) (t' := .int) (by decide) (by decide))))
  obtain ⟨T14, h14, X14, e14, W14, st14⟩ := putFN X11 hx hZ hown (own_w hw 22 rfl) Via.refl e11 Fc13 Ec12 (Or.inr ⟨(own_w hw 23 rfl), rfl, hnm⟩) (own_w hw 1 rfl) (ty := .boolean) (v' := (.int (nar .boolean x5))) (by decide) rfl (fits_nar_bool _) (g := (mkF m 28 #[rv o, iv x1, iv x2, iv x3, iv x4, iv x5] [(.int x5), (.ref o)])) rfl rfl (hb hby d1_28)
  have Fw14 : Fld Z h14 o "com/example/database_mutex/databasemutex/cli/Workload" "sharedReads" "Z" (.int (nar .boolean x5)) := Fc13.same W14
  have N14 := Fr.snoc X14 N11 g_o
  have pre15 : ∀ tz, oS p e below T14 m 31 #[rv o, iv x1, iv x2, iv x3, iv x4, iv x5] [] tz → oS p e below s₁ m 0 #[rv o, iv x1, iv x2, iv x3, iv x4, iv x5] [] tz := fun tz kt => by
    show oS p e below s₁ m 0 #[rv o, iv x1, iv x2, iv x3, iv x4, iv x5] [] _
    refine XS.aloadN X0.here hx rfl (hb hby d1_0) rfl rfl ?_
    show oS p e below s₁ m 1 #[rv o, iv x1, iv x2, iv x3, iv x4, iv x5] [(.ref o)] _
    refine st1.trans ?_
    refine XS.aloadN X1.here hx rfl (hb hby d1_4) rfl rfl ?_
    refine XS.iloadN X1.here hx rfl (hb hby d1_5) rfl ?_
    show oS p e below T1 m 6 #[rv o, iv x1, iv x2, iv x3, iv x4, iv x5] [(.int x1), (.ref o)] _
    refine st2 _ ?_
    refine XS.aloadN X2.here hx rfl (hb hby d1_9) rfl rfl ?_
    refine XS.iloadN X2.here hx rfl (hb hby d1_10) rfl ?_
    show oS p e below T2 m 11 #[rv o, iv x1, iv x2, iv x3, iv x4, iv x5] [(.int x2), (.ref o)] _
    refine st5 _ ?_
    refine XS.aloadN X5.here hx rfl (hb hby d1_14) rfl rfl ?_
    refine XS.iloadN X5.here hx rfl (hb hby d1_15) rfl ?_
    show oS p e below T5 m 16 #[rv o, iv x1, iv x2, iv x3, iv x4, iv x5] [(.int x3), (.ref o)] _
    refine st8 _ ?_
    refine XS.aloadN X8.here hx rfl (hb hby d1_19) rfl rfl ?_
    refine XS.iload X8.here hx rfl (hb hby d1_20) rfl ?_
    show oS p e below T8 m 22 #[rv o, iv x1, iv x2, iv x3, iv x4, iv x5] [(.int x4), (.ref o)] _
    refine st11 _ ?_
    refine XS.aloadN X11.here hx rfl (hb hby d1_25) rfl rfl ?_
    refine XS.iload X11.here hx rfl (hb hby d1_26) rfl ?_
    show oS p e below T11 m 28 #[rv o, iv x1, iv x2, iv x3, iv x4, iv x5] [(.int x5), (.ref o)] _
    refine st14 _ ?_
    exact kt
  have Ec16 : Exa Z h14 o "com/example/database_mutex/databasemutex/cli/Workload" := (Ec12.wr W14)
  have KP17 : Keep h0 h14 [o] := ((((((Keep.refl h0 [o]).wr W2 (Or.inl (List.mem_of_getElem? (i := 0) rfl))).wr W5 (Or.inl (List.mem_of_getElem? (i := 0) rfl))).wr W8 (Or.inl (List.mem_of_getElem? (i := 0) rfl))).wr W11 (Or.inl (List.mem_of_getElem? (i := 0) rfl))).wr W14 (Or.inl (List.mem_of_getElem? (i := 0) rfl)))
  have Fc18 : Fld Z h14 o "com/example/database_mutex/databasemutex/cli/Workload" "threads" "I" (.int x1) := ((((Fw2.other W5 (Or.inr (slot_ne (Or.inr (own_w hw 15 rfl)) (Or.inr (own_w hw 17 rfl)) (by decide) (t := .int) (t' := .int) (by decide) (by decide)))).other W8 (Or.inr (slot_ne (Or.inr (own_w hw 15 rfl)) (Or.inr (own_w hw 19 rfl)) (by decide) (t := .int) (t' := .int) (by decide) (by decide)))).other W11 (Or.inr (slot_ne (Or.inr (own_w hw 15 rfl)) (Or.inr (own_w hw 21 rfl)) (by decide) (t := .int) (t' := .int) (by decide) (by decide)))).other W14 (Or.inr (slot_ne (Or.inr (own_w hw 15 rfl)) (Or.inr (own_w hw 23 rfl)) (by decide) (t := .int) (t' := .boolean) (by decide) (by decide))))
  have Fc19 : Fld Z h14 o "com/example/database_mutex/databasemutex/cli/Workload" "operationsPerThread" "I" (.int x2) := (((Fw5.other W8 (Or.inr (slot_ne (Or.inr (own_w hw 17 rfl)) (Or.inr (own_w hw 19 rfl)) (by decide) (t := .int) (t' := .int) (by decide) (by decide)))).other W11 (Or.inr (slot_ne (Or.inr (own_w hw 17 rfl)) (Or.inr (own_w hw 21 rfl)) (by decide) (t := .int) (t' := .int) (by decide) (by decide)))).other W14 (Or.inr (slot_ne (Or.inr (own_w hw 17 rfl)) (Or.inr (own_w hw 23 rfl)) (by decide) (t := .int) (t' := .boolean) (by decide) (by decide))))
  have Fc20 : Fld Z h14 o "com/example/database_mutex/databasemutex/cli/Workload" "documents" "I" (.int x3) := ((Fw8.other W11 (Or.inr (slot_ne (Or.inr (own_w hw 19 rfl)) (Or.inr (own_w hw 21 rfl)) (by decide) (t := .int) (t' := .int) (by decide) (by decide)))).other W14 (Or.inr (slot_ne (Or.inr (own_w hw 19 rfl)) (Or.inr (own_w hw 23 rfl)) (by decide) (t := .int) (t' := .boolean) (by decide) (by decide))))
  have Fc21 : Fld Z h14 o "com/example/database_mutex/databasemutex/cli/Workload" "lines" "I" (.int x4) := (Fw11.other W14 (Or.inr (slot_ne (Or.inr (own_w hw 21 rfl)) (Or.inr (own_w hw 23 rfl)) (by decide) (t := .int) (t' := .boolean) (by decide) (by decide))))
  obtain ⟨fs, hr, hrun, hended, hW, hsame⟩ := X14.leave (v := none) (fun _ => rfl)
  refine ⟨_, _, pre0 _ (pre15 _ ?_), hrun, hended, _, _, rfl, ?_, ⟨_, rfl⟩, hW, hsame.mono (by decide) (by decide)⟩
  · show oS p e below T14 m 31 #[rv o, iv x1, iv x2, iv x3, iv x4, iv x5] [] _
    exact X14.returnOut hx Bd.returns (hb hby d1_31) hr
  · show Q1 Z o x1 x2 x3 x4 x5 w_threads_o w_operationsPerThread_o w_documents_o w_lines_o w_sharedReads_o h0 n0 _ T14.heap _
    rw [e14]
    exact ⟨rfl, N14, KP17, Ec16, Fc18, Fc19, Fc20, Fc21, Fw14⟩
theorem d4_0 : decode prog_45_method_2_code 0 = .ok (.aload_n 0, 1) := by decide +kernel
theorem d4_1 : decode prog_45_method_2_code 1 = .ok (.getfield 7, 3) := by decide +kernel
theorem d4_4 : decode prog_45_method_2_code 4 = .ok (.i2l, 1) := by decide +kernel
theorem d4_5 : decode prog_45_method_2_code 5 = .ok (.aload_n 0, 1) := by decide +kernel
theorem d4_6 : decode prog_45_method_2_code 6 = .ok (.getfield 13, 3) := by decide +kernel
theorem d4_9 : decode prog_45_method_2_code 9 = .ok (.i2l, 1) := by decide +kernel
theorem d4_10 : decode prog_45_method_2_code 10 = .ok (.lmul, 1) := by decide +kernel
theorem d4_11 : decode prog_45_method_2_code 11 = .ok (.lreturn, 1) := by decide +kernel
theorem ef4 (m : MethodId) (o : Addr) : entryFrame m #[(.ref o)] 1 = mkF m 0 #[rv o] [] := by first | (simp [entryFrame, mkF, argsToLocals, Value.category]; done) | rfl
def Q4 (Z : State) (o : Addr) (w_threads_o : Int32) (w_operationsPerThread_o : Int32) (h0 : Heap) (n0 : Nat) (v : Option Value) (h : Heap) (L : List Loc) : Prop := v = some (.long ((w_threads_o.toInt64) * (w_operationsPerThread_o.toInt64))) ∧ Fr n0 L ∧ h = h0
set_option maxRecDepth 65536 in
set_option maxHeartbeats 40000000 in
theorem rm4 (l : Launch) (Z : State) (a0 : Array Value) (hw : ∀ d ∈ tables_1, d.before a0 Z = true) (ws : List Jvm.Cond) (o : Addr) (w_threads_o : Int32) (w_operationsPerThread_o : Int32) (h0 : Heap) (n0 : Nat) (Z0 : n0 ≤ h0.size) (F_threads_o : Fld Z h0 o "com/example/database_mutex/databasemutex/cli/Workload" "threads" "I" (.int w_threads_o)) (F_operationsPerThread_o : Fld Z h0 o "com/example/database_mutex/databasemutex/cli/Workload" "operationsPerThread" "I" (.int w_operationsPerThread_o)) :
    MetFree l (⟨"com/example/database_mutex/databasemutex/cli/Workload", "operations", "()J"⟩ : MethodName) (head1 (Jvm.Cond.code (⟨"com/example/database_mutex/databasemutex/cli/Workload", "operations", "()J"⟩ : MethodName) prog_45_method_2_code 1 (some .long) :: ws) ({ frames := 0, cells := 0, slots := 0, locals := 0 } : Room)) (fun a U => a = #[(.ref o)] ∧ Z.Warmed39 U.vm ∧ U.heap = h0) (fun _ _ _ _ _ => True) (fun _ U oc U' => ∃ v L, oc = .returned v ∧ Q4 Z o w_threads_o w_operationsPerThread_o h0 n0 v U'.heap L ∧ FrameEnd U oc U' L ({ frames := 0, cells := 0, slots := 0, locals := 0 } : Room).cells ({ frames := 0, cells := 0, slots := 0, locals := 0 } : Room).slots) := by
  refine MetFree.of_bodySF (plainFor_of_name own_pn1) hisR ?_
  intro p e s m args below meth c s₁ Bd hml0 hP hK
  obtain ⟨rfl, hZ, hh⟩ := hP
  have hx := Bd.exec
  have hby := Bd.bytes
  have hml : c.maxLocals = 1 := hml0
  have hown : s.vm.findClass "com/example/database_mutex/databasemutex/cli/Workload" = some m.cls := findClass_of_methodNamed Bd.named
  have hnm := (name_of_methodNamed Bd.named Bd.method).1
  have X0 : Stand p l e ({ frames := 0, cells := 0, slots := 0, locals := 0 } : Room) s m #[(.ref o)] below meth c s₁ [] 0 0 := Stand.of_body Bd
  have e0 : s₁.heap = h0 := by rw [← hh, Bd.state]; rfl
  have N0 := Fr.nil n0
  have pre0 : ∀ t, Steps p.tables e below (s₁.setTop (mkF m 0 #[rv o] [])) t → Steps p.tables e below (s₁.setTop (entryFrame m #[(.ref o)] 1)) t := fun t k => castTop (ef4 m o) k
  obtain ⟨T1, X1, e1, st1⟩ := getF X0 hx hZ hown (host := "") (Or.inl (own_w hw 14 rfl)) Via.refl e0 F_threads_o (g := (mkF m 1 #[rv o] [(.ref o)])) rfl rfl (hb hby d4_1)
  obtain ⟨T2, X2, e2, st2⟩ := getF X1 hx hZ hown (host := "") (Or.inl (own_w hw 16 rfl)) Via.refl e1 F_operationsPerThread_o (g := (mkF m 6 #[rv o] [(.ref o), (.long (w_threads_o.toInt64))])) rfl rfl (hb hby d4_6)
  have pre3 : ∀ tz, oS p e below T2 m 11 #[rv o] [(.long ((w_threads_o.toInt64) * (w_operationsPerThread_o.toInt64)))] tz → oS p e below s₁ m 0 #[rv o] [] tz := fun tz kt => by
    show oS p e below s₁ m 0 #[rv o] [] _
    refine XS.aloadN X0.here hx rfl (hb hby d4_0) rfl rfl ?_
    show oS p e below s₁ m 1 #[rv o] [(.ref o)] _
    refine st1 _ ?_
    refine XS.i2l X1.here hx rfl (hb hby d4_4) rfl ?_
    refine XS.aloadN X1.here hx rfl (hb hby d4_5) rfl rfl ?_
    show oS p e below T1 m 6 #[rv o] [(.ref o), (.long (w_threads_o.toInt64))] _
    refine st2 _ ?_
    refine XS.i2l X2.here hx rfl (hb hby d4_9) rfl ?_
    refine XS.lmul X2.here hx rfl (hb hby d4_10) rfl ?_
    exact kt
  obtain ⟨fs, hr, hrun, hended, hW, hsame⟩ := X2.leave (v := some (.long ((w_threads_o.toInt64) * (w_operationsPerThread_o.toInt64)))) (fun h => by rw [Bd.returns] at h; cases h)
  refine ⟨_, _, pre0 _ (pre3 _ ?_), hrun, hended, _, _, rfl, ?_, ⟨_, rfl⟩, hW, hsame.mono (by decide) (by decide)⟩
  · show oS p e below T2 m 11 #[rv o] [(.long ((w_threads_o.toInt64) * (w_operationsPerThread_o.toInt64)))] _
    exact retOut X2 hx Bd.returns rfl (Or.inr (Or.inl ⟨rfl, rfl, _, rfl⟩)) (hb hby d4_11) hr
  · show Q4 Z o w_threads_o w_operationsPerThread_o h0 n0 _ T2.heap _
    rw [e2]
    exact ⟨rfl, N0, rfl⟩
theorem own_pd1 : parseMethodDescriptor "(IIIIZ)V" = some ⟨[.int, .int, .int, .int, .boolean], none⟩ := by decide +kernel
theorem own_pd2 : parseMethodDescriptor "()J" = some ⟨[], some .long⟩ := by decide +kernel
theorem own_pn2 : plainName "com/example/database_mutex/databasemutex/cli/WorkloadOperationsPinLaw" = true := by first | (simp [plainName, overriddenIn]; done) | decide +kernel
theorem ef0 (m : MethodId) (x1 : Int32) (x2 : Int32) (x3 : Int32) (x4 : Int32) (x5 : Int32) : entryFrame m #[(.int x1), (.int x2), (.int x3), (.int x4), (.int x5)] maxLocals = mkF m 0 #[iv x1, iv x2, iv x3, iv x4, iv x5, .unset, .unset, .unset, .unset, .unset, .unset] [] := by first | (simp [entryFrame, mkF, argsToLocals, Value.category, maxLocals]; done) | rfl
def Q0 (Z : State) (x1 : Int32) (x2 : Int32) (x3 : Int32) (x4 : Int32) (x5 : Int32) (h0 : Heap) (n0 : Nat) (v : Option Value) (h : Heap) (L : List Loc) : Prop := v = some (.int (1 : Int32)) ∧ Fr n0 L
set_option maxRecDepth 65536 in
set_option maxHeartbeats 40000000 in
theorem rm0 (l : Launch) (Z : State) (a0 : Array Value) (hw : ∀ d ∈ tables_1, d.before a0 Z = true) (ws : List Jvm.Cond) (x1 : Int32) (x2 : Int32) (x3 : Int32) (x4 : Int32) (x5 : Int32) (h0 : Heap) (n0 : Nat) (Z0 : n0 ≤ h0.size) :
    MetFree l x (head1 (Jvm.Cond.code x code maxLocals ret :: ws) room_1) (fun a U => a = #[(.int x1), (.int x2), (.int x3), (.int x4), (.int x5)] ∧ Z.Warmed39 U.vm ∧ U.heap = h0) (fun _ _ _ _ _ => True) (fun _ U oc U' => ∃ v L, oc = .returned v ∧ Q0 Z x1 x2 x3 x4 x5 h0 n0 v U'.heap L ∧ FrameEnd U oc U' L room_1.cells room_1.slots) := by
  refine MetFree.of_bodySF (plainFor_of_name own_pn2) hisR ?_
  intro p e s m args below meth c s₁ Bd hml0 hP hK
  obtain ⟨rfl, hZ, hh⟩ := hP
  have hx := Bd.exec
  have hby := Bd.bytes
  have hml : c.maxLocals = 11 := hml0
  have hown : s.vm.findClass "com/example/database_mutex/databasemutex/cli/WorkloadOperationsPinLaw" = some m.cls := findClass_of_methodNamed Bd.named
  have hnm := (name_of_methodNamed Bd.named Bd.method).1
  have X0 : Stand p l e room_1 s m #[(.int x1), (.int x2), (.int x3), (.int x4), (.int x5)] below meth c s₁ [] 0 0 := Stand.of_body Bd
  have e0 : s₁.heap = h0 := by rw [← hh, Bd.state]; rfl
  have N0 := Fr.nil n0
  have pre0 : ∀ t, Steps p.tables e below (s₁.setTop (mkF m 0 #[iv x1, iv x2, iv x3, iv x4, iv x5, .unset, .unset, .unset, .unset, .unset, .unset] [])) t → Steps p.tables e below (s₁.setTop (entryFrame m #[(.int x1), (.int x2), (.int x3), (.int x4), (.int x5)] maxLocals)) t := fun t k => castTop (ef0 m x1 x2 x3 x4 x5) k
  have pre1 : ∀ tz, oS p e below s₁ m 4 #[iv x1, iv x2, iv x3, iv x4, iv x5, .unset, .unset, .unset, .unset, .unset, .unset] [(.int (x5 &&& (1 : Int32)))] tz → oS p e below s₁ m 0 #[iv x1, iv x2, iv x3, iv x4, iv x5, .unset, .unset, .unset, .unset, .unset, .unset] [] tz := fun tz kt => by
    show oS p e below s₁ m 0 #[iv x1, iv x2, iv x3, iv x4, iv x5, .unset, .unset, .unset, .unset, .unset, .unset] [] _
    refine XS.iload X0.here hx rfl (hb hby at_0) rfl ?_
    refine XS.iconst X0.here hx rfl (hb hby at_2) ?_
    refine XS.iand X0.here hx rfl (hb hby at_3) rfl ?_
    exact kt
  obtain ⟨v12, T4, Lj4, jv4, N4, X4, e4, st4⟩ := own_join (α := Int32) X0 N0 e0 (mkF m 4 #[iv x1, iv x2, iv x3, iv x4, iv x5, .unset, .unset, .unset, .unset, .unset, .unset] [(.int (x5 &&& (1 : Int32)))]) (fun v => (mkF m 12 #[iv x1, iv x2, iv x3, iv x4, iv x5, .unset, .unset, .unset, .unset, .unset, .unset] [(.int v)])) (fun v => v = (if (x5 &&& (1 : Int32)) = (0 : Int32) then (0 : Int32) else (1 : Int32))) (by
      by_cases hc4 : (x5 &&& (1 : Int32)) = (0 : Int32)
      · have pre2 : ∀ tz, oS p e below s₁ m 12 #[iv x1, iv x2, iv x3, iv x4, iv x5, .unset, .unset, .unset, .unset, .unset, .unset] [(.int (0 : Int32))] tz → oS p e below s₁ m 4 #[iv x1, iv x2, iv x3, iv x4, iv x5, .unset, .unset, .unset, .unset, .unset, .unset] [(.int (x5 &&& (1 : Int32)))] tz := fun tz kt => by
          show oS p e below s₁ m 4 #[iv x1, iv x2, iv x3, iv x4, iv x5, .unset, .unset, .unset, .unset, .unset, .unset] [(.int (x5 &&& (1 : Int32)))] _
          refine XS.ifYes X0.here hx rfl (pc0 := 4) (pc' := 11) rfl (hb hby at_4) rfl ((if0 _ _).trans (teq hc4).1) (by decide) (by decide) ?_
          refine XS.iconst X0.here hx rfl (hb hby at_11) ?_
          exact kt
        exact ⟨(0 : Int32), s₁, _, (by rw [if_pos hc4]), N0, X0, e0, fun tz kt => (pre2 _ kt)⟩
      · have pre3 : ∀ tz, oS p e below s₁ m 12 #[iv x1, iv x2, iv x3, iv x4, iv x5, .unset, .unset, .unset, .unset, .unset, .unset] [(.int (1 : Int32))] tz → oS p e below s₁ m 4 #[iv x1, iv x2, iv x3, iv x4, iv x5, .unset, .unset, .unset, .unset, .unset, .unset] [(.int (x5 &&& (1 : Int32)))] tz := fun tz kt => by
          show oS p e below s₁ m 4 #[iv x1, iv x2, iv x3, iv x4, iv x5, .unset, .unset, .unset, .unset, .unset, .unset] [(.int (x5 &&& (1 : Int32)))] _
          refine XS.ifNo X0.here hx rfl (hb hby at_4) rfl ((if0 _ _).trans (feq hc4).1) ?_
          refine XS.iconst X0.here hx rfl (hb hby at_7) ?_
          refine XS.goto X0.here hx rfl (pc0 := 8) (pc' := 12) rfl (hb hby at_8) (by decide) (by decide) ?_
          exact kt
        exact ⟨(1 : Int32), s₁, _, (by rw [if_neg hc4]), N0, X0, e0, fun tz kt => (pre3 _ kt)⟩)
  have hv12 : v12 = (if (x5 &&& (1 : Int32)) = (0 : Int32) then (0 : Int32) else (1 : Int32)) := jv4
  obtain ⟨T5, h5, X5, e5, E5, A5, D5, -, st5⟩ := newO X4 hx hZ hown (own_w hw 0 rfl) (own_w hw 1 rfl) (own_w hw 2 rfl) e4 (g := (mkF m 14 #[iv x1, iv x2, iv x3, iv x4, iv x5, iv v12, .unset, .unset, .unset, .unset, .unset] [])) rfl (hb hby at_14) (by decide) (by decide)
  obtain ⟨b5, g5⟩ : ∃ z, z = h0.size := ⟨_, rfl⟩
  rw [← g5] at A5 D5 st5
  have g_b5 : n0 ≤ b5 := Nat.le_trans Z0 (Nat.le_of_eq g5.symm)
  have F_threads_b5 : Fld Z h5 b5 "com/example/database_mutex/databasemutex/cli/Workload" "threads" "I" (.int (0 : Int32)) := D5 (Or.inr (own_w hw 15 rfl)) (ty := .int) (by decide)
  have F_operationsPerThread_b5 : Fld Z h5 b5 "com/example/database_mutex/databasemutex/cli/Workload" "operationsPerThread" "I" (.int (0 : Int32)) := D5 (Or.inr (own_w hw 17 rfl)) (ty := .int) (by decide)
  have F_documents_b5 : Fld Z h5 b5 "com/example/database_mutex/databasemutex/cli/Workload" "documents" "I" (.int (0 : Int32)) := D5 (Or.inr (own_w hw 19 rfl)) (ty := .int) (by decide)
  have F_lines_b5 : Fld Z h5 b5 "com/example/database_mutex/databasemutex/cli/Workload" "lines" "I" (.int (0 : Int32)) := D5 (Or.inr (own_w hw 21 rfl)) (ty := .int) (by decide)
  have F_sharedReads_b5 : Fld Z h5 b5 "com/example/database_mutex/databasemutex/cli/Workload" "sharedReads" "Z" (.int (0 : Int32)) := D5 (Or.inr (own_w hw 23 rfl)) (ty := .boolean) (by decide)
  have Zc7 : n0 ≤ h5.size := (Nat.le_trans Z0 E5.1)
  obtain ⟨_, _, ⟨T6, Lw6, kw6, nw6⟩, -, X6, ⟨Lc6, hQ6, l6, y6, z6⟩, st6⟩ := X5.specialBack hx (y := (⟨"com/example/database_mutex/databasemutex/cli/Workload", "<init>", "(IIIIZ)V"⟩ : MethodName)) rfl hown (mvT hZ (own_w hw 3 rfl)) (mvT hZ (own_w hw 4 rfl)) (mvT hZ (own_w hw 5 rfl)) (by decide) (backOf (W := 1) (rm1 l Z a0 hw [] b5 x1 x2 x3 x4 v12 (.int (0 : Int32)) (.int (0 : Int32)) (.int (0 : Int32)) (.int (0 : Int32)) (.int (0 : Int32)) h5 n0 Zc7 A5 F_threads_b5 g_b5 F_operationsPerThread_b5 F_documents_b5 F_lines_b5 F_sharedReads_b5) hZ (own_w hw 5 rfl) (own_w hw 2 rfl) (by decide) (by decide)) (g := (mkF m 24 #[iv x1, iv x2, iv x3, iv x4, iv x5, iv v12, .unset, .unset, .unset, .unset, .unset] [(.int v12), (.int x4), (.int x3), (.int x2), (.int x1), (.ref b5), (.ref b5)])) rfl (by rw [hml]; rfl) (Steps.refl _) (a := b5) (argsL := [(.int x1), (.int x2), (.int x3), (.int x4), (.int v12)]) (rest := [(.ref b5)]) (lenOf own_pd1 rfl) rfl (by show 2 * 0 + _ ≤ _; exact Nat.le_of_eq rfl) (hb hby at_24) (fun _ _ => ⟨rfl, e5, (by decide : 1 + 0 ≤ _), (by decide : 5 + 0 ≤ _)⟩)
  dsimp only [Pt.U, Pt.locs, Pt.cells, Pt.slots] at X6 l6 y6 z6 st6 hQ6
  subst l6 y6 z6
  obtain ⟨rfl, Nq6, K6, pf6_0, pf6_1, pf6_2, pf6_3, pf6_4, pf6_5⟩ := hQ6
  have N6 := Fr.app N4 Nq6
  have Zc9 : n0 ≤ T6.heap.size := (Nat.le_trans Zc7 K6.1)
  obtain ⟨cq8, kq8, q8a, q8b, q8c⟩ := isOf hZ rfl pf6_0
  obtain ⟨_, _, ⟨T8, Lw8, kw8, nw8⟩, -, X8, ⟨Lc8, hQ8, l8, y8, z8⟩, st8⟩ := X6.virtualBack hx (y := (⟨"com/example/database_mutex/databasemutex/cli/Workload", "operations", "()J"⟩ : MethodName)) (z := (⟨"com/example/database_mutex/databasemutex/cli/Workload", "operations", "()J"⟩ : MethodName)) hown (mvT hZ (own_w hw 24 rfl)) (mvT hZ (own_w hw 25 rfl)) (notFace_of_selects (args := #[]) (mvT hZ (own_w hw 27 rfl))) (mvT hZ (own_w hw 27 rfl)) (mvT hZ (own_w hw 26 rfl)) (by decide) (backOf (W := 0) (rm4 l Z a0 hw [] b5 x1 x2 T6.heap n0 Zc9 pf6_1 pf6_2) hZ (own_w hw 28 rfl) (own_w hw 2 rfl) (by decide) (by decide)) q8a q8c (g := (mkF m 31 #[iv x1, iv x2, iv x3, iv x4, iv x5, iv v12, rv b5, .unset, .unset, .unset, .unset] [(.ref b5)])) rfl (by rw [hml]; rfl) (Steps.refl _) (argsL := []) (rest := []) (lenOf own_pd2 rfl) rfl (by show 2 * 0 + _ ≤ _; exact Nat.le_of_eq rfl) (hb hby at_31) (fun _ _ => ⟨rfl, rfl, (by decide : 1 + 0 ≤ _), (by decide : 5 + 0 ≤ _)⟩)
  dsimp only [Pt.U, Pt.locs, Pt.cells, Pt.slots] at X8 l8 y8 z8 st8 hQ8
  subst l8 y8 z8
  obtain ⟨rfl, Nq8, eh8⟩ := hQ8
  have N8 := Fr.app N6 Nq8
  obtain ⟨y34, hy34⟩ : ∃ z, z = ((x1.toInt64) * (x2.toInt64)) := ⟨_, rfl⟩
  obtain ⟨y38, hy38⟩ : ∃ z, z = (x1.toInt64) := ⟨_, rfl⟩
  have pre10 : ∀ tz, oS p e below T8 m 44 #[iv x1, iv x2, iv x3, iv x4, iv x5, iv v12, rv b5, lv y34, .second, lv y38, .second] [(.int (lcmpW y38 (0 : Int64)))] tz → oS p e below s₁ m 4 #[iv x1, iv x2, iv x3, iv x4, iv x5, .unset, .unset, .unset, .unset, .unset, .unset] [(.int (x5 &&& (1 : Int32)))] tz := fun tz kt => by
    show oS p e below s₁ m 4 #[iv x1, iv x2, iv x3, iv x4, iv x5, .unset, .unset, .unset, .unset, .unset, .unset] [(.int (x5 &&& (1 : Int32)))] _
    refine st4 _ ?_
    refine XS.istore X4.here hx rfl (hb hby at_12) rfl (l' := #[iv x1, iv x2, iv x3, iv x4, iv x5, iv v12, .unset, .unset, .unset, .unset, .unset]) rfl ?_
    show oS p e below T4 m 14 #[iv x1, iv x2, iv x3, iv x4, iv x5, iv v12, .unset, .unset, .unset, .unset, .unset] [] _
    refine st5 _ ?_
    refine XS.dup X5.here hx rfl (hb hby at_17) rfl rfl ?_
    refine XS.iloadN X5.here hx rfl (hb hby at_18) rfl ?_
    refine XS.iloadN X5.here hx rfl (hb hby at_19) rfl ?_
    show oS p e below T5 m 20 #[iv x1, iv x2, iv x3, iv x4, iv x5, iv v12, .unset, .unset, .unset, .unset, .unset] [(.int x2), (.int x1), (.ref b5), (.ref b5)] _
    refine XS.iloadN X5.here hx rfl (hb hby at_20) rfl ?_
    refine XS.iloadN X5.here hx rfl (hb hby at_21) rfl ?_
    refine XS.iload X5.here hx rfl (hb hby at_22) rfl ?_
    show oS p e below T5 m 24 #[iv x1, iv x2, iv x3, iv x4, iv x5, iv v12, .unset, .unset, .unset, .unset, .unset] [(.int v12), (.int x4), (.int x3), (.int x2), (.int x1), (.ref b5), (.ref b5)] _
    refine st6.trans ?_
    refine XS.astore X6.here hx rfl (hb hby at_27) rfl rfl (l' := #[iv x1, iv x2, iv x3, iv x4, iv x5, iv v12, rv b5, .unset, .unset, .unset, .unset]) rfl ?_
    refine XS.aload X6.here hx rfl (hb hby at_29) rfl rfl ?_
    show oS p e below T6 m 31 #[iv x1, iv x2, iv x3, iv x4, iv x5, iv v12, rv b5, .unset, .unset, .unset, .unset] [(.ref b5)] _
    refine st8.trans ?_
    refine XS.lstore X8.here hx rfl (hb hby at_34) rfl (l' := #[iv x1, iv x2, iv x3, iv x4, iv x5, iv v12, rv b5, lv y34, .second, .unset, .unset]) (by rw [hy34]; rfl) ?_
    refine XS.iloadN X8.here hx rfl (hb hby at_36) rfl ?_
    refine XS.i2l X8.here hx rfl (hb hby at_37) rfl ?_
    show oS p e below T8 m 38 #[iv x1, iv x2, iv x3, iv x4, iv x5, iv v12, rv b5, lv y34, .second, .unset, .unset] [(.long (x1.toInt64))] _
    refine XS.lstore X8.here hx rfl (hb hby at_38) rfl (l' := #[iv x1, iv x2, iv x3, iv x4, iv x5, iv v12, rv b5, lv y34, .second, lv y38, .second]) (by rw [hy38]; rfl) ?_
    refine XS.lload X8.here hx rfl (hb hby at_40) rfl ?_
    refine XS.lconst X8.here hx rfl (hb hby at_42) ?_
    refine XS.lcmp X8.here hx rfl (hb hby at_43) rfl ?_
    exact kt
  by_cases hc44 : y38 = (0 : Int64)
  · have hc51 : y34 = (0 : Int64) := Classical.byContradiction fun hc51 => by
      rw [hy34, ← hy38, hc44] at hc51; exact hc51 (Int64.zero_mul)
    have pre11 : ∀ tz, oS p e below T8 m 59 #[iv x1, iv x2, iv x3, iv x4, iv x5, iv v12, rv b5, lv y34, .second, lv y38, .second] [(.int (1 : Int32))] tz → oS p e below T8 m 44 #[iv x1, iv x2, iv x3, iv x4, iv x5, iv v12, rv b5, lv y34, .second, lv y38, .second] [(.int (lcmpW y38 (0 : Int64)))] tz := fun tz kt => by
      show oS p e below T8 m 44 #[iv x1, iv x2, iv x3, iv x4, iv x5, iv v12, rv b5, lv y34, .second, lv y38, .second] [(.int (lcmpW y38 (0 : Int64)))] _
      refine XS.ifNo X8.here hx rfl (hb hby at_44) rfl ((if0 _ _).trans (teq ((lw_eq y38 (0 : Int64)).mpr hc44)).2) ?_
      refine XS.lload X8.here hx rfl (hb hby at_47) rfl ?_
      refine XS.lconst X8.here hx rfl (hb hby at_49) ?_
      refine XS.lcmp X8.here hx rfl (hb hby at_50) rfl ?_
      show oS p e below T8 m 51 #[iv x1, iv x2, iv x3, iv x4, iv x5, iv v12, rv b5, lv y34, .second, lv y38, .second] [(.int (lcmpW y34 (0 : Int64)))] _
      refine XS.ifNo X8.here hx rfl (hb hby at_51) rfl ((if0 _ _).trans (teq ((lw_eq y34 (0 : Int64)).mpr hc51)).2) ?_
      refine XS.iconst X8.here hx rfl (hb hby at_54) ?_
      refine XS.goto X8.here hx rfl (pc0 := 55) (pc' := 59) rfl (hb hby at_55) (by decide) (by decide) ?_
      exact kt
    obtain ⟨fs, hr, hrun, hended, hW, hsame⟩ := X8.leave (v := some (.int (1 : Int32))) (fun h => by rw [Bd.returns] at h; cases h)
    refine ⟨_, _, pre0 _ (pre1 _ (pre10 _ (pre11 _ ?_))), hrun, hended, _, _, rfl, ?_, ⟨_, rfl⟩, hW, hsame.mono (by decide) (by decide)⟩
    · show oS p e below T8 m 59 #[iv x1, iv x2, iv x3, iv x4, iv x5, iv v12, rv b5, lv y34, .second, lv y38, .second] [(.int (1 : Int32))] _
      exact retN X8 hx (t := .boolean) Bd.returns (by simp) (hb hby at_59) hr
    · show Q0 Z x1 x2 x3 x4 x5 h0 n0 _ T8.heap _
      rw [eh8]
      exact ⟨rfl, N8⟩
  · have hc67 : (y34 - (y34 / y38) * y38) = (0 : Int64) := Classical.byContradiction fun hc67 => by
      subst hy34 hy38; exact hc67 (own_rem _ _ hc44)
    have hc78 : (y34 / y38) = (x2.toInt64) := Classical.byContradiction fun hc78 => by
      subst hy34 hy38; exact hc78 (own_div _ _ hc44)
    have pre12 : ∀ tz, oS p e below T8 m 86 #[iv x1, iv x2, iv x3, iv x4, iv x5, iv v12, rv b5, lv y34, .second, lv y38, .second] [(.int (1 : Int32))] tz → oS p e below T8 m 44 #[iv x1, iv x2, iv x3, iv x4, iv x5, iv v12, rv b5, lv y34, .second, lv y38, .second] [(.int (lcmpW y38 (0 : Int64)))] tz := fun tz kt => by
      show oS p e below T8 m 44 #[iv x1, iv x2, iv x3, iv x4, iv x5, iv v12, rv b5, lv y34, .second, lv y38, .second] [(.int (lcmpW y38 (0 : Int64)))] _
      refine XS.ifYes X8.here hx rfl (pc0 := 44) (pc' := 60) rfl (hb hby at_44) rfl ((if0 _ _).trans (feq (fun q => hc44 ((lw_eq y38 (0 : Int64)).mp q))).2) (by decide) (by decide) ?_
      refine XS.lload X8.here hx rfl (hb hby at_60) rfl ?_
      refine XS.lload X8.here hx rfl (hb hby at_62) rfl ?_
      refine XS.lrem X8.here hx rfl (hb hby at_64) rfl hc44 ?_
      show oS p e below T8 m 65 #[iv x1, iv x2, iv x3, iv x4, iv x5, iv v12, rv b5, lv y34, .second, lv y38, .second] [(.long (y34 - (y34 / y38) * y38))] _
      refine XS.lconst X8.here hx rfl (hb hby at_65) ?_
      refine XS.lcmp X8.here hx rfl (hb hby at_66) rfl ?_
      refine XS.ifNo X8.here hx rfl (hb hby at_67) rfl ((if0 _ _).trans (teq ((lw_eq (y34 - (y34 / y38) * y38) (0 : Int64)).mpr hc67)).2) ?_
      refine XS.lload X8.here hx rfl (hb hby at_70) rfl ?_
      show oS p e below T8 m 72 #[iv x1, iv x2, iv x3, iv x4, iv x5, iv v12, rv b5, lv y34, .second, lv y38, .second] [(.long y34)] _
      refine XS.lload X8.here hx rfl (hb hby at_72) rfl ?_
      refine XS.ldiv X8.here hx rfl (hb hby at_74) rfl hc44 ?_
      refine XS.iloadN X8.here hx rfl (hb hby at_75) rfl ?_
      refine XS.i2l X8.here hx rfl (hb hby at_76) rfl ?_
      show oS p e below T8 m 77 #[iv x1, iv x2, iv x3, iv x4, iv x5, iv v12, rv b5, lv y34, .second, lv y38, .second] [(.long (x2.toInt64)), (.long (y34 / y38))] _
      refine XS.lcmp X8.here hx rfl (hb hby at_77) rfl ?_
      refine XS.ifNo X8.here hx rfl (hb hby at_78) rfl ((if0 _ _).trans (teq ((lw_eq (y34 / y38) (x2.toInt64)).mpr hc78)).2) ?_
      refine XS.iconst X8.here hx rfl (hb hby at_81) ?_
      refine XS.goto X8.here hx rfl (pc0 := 82) (pc' := 86) rfl (hb hby at_82) (by decide) (by decide) ?_
      exact kt
    obtain ⟨fs, hr, hrun, hended, hW, hsame⟩ := X8.leave (v := some (.int (1 : Int32))) (fun h => by rw [Bd.returns] at h; cases h)
    refine ⟨_, _, pre0 _ (pre1 _ (pre10 _ (pre12 _ ?_))), hrun, hended, _, _, rfl, ?_, ⟨_, rfl⟩, hW, hsame.mono (by decide) (by decide)⟩
    · show oS p e below T8 m 86 #[iv x1, iv x2, iv x3, iv x4, iv x5, iv v12, rv b5, lv y34, .second, lv y38, .second] [(.int (1 : Int32))] _
      exact retN X8 hx (t := .boolean) Bd.returns (by simp) (hb hby at_86) hr
    · show Q0 Z x1 x2 x3 x4 x5 h0 n0 _ T8.heap _
      rw [eh8]
      exact ⟨rfl, N8⟩
set_option maxRecDepth 65536 in
set_option maxHeartbeats 40000000 in
theorem comes_1 {Post : Tables → Env → Array Value → State → Outcome → State → Prop} (hpost : ∀ tb e args s v u, (limb_1_1.after args s (.returned v) u = true ∧ limb_1_2.after args s (.returned v) u = true ∧ True) → FrameEnd s (.returned v) u (Jvm.fieldLocs frame_1_writes args s ++ Jvm.arrayLocs frame_1_arrays args s ++ Jvm.staticLocs frame_1_statics s) 16 128 → Post tb e args s (.returned v) u) :
    ArmFor flags0 classFile x code maxLocals ret World_1 tables_1 room_1 Calls_1 rest_1 Pre_1 Post := by
  intro l hfl _ _ p e ha hc hk s m args below hf hA hF happ hP
  obtain ⟨hcalls, hrest, hpre⟩ := hP
  obtain ⟨-, -, -, hnamed, -, -, -, hat⟩ := (Spec.applies_iff hf).mp happ
  obtain ⟨hg, hn⟩ := and_e (Cond.before_iff.mp (show (Jvm.Cond.and given_1 narrow_1).before args s = true from hpre))
  obtain ⟨gc, gr0⟩ := and_e hg
  obtain ⟨ga0, gr1⟩ := and_e gr0
  obtain ⟨ga1, gr2⟩ := and_e gr1
  obtain ⟨ga2, gr3⟩ := and_e gr2
  obtain ⟨ga3, gr4⟩ := and_e gr3
  have ga4 := gr4
  obtain ⟨w0, w1, w2, w3, w4, rfl⟩ : ∃ w0 w1 w2 w3 w4 : Value, args = #[w0, w1, w2, w3, w4] := by
    have hs : args.size = 5 := by simpa [Cond.value, given_1] using gc
    obtain ⟨L⟩ := args
    match L, hs with
    | [w0, w1, w2, w3, w4], _ => exact ⟨w0, w1, w2, w3, w4, rfl⟩
  have hw := fun d (hd : d ∈ tables_1) => atoms_spec (ws := Jvm.Cond.code x code maxLocals ret :: tables_1) hat d (List.mem_cons_of_mem _ hd)
  obtain ⟨i0, ei0⟩ := is_v ga0
  obtain rfl : w0 = (.int i0) := Option.some.inj ei0
  obtain ⟨i1, ei1⟩ := is_v ga1
  obtain rfl : w1 = (.int i1) := Option.some.inj ei1
  obtain ⟨i2, ei2⟩ := is_v ga2
  obtain rfl : w2 = (.int i2) := Option.some.inj ei2
  obtain ⟨i3, ei3⟩ := is_v ga3
  obtain rfl : w3 = (.int i3) := Option.some.inj ei3
  obtain ⟨i4, ei4⟩ := is_v ga4
  obtain rfl : w4 = (.int i4) := Option.some.inj ei4
  obtain ⟨n, o, h1, h2, h3, _, L, rfl, ⟨rfl, N⟩, hq⟩ := rm0 l s _ hw tables_1 i0 i1 i2 i3 i4 s.heap s.heap.size (Nat.le_refl _)  p e ha hc hk s m _ below hf ((Spec.applies_iff_loose hf).mp happ).1 ⟨rfl, State.Warmed39.refl s, rfl⟩ trivial
  refine ⟨n, _, h1, h2, h3, hpost _ _ _ _ _ _ ⟨Cond.after_iff.mpr rfl, Cond.after_iff.mpr (eq_i res_at (Term.int_eval (1)) rfl), trivial⟩ ⟨hq.1, hq.2.1, (hq.2.2.sift fun y hy => Or.inr (N y hy)).mono (by decide) (by decide)⟩⟩
theorem main_1_1 : Claimed_1_1 := comes_1 fun _ _ _ _ _ _ h hF => ⟨h.1, hF⟩
theorem main_1_2 : Claimed_1_2 := comes_1 fun _ _ _ _ _ _ h hF => ⟨h.2.1, hF⟩
end Jvm.Pilot.@@N@@
namespace Jvm.Pilot.@@N@@
open Jvm Jvm.ClassFile Sem Op Lib Jvm.Free Jvm.Stand Jvm.Pilot.@@N@@.Jvm.D
/-! MADE BY PROGRAM (witnessworld.py) out of the Statement's table words and the real class files: 10 classes; the members and pool entries that the words name. The judged class is class 1, her method 1. -/
namespace start1
open Jvm.ClassFile
def u (s : String) : CpInfo := .utf8 (stringToUtf16 s)
/-- a pool by its gaps: so many unusable entries, then the entry; so many at the end -/
def gap : Nat → List CpInfo → List CpInfo
  | 0, r => r
  | n + 1, r => .unusable :: gap n r
def poolList (es : List (Nat × CpInfo)) (last : Nat) : List CpInfo := es.foldr (fun e r => gap e.1 (e.2 :: r)) (gap last [])
def pool (es : List (Nat × CpInfo)) (last : Nat) : Array CpInfo := ⟨poolList es last⟩
def fileOf (pool : Array CpInfo) (this : Nat) (attrs : Array Attribute := #[]) (ms : Array MethodInfo := #[]) (fl : Nat := 33) (sup : Nat := 0) (ifs : Array Nat := #[]) (fds : Array FieldInfo := #[]) : ClassFile where
  minorVersion := 0
  majorVersion := 65
  constantPool := pool
  accessFlags := fl
  thisClass := this
  superClass := sup
  interfaces := ifs
  fields := fds
  methods := ms
  attributes := attrs
def plain (name : String) (sup : Option ClassId) : Class where
  name := name
  kind := .ordinary
  loader := none
  accessFlags := 33
  super := sup
  interfaces := #[]
  cf := none
  fields := #[]
  methods := #[]
  instanceTypes := #[]
  staticTypes := #[]
  resolved := #[]
  callSites := []
  init := .initialized
  statics := none
  mirror := none

def pool0 : Array CpInfo := pool [(5, u "<init>"), (0, u "()V"), (1, .class_ 10), (1, u "java/lang/Object")] 113

def k0c0 : Code := { maxStack := 0, maxLocals := 1, code := object_method_1_code, exceptionTable := #[], attributes := #[] }
def k0m0 : Method := { name := "<init>", desc := "()V", sig := { parameters := [], returnType := none }, accessFlags := 1, code := some k0c0 }
/-- java/lang/Object -/
def k0 : Class := { plain "java/lang/Object" none with
  accessFlags := 33
  interfaces := #[]
  cf := some (fileOf pool0 8 #[] #[{ accessFlags := 1, nameIndex := 5, descriptorIndex := 6, attributes := #[] }] 33 0 #[] #[])
  fields := #[]
  methods := #[k0m0]
  instanceTypes := #[]
  staticTypes := #[]
  resolved := Array.replicate 124 none
  statics := none }

def pool1 : Array CpInfo := pool [(2, .class_ 4), (1, u "java/lang/Object"), (0, u "<init>"), (0, u "()V"), (0, .class_ 8), (0, u "com/example/database_mutex/databasemutex/cli/Workload"), (0, .methodref 7 10), (0, .nameAndType 5 11), (0, u "(IIIIZ)V"), (0, .methodref 7 13), (0, .nameAndType 14 15), (0, u "operations"), (0, u "()J"), (0, .class_ 17), (0, u "com/example/database_mutex/databasemutex/cli/WorkloadOperationsPinLaw"), (2, u "law"), (0, u "(IIIII)Z")] 3

def k1m0 : Method := { name := "<init>", desc := "()V", sig := { parameters := [], returnType := none }, accessFlags := 2, code := none }
def k1c1 : Code := { maxStack := 7, maxLocals := 11, code := code, exceptionTable := #[], attributes := #[] }
def k1m1 : Method := { name := "law", desc := "(IIIII)Z", sig := { parameters := [.int, .int, .int, .int, .int], returnType := some .boolean }, accessFlags := 9, code := some k1c1 }
/-- com/example/database_mutex/databasemutex/cli/WorkloadOperationsPinLaw -/
def k1 : Class := { plain "com/example/database_mutex/databasemutex/cli/WorkloadOperationsPinLaw" (some 0) with
  accessFlags := 49
  interfaces := #[]
  cf := some (fileOf pool1 16 #[] #[{ accessFlags := 2, nameIndex := 5, descriptorIndex := 6, attributes := #[] }, { accessFlags := 9, nameIndex := 20, descriptorIndex := 21, attributes := #[] }] 49 2 #[] #[])
  fields := #[]
  methods := #[k1m0, k1m1]
  instanceTypes := #[]
  staticTypes := #[]
  resolved := Array.replicate 25 none
  statics := none }

def pool2 : Array CpInfo := pool [(1, .methodref 2 3), (0, .class_ 4), (0, .nameAndType 5 6), (0, u "java/lang/Object"), (0, u "<init>"), (0, u "()V"), (0, .class_ 8), (0, u "java/lang/Record")] 13

def k2c0 : Code := { maxStack := 1, maxLocals := 1, code := jdk_30_method_1_code, exceptionTable := #[], attributes := #[] }
def k2m0 : Method := { name := "<init>", desc := "()V", sig := { parameters := [], returnType := none }, accessFlags := 4, code := some k2c0 }
/-- java/lang/Record -/
def k2 : Class := { plain "java/lang/Record" (some 0) with
  accessFlags := 1057
  interfaces := #[]
  cf := some (fileOf pool2 7 #[] #[{ accessFlags := 4, nameIndex := 5, descriptorIndex := 6, attributes := #[] }] 1057 2 #[] #[])
  fields := #[]
  methods := #[k2m0]
  instanceTypes := #[]
  staticTypes := #[]
  resolved := Array.replicate 22 none
  statics := none }

def pool3 : Array CpInfo := pool [(1, .methodref 2 3), (0, .class_ 4), (0, .nameAndType 5 6), (0, u "java/lang/Record"), (0, u "<init>"), (0, u "()V"), (0, .fieldref 8 9), (0, .class_ 10), (0, .nameAndType 11 12), (0, u "com/example/database_mutex/databasemutex/cli/Workload"), (0, u "threads"), (0, u "I"), (0, .fieldref 8 14), (0, .nameAndType 15 12), (0, u "operationsPerThread"), (0, .fieldref 8 17), (0, .nameAndType 18 12), (0, u "documents"), (0, .fieldref 8 20), (0, .nameAndType 21 12), (0, u "lines"), (0, .fieldref 8 23), (0, .nameAndType 24 25), (0, u "sharedReads"), (0, u "Z"), (65, .class_ 93), (1, u "com/example/database_mutex/databasemutex/cli/Workload$Client"), (94, u "STOPPING"), (0, u "Ljava/time/Duration;"), (5, u "()J"), (11, .class_ 208), (0, u "com/example/database_mutex/databasemutex/cli/Workload$Tally"), (28, .class_ 238), (0, u "com/example/database_mutex/databasemutex/cli/Workload$Outcome"), (58, u "UNTIL_OBTAINED"), (4, u "LOCK_PREFIX"), (0, u "Ljava/lang/String;"), (3, u "(IIIIZ)V"), (3, u "operations")] 76

def k3c0 : Code := { maxStack := 2, maxLocals := 6, code := prog_45_method_1_code, exceptionTable := #[], attributes := #[] }
def k3m0 : Method := { name := "<init>", desc := "(IIIIZ)V", sig := { parameters := [.int, .int, .int, .int, .boolean], returnType := none }, accessFlags := 0, code := some k3c0 }
def k3c1 : Code := { maxStack := 4, maxLocals := 1, code := prog_45_method_2_code, exceptionTable := #[], attributes := #[] }
def k3m1 : Method := { name := "operations", desc := "()J", sig := { parameters := [], returnType := some .long }, accessFlags := 0, code := some k3c1 }
/-- com/example/database_mutex/databasemutex/cli/Workload -/
def k3 : Class := { plain "com/example/database_mutex/databasemutex/cli/Workload" (some 2) with
  accessFlags := 48
  interfaces := #[]
  cf := some (fileOf pool3 8 #[.nestMembers #[207, 91, 237]] #[{ accessFlags := 0, nameIndex := 5, descriptorIndex := 307, attributes := #[] }, { accessFlags := 0, nameIndex := 311, descriptorIndex := 195, attributes := #[] }] 48 2 #[] #[{ accessFlags := 18, nameIndex := 11, descriptorIndex := 12, attributes := #[] }, { accessFlags := 18, nameIndex := 15, descriptorIndex := 12, attributes := #[] }, { accessFlags := 18, nameIndex := 18, descriptorIndex := 12, attributes := #[] }, { accessFlags := 18, nameIndex := 21, descriptorIndex := 12, attributes := #[] }, { accessFlags := 18, nameIndex := 24, descriptorIndex := 25, attributes := #[] }, { accessFlags := 26, nameIndex := 302, descriptorIndex := 303, attributes := #[] }, { accessFlags := 26, nameIndex := 297, descriptorIndex := 189, attributes := #[] }, { accessFlags := 26, nameIndex := 188, descriptorIndex := 189, attributes := #[] }])
  fields := #[{ name := "threads", type := .int, accessFlags := 18, slot := 0, constantValue := 0 }, { name := "operationsPerThread", type := .int, accessFlags := 18, slot := 1, constantValue := 0 }, { name := "documents", type := .int, accessFlags := 18, slot := 2, constantValue := 0 }, { name := "lines", type := .int, accessFlags := 18, slot := 3, constantValue := 0 }, { name := "sharedReads", type := .boolean, accessFlags := 18, slot := 4, constantValue := 0 }, { name := "LOCK_PREFIX", type := (.object "java/lang/String"), accessFlags := 26, slot := 0, constantValue := 0 }, { name := "UNTIL_OBTAINED", type := (.object "java/time/Duration"), accessFlags := 26, slot := 1, constantValue := 0 }, { name := "STOPPING", type := (.object "java/time/Duration"), accessFlags := 26, slot := 2, constantValue := 0 }]
  methods := #[k3m0, k3m1]
  instanceTypes := #[.int, .int, .int, .int, .boolean]
  staticTypes := #[(.object "java/lang/String"), (.object "java/time/Duration"), (.object "java/time/Duration")]
  resolved := Array.replicate 388 none
  statics := none }

def pool4 : Array CpInfo := pool [(1, u "java/lang/Cloneable"), (0, .class_ 1), (0, u "java/lang/Object"), (0, .class_ 3)] 3

/-- java/lang/Cloneable -/
def k4 : Class := { plain "java/lang/Cloneable" (some 0) with
  accessFlags := 1537
  interfaces := #[]
  cf := some (fileOf pool4 2 #[] #[] 1537 4 #[] #[])
  fields := #[]
  methods := #[]
  instanceTypes := #[]
  staticTypes := #[]
  resolved := Array.replicate 8 none
  statics := none }

def pool5 : Array CpInfo := pool [(1, u "java/io/Serializable"), (0, .class_ 1), (0, u "java/lang/Object"), (0, .class_ 3)] 3

/-- java/io/Serializable -/
def k5 : Class := { plain "java/io/Serializable" (some 0) with
  accessFlags := 1537
  interfaces := #[]
  cf := some (fileOf pool5 2 #[] #[] 1537 4 #[] #[])
  fields := #[]
  methods := #[]
  instanceTypes := #[]
  staticTypes := #[]
  resolved := Array.replicate 8 none
  statics := none }

/-- the primitive byte -/
def k6 : Class := { plain "byte" none with kind := .primitive 'B', accessFlags := 0x411 }
/-- [B -/
def k7 : Class := { plain "[B" (some 0) with kind := .array 6 .byte, interfaces := #[4, 5], accessFlags := 1041 }

/-- the primitive int -/
def k8 : Class := { plain "int" none with kind := .primitive 'I', accessFlags := 0x411 }
/-- [I -/
def k9 : Class := { plain "[I" (some 0) with kind := .array 8 .int, interfaces := #[4, 5], accessFlags := 1041 }

def heap : Heap := #[]
def classes : Array Class := #[k0, k1, k2, k3, k4, k5, k6, k7, k8, k9]
def interned : List (Array UInt16 × Addr) := []
def slotsUsed : Nat := 0
def theMethod : MethodId := ⟨1, 1⟩
def args0 : Array Value := #[.int 5, .int 6, .int 7, .int 8, .int 9]
def aboutOver (below : List Frame) : State where
  vm := { classes := classes, interned := interned.toArray }
  heap := heap
  slotsUsed := slotsUsed
  threads := #[{ frames := .invoking theMethod args0 :: below }]
def below0 : List Frame := [.native { method := ⟨0, 0⟩, args := #[] }]
def about1 : State := aboutOver below0
def p0 : Program := .bare "" "" ""
def e0 : Env := launch0.env 0 0 0
theorem w_frames : about1.frames = Frame.invoking theMethod args0 :: below0 := rfl
set_option maxRecDepth 65536 in
theorem w_args : argsFit about1.vm theMethod args0 = true := by decide +kernel
set_option maxRecDepth 65536 in
theorem w_heap : heapFits about1 = true := by decide +kernel
set_option maxRecDepth 65536 in
theorem w_runnable : about1.curStatus? = some .runnable := by decide +kernel
set_option maxRecDepth 65536 in
theorem w_alone : about1.alone = true := by decide +kernel
set_option maxRecDepth 65536 in
theorem w_named : about1.methodNamed? x = some theMethod := by decide +kernel
set_option maxRecDepth 65536 in
theorem w_hears : about1.hears theMethod below0 = true := by decide +kernel
set_option maxRecDepth 65536 in
theorem w_ripe : about1.ripe theMethod args0 below0 = true := by decide +kernel
theorem w_running : about1.status = .running := rfl
set_option maxRecDepth 65536 in
theorem w_room : about1.hasRoom e0.platform room_1 = true :=
  launch0.hasRoom_least _ room_1 (by decide +kernel) (by decide +kernel) (by decide +kernel) (by decide +kernel) (by decide +kernel) (by decide +kernel)
theorem allAtoms_all (ts : List Jvm.Cond) (a : Array Jvm.Value) (st : Jvm.State) : (allAtoms ts).before a st = ts.all (fun c => c.before a st) := by
  induction ts with
  | nil => rfl
  | cons c t ih =>
    show (Jvm.Cond.and c (allAtoms t)).before a st = _
    rw [Jvm.Cond.before_and, ih, List.all_cons]
def words1 : List Jvm.Cond := Jvm.Cond.code x code maxLocals ret :: tables_1
/-- a 'code' word, met by the world's own term for the bytes: nothing is compared byte by byte -/
theorem code_word {y : MethodName} {bytes : ByteArray} {mx : Nat} {rt : Option FieldType} {a : Array Value} {s : State} {m : MethodId} {meth : Method} {c : Code} (h1 : s.methodNamed? y = some m) (h2 : s.vm.method? m = some meth) (h3 : meth.code = some c) (h4 : c.code = bytes)
    (h5 : (c.maxLocals == mx && c.exceptionTable.isEmpty && decide (c.maxStack ≤ mostOperands) && decide (meth.sig.returnType = rt) && !meth.locks && decide (parseMethodDescriptor y.desc = some meth.sig)) = true) : (Jvm.Cond.code y bytes mx rt).before a s = true := by
  simp only [Bool.and_eq_true, beq_iff_eq, Bool.not_eq_true', decide_eq_true_eq] at h5
  obtain ⟨⟨⟨⟨⟨g1, g2⟩, g3⟩, g4⟩, g5⟩, g6⟩ := h5
  simp [Cond.before, Cond.holds, Cond.value, h1, h2, h3, h4, g1, g2, g3, g4, g5, g6]
def isCode : Jvm.Cond → Bool
  | .code _ _ _ _ => true
  | _ => false
theorem all_split {L : List Jvm.Cond} {P : Jvm.Cond → Bool} (h1 : L.all (fun c => isCode c || P c) = true) (h2 : ∀ c ∈ L.filter isCode, P c = true) : L.all P = true := by
  refine List.all_eq_true.mpr fun c hc => ?_
  have h := List.all_eq_true.mp h1 c hc
  rcases Bool.eq_false_or_eq_true (isCode c) with hi | hi
  · exact h2 c (List.mem_filter.mpr ⟨hc, hi⟩)
  · simpa [hi] using h
set_option maxRecDepth 65536 in
theorem w_c0 : (Jvm.Cond.code x code maxLocals ret).before args0 about1 = true := code_word (m := ⟨1, 1⟩) (meth := k1m1) (c := k1c1) (by decide +kernel) rfl rfl rfl (by decide +kernel)
set_option maxRecDepth 65536 in
theorem w_c1 : (Jvm.Cond.code ({ cls := "com/example/database_mutex/databasemutex/cli/Workload", name := "<init>", desc := "(IIIIZ)V" } : Jvm.MethodName) prog_45_method_1_code (6 : Nat) (Option.none : Option Jvm.ClassFile.FieldType)).before args0 about1 = true := code_word (m := ⟨3, 0⟩) (meth := k3m0) (c := k3c0) (by decide +kernel) rfl rfl rfl (by decide +kernel)
set_option maxRecDepth 65536 in
theorem w_c2 : (Jvm.Cond.code ({ cls := "java/lang/Record", name := "<init>", desc := "()V" } : Jvm.MethodName) jdk_30_method_1_code (1 : Nat) (Option.none : Option Jvm.ClassFile.FieldType)).before args0 about1 = true := code_word (m := ⟨2, 0⟩) (meth := k2m0) (c := k2c0) (by decide +kernel) rfl rfl rfl (by decide +kernel)
set_option maxRecDepth 65536 in
theorem w_c3 : (Jvm.Cond.code ({ cls := "java/lang/Object", name := "<init>", desc := "()V" } : Jvm.MethodName) object_method_1_code (1 : Nat) (Option.none : Option Jvm.ClassFile.FieldType)).before args0 about1 = true := code_word (m := ⟨0, 0⟩) (meth := k0m0) (c := k0c0) (by decide +kernel) rfl rfl rfl (by decide +kernel)
set_option maxRecDepth 65536 in
theorem w_c4 : (Jvm.Cond.code ({ cls := "com/example/database_mutex/databasemutex/cli/Workload", name := "operations", desc := "()J" } : Jvm.MethodName) prog_45_method_2_code (1 : Nat) (Option.some Jvm.ClassFile.FieldType.long)).before args0 about1 = true := code_word (m := ⟨3, 1⟩) (meth := k3m1) (c := k3c1) (by decide +kernel) rfl rfl rfl (by decide +kernel)
def codes1 : List Jvm.Cond := [Jvm.Cond.code x code maxLocals ret, Jvm.Cond.code ({ cls := "com/example/database_mutex/databasemutex/cli/Workload", name := "<init>", desc := "(IIIIZ)V" } : Jvm.MethodName) prog_45_method_1_code (6 : Nat) (Option.none : Option Jvm.ClassFile.FieldType), Jvm.Cond.code ({ cls := "java/lang/Record", name := "<init>", desc := "()V" } : Jvm.MethodName) jdk_30_method_1_code (1 : Nat) (Option.none : Option Jvm.ClassFile.FieldType), Jvm.Cond.code ({ cls := "java/lang/Object", name := "<init>", desc := "()V" } : Jvm.MethodName) object_method_1_code (1 : Nat) (Option.none : Option Jvm.ClassFile.FieldType), Jvm.Cond.code ({ cls := "com/example/database_mutex/databasemutex/cli/Workload", name := "operations", desc := "()J" } : Jvm.MethodName) prog_45_method_2_code (1 : Nat) (Option.some Jvm.ClassFile.FieldType.long)]
set_option maxRecDepth 65536 in
theorem codes_eq : words1.filter isCode = codes1 := rfl
theorem w_codes : ∀ c ∈ words1.filter isCode, c.before args0 about1 = true := by
  rw [codes_eq]
  intro c hc
  simp only [codes1, List.mem_cons, List.not_mem_nil, or_false] at hc
  rcases hc with rfl | rfl | rfl | rfl | rfl
  · exact w_c0
  · exact w_c1
  · exact w_c2
  · exact w_c3
  · exact w_c4
set_option maxRecDepth 65536 in
theorem w_t1 : (words1.take 24).all (fun c => isCode c || c.before args0 about1) = true := by decide +kernel
set_option maxRecDepth 65536 in
theorem w_t2 : (words1.drop 24).all (fun c => isCode c || c.before args0 about1) = true := by decide +kernel
theorem w_tables : (allAtoms (Jvm.Cond.code x code maxLocals ret :: tables_1)).before args0 about1 = true := by
  rw [allAtoms_all]
  show words1.all (fun c => c.before args0 about1) = true
  refine all_split ?_ w_codes
  rw [← List.take_append_drop 24 words1, List.all_append, w_t1, w_t2]
  rfl
set_option maxRecDepth 65536 in
theorem w_case : (Jvm.Cond.and given_1 narrow_1).before args0 about1 = true := by decide +kernel
theorem w_applies : (headSpec (Jvm.Cond.code x code maxLocals ret :: tables_1) room_1).applies x e0.platform about1 = true :=
  (Spec.applies_iff w_frames).mpr ⟨w_running, w_runnable, w_alone, w_named, w_hears, w_ripe, w_room, w_tables⟩
theorem atStart : AtStart classFile x code maxLocals ret World_1 tables_1 room_1 Calls_1 rest_1 Pre_1 launch0 p0 e0 about1 theMethod args0 below0 :=
  ⟨lists_1, trivial, launch0.admits_env _ _ _, launch0.least_env, fairChoices_fair.cas, fairChoices_fair.clock, w_frames, w_args, w_heap, w_applies, trivial, trivial, w_case⟩
end start1
theorem witness_1 : WitnessClaimed_1 := ⟨start1.p0, start1.e0, start1.about1, start1.theMethod, start1.args0, start1.below0, start1.atStart⟩
end Jvm.Pilot.@@N@@
