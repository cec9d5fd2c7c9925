import JvmDerived
import JvmDerived.Pilot.@@N@@Statement
import JvmDerived.Pilot.@@N@@Code
set_option linter.unusedVariables false
set_option linter.unusedSimpArgs false
namespace Jvm.Pilot.@@N@@
open Jvm Jvm.ClassFile Sem Op Lib Jvm.Free Jvm.Stand Jvm.LawKit Jvm.RoadKit Bundle Jvm.Pilot.@@N@@.Jvm.D
theorem own_w {a0 : Array Value} {Z : State} (hw : ∀ d ∈ tables_1, d.before a0 Z = true) (i : Nat) {d : Jvm.Cond} (h : tables_1[i]? = some d) : d.before a0 Z = true := hw _ (List.mem_of_getElem? h)
abbrev oS (p : Program) (e : Env) (b : List Frame) (T : State) (m : MethodId) (pc : Nat) (L : Array Slot) (S : List Value) (t : State) : Prop := Steps p.tables e b (T.setTop (mkF m pc L S)) t
abbrev lv (x : Int64) : Slot := .val (.long x)
theorem own_join {α : Type} {p : Program} {l : Launch} {e : Env} {R : Room} {s : State} {m : MethodId} {args : Array Value} {below : List Frame} {meth : Method} {c : Code} {T : State} {locs : List Loc} {cells slots n0 : Nat} {h : Heap}
    (_ : Stand p l e R s m args below meth c T locs cells slots) (_ : Fr n0 locs) (_ : T.heap = h) (A : JFrame) (B : α → JFrame) (P : α → Prop)
    (k : ∃ (v : α) (T' : State) (locs' : List Loc), P v ∧ Fr n0 locs' ∧ Stand p l e R s m args below meth c T' locs' cells slots ∧ T'.heap = h ∧ ∀ t, Steps p.tables e below (T'.setTop (B v)) t → Steps p.tables e below (T.setTop A) t) :
    ∃ (v : α) (T' : State) (locs' : List Loc), P v ∧ Fr n0 locs' ∧ Stand p l e R s m args below meth c T' locs' cells slots ∧ T'.heap = h ∧ ∀ t, Steps p.tables e below (T'.setTop (B v)) t → Steps p.tables e below (T.setTop A) t := k
theorem own_joinH {α : Type} {p : Program} {l : Launch} {e : Env} {R : Room} {s : State} {m : MethodId} {args : Array Value} {below : List Frame} {meth : Method} {c : Code} {T : State} {locs : List Loc} {cells slots n0 : Nat} {h : Heap}
    (_ : Stand p l e R s m args below meth c T locs cells slots) (_ : Fr n0 locs) (_ : T.heap = h) (A : JFrame) (B : α → JFrame) (P : α → Heap → Prop)
    (k : ∃ (v : α) (T' : State) (h' : Heap) (locs' : List Loc), P v h' ∧ Fr n0 locs' ∧ Stand p l e R s m args below meth c T' locs' cells slots ∧ T'.heap = h' ∧ ∀ t, Steps p.tables e below (T'.setTop (B v)) t → Steps p.tables e below (T.setTop A) t) :
    ∃ (v : α) (T' : State) (h' : Heap) (locs' : List Loc), P v h' ∧ Fr n0 locs' ∧ Stand p l e R s m args below meth c T' locs' cells slots ∧ T'.heap = h' ∧ ∀ t, Steps p.tables e below (T'.setTop (B v)) t → Steps p.tables e below (T.setTop A) t := k
theorem own_selp {s Z : State} {a0 args : Array Value} {y : MethodName} {n : Nat} (hZ : Z.Warmed39 s.vm) (wi : (Cond.instantiable y.cls n).before a0 Z = true) (wp : (Cond.privateMethod y).before a0 Z = true) (wm : (Cond.instanceMethod y).before a0 Z = true)
    (hy : y.cls ≠ "java/lang/invoke/MethodHandle" ∧ y.cls ≠ "java/lang/invoke/VarHandle") : (Cond.selects y.cls y y).before args s = true := by
  have wi' : (Cond.instantiable y.cls n).before args s = true := mvT hZ wi
  obtain ⟨c, k, h1, h2, h3, h4, -⟩ := Cond.instantiable_spec wi'
  exact Stand.selects_self_of_private h1 h2 (Bool.or_eq_false_iff.mp h4).1 (Cond.privateMethod_at (mvP hZ wp (args := #[]))) (mvT hZ wm) hy
theorem own_or0 (a b : Int64) : a ||| b = 0 ↔ a = 0 ∧ b = 0 := by
  rw [← Int64.toBitVec_inj, ← Int64.toBitVec_inj, ← Int64.toBitVec_inj, Int64.toBitVec_or]
  show a.toBitVec ||| b.toBitVec = 0#64 ↔ a.toBitVec = 0#64 ∧ b.toBitVec = 0#64
  exact BitVec.or_eq_zero_iff
theorem own_law (a b c : Int64) : (if a = (0 : Int64) then (if b = (0 : Int64) then (if c = (0 : Int64) then (1 : Int32) else (0 : Int32)) else (0 : Int32)) else (0 : Int32)) = (if ((a ||| b) ||| c) = (0 : Int64) then (1 : Int32) else (0 : Int32)) := by
  by_cases h1 : a = 0 <;> by_cases h2 : b = 0 <;> by_cases h3 : c = 0 <;> simp [own_or0, h1, h2, h3]
theorem d2_0 : decode jdk_30_method_1_code 0 = .ok (.aload_n 0, 1) := by decide +kernel
theorem d2_1 : decode jdk_30_method_1_code 1 = .ok (.invokespecial 1, 3) := by decide +kernel
theorem d2_4 : decode jdk_30_method_1_code 4 = .ok (.return_, 1) := by decide +kernel
theorem own_pn0 : plainName "java/lang/Record" = true := by first | (simp [plainName, overriddenIn]; done) | decide +kernel
theorem ef2 (m : MethodId) (o : Addr) : entryFrame m #[(.ref o)] 1 = mkF m 0 #[rv o] [] := by first | (simp [entryFrame, mkF, argsToLocals, Value.category]; done) | rfl
def Q2 (Z : State) (o : Addr) (h0 : Heap) (n0 : Nat) (v : Option Value) (h : Heap) (L : List Loc) : Prop := v = none ∧ Fr n0 L ∧ h = h0
set_option maxRecDepth 65536 in
set_option maxHeartbeats 40000000 in
theorem rm2 (l : Launch) (Z : State) (a0 : Array Value) (hw : ∀ d ∈ tables_1, d.before a0 Z = true) (ws : List Jvm.Cond) (o : Addr) (h0 : Heap) (n0 : Nat) (Z0 : n0 ≤ h0.size) :
    MetFree l (⟨"java/lang/Record", "<init>", "()V"⟩ : MethodName) (head1 (Jvm.Cond.code (⟨"java/lang/Record", "<init>", "()V"⟩ : MethodName) jdk_30_method_1_code 1 none :: ws) ({ frames := 1, cells := 0, slots := 0, locals := 12 } : Room)) (fun a U => a = #[(.ref o)] ∧ Z.Warmed39 U.vm ∧ U.heap = h0) (fun _ _ _ _ _ => True) (fun _ U oc U' => ∃ v L, oc = .returned v ∧ Q2 Z o h0 n0 v U'.heap L ∧ FrameEnd U oc U' L ({ frames := 1, cells := 0, slots := 0, locals := 12 } : Room).cells ({ frames := 1, cells := 0, slots := 0, locals := 12 } : Room).slots) := by
  refine MetFree.of_bodySF (plainFor_of_name own_pn0) hisR ?_
  intro p e s m args below meth c s₁ Bd hml0 hP hK
  obtain ⟨rfl, hZ, hh⟩ := hP
  have hx := Bd.exec
  have hby := Bd.bytes
  have hml : c.maxLocals = 1 := hml0
  have hown : s.vm.findClass "java/lang/Record" = some m.cls := findClass_of_methodNamed Bd.named
  have hnm := (name_of_methodNamed Bd.named Bd.method).1
  have X0 : Stand p l e ({ frames := 1, cells := 0, slots := 0, locals := 12 } : Room) s m #[(.ref o)] below meth c s₁ [] 0 0 := Stand.of_body Bd
  have e0 : s₁.heap = h0 := by rw [← hh, Bd.state]; rfl
  have N0 := Fr.nil n0
  have pre0 : ∀ t, Steps p.tables e below (s₁.setTop (mkF m 0 #[rv o] [])) t → Steps p.tables e below (s₁.setTop (entryFrame m #[(.ref o)] 1)) t := fun t k => castTop (ef2 m o) k
  obtain ⟨T1, X1, e1, st1⟩ := initO X0 hx hZ hown (own_w hw 19 rfl) (own_w hw 20 rfl) (own_w hw 21 rfl) e0 (g := (mkF m 1 #[rv o] [(.ref o)])) rfl (by rw [hml]; rfl) rfl (hb hby d2_1) (by decide) (W := 0) (by show 2 * 0 + _ ≤ _; exact Nat.le_of_eq rfl) (by decide)
  have pre2 : ∀ tz, oS p e below T1 m 4 #[rv o] [] tz → oS p e below s₁ m 0 #[rv o] [] tz := fun tz kt => by
    show oS p e below s₁ m 0 #[rv o] [] _
    refine XS.aloadN X0.here hx rfl (hb hby d2_0) rfl rfl ?_
    show oS p e below s₁ m 1 #[rv o] [(.ref o)] _
    refine st1 _ ?_
    exact kt
  obtain ⟨fs, hr, hrun, hended, hW, hsame⟩ := X1.leave (v := none) (fun _ => rfl)
  refine ⟨_, _, pre0 _ (pre2 _ ?_), hrun, hended, _, _, rfl, ?_, ⟨_, rfl⟩, hW, hsame.mono (by decide) (by decide)⟩
  · show oS p e below T1 m 4 #[rv o] [] _
    exact X1.returnOut hx Bd.returns (hb hby d2_4) hr
  · show Q2 Z o h0 n0 _ T1.heap _
    rw [e1]
    exact ⟨rfl, N0, rfl⟩
theorem own_pd0 : parseMethodDescriptor "()V" = some ⟨[], none⟩ := by decide +kernel
theorem d1_0 : decode prog_48_method_1_code 0 = .ok (.aload_n 0, 1) := by decide +kernel
theorem d1_1 : decode prog_48_method_1_code 1 = .ok (.invokespecial 1, 3) := by decide +kernel
theorem d1_4 : decode prog_48_method_1_code 4 = .ok (.aload_n 0, 1) := by decide +kernel
theorem d1_5 : decode prog_48_method_1_code 5 = .ok (.aload_n 1, 1) := by decide +kernel
theorem d1_6 : decode prog_48_method_1_code 6 = .ok (.putfield 7, 3) := by decide +kernel
theorem d1_9 : decode prog_48_method_1_code 9 = .ok (.aload_n 0, 1) := by decide +kernel
theorem d1_10 : decode prog_48_method_1_code 10 = .ok (.lload_n 2, 1) := by decide +kernel
theorem d1_11 : decode prog_48_method_1_code 11 = .ok (.putfield 13, 3) := by decide +kernel
theorem d1_14 : decode prog_48_method_1_code 14 = .ok (.aload_n 0, 1) := by decide +kernel
theorem d1_15 : decode prog_48_method_1_code 15 = .ok (.lload 4, 2) := by decide +kernel
theorem d1_17 : decode prog_48_method_1_code 17 = .ok (.putfield 17, 3) := by decide +kernel
theorem d1_20 : decode prog_48_method_1_code 20 = .ok (.aload_n 0, 1) := by decide +kernel
theorem d1_21 : decode prog_48_method_1_code 21 = .ok (.lload 6, 2) := by decide +kernel
theorem d1_23 : decode prog_48_method_1_code 23 = .ok (.putfield 20, 3) := by decide +kernel
theorem d1_26 : decode prog_48_method_1_code 26 = .ok (.aload_n 0, 1) := by decide +kernel
theorem d1_27 : decode prog_48_method_1_code 27 = .ok (.lload 8, 2) := by decide +kernel
theorem d1_29 : decode prog_48_method_1_code 29 = .ok (.putfield 23, 3) := by decide +kernel
theorem d1_32 : decode prog_48_method_1_code 32 = .ok (.aload_n 0, 1) := by decide +kernel
theorem d1_33 : decode prog_48_method_1_code 33 = .ok (.lload 10, 2) := by decide +kernel
theorem d1_35 : decode prog_48_method_1_code 35 = .ok (.putfield 26, 3) := by decide +kernel
theorem d1_38 : decode prog_48_method_1_code 38 = .ok (.aload_n 0, 1) := by decide +kernel
theorem d1_39 : decode prog_48_method_1_code 39 = .ok (.lload 12, 2) := by decide +kernel
theorem d1_41 : decode prog_48_method_1_code 41 = .ok (.putfield 29, 3) := by decide +kernel
theorem d1_44 : decode prog_48_method_1_code 44 = .ok (.aload_n 0, 1) := by decide +kernel
theorem d1_45 : decode prog_48_method_1_code 45 = .ok (.aload 14, 2) := by decide +kernel
theorem d1_47 : decode prog_48_method_1_code 47 = .ok (.putfield 32, 3) := by decide +kernel
theorem d1_50 : decode prog_48_method_1_code 50 = .ok (.return_, 1) := by decide +kernel
theorem own_pn1 : plainName "com/example/database_mutex/databasemutex/cli/Workload$Outcome" = true := by first | (simp [plainName, overriddenIn]; done) | decide +kernel
theorem ef1 (m : MethodId) (o : Addr) (x1 : Addr) (x2 : Int64) (x3 : Int64) (x4 : Int64) (x5 : Int64) (x6 : Int64) (x7 : Int64) : entryFrame m #[(.ref o), (.ref x1), (.long x2), (.long x3), (.long x4), (.long x5), (.long x6), (.long x7), .null] 15 = mkF m 0 #[rv o, rv x1, lv x2, .second, lv x3, .second, lv x4, .second, lv x5, .second, lv x6, .second, lv x7, .second, .val .null] [] := by first | (simp [entryFrame, mkF, argsToLocals, Value.category]; done) | rfl
def Q1 (Z : State) (o : Addr) (x1 : Addr) (x2 : Int64) (x3 : Int64) (x4 : Int64) (x5 : Int64) (x6 : Int64) (x7 : Int64) (w_database_o : Value) (w_reads_o : Value) (w_updates_o : Value) (w_inconsistentReads_o : Value) (w_errors_o : Value) (w_overlaps_o : Value) (w_maxConcurrentReaders_o : Value) (w_anError_o : Value) (h0 : Heap) (n0 : Nat) (v : Option Value) (h : Heap) (L : List Loc) : Prop := v = none ∧ Fr n0 L ∧ Keep h0 h [o] ∧ Exa Z h o "com/example/database_mutex/databasemutex/cli/Workload$Outcome" ∧ Fld Z h o "com/example/database_mutex/databasemutex/cli/Workload$Outcome" "database" "Ljava/lang/String;" (.ref x1) ∧ Fld Z h o "com/example/database_mutex/databasemutex/cli/Workload$Outcome" "reads" "J" (.long x2) ∧ Fld Z h o "com/example/database_mutex/databasemutex/cli/Workload$Outcome" "updates" "J" (.long x3) ∧ Fld Z h o "com/example/database_mutex/databasemutex/cli/Workload$Outcome" "inconsistentReads" "J" (.long x4) ∧ Fld Z h o "com/example/database_mutex/databasemutex/cli/Workload$Outcome" "errors" "J" (.long x5) ∧ Fld Z h o "com/example/database_mutex/databasemutex/cli/Workload$Outcome" "overlaps" "J" (.long x6) ∧ Fld Z h o "com/example/database_mutex/databasemutex/cli/Workload$Outcome" "maxConcurrentReaders" "J" (.long x7) ∧ Fld Z h o "com/example/database_mutex/databasemutex/cli/Workload$Outcome" "anError" "Ljava/util/Optional;" .null
set_option maxRecDepth 65536 in
set_option maxHeartbeats 40000000 in
theorem rm1 (l : Launch) (Z : State) (a0 : Array Value) (hw : ∀ d ∈ tables_1, d.before a0 Z = true) (ws : List Jvm.Cond) (o : Addr) (x1 : Addr) (x2 : Int64) (x3 : Int64) (x4 : Int64) (x5 : Int64) (x6 : Int64) (x7 : Int64) (w_database_o : Value) (w_reads_o : Value) (w_updates_o : Value) (w_inconsistentReads_o : Value) (w_errors_o : Value) (w_overlaps_o : Value) (w_maxConcurrentReaders_o : Value) (w_anError_o : Value) (h0 : Heap) (n0 : Nat) (Z0 : n0 ≤ h0.size) (E_o : Exa Z h0 o "com/example/database_mutex/databasemutex/cli/Workload$Outcome") (F_database_o : Fld Z h0 o "com/example/database_mutex/databasemutex/cli/Workload$Outcome" "database" "Ljava/lang/String;" w_database_o) (g_o : n0 ≤ o) (F_reads_o : Fld Z h0 o "com/example/database_mutex/databasemutex/cli/Workload$Outcome" "reads" "J" w_reads_o) (F_updates_o : Fld Z h0 o "com/example/database_mutex/databasemutex/cli/Workload$Outcome" "updates" "J" w_updates_o) (F_inconsistentReads_o : Fld Z h0 o "com/example/database_mutex/databasemutex/cli/Workload$Outcome" "inconsistentReads" "J" w_inconsistentReads_o) (F_errors_o : Fld Z h0 o "com/example/database_mutex/databasemutex/cli/Workload$Outcome" "errors" "J" w_errors_o) (F_overlaps_o : Fld Z h0 o "com/example/database_mutex/databasemutex/cli/Workload$Outcome" "overlaps" "J" w_overlaps_o) (F_maxConcurrentReaders_o : Fld Z h0 o "com/example/database_mutex/databasemutex/cli/Workload$Outcome" "maxConcurrentReaders" "J" w_maxConcurrentReaders_o) (F_anError_o : Fld Z h0 o "com/example/database_mutex/databasemutex/cli/Workload$Outcome" "anError" "Ljava/util/Optional;" w_anError_o) :
    MetFree l (⟨"com/example/database_mutex/databasemutex/cli/Workload$Outcome", "<init>", "(Ljava/lang/String;JJJJJJLjava/util/Optional;)V"⟩ : MethodName) (head1 (Jvm.Cond.code (⟨"com/example/database_mutex/databasemutex/cli/Workload$Outcome", "<init>", "(Ljava/lang/String;JJJJJJLjava/util/Optional;)V"⟩ : MethodName) prog_48_method_1_code 15 none :: ws) ({ frames := 2, cells := 0, slots := 0, locals := 24 } : Room)) (fun a U => a = #[(.ref o), (.ref x1), (.long x2), (.long x3), (.long x4), (.long x5), (.long x6), (.long x7), .null] ∧ Z.Warmed39 U.vm ∧ U.heap = h0) (fun _ _ _ _ _ => True) (fun _ U oc U' => ∃ v L, oc = .returned v ∧ Q1 Z o x1 x2 x3 x4 x5 x6 x7 w_database_o w_reads_o w_updates_o w_inconsistentReads_o w_errors_o w_overlaps_o w_maxConcurrentReaders_o w_anError_o h0 n0 v U'.heap L ∧ FrameEnd U oc U' L ({ frames := 2, cells := 0, slots := 0, locals := 24 } : Room).cells ({ frames := 2, cells := 0, slots := 0, locals := 24 } : Room).slots) := by
  refine MetFree.of_bodySF (plainFor_of_name own_pn1) hisR ?_
  intro p e s m args below meth c s₁ Bd hml0 hP hK
  obtain ⟨rfl, hZ, hh⟩ := hP
  have hx := Bd.exec
  have hby := Bd.bytes
  have hml : c.maxLocals = 15 := hml0
  have hown : s.vm.findClass "com/example/database_mutex/databasemutex/cli/Workload$Outcome" = some m.cls := findClass_of_methodNamed Bd.named
  have hnm := (name_of_methodNamed Bd.named Bd.method).1
  have X0 : Stand p l e ({ frames := 2, cells := 0, slots := 0, locals := 24 } : Room) s m #[(.ref o), (.ref x1), (.long x2), (.long x3), (.long x4), (.long x5), (.long x6), (.long x7), .null] below meth c s₁ [] 0 0 := Stand.of_body Bd
  have e0 : s₁.heap = h0 := by rw [← hh, Bd.state]; rfl
  have N0 := Fr.nil n0
  have pre0 : ∀ t, Steps p.tables e below (s₁.setTop (mkF m 0 #[rv o, rv x1, lv x2, .second, lv x3, .second, lv x4, .second, lv x5, .second, lv x6, .second, lv x7, .second, .val .null] [])) t → Steps p.tables e below (s₁.setTop (entryFrame m #[(.ref o), (.ref x1), (.long x2), (.long x3), (.long x4), (.long x5), (.long x6), (.long x7), .null] 15)) t := fun t k => castTop (ef1 m o x1 x2 x3 x4 x5 x6 x7) k
  obtain ⟨_, _, ⟨T1, Lw1, kw1, nw1⟩, -, X1, ⟨Lc1, hQ1, l1, y1, z1⟩, st1⟩ := X0.specialBack hx (y := (⟨"java/lang/Record", "<init>", "()V"⟩ : MethodName)) rfl hown (mvT hZ (own_w hw 14 rfl)) (mvT hZ (own_w hw 15 rfl)) (mvT hZ (own_w hw 18 rfl)) (by decide) (backOf (W := 0) (rm2 l Z a0 hw [] o h0 n0 Z0 ) hZ (own_w hw 18 rfl) (own_w hw 17 rfl) (by decide) (by decide)) (g := (mkF m 1 #[rv o, rv x1, lv x2, .second, lv x3, .second, lv x4, .second, lv x5, .second, lv x6, .second, lv x7, .second, .val .null] [(.ref o)])) rfl (by rw [hml]; rfl) (Steps.refl _) (a := o) (argsL := []) (rest := []) (lenOf own_pd0 rfl) rfl (by show 2 * 0 + _ ≤ _; exact Nat.le_of_eq rfl) (hb hby d1_1) (fun _ _ => ⟨rfl, e0, (by decide : 0 + 0 ≤ _), (by decide : 0 + 0 ≤ _)⟩)
  dsimp only [Pt.U, Pt.locs, Pt.cells, Pt.slots] at X1 l1 y1 z1 st1 hQ1
  subst l1 y1 z1
  obtain ⟨rfl, Nq1, eh1⟩ := hQ1
  have N1 := Fr.app N0 Nq1
  obtain ⟨T2, h2, X2, e2, W2, st2⟩ := putF X1 hx hZ hown (host := "") (Or.inl (own_w hw 22 rfl)) Via.refl eh1 F_database_o E_o (Or.inr ⟨(own_w hw 23 rfl), rfl, hnm⟩) (own_w hw 1 rfl) (ty := (.object "java/lang/String")) (by decide) rfl rfl (g := (mkF m 6 #[rv o, rv x1, lv x2, .second, lv x3, .second, lv x4, .second, lv x5, .second, lv x6, .second, lv x7, .second, .val .null] [(.ref x1), (.ref o)])) rfl rfl (hb hby d1_6)
  have Fw2 : Fld Z h2 o "com/example/database_mutex/databasemutex/cli/Workload$Outcome" "database" "Ljava/lang/String;" (.ref x1) := F_database_o.same W2
  have N2 := Fr.snoc X2 N1 g_o
  have Ec3 : Exa Z h2 o "com/example/database_mutex/databasemutex/cli/Workload$Outcome" := (E_o.wr W2)
  have Fc4 : Fld Z h2 o "com/example/database_mutex/databasemutex/cli/Workload$Outcome" "reads" "J" w_reads_o := (F_reads_o.other W2 (Or.inr (slot_ne (Or.inr (own_w hw 25 rfl)) (Or.inr (own_w hw 23 rfl)) (by decide) (t := .long) (t' := (.object "java/lang/String")) (by decide) (by decide))))
  obtain ⟨T5, h5, X5, e5, W5, st5⟩ := putF X2 hx hZ hown (host := "") (Or.inl (own_w hw 24 rfl)) Via.refl e2 Fc4 Ec3 (Or.inr ⟨(own_w hw 25 rfl), rfl, hnm⟩) (own_w hw 1 rfl) (ty := .long) (by decide) rfl rfl (g := (mkF m 11 #[rv o, rv x1, lv x2, .second, lv x3, .second, lv x4, .second, lv x5, .second, lv x6, .second, lv x7, .second, .val .null] [(.long x2), (.ref o)])) rfl rfl (hb hby d1_11)
  have Fw5 : Fld Z h5 o "com/example/database_mutex/databasemutex/cli/Workload$Outcome" "reads" "J" (.long x2) := Fc4.same W5
  have N5 := Fr.snoc X5 N2 g_o
  have Ec6 : Exa Z h5 o "com/example/database_mutex/databasemutex/cli/Workload$Outcome" := (Ec3.wr W5)
  have Fc7 : Fld Z h5 o "com/example/database_mutex/databasemutex/cli/Workload$Outcome" "updates" "J" w_updates_o := ((F_updates_o.other W2 (Or.inr (slot_ne (Or.inr (own_w hw 27 rfl)) (Or.inr (own_w hw 23 rfl)) (by decide) (t := .long) (t' := (.object "java/lang/String")) (by decide) (by decide)))).other W5 (Or.inr (slot_ne (Or.inr (own_w hw 27 rfl)) (Or.inr (own_w hw 25 rfl)) (by decide) (t := .long) (t' := .long) (by decide) (by decide))))
  obtain ⟨T8, h8, X8, e8, W8, st8⟩ := putF X5 hx hZ hown (host := "") (Or.inl (own_w hw 26 rfl)) Via.refl e5 Fc7 Ec6 (Or.inr ⟨(own_w hw 27 rfl), rfl, hnm⟩) (own_w hw 1 rfl) (ty := .long) (by decide) rfl rfl (g := (mkF m 17 #[rv o, rv x1, lv x2, .second, lv x3, .second, lv x4, .second, lv x5, .second, lv x6, .second, lv x7, .second, .val .null] [(.long x3), (.ref o)])) rfl rfl (hb hby d1_17)
  have Fw8 : Fld Z h8 o "com/example/database_mutex/databasemutex/cli/Workload$Outcome" "updates" "J" (.long x3) := Fc7.same W8
  have N8 := Fr.snoc X8 N5 g_o
  have Ec9 : Exa Z h8 o "com/example/database_mutex/databasemutex/cli/Workload$Outcome" := (Ec6.wr W8)
  have Fc10 : Fld Z h8 o "com/example/database_mutex/databasemutex/cli/Workload$Outcome" "inconsistentReads" "J" w_inconsistentReads_o := (((F_inconsistentReads_o.other W2 (Or.inr (slot_ne (Or.inr (own_w hw 29 rfl)) (Or.inr (own_w hw 23 rfl)) (by decide) (t := .long) (t' := (.object "java/lang/String")) (by decide) (by decide)))).other W5 (Or.inr (slot_ne (Or.inr (own_w hw 29 rfl)) (Or.inr (own_w hw 25 rfl)) (by decide) (t := .long) (t' := .long) (by decide) (by decide)))).other W8 (Or.inr (slot_ne (Or.inr (own_w hw 29 rfl)) (Or.inr (own_w hw 27 rfl)) (by decide) (t := .long) (t' := .long) (by decide) (by decide))))
  obtain ⟨T11, h11, X11, e11, W11, st11⟩ := putF X8 hx hZ hown (host := "") (Or.inl (own_w hw 28 rfl)) Via.refl e8 Fc10 Ec9 (Or.inr ⟨(own_w hw 29 rfl), rfl, hnm⟩) (own_w hw 1 rfl) (ty := .long) (by decide) rfl rfl (g := (mkF m 23 #[rv o, rv x1, lv x2, .second, lv x3, .second, lv x4, .second, lv x5, .second, lv x6, .second, lv x7, .second, .val .null] [(.long x4), (.ref o)])) rfl rfl (hb hby d1_23)
  have Fw11 : Fld Z h11 o "com/example/database_mutex/databasemutex/cli/Workload$Outcome" "inconsistentReads" "J" (.long x4) := Fc10.same W11
  have N11 := Fr.snoc X11 N8 g_o
  have Ec12 : Exa Z h11 o "com/example/database_mutex/databasemutex/cli/Workload$Outcome" := (Ec9.wr W11)
  have Fc13 : Fld Z h11 o "com/example/database_mutex/databasemutex/cli/Workload$Outcome" "errors" "J" w_errors_o := ((((F_errors_o.other W2 (Or.inr (slot_ne (Or.inr (own_w hw 31 rfl)) (Or.inr (own_w hw 23 rfl)) (by decide) (t := .long) (t' := (.object "java/lang/String")) (by decide) (by decide)))).other W5 (Or.inr (slot_ne (Or.inr (own_w hw 31 rfl)) (Or.inr (own_w hw 25 rfl)) (by decide) (t := .long) (t' := .long) (by decide) (by decide)))).other W8 (Or.inr (slot_ne (Or.inr (own_w hw 31 rfl)) (Or.inr (own_w hw 27 rfl)) (by decide) (t := .long) (t' := .long) (by decide) (by decide)))).other W11 (Or.inr (slot_ne (Or.inr (own_w hw 31 rfl)) (Or.inr (own_w hw 29 rfl)) (by decide) (t := .long) (t' := .long) (by decide) (by decide))))
  obtain ⟨T14, h14, X14, e14, W14, st14⟩ := putF X11 hx hZ hown (host := "") (Or.inl (own_w hw 30 rfl)) Via.refl e11 Fc13 Ec12 (Or.inr ⟨(own_w hw 31 rfl), rfl, hnm⟩) (own_w hw 1 rfl) (ty := .long) (by decide) rfl rfl (g := (mkF m 29 #[rv o, rv x1, lv x2, .second, lv x3, .second, lv x4, .second, lv x5, .second, lv x6, .second, lv x7, .second, .val .null] [(.long x5), (.ref o)])) rfl rfl (hb hby d1_29)
  have Fw14 : Fld Z h14 o "com/example/database_mutex/databasemutex/cli/Workload$Outcome" "errors" "J" (.long x5) := Fc13.same W14
  have N14 := Fr.snoc X14 N11 g_o
  have Ec15 : Exa Z h14 o "com/example/database_mutex/databasemutex/cli/Workload$Outcome" := (Ec12.wr W14)
  have Fc16 : Fld Z h14 o "com/example/database_mutex/databasemutex/cli/Workload$Outcome" "overlaps" "J" w_overlaps_o := (((((F_overlaps_o.other W2 (Or.inr (slot_ne (Or.inr (own_w hw 33 rfl)) (Or.inr (own_w hw 23 rfl)) (by decide) (t := .long) (t' := (.object "java/lang/String")) (by decide) (by decide)))).other W5 (Or.inr (slot_ne (Or.inr (own_w hw 33 rfl)) (Or.inr (own_w hw 25 rfl)) (by decide) (t := .long) (t' := .long) (by decide) (by decide)))).other W8 (Or.inr (slot_ne (Or.inr (own_w hw 33 rfl)) (Or.inr (own_w hw 27 rfl)) (by decide) (t := .long) (t' := .long) (by decide) (by decide)))).other W11 (Or.inr (slot_ne (Or.inr (own_w hw 33 rfl)) (Or.inr (own_w hw 29 rfl)) (by decide) (t := .long) (t' := .long) (by decide) (by decide)))).other W14 (Or.inr (slot_ne (Or.inr (own_w hw 33 rfl)) (Or.inr (own_w hw 31 rfl)) (by decide) (t := .long) (t' := .long) (by decide) (by decide))))
  obtain ⟨T17, h17, X17, e17, W17, st17⟩ := putF X14 hx hZ hown (host := "") (Or.inl (own_w hw 32 rfl)) Via.refl e14 Fc16 Ec15 (Or.inr ⟨(own_w hw 33 rfl), rfl, hnm⟩) (own_w hw 1 rfl) (ty := .long) (by decide) rfl rfl (g := (mkF m 35 #[rv o, rv x1, lv x2, .second, lv x3, .second, lv x4, .second, lv x5, .second, lv x6, .second, lv x7, .second, .val .null] [(.long x6), (.ref o)])) rfl rfl (hb hby d1_35)
  have Fw17 : Fld Z h17 o "com/example/database_mutex/databasemutex/cli/Workload$Outcome" "overlaps" "J" (.long x6) := Fc16.same W17
  have N17 := Fr.snoc X17 N14 g_o
  have Ec18 : Exa Z h17 o "com/example/database_mutex/databasemutex/cli/Workload$Outcome" := (Ec15.wr W17)
  have Fc19 : Fld Z h17 o "com/example/database_mutex/databasemutex/cli/Workload$Outcome" "maxConcurrentReaders" "J" w_maxConcurrentReaders_o := ((((((F_maxConcurrentReaders_o.other W2 (Or.inr (slot_ne (Or.inr (own_w hw 35 rfl)) (Or.inr (own_w hw 23 rfl)) (by decide) (t := .long) (t' := (.object "java/lang/String")) (by decide) (by decide)))).other W5 (Or.inr (slot_ne (Or.inr (own_w hw 35 rfl)) (Or.inr (own_w hw 25 rfl)) (by decide) (t := .long) (t' := .long) (by decide) (by decide)))).other W8 (Or.inr (slot_ne (Or.inr (own_w hw 35 rfl)) (Or.inr (own_w hw 27 rfl)) (by decide) (t := .long) (t' := .long) (by decide) (by decide)))).other W11 (Or.inr (slot_ne (Or.inr (own_w hw 35 rfl)) (Or.inr (own_w hw 29 rfl)) (by decide) (t := .long) (t' := .long) (by decide) (by decide)))).other W14 (Or.inr (slot_ne (Or.inr (own_w hw 35 rfl)) (Or.inr (own_w hw 31 rfl)) (by decide) (t := .long) (t' := .long) (by decide) (by decide)))).other W17 (Or.inr (slot_ne (Or.inr (own_w hw 35 rfl)) (Or.inr (own_w hw 33 rfl)) (by decide) (t := .long) (t' := .long) (by decide) (by decide))))
  obtain ⟨T20, h20, X20, e20, W20, st20⟩ := putF X17 hx hZ hown (host := "") (Or.inl (own_w hw 34 rfl)) Via.refl e17 Fc19 Ec18 (Or.inr ⟨(own_w hw 35 rfl), rfl, hnm⟩) (own_w hw 1 rfl) (ty := .long) (by decide) rfl rfl (g := (mkF m 41 #[rv o, rv x1, lv x2, .second, lv x3, .second, lv x4, .second, lv x5, .second, lv x6, .second, lv x7, .second, .val .null] [(.long x7), (.ref o)])) rfl rfl (hb hby d1_41)
  have Fw20 : Fld Z h20 o "com/example/database_mutex/databasemutex/cli/Workload$Outcome" "maxConcurrentReaders" "J" (.long x7) := Fc19.same W20
  have N20 := Fr.snoc X20 N17 g_o
  have Ec21 : Exa Z h20 o "com/example/database_mutex/databasemutex/cli/Workload$Outcome" := (Ec18.wr W20)
  have Fc22 : Fld Z h20 o "com/example/database_mutex/databasemutex/cli/Workload$Outcome" "anError" "Ljava/util/Optional;" w_anError_o := (((((((F_anError_o.other W2 (Or.inr (slot_ne (Or.inr (own_w hw 37 rfl)) (Or.inr (own_w hw 23 rfl)) (by decide) (t := (.object "java/util/Optional")) (t' := (.object "java/lang/String")) (by decide) (by decide)))).other W5 (Or.inr (slot_ne (Or.inr (own_w hw 37 rfl)) (Or.inr (own_w hw 25 rfl)) (by decide) (t := (.object "java/util/Optional")) (t' := .long) (by decide) (by decide)))).other W8 (Or.inr (slot_ne (Or.inr (own_w hw 37 rfl)) (Or.inr (own_w hw 27 rfl)) (by decide) (t := (.object "java/util/Optional")) (t' := .long) (by decide) (by decide)))).other W11 (Or.inr (slot_ne (Or.inr (own_w hw 37 rfl)) (Or.inr (own_w hw 29 rfl)) (by decide) (t := (.object "java/util/Optional")) (t' := .long) (by decide) (by decide)))).other W14 (Or.inr (slot_ne (Or.inr (own_w hw 37 rfl)) (Or.inr (own_w hw 31 rfl)) (by decide) (t := (.object "java/util/Optional")) (t' := .long) (by decide) (by decide)))).other W17 (Or.inr (slot_ne (Or.inr (own_w hw 37 rfl)) (Or.inr (own_w hw 33 rfl)) (by decide) (t := (.object "java/util/Optional")) (t' := .long) (by decide) (by decide)))).other W20 (Or.inr (slot_ne (Or.inr (own_w hw 37 rfl)) (Or.inr (own_w hw 35 rfl)) (by decide) (t := (.object "java/util/Optional")) (t' := .long) (by decide) (by decide))))
  obtain ⟨T23, h23, X23, e23, W23, st23⟩ := putF X20 hx hZ hown (host := "") (Or.inl (own_w hw 36 rfl)) Via.refl e20 Fc22 Ec21 (Or.inr ⟨(own_w hw 37 rfl), rfl, hnm⟩) (own_w hw 1 rfl) (ty := (.object "java/util/Optional")) (by decide) rfl rfl (g := (mkF m 47 #[rv o, rv x1, lv x2, .second, lv x3, .second, lv x4, .second, lv x5, .second, lv x6, .second, lv x7, .second, .val .null] [.null, (.ref o)])) rfl rfl (hb hby d1_47)
  have Fw23 : Fld Z h23 o "com/example/database_mutex/databasemutex/cli/Workload$Outcome" "anError" "Ljava/util/Optional;" .null := Fc22.same W23
  have N23 := Fr.snoc X23 N20 g_o
  have pre24 : ∀ tz, oS p e below T23 m 50 #[rv o, rv x1, lv x2, .second, lv x3, .second, lv x4, .second, lv x5, .second, lv x6, .second, lv x7, .second, .val .null] [] tz → oS p e below s₁ m 0 #[rv o, rv x1, lv x2, .second, lv x3, .second, lv x4, .second, lv x5, .second, lv x6, .second, lv x7, .second, .val .null] [] tz := fun tz kt => by
    show oS p e below s₁ m 0 #[rv o, rv x1, lv x2, .second, lv x3, .second, lv x4, .second, lv x5, .second, lv x6, .second, lv x7, .second, .val .null] [] _
    refine XS.aloadN X0.here hx rfl (hb hby d1_0) rfl rfl ?_
    show oS p e below s₁ m 1 #[rv o, rv x1, lv x2, .second, lv x3, .second, lv x4, .second, lv x5, .second, lv x6, .second, lv x7, .second, .val .null] [(.ref o)] _
    refine st1.trans ?_
    refine XS.aloadN X1.here hx rfl (hb hby d1_4) rfl rfl ?_
    refine XS.aloadN X1.here hx rfl (hb hby d1_5) rfl rfl ?_
    show oS p e below T1 m 6 #[rv o, rv x1, lv x2, .second, lv x3, .second, lv x4, .second, lv x5, .second, lv x6, .second, lv x7, .second, .val .null] [(.ref x1), (.ref o)] _
    refine st2 _ ?_
    refine XS.aloadN X2.here hx rfl (hb hby d1_9) rfl rfl ?_
    refine XS.lloadN X2.here hx rfl (hb hby d1_10) rfl ?_
    show oS p e below T2 m 11 #[rv o, rv x1, lv x2, .second, lv x3, .second, lv x4, .second, lv x5, .second, lv x6, .second, lv x7, .second, .val .null] [(.long x2), (.ref o)] _
    refine st5 _ ?_
    refine XS.aloadN X5.here hx rfl (hb hby d1_14) rfl rfl ?_
    refine XS.lload X5.here hx rfl (hb hby d1_15) rfl ?_
    show oS p e below T5 m 17 #[rv o, rv x1, lv x2, .second, lv x3, .second, lv x4, .second, lv x5, .second, lv x6, .second, lv x7, .second, .val .null] [(.long x3), (.ref o)] _
    refine st8 _ ?_
    refine XS.aloadN X8.here hx rfl (hb hby d1_20) rfl rfl ?_
    refine XS.lload X8.here hx rfl (hb hby d1_21) rfl ?_
    show oS p e below T8 m 23 #[rv o, rv x1, lv x2, .second, lv x3, .second, lv x4, .second, lv x5, .second, lv x6, .second, lv x7, .second, .val .null] [(.long x4), (.ref o)] _
    refine st11 _ ?_
    refine XS.aloadN X11.here hx rfl (hb hby d1_26) rfl rfl ?_
    refine XS.lload X11.here hx rfl (hb hby d1_27) rfl ?_
    show oS p e below T11 m 29 #[rv o, rv x1, lv x2, .second, lv x3, .second, lv x4, .second, lv x5, .second, lv x6, .second, lv x7, .second, .val .null] [(.long x5), (.ref o)] _
    refine st14 _ ?_
    refine XS.aloadN X14.here hx rfl (hb hby d1_32) rfl rfl ?_
    refine XS.lload X14.here hx rfl (hb hby d1_33) rfl ?_
    show oS p e below T14 m 35 #[rv o, rv x1, lv x2, .second, lv x3, .second, lv x4, .second, lv x5, .second, lv x6, .second, lv x7, .second, .val .null] [(.long x6), (.ref o)] _
    refine st17 _ ?_
    refine XS.aloadN X17.here hx rfl (hb hby d1_38) rfl rfl ?_
    refine XS.lload X17.here hx rfl (hb hby d1_39) rfl ?_
    show oS p e below T17 m 41 #[rv o, rv x1, lv x2, .second, lv x3, .second, lv x4, .second, lv x5, .second, lv x6, .second, lv x7, .second, .val .null] [(.long x7), (.ref o)] _
    refine st20 _ ?_
    refine XS.aloadN X20.here hx rfl (hb hby d1_44) rfl rfl ?_
    refine XS.aload X20.here hx rfl (hb hby d1_45) rfl rfl ?_
    show oS p e below T20 m 47 #[rv o, rv x1, lv x2, .second, lv x3, .second, lv x4, .second, lv x5, .second, lv x6, .second, lv x7, .second, .val .null] [.null, (.ref o)] _
    refine st23 _ ?_
    exact kt
  have Ec25 : Exa Z h23 o "com/example/database_mutex/databasemutex/cli/Workload$Outcome" := (Ec21.wr W23)
  have KP26 : Keep h0 h23 [o] := (((((((((Keep.refl h0 [o]).wr W2 (Or.inl (List.mem_of_getElem? (i := 0) rfl))).wr W5 (Or.inl (List.mem_of_getElem? (i := 0) rfl))).wr W8 (Or.inl (List.mem_of_getElem? (i := 0) rfl))).wr W11 (Or.inl (List.mem_of_getElem? (i := 0) rfl))).wr W14 (Or.inl (List.mem_of_getElem? (i := 0) rfl))).wr W17 (Or.inl (List.mem_of_getElem? (i := 0) rfl))).wr W20 (Or.inl (List.mem_of_getElem? (i := 0) rfl))).wr W23 (Or.inl (List.mem_of_getElem? (i := 0) rfl)))
  have Fc27 : Fld Z h23 o "com/example/database_mutex/databasemutex/cli/Workload$Outcome" "database" "Ljava/lang/String;" (.ref x1) := (((((((Fw2.other W5 (Or.inr (slot_ne (Or.inr (own_w hw 23 rfl)) (Or.inr (own_w hw 25 rfl)) (by decide) (t := (.object "java/lang/String")) (t' := .long) (by decide) (by decide)))).other W8 (Or.inr (slot_ne (Or.inr (own_w hw 23 rfl)) (Or.inr (own_w hw 27 rfl)) (by decide) (t := (.object "java/lang/String")) (t' := .long) (by decide) (by decide)))).other W11 (Or.inr (slot_ne (Or.inr (own_w hw 23 rfl)) (Or.inr (own_w hw 29 rfl)) (by decide) (t := (.object "java/lang/String")) (t' := .long) (by decide) (by decide)))).other W14 (Or.inr (slot_ne (Or.inr (own_w hw 23 rfl)) (Or.inr (own_w hw 31 rfl)) (by decide) (t := (.object "java/lang/String")) (t' := .long) (by decide) (by decide)))).other W17 (Or.inr (slot_ne (Or.inr (own_w hw 23 rfl)) (Or.inr (own_w hw 33 rfl)) (by decide) (t := (.object "java/lang/String")) (t' := .long) (by decide) (by decide)))).other W20 (Or.inr (slot_ne (Or.inr (own_w hw 23 rfl)) (Or.inr (own_w hw 35 rfl)) (by decide) (t := (.object "java/lang/String")) (t' := .long) (by decide) (by decide)))).other W23 (Or.inr (slot_ne (Or.inr (own_w hw 23 rfl)) (Or.inr (own_w hw 37 rfl)) (by decide) (t := (.object "java/lang/String")) (t' := (.object "java/util/Optional")) (by decide) (by decide))))
  have Fc28 : Fld Z h23 o "com/example/database_mutex/databasemutex/cli/Workload$Outcome" "reads" "J" (.long x2) := ((((((Fw5.other W8 (Or.inr (slot_ne (Or.inr (own_w hw 25 rfl)) (Or.inr (own_w hw 27 rfl)) (by decide) (t := .long) (t' := .long) (by decide) (by decide)))).other W11 (Or.inr (slot_ne (Or.inr (own_w hw 25 rfl)) (Or.inr (own_w hw 29 rfl)) (by decide) (t := .long) (t' := .long) (by decide) (by decide)))).other W14 (Or.inr (slot_ne (Or.inr (own_w hw 25 rfl)) (Or.inr (own_w hw 31 rfl)) (by decide) (t := .long) (t' := .long) (by decide) (by decide)))).other W17 (Or.inr (slot_ne (Or.inr (own_w hw 25 rfl)) (Or.inr (own_w hw 33 rfl)) (by decide) (t := .long) (t' := .long) (by decide) (by decide)))).other W20 (Or.inr (slot_ne (Or.inr (own_w hw 25 rfl)) (Or.inr (own_w hw 35 rfl)) (by decide) (t := .long) (t' := .long) (by decide) (by decide)))).other W23 (Or.inr (slot_ne (Or.inr (own_w hw 25 rfl)) (Or.inr (own_w hw 37 rfl)) (by decide) (t := .long) (t' := (.object "java/util/Optional")) (by decide) (by decide))))
  have Fc29 : Fld Z h23 o "com/example/database_mutex/databasemutex/cli/Workload$Outcome" "updates" "J" (.long x3) := (((((Fw8.other W11 (Or.inr (slot_ne (Or.inr (own_w hw 27 rfl)) (Or.inr (own_w hw 29 rfl)) (by decide) (t := .long) (t' := .long) (by decide) (by decide)))).other W14 (Or.inr (slot_ne (Or.inr (own_w hw 27 rfl)) (Or.inr (own_w hw 31 rfl)) (by decide) (t := .long) (t' := .long) (by decide) (by decide)))).other W17 (Or.inr (slot_ne (Or.inr (own_w hw 27 rfl)) (Or.inr (own_w hw 33 rfl)) (by decide) (t := .long) (t' := .long) (by decide) (by decide)))).other W20 (Or.inr (slot_ne (Or.inr (own_w hw 27 rfl)) (Or.inr (own_w hw 35 rfl)) (by decide) (t := .long) (t' := .long) (by decide) (by decide)))).other W23 (Or.inr (slot_ne (Or.inr (own_w hw 27 rfl)) (Or.inr (own_w hw 37 rfl)) (by decide) (t := .long) (t' := (.object "java/util/Optional")) (by decide) (by decide))))
  have Fc30 : Fld Z h23 o "com/example/database_mutex/databasemutex/cli/Workload$Outcome" "inconsistentReads" "J" (.long x4) := ((((Fw11.other W14 (Or.inr (slot_ne (Or.inr (own_w hw 29 rfl)) (Or.inr (own_w hw 31 rfl)) (by decide) (t := .long) (t' := .long) (by decide) (by decide)))).other W17 (Or.inr (slot_ne (Or.inr (own_w hw 29 rfl)) (Or.inr (own_w hw 33 rfl)) (by decide) (t := .long) (t' := .long) (by decide) (by decide)))).other W20 (Or.inr (slot_ne (Or.inr (own_w hw 29 rfl)) (Or.inr (own_w hw 35 rfl)) (by decide) (t := .long) (t' := .long) (by decide) (by decide)))).other W23 (Or.inr (slot_ne (Or.inr (own_w hw 29 rfl)) (Or.inr (own_w hw 37 rfl)) (by decide) (t := .long) (t' := (.object "java/util/Optional")) (by decide) (by decide))))
  have Fc31 : Fld Z h23 o "com/example/database_mutex/databasemutex/cli/Workload$Outcome" "errors" "J" (.long x5) := (((Fw14.other W17 (Or.inr (slot_ne (Or.inr (own_w hw 31 rfl)) (Or.inr (own_w hw 33 rfl)) (by decide) (t := .long) (t' := .long) (by decide) (by decide)))).other W20 (Or.inr (slot_ne (Or.inr (own_w hw 31 rfl)) (Or.inr (own_w hw 35 rfl)) (by decide) (t := .long) (t' := .long) (by decide) (by decide)))).other W23 (Or.inr (slot_ne (Or.inr (own_w hw 31 rfl)) (Or.inr (own_w hw 37 rfl)) (by decide) (t := .long) (t' := (.object "java/util/Optional")) (by decide) (by decide))))
  have Fc32 : Fld Z h23 o "com/example/database_mutex/databasemutex/cli/Workload$Outcome" "overlaps" "J" (.long x6) := ((Fw17.other W20 (Or.inr (slot_ne (Or.inr (own_w hw 33 rfl)) (Or.inr (own_w hw 35 rfl)) (by decide) (t := .long) (t' := .long) (by decide) (by decide)))).other W23 (Or.inr (slot_ne (Or.inr (own_w hw 33 rfl)) (Or.inr (own_w hw 37 rfl)) (by decide) (t := .long) (t' := (.object "java/util/Optional")) (by decide) (by decide))))
  have Fc33 : Fld Z h23 o "com/example/database_mutex/databasemutex/cli/Workload$Outcome" "maxConcurrentReaders" "J" (.long x7) := (Fw20.other W23 (Or.inr (slot_ne (Or.inr (own_w hw 35 rfl)) (Or.inr (own_w hw 37 rfl)) (by decide) (t := .long) (t' := (.object "java/util/Optional")) (by decide) (by decide))))
  obtain ⟨fs, hr, hrun, hended, hW, hsame⟩ := X23.leave (v := none) (fun _ => rfl)
  refine ⟨_, _, pre0 _ (pre24 _ ?_), hrun, hended, _, _, rfl, ?_, ⟨_, rfl⟩, hW, hsame.mono (by decide) (by decide)⟩
  · show oS p e below T23 m 50 #[rv o, rv x1, lv x2, .second, lv x3, .second, lv x4, .second, lv x5, .second, lv x6, .second, lv x7, .second, .val .null] [] _
    exact X23.returnOut hx Bd.returns (hb hby d1_50) hr
  · show Q1 Z o x1 x2 x3 x4 x5 x6 x7 w_database_o w_reads_o w_updates_o w_inconsistentReads_o w_errors_o w_overlaps_o w_maxConcurrentReaders_o w_anError_o h0 n0 _ T23.heap _
    rw [e23]
    exact ⟨rfl, N23, KP26, Ec25, Fc27, Fc28, Fc29, Fc30, Fc31, Fc32, Fc33, Fw23⟩
theorem d4_0 : decode prog_48_method_2_code 0 = .ok (.aload_n 0, 1) := by decide +kernel
theorem d4_1 : decode prog_48_method_2_code 1 = .ok (.getfield 20, 3) := by decide +kernel
theorem d4_4 : decode prog_48_method_2_code 4 = .ok (.lconst 0, 1) := by decide +kernel
theorem d4_5 : decode prog_48_method_2_code 5 = .ok (.lcmp, 1) := by decide +kernel
theorem d4_6 : decode prog_48_method_2_code 6 = .ok (.ifCond .ne 25, 3) := by decide +kernel
theorem d4_9 : decode prog_48_method_2_code 9 = .ok (.aload_n 0, 1) := by decide +kernel
theorem d4_10 : decode prog_48_method_2_code 10 = .ok (.getfield 23, 3) := by decide +kernel
theorem d4_13 : decode prog_48_method_2_code 13 = .ok (.lconst 0, 1) := by decide +kernel
theorem d4_14 : decode prog_48_method_2_code 14 = .ok (.lcmp, 1) := by decide +kernel
theorem d4_15 : decode prog_48_method_2_code 15 = .ok (.ifCond .ne 16, 3) := by decide +kernel
theorem d4_18 : decode prog_48_method_2_code 18 = .ok (.aload_n 0, 1) := by decide +kernel
theorem d4_19 : decode prog_48_method_2_code 19 = .ok (.getfield 26, 3) := by decide +kernel
theorem d4_22 : decode prog_48_method_2_code 22 = .ok (.lconst 0, 1) := by decide +kernel
theorem d4_23 : decode prog_48_method_2_code 23 = .ok (.lcmp, 1) := by decide +kernel
theorem d4_24 : decode prog_48_method_2_code 24 = .ok (.ifCond .ne 7, 3) := by decide +kernel
theorem d4_27 : decode prog_48_method_2_code 27 = .ok (.iconst 1, 1) := by decide +kernel
theorem d4_28 : decode prog_48_method_2_code 28 = .ok (.goto 4, 3) := by decide +kernel
theorem d4_31 : decode prog_48_method_2_code 31 = .ok (.iconst 0, 1) := by decide +kernel
theorem d4_32 : decode prog_48_method_2_code 32 = .ok (.ireturn, 1) := by decide +kernel
theorem ef4 (m : MethodId) (o : Addr) : entryFrame m #[(.ref o)] 1 = mkF m 0 #[rv o] [] := by first | (simp [entryFrame, mkF, argsToLocals, Value.category]; done) | rfl
def Q4 (Z : State) (o : Addr) (w_inconsistentReads_o : Int64) (w_errors_o : Int64) (w_overlaps_o : Int64) (h0 : Heap) (n0 : Nat) (v : Option Value) (h : Heap) (L : List Loc) : Prop := v = some (.int (if w_inconsistentReads_o = (0 : Int64) then (if w_errors_o = (0 : Int64) then (if w_overlaps_o = (0 : Int64) then (1 : Int32) else (0 : Int32)) else (0 : Int32)) else (0 : Int32))) ∧ Fr n0 L ∧ h = h0
set_option maxRecDepth 65536 in
set_option maxHeartbeats 40000000 in
theorem rm4 (l : Launch) (Z : State) (a0 : Array Value) (hw : ∀ d ∈ tables_1, d.before a0 Z = true) (ws : List Jvm.Cond) (o : Addr) (w_inconsistentReads_o : Int64) (w_errors_o : Int64) (w_overlaps_o : Int64) (h0 : Heap) (n0 : Nat) (Z0 : n0 ≤ h0.size) (F_inconsistentReads_o : Fld Z h0 o "com/example/database_mutex/databasemutex/cli/Workload$Outcome" "inconsistentReads" "J" (.long w_inconsistentReads_o)) (F_errors_o : Fld Z h0 o "com/example/database_mutex/databasemutex/cli/Workload$Outcome" "errors" "J" (.long w_errors_o)) (F_overlaps_o : Fld Z h0 o "com/example/database_mutex/databasemutex/cli/Workload$Outcome" "overlaps" "J" (.long w_overlaps_o)) :
    MetFree l (⟨"com/example/database_mutex/databasemutex/cli/Workload$Outcome", "clean", "()Z"⟩ : MethodName) (head1 (Jvm.Cond.code (⟨"com/example/database_mutex/databasemutex/cli/Workload$Outcome", "clean", "()Z"⟩ : MethodName) prog_48_method_2_code 1 (some .boolean) :: ws) ({ frames := 0, cells := 0, slots := 0, locals := 0 } : Room)) (fun a U => a = #[(.ref o)] ∧ Z.Warmed39 U.vm ∧ U.heap = h0) (fun _ _ _ _ _ => True) (fun _ U oc U' => ∃ v L, oc = .returned v ∧ Q4 Z o w_inconsistentReads_o w_errors_o w_overlaps_o h0 n0 v U'.heap L ∧ FrameEnd U oc U' L ({ frames := 0, cells := 0, slots := 0, locals := 0 } : Room).cells ({ frames := 0, cells := 0, slots := 0, locals := 0 } : Room).slots) := by
  refine MetFree.of_bodySF (plainFor_of_name own_pn1) hisR ?_
  intro p e s m args below meth c s₁ Bd hml0 hP hK
  obtain ⟨rfl, hZ, hh⟩ := hP
  have hx := Bd.exec
  have hby := Bd.bytes
  have hml : c.maxLocals = 1 := hml0
  have hown : s.vm.findClass "com/example/database_mutex/databasemutex/cli/Workload$Outcome" = some m.cls := findClass_of_methodNamed Bd.named
  have hnm := (name_of_methodNamed Bd.named Bd.method).1
  have X0 : Stand p l e ({ frames := 0, cells := 0, slots := 0, locals := 0 } : Room) s m #[(.ref o)] below meth c s₁ [] 0 0 := Stand.of_body Bd
  have e0 : s₁.heap = h0 := by rw [← hh, Bd.state]; rfl
  have N0 := Fr.nil n0
  have pre0 : ∀ t, Steps p.tables e below (s₁.setTop (mkF m 0 #[rv o] [])) t → Steps p.tables e below (s₁.setTop (entryFrame m #[(.ref o)] 1)) t := fun t k => castTop (ef4 m o) k
  obtain ⟨T1, X1, e1, st1⟩ := getF X0 hx hZ hown (host := "") (Or.inl (own_w hw 28 rfl)) Via.refl e0 F_inconsistentReads_o (g := (mkF m 1 #[rv o] [(.ref o)])) rfl rfl (hb hby d4_1)
  have pre2 : ∀ tz, oS p e below T1 m 6 #[rv o] [(.int (lcmpW w_inconsistentReads_o (0 : Int64)))] tz → oS p e below s₁ m 0 #[rv o] [] tz := fun tz kt => by
    show oS p e below s₁ m 0 #[rv o] [] _
    refine XS.aloadN X0.here hx rfl (hb hby d4_0) rfl rfl ?_
    show oS p e below s₁ m 1 #[rv o] [(.ref o)] _
    refine st1 _ ?_
    refine XS.lconst X1.here hx rfl (hb hby d4_4) ?_
    refine XS.lcmp X1.here hx rfl (hb hby d4_5) rfl ?_
    exact kt
  by_cases hc6 : w_inconsistentReads_o = (0 : Int64)
  · obtain ⟨T3, X3, e3, st3⟩ := getF X1 hx hZ hown (host := "") (Or.inl (own_w hw 30 rfl)) Via.refl e1 F_errors_o (g := (mkF m 10 #[rv o] [(.ref o)])) rfl rfl (hb hby d4_10)
    have pre4 : ∀ tz, oS p e below T3 m 15 #[rv o] [(.int (lcmpW w_errors_o (0 : Int64)))] tz → oS p e below T1 m 6 #[rv o] [(.int (lcmpW w_inconsistentReads_o (0 : Int64)))] tz := fun tz kt => by
      show oS p e below T1 m 6 #[rv o] [(.int (lcmpW w_inconsistentReads_o (0 : Int64)))] _
      refine XS.ifNo X1.here hx rfl (hb hby d4_6) rfl ((if0 _ _).trans (teq ((lw_eq w_inconsistentReads_o (0 : Int64)).mpr hc6)).2) ?_
      refine XS.aloadN X1.here hx rfl (hb hby d4_9) rfl rfl ?_
      show oS p e below T1 m 10 #[rv o] [(.ref o)] _
      refine st3 _ ?_
      refine XS.lconst X3.here hx rfl (hb hby d4_13) ?_
      refine XS.lcmp X3.here hx rfl (hb hby d4_14) rfl ?_
      exact kt
    by_cases hc15 : w_errors_o = (0 : Int64)
    · obtain ⟨T5, X5, e5, st5⟩ := getF X3 hx hZ hown (host := "") (Or.inl (own_w hw 32 rfl)) Via.refl e3 F_overlaps_o (g := (mkF m 19 #[rv o] [(.ref o)])) rfl rfl (hb hby d4_19)
      have pre6 : ∀ tz, oS p e below T5 m 24 #[rv o] [(.int (lcmpW w_overlaps_o (0 : Int64)))] tz → oS p e below T3 m 15 #[rv o] [(.int (lcmpW w_errors_o (0 : Int64)))] tz := fun tz kt => by
        show oS p e below T3 m 15 #[rv o] [(.int (lcmpW w_errors_o (0 : Int64)))] _
        refine XS.ifNo X3.here hx rfl (hb hby d4_15) rfl ((if0 _ _).trans (teq ((lw_eq w_errors_o (0 : Int64)).mpr hc15)).2) ?_
        refine XS.aloadN X3.here hx rfl (hb hby d4_18) rfl rfl ?_
        show oS p e below T3 m 19 #[rv o] [(.ref o)] _
        refine st5 _ ?_
        refine XS.lconst X5.here hx rfl (hb hby d4_22) ?_
        refine XS.lcmp X5.here hx rfl (hb hby d4_23) rfl ?_
        exact kt
      by_cases hc24 : w_overlaps_o = (0 : Int64)
      · have pre7 : ∀ tz, oS p e below T5 m 32 #[rv o] [(.int (1 : Int32))] tz → oS p e below T5 m 24 #[rv o] [(.int (lcmpW w_overlaps_o (0 : Int64)))] tz := fun tz kt => by
          show oS p e below T5 m 24 #[rv o] [(.int (lcmpW w_overlaps_o (0 : Int64)))] _
          refine XS.ifNo X5.here hx rfl (hb hby d4_24) rfl ((if0 _ _).trans (teq ((lw_eq w_overlaps_o (0 : Int64)).mpr hc24)).2) ?_
          refine XS.iconst X5.here hx rfl (hb hby d4_27) ?_
          refine XS.goto X5.here hx rfl (pc0 := 28) (pc' := 32) rfl (hb hby d4_28) (by decide) (by decide) ?_
          exact kt
        obtain ⟨fs, hr, hrun, hended, hW, hsame⟩ := X5.leave (v := some (.int (1 : Int32))) (fun h => by rw [Bd.returns] at h; cases h)
        refine ⟨_, _, pre0 _ (pre2 _ (pre4 _ (pre6 _ (pre7 _ ?_)))), hrun, hended, _, _, rfl, ?_, ⟨_, rfl⟩, hW, hsame.mono (by decide) (by decide)⟩
        · show oS p e below T5 m 32 #[rv o] [(.int (1 : Int32))] _
          exact retN X5 hx (t := .boolean) Bd.returns (by simp) (hb hby d4_32) hr
        · show Q4 Z o w_inconsistentReads_o w_errors_o w_overlaps_o h0 n0 _ T5.heap _
          rw [e5]
          exact ⟨(by first | rfl | simp only [if_pos hc6, if_pos hc15, if_pos hc24]), N0, rfl⟩
      · have pre8 : ∀ tz, oS p e below T5 m 32 #[rv o] [(.int (0 : Int32))] tz → oS p e below T5 m 24 #[rv o] [(.int (lcmpW w_overlaps_o (0 : Int64)))] tz := fun tz kt => by
          show oS p e below T5 m 24 #[rv o] [(.int (lcmpW w_overlaps_o (0 : Int64)))] _
          refine XS.ifYes X5.here hx rfl (pc0 := 24) (pc' := 31) rfl (hb hby d4_24) rfl ((if0 _ _).trans (feq (fun q => hc24 ((lw_eq w_overlaps_o (0 : Int64)).mp q))).2) (by decide) (by decide) ?_
          refine XS.iconst X5.here hx rfl (hb hby d4_31) ?_
          exact kt
        obtain ⟨fs, hr, hrun, hended, hW, hsame⟩ := X5.leave (v := some (.int (0 : Int32))) (fun h => by rw [Bd.returns] at h; cases h)
        refine ⟨_, _, pre0 _ (pre2 _ (pre4 _ (pre6 _ (pre8 _ ?_)))), hrun, hended, _, _, rfl, ?_, ⟨_, rfl⟩, hW, hsame.mono (by decide) (by decide)⟩
        · show oS p e below T5 m 32 #[rv o] [(.int (0 : Int32))] _
          exact retN X5 hx (t := .boolean) Bd.returns (by simp) (hb hby d4_32) hr
        · show Q4 Z o w_inconsistentReads_o w_errors_o w_overlaps_o h0 n0 _ T5.heap _
          rw [e5]
          exact ⟨(by first | rfl | simp only [if_pos hc6, if_pos hc15, if_neg hc24]), N0, rfl⟩
    · have pre9 : ∀ tz, oS p e below T3 m 32 #[rv o] [(.int (0 : Int32))] tz → oS p e below T3 m 15 #[rv o] [(.int (lcmpW w_errors_o (0 : Int64)))] tz := fun tz kt => by
        show oS p e below T3 m 15 #[rv o] [(.int (lcmpW w_errors_o (0 : Int64)))] _
        refine XS.ifYes X3.here hx rfl (pc0 := 15) (pc' := 31) rfl (hb hby d4_15) rfl ((if0 _ _).trans (feq (fun q => hc15 ((lw_eq w_errors_o (0 : Int64)).mp q))).2) (by decide) (by decide) ?_
        refine XS.iconst X3.here hx rfl (hb hby d4_31) ?_
        exact kt
      obtain ⟨fs, hr, hrun, hended, hW, hsame⟩ := X3.leave (v := some (.int (0 : Int32))) (fun h => by rw [Bd.returns] at h; cases h)
      refine ⟨_, _, pre0 _ (pre2 _ (pre4 _ (pre9 _ ?_))), hrun, hended, _, _, rfl, ?_, ⟨_, rfl⟩, hW, hsame.mono (by decide) (by decide)⟩
      · show oS p e below T3 m 32 #[rv o] [(.int (0 : Int32))] _
        exact retN X3 hx (t := .boolean) Bd.returns (by simp) (hb hby d4_32) hr
      · show Q4 Z o w_inconsistentReads_o w_errors_o w_overlaps_o h0 n0 _ T3.heap _
        rw [e3]
        exact ⟨(by first | rfl | simp only [if_pos hc6, if_neg hc15]), N0, rfl⟩
  · have pre10 : ∀ tz, oS p e below T1 m 32 #[rv o] [(.int (0 : Int32))] tz → oS p e below T1 m 6 #[rv o] [(.int (lcmpW w_inconsistentReads_o (0 : Int64)))] tz := fun tz kt => by
      show oS p e below T1 m 6 #[rv o] [(.int (lcmpW w_inconsistentReads_o (0 : Int64)))] _
      refine XS.ifYes X1.here hx rfl (pc0 := 6) (pc' := 31) rfl (hb hby d4_6) rfl ((if0 _ _).trans (feq (fun q => hc6 ((lw_eq w_inconsistentReads_o (0 : Int64)).mp q))).2) (by decide) (by decide) ?_
      refine XS.iconst X1.here hx rfl (hb hby d4_31) ?_
      exact kt
    obtain ⟨fs, hr, hrun, hended, hW, hsame⟩ := X1.leave (v := some (.int (0 : Int32))) (fun h => by rw [Bd.returns] at h; cases h)
    refine ⟨_, _, pre0 _ (pre2 _ (pre10 _ ?_)), hrun, hended, _, _, rfl, ?_, ⟨_, rfl⟩, hW, hsame.mono (by decide) (by decide)⟩
    · show oS p e below T1 m 32 #[rv o] [(.int (0 : Int32))] _
      exact retN X1 hx (t := .boolean) Bd.returns (by simp) (hb hby d4_32) hr
    · show Q4 Z o w_inconsistentReads_o w_errors_o w_overlaps_o h0 n0 _ T1.heap _
      rw [e1]
      exact ⟨(by first | rfl | simp only [if_neg hc6]), N0, rfl⟩
theorem own_pd1 : parseMethodDescriptor "(Ljava/lang/String;JJJJJJLjava/util/Optional;)V" = some ⟨[(.object "java/lang/String"), .long, .long, .long, .long, .long, .long, (.object "java/util/Optional")], none⟩ := by decide +kernel
theorem own_pd2 : parseMethodDescriptor "()Z" = some ⟨[], some .boolean⟩ := by decide +kernel
theorem own_pn2 : plainName "com/example/database_mutex/databasemutex/cli/OutcomeCleanPinLaw" = true := by first | (simp [plainName, overriddenIn]; done) | decide +kernel
theorem ef0 (m : MethodId) (x1 : Int64) (x2 : Int64) (x3 : Int64) (x4 : Int64) (x5 : Int64) (x6 : Int32) : entryFrame m #[(.long x1), (.long x2), (.long x3), (.long x4), (.long x5), (.int x6)] maxLocals = mkF m 0 #[lv x1, .second, lv x2, .second, lv x3, .second, lv x4, .second, lv x5, .second, iv x6, .unset, .unset, .unset, .unset, .unset, .unset, .unset, .unset, .unset, .unset] [] := by first | (simp [entryFrame, mkF, argsToLocals, Value.category, maxLocals]; done) | rfl
def Q0 (Z : State) (x1 : Int64) (x2 : Int64) (x3 : Int64) (x4 : Int64) (x5 : Int64) (x6 : Int32) (h0 : Heap) (n0 : Nat) (v : Option Value) (h : Heap) (L : List Loc) : Prop := v = some (.int (1 : Int32)) ∧ Fr n0 L
set_option maxRecDepth 65536 in
set_option maxHeartbeats 40000000 in
theorem rm0 (l : Launch) (Z : State) (a0 : Array Value) (hw : ∀ d ∈ tables_1, d.before a0 Z = true) (ws : List Jvm.Cond) (x1 : Int64) (x2 : Int64) (x3 : Int64) (x4 : Int64) (x5 : Int64) (x6 : Int32) (h0 : Heap) (n0 : Nat) (Z0 : n0 ≤ h0.size) :
    MetFree l x (head1 (Jvm.Cond.code x code maxLocals ret :: ws) room_1) (fun a U => a = #[(.long x1), (.long x2), (.long x3), (.long x4), (.long x5), (.int x6)] ∧ Z.Warmed39 U.vm ∧ U.heap = h0) (fun _ _ _ _ _ => True) (fun _ U oc U' => ∃ v L, oc = .returned v ∧ Q0 Z x1 x2 x3 x4 x5 x6 h0 n0 v U'.heap L ∧ ReturnedEndW U oc U' L room_1.cells room_1.slots) := by
  refine MetFree.of_bodySF (plainFor_of_name own_pn2) hisR ?_
  intro p e s m args below meth c s₁ Bd hml0 hP hK
  obtain ⟨rfl, hZ, hh⟩ := hP
  have hx := Bd.exec
  have hby := Bd.bytes
  have hml : c.maxLocals = 21 := hml0
  have hown : s.vm.findClass "com/example/database_mutex/databasemutex/cli/OutcomeCleanPinLaw" = some m.cls := findClass_of_methodNamed Bd.named
  have hnm := (name_of_methodNamed Bd.named Bd.method).1
  have X0 : Stand p l e room_1 s m #[(.long x1), (.long x2), (.long x3), (.long x4), (.long x5), (.int x6)] below meth c s₁ [] 0 0 := Stand.of_body Bd
  have e0 : s₁.heap = h0 := by rw [← hh, Bd.state]; rfl
  have N0 := Fr.nil n0
  have pre0 : ∀ t, Steps p.tables e below (s₁.setTop (mkF m 0 #[lv x1, .second, lv x2, .second, lv x3, .second, lv x4, .second, lv x5, .second, iv x6, .unset, .unset, .unset, .unset, .unset, .unset, .unset, .unset, .unset, .unset] [])) t → Steps p.tables e below (s₁.setTop (entryFrame m #[(.long x1), (.long x2), (.long x3), (.long x4), (.long x5), (.int x6)] maxLocals)) t := fun t k => castTop (ef0 m x1 x2 x3 x4 x5 x6) k
  have pre1 : ∀ tz, oS p e below s₁ m 4 #[lv x1, .second, lv x2, .second, lv x3, .second, lv x4, .second, lv x5, .second, iv x6, .unset, .unset, .unset, .unset, .unset, .unset, .unset, .unset, .unset, .unset] [(.int (x6 &&& (1 : Int32)))] tz → oS p e below s₁ m 0 #[lv x1, .second, lv x2, .second, lv x3, .second, lv x4, .second, lv x5, .second, iv x6, .unset, .unset, .unset, .unset, .unset, .unset, .unset, .unset, .unset, .unset] [] tz := fun tz kt => by
    show oS p e below s₁ m 0 #[lv x1, .second, lv x2, .second, lv x3, .second, lv x4, .second, lv x5, .second, iv x6, .unset, .unset, .unset, .unset, .unset, .unset, .unset, .unset, .unset, .unset] [] _
    refine XS.iload X0.here hx rfl (hb hby at_0) rfl ?_
    refine XS.iconst X0.here hx rfl (hb hby at_2) ?_
    refine XS.iand X0.here hx rfl (hb hby at_3) rfl ?_
    exact kt
  obtain ⟨v12, T4, Lj4, jv4, N4, X4, e4, st4⟩ := own_join (α := Int64) X0 N0 e0 (mkF m 4 #[lv x1, .second, lv x2, .second, lv x3, .second, lv x4, .second, lv x5, .second, iv x6, .unset, .unset, .unset, .unset, .unset, .unset, .unset, .unset, .unset, .unset] [(.int (x6 &&& (1 : Int32)))]) (fun v => (mkF m 12 #[lv x1, .second, lv x2, .second, lv x3, .second, lv x4, .second, lv x5, .second, iv x6, .unset, .unset, .unset, .unset, .unset, .unset, .unset, .unset, .unset, .unset] [(.long v)])) (fun v => v = (if (x6 &&& (1 : Int32)) = (0 : Int32) then x1 else (0 : Int64))) (by
      by_cases hc4 : (x6 &&& (1 : Int32)) = (0 : Int32)
      · have pre2 : ∀ tz, oS p e below s₁ m 12 #[lv x1, .second, lv x2, .second, lv x3, .second, lv x4, .second, lv x5, .second, iv x6, .unset, .unset, .unset, .unset, .unset, .unset, .unset, .unset, .unset, .unset] [(.long x1)] tz → oS p e below s₁ m 4 #[lv x1, .second, lv x2, .second, lv x3, .second, lv x4, .second, lv x5, .second, iv x6, .unset, .unset, .unset, .unset, .unset, .unset, .unset, .unset, .unset, .unset] [(.int (x6 &&& (1 : Int32)))] tz := fun tz kt => by
          show oS p e below s₁ m 4 #[lv x1, .second, lv x2, .second, lv x3, .second, lv x4, .second, lv x5, .second, iv x6, .unset, .unset, .unset, .unset, .unset, .unset, .unset, .unset, .unset, .unset] [(.int (x6 &&& (1 : Int32)))] _
          refine XS.ifYes X0.here hx rfl (pc0 := 4) (pc' := 11) rfl (hb hby at_4) rfl ((if0 _ _).trans (teq hc4).1) (by decide) (by decide) ?_
          refine XS.lloadN X0.here hx rfl (hb hby at_11) rfl ?_
          exact kt
        exact ⟨x1, s₁, _, (by rw [if_pos hc4]), N0, X0, e0, fun tz kt => (pre2 _ kt)⟩
      · have pre3 : ∀ tz, oS p e below s₁ m 12 #[lv x1, .second, lv x2, .second, lv x3, .second, lv x4, .second, lv x5, .second, iv x6, .unset, .unset, .unset, .unset, .unset, .unset, .unset, .unset, .unset, .unset] [(.long (0 : Int64))] tz → oS p e below s₁ m 4 #[lv x1, .second, lv x2, .second, lv x3, .second, lv x4, .second, lv x5, .second, iv x6, .unset, .unset, .unset, .unset, .unset, .unset, .unset, .unset, .unset, .unset] [(.int (x6 &&& (1 : Int32)))] tz := fun tz kt => by
          show oS p e below s₁ m 4 #[lv x1, .second, lv x2, .second, lv x3, .second, lv x4, .second, lv x5, .second, iv x6, .unset, .unset, .unset, .unset, .unset, .unset, .unset, .unset, .unset, .unset] [(.int (x6 &&& (1 : Int32)))] _
          refine XS.ifNo X0.here hx rfl (hb hby at_4) rfl ((if0 _ _).trans (feq hc4).1) ?_
          refine XS.lconst X0.here hx rfl (hb hby at_7) ?_
          refine XS.goto X0.here hx rfl (pc0 := 8) (pc' := 12) rfl (hb hby at_8) (by decide) (by decide) ?_
          exact kt
        exact ⟨(0 : Int64), s₁, _, (by rw [if_neg hc4]), N0, X0, e0, fun tz kt => (pre3 _ kt)⟩)
  have hv12 : v12 = (if (x6 &&& (1 : Int32)) = (0 : Int32) then x1 else (0 : Int64)) := jv4
  have pre5 : ∀ tz, oS p e below T4 m 18 #[lv x1, .second, lv x2, .second, lv x3, .second, lv x4, .second, lv x5, .second, iv x6, lv v12, .second, .unset, .unset, .unset, .unset, .unset, .unset, .unset, .unset] [(.int (x6 &&& (2 : Int32)))] tz → oS p e below s₁ m 4 #[lv x1, .second, lv x2, .second, lv x3, .second, lv x4, .second, lv x5, .second, iv x6, .unset, .unset, .unset, .unset, .unset, .unset, .unset, .unset, .unset, .unset] [(.int (x6 &&& (1 : Int32)))] tz := fun tz kt => by
    show oS p e below s₁ m 4 #[lv x1, .second, lv x2, .second, lv x3, .second, lv x4, .second, lv x5, .second, iv x6, .unset, .unset, .unset, .unset, .unset, .unset, .unset, .unset, .unset, .unset] [(.int (x6 &&& (1 : Int32)))] _
    refine st4 _ ?_
    refine XS.lstore X4.here hx rfl (hb hby at_12) rfl (l' := #[lv x1, .second, lv x2, .second, lv x3, .second, lv x4, .second, lv x5, .second, iv x6, lv v12, .second, .unset, .unset, .unset, .unset, .unset, .unset, .unset, .unset]) rfl ?_
    refine XS.iload X4.here hx rfl (hb hby at_14) rfl ?_
    refine XS.iconst X4.here hx rfl (hb hby at_16) ?_
    show oS p e below T4 m 17 #[lv x1, .second, lv x2, .second, lv x3, .second, lv x4, .second, lv x5, .second, iv x6, lv v12, .second, .unset, .unset, .unset, .unset, .unset, .unset, .unset, .unset] [(.int (2 : Int32)), (.int x6)] _
    refine XS.iand X4.here hx rfl (hb hby at_17) rfl ?_
    exact kt
  obtain ⟨v26, T8, Lj8, jv8, N8, X8, e8, st8⟩ := own_join (α := Int64) X4 N4 e4 (mkF m 18 #[lv x1, .second, lv x2, .second, lv x3, .second, lv x4, .second, lv x5, .second, iv x6, lv v12, .second, .unset, .unset, .unset, .unset, .unset, .unset, .unset, .unset] [(.int (x6 &&& (2 : Int32)))]) (fun v => (mkF m 26 #[lv x1, .second, lv x2, .second, lv x3, .second, lv x4, .second, lv x5, .second, iv x6, lv v12, .second, .unset, .unset, .unset, .unset, .unset, .unset, .unset, .unset] [(.long v)])) (fun v => v = (if (x6 &&& (2 : Int32)) = (0 : Int32) then x2 else (0 : Int64))) (by
      by_cases hc18 : (x6 &&& (2 : Int32)) = (0 : Int32)
      · have pre6 : ∀ tz, oS p e below T4 m 26 #[lv x1, .second, lv x2, .second, lv x3, .second, lv x4, .second, lv x5, .second, iv x6, lv v12, .second, .unset, .unset, .unset, .unset, .unset, .unset, .unset, .unset] [(.long x2)] tz → oS p e below T4 m 18 #[lv x1, .second, lv x2, .second, lv x3, .second, lv x4, .second, lv x5, .second, iv x6, lv v12, .second, .unset, .unset, .unset, .unset, .unset, .unset, .unset, .unset] [(.int (x6 &&& (2 : Int32)))] tz := fun tz kt => by
          show oS p e below T4 m 18 #[lv x1, .second, lv x2, .second, lv x3, .second, lv x4, .second, lv x5, .second, iv x6, lv v12, .second, .unset, .unset, .unset, .unset, .unset, .unset, .unset, .unset] [(.int (x6 &&& (2 : Int32)))] _
          refine XS.ifYes X4.here hx rfl (pc0 := 18) (pc' := 25) rfl (hb hby at_18) rfl ((if0 _ _).trans (teq hc18).1) (by decide) (by decide) ?_
          refine XS.lloadN X4.here hx rfl (hb hby at_25) rfl ?_
          exact kt
        exact ⟨x2, T4, _, (by rw [if_pos hc18]), N4, X4, e4, fun tz kt => (pre6 _ kt)⟩
      · have pre7 : ∀ tz, oS p e below T4 m 26 #[lv x1, .second, lv x2, .second, lv x3, .second, lv x4, .second, lv x5, .second, iv x6, lv v12, .second, .unset, .unset, .unset, .unset, .unset, .unset, .unset, .unset] [(.long (0 : Int64))] tz → oS p e below T4 m 18 #[lv x1, .second, lv x2, .second, lv x3, .second, lv x4, .second, lv x5, .second, iv x6, lv v12, .second, .unset, .unset, .unset, .unset, .unset, .unset, .unset, .unset] [(.int (x6 &&& (2 : Int32)))] tz := fun tz kt => by
          show oS p e below T4 m 18 #[lv x1, .second, lv x2, .second, lv x3, .second, lv x4, .second, lv x5, .second, iv x6, lv v12, .second, .unset, .unset, .unset, .unset, .unset, .unset, .unset, .unset] [(.int (x6 &&& (2 : Int32)))] _
          refine XS.ifNo X4.here hx rfl (hb hby at_18) rfl ((if0 _ _).trans (feq hc18).1) ?_
          refine XS.lconst X4.here hx rfl (hb hby at_21) ?_
          refine XS.goto X4.here hx rfl (pc0 := 22) (pc' := 26) rfl (hb hby at_22) (by decide) (by decide) ?_
          exact kt
        exact ⟨(0 : Int64), T4, _, (by rw [if_neg hc18]), N4, X4, e4, fun tz kt => (pre7 _ kt)⟩)
  have hv26 : v26 = (if (x6 &&& (2 : Int32)) = (0 : Int32) then x2 else (0 : Int64)) := jv8
  have pre9 : ∀ tz, oS p e below T8 m 32 #[lv x1, .second, lv x2, .second, lv x3, .second, lv x4, .second, lv x5, .second, iv x6, lv v12, .second, lv v26, .second, .unset, .unset, .unset, .unset, .unset, .unset] [(.int (x6 &&& (4 : Int32)))] tz → oS p e below T4 m 18 #[lv x1, .second, lv x2, .second, lv x3, .second, lv x4, .second, lv x5, .second, iv x6, lv v12, .second, .unset, .unset, .unset, .unset, .unset, .unset, .unset, .unset] [(.int (x6 &&& (2 : Int32)))] tz := fun tz kt => by
    show oS p e below T4 m 18 #[lv x1, .second, lv x2, .second, lv x3, .second, lv x4, .second, lv x5, .second, iv x6, lv v12, .second, .unset, .unset, .unset, .unset, .unset, .unset, .unset, .unset] [(.int (x6 &&& (2 : Int32)))] _
    refine st8 _ ?_
    refine XS.lstore X8.here hx rfl (hb hby at_26) rfl (l' := #[lv x1, .second, lv x2, .second, lv x3, .second, lv x4, .second, lv x5, .second, iv x6, lv v12, .second, lv v26, .second, .unset, .unset, .unset, .unset, .unset, .unset]) rfl ?_
    refine XS.iload X8.here hx rfl (hb hby at_28) rfl ?_
    refine XS.iconst X8.here hx rfl (hb hby at_30) ?_
    show oS p e below T8 m 31 #[lv x1, .second, lv x2, .second, lv x3, .second, lv x4, .second, lv x5, .second, iv x6, lv v12, .second, lv v26, .second, .unset, .unset, .unset, .unset, .unset, .unset] [(.int (4 : Int32)), (.int x6)] _
    refine XS.iand X8.here hx rfl (hb hby at_31) rfl ?_
    exact kt
  obtain ⟨v41, T12, Lj12, jv12, N12, X12, e12, st12⟩ := own_join (α := Int64) X8 N8 e8 (mkF m 32 #[lv x1, .second, lv x2, .second, lv x3, .second, lv x4, .second, lv x5, .second, iv x6, lv v12, .second, lv v26, .second, .unset, .unset, .unset, .unset, .unset, .unset] [(.int (x6 &&& (4 : Int32)))]) (fun v => (mkF m 41 #[lv x1, .second, lv x2, .second, lv x3, .second, lv x4, .second, lv x5, .second, iv x6, lv v12, .second, lv v26, .second, .unset, .unset, .unset, .unset, .unset, .unset] [(.long v)])) (fun v => v = (if (x6 &&& (4 : Int32)) = (0 : Int32) then x3 else (0 : Int64))) (by
      by_cases hc32 : (x6 &&& (4 : Int32)) = (0 : Int32)
      · have pre10 : ∀ tz, oS p e below T8 m 41 #[lv x1, .second, lv x2, .second, lv x3, .second, lv x4, .second, lv x5, .second, iv x6, lv v12, .second, lv v26, .second, .unset, .unset, .unset, .unset, .unset, .unset] [(.long x3)] tz → oS p e below T8 m 32 #[lv x1, .second, lv x2, .second, lv x3, .second, lv x4, .second, lv x5, .second, iv x6, lv v12, .second, lv v26, .second, .unset, .unset, .unset, .unset, .unset, .unset] [(.int (x6 &&& (4 : Int32)))] tz := fun tz kt => by
          show oS p e below T8 m 32 #[lv x1, .second, lv x2, .second, lv x3, .second, lv x4, .second, lv x5, .second, iv x6, lv v12, .second, lv v26, .second, .unset, .unset, .unset, .unset, .unset, .unset] [(.int (x6 &&& (4 : Int32)))] _
          refine XS.ifYes X8.here hx rfl (pc0 := 32) (pc' := 39) rfl (hb hby at_32) rfl ((if0 _ _).trans (teq hc32).1) (by decide) (by decide) ?_
          refine XS.lload X8.here hx rfl (hb hby at_39) rfl ?_
          exact kt
        exact ⟨x3, T8, _, (by rw [if_pos hc32]), N8, X8, e8, fun tz kt => (pre10 _ kt)⟩
      · have pre11 : ∀ tz, oS p e below T8 m 41 #[lv x1, .second, lv x2, .second, lv x3, .second, lv x4, .second, lv x5, .second, iv x6, lv v12, .second, lv v26, .second, .unset, .unset, .unset, .unset, .unset, .unset] [(.long (0 : Int64))] tz → oS p e below T8 m 32 #[lv x1, .second, lv x2, .second, lv x3, .second, lv x4, .second, lv x5, .second, iv x6, lv v12, .second, lv v26, .second, .unset, .unset, .unset, .unset, .unset, .unset] [(.int (x6 &&& (4 : Int32)))] tz := fun tz kt => by
          show oS p e below T8 m 32 #[lv x1, .second, lv x2, .second, lv x3, .second, lv x4, .second, lv x5, .second, iv x6, lv v12, .second, lv v26, .second, .unset, .unset, .unset, .unset, .unset, .unset] [(.int (x6 &&& (4 : Int32)))] _
          refine XS.ifNo X8.here hx rfl (hb hby at_32) rfl ((if0 _ _).trans (feq hc32).1) ?_
          refine XS.lconst X8.here hx rfl (hb hby at_35) ?_
          refine XS.goto X8.here hx rfl (pc0 := 36) (pc' := 41) rfl (hb hby at_36) (by decide) (by decide) ?_
          exact kt
        exact ⟨(0 : Int64), T8, _, (by rw [if_neg hc32]), N8, X8, e8, fun tz kt => (pre11 _ kt)⟩)
  have hv41 : v41 = (if (x6 &&& (4 : Int32)) = (0 : Int32) then x3 else (0 : Int64)) := jv12
  obtain ⟨y48, hy48⟩ : ∃ z, z = ((x6 >>> ((3 : Int32) &&& 31)).toInt64) := ⟨_, rfl⟩
  obtain ⟨T13, h13, X13, e13, E13, A13, D13, -, st13⟩ := newO X12 hx hZ hown (own_w hw 0 rfl) (own_w hw 1 rfl) (own_w hw 2 rfl) e12 (g := (mkF m 50 #[lv x1, .second, lv x2, .second, lv x3, .second, lv x4, .second, lv x5, .second, iv x6, lv v12, .second, lv v26, .second, lv v41, .second, lv y48, .second, .unset, .unset] [])) rfl (hb hby at_50) (by decide) (by decide)
  obtain ⟨b13, g13⟩ : ∃ z, z = h0.size := ⟨_, rfl⟩
  rw [← g13] at A13 D13 st13
  have g_b13 : n0 ≤ b13 := Nat.le_trans Z0 (Nat.le_of_eq g13.symm)
  have F_database_b13 : Fld Z h13 b13 "com/example/database_mutex/databasemutex/cli/Workload$Outcome" "database" "Ljava/lang/String;" .null := D13 (Or.inr (own_w hw 23 rfl)) (ty := (.object "java/lang/String")) (by decide)
  have F_reads_b13 : Fld Z h13 b13 "com/example/database_mutex/databasemutex/cli/Workload$Outcome" "reads" "J" (.long (0 : Int64)) := D13 (Or.inr (own_w hw 25 rfl)) (ty := .long) (by decide)
  have F_updates_b13 : Fld Z h13 b13 "com/example/database_mutex/databasemutex/cli/Workload$Outcome" "updates" "J" (.long (0 : Int64)) := D13 (Or.inr (own_w hw 27 rfl)) (ty := .long) (by decide)
  have F_inconsistentReads_b13 : Fld Z h13 b13 "com/example/database_mutex/databasemutex/cli/Workload$Outcome" "inconsistentReads" "J" (.long (0 : Int64)) := D13 (Or.inr (own_w hw 29 rfl)) (ty := .long) (by decide)
  have F_errors_b13 : Fld Z h13 b13 "com/example/database_mutex/databasemutex/cli/Workload$Outcome" "errors" "J" (.long (0 : Int64)) := D13 (Or.inr (own_w hw 31 rfl)) (ty := .long) (by decide)
  have F_overlaps_b13 : Fld Z h13 b13 "com/example/database_mutex/databasemutex/cli/Workload$Outcome" "overlaps" "J" (.long (0 : Int64)) := D13 (Or.inr (own_w hw 33 rfl)) (ty := .long) (by decide)
  have F_maxConcurrentReaders_b13 : Fld Z h13 b13 "com/example/database_mutex/databasemutex/cli/Workload$Outcome" "maxConcurrentReaders" "J" (.long (0 : Int64)) := D13 (Or.inr (own_w hw 35 rfl)) (ty := .long) (by decide)
  have F_anError_b13 : Fld Z h13 b13 "com/example/database_mutex/databasemutex/cli/Workload$Outcome" "anError" "Ljava/util/Optional;" .null := D13 (Or.inr (own_w hw 37 rfl)) (ty := (.object "java/util/Optional")) (by decide)
  have Zc14 : n0 ≤ h13.size := (Nat.le_trans Z0 E13.1)
  have pre15 : ∀ tz, oS p e below T13 m 54 #[lv x1, .second, lv x2, .second, lv x3, .second, lv x4, .second, lv x5, .second, iv x6, lv v12, .second, lv v26, .second, lv v41, .second, lv y48, .second, .unset, .unset] [(.ref b13), (.ref b13)] tz → oS p e below T8 m 32 #[lv x1, .second, lv x2, .second, lv x3, .second, lv x4, .second, lv x5, .second, iv x6, lv v12, .second, lv v26, .second, .unset, .unset, .unset, .unset, .unset, .unset] [(.int (x6 &&& (4 : Int32)))] tz := fun tz kt => by
    show oS p e below T8 m 32 #[lv x1, .second, lv x2, .second, lv x3, .second, lv x4, .second, lv x5, .second, iv x6, lv v12, .second, lv v26, .second, .unset, .unset, .unset, .unset, .unset, .unset] [(.int (x6 &&& (4 : Int32)))] _
    refine st12 _ ?_
    refine XS.lstore X12.here hx rfl (hb hby at_41) rfl (l' := #[lv x1, .second, lv x2, .second, lv x3, .second, lv x4, .second, lv x5, .second, iv x6, lv v12, .second, lv v26, .second, lv v41, .second, .unset, .unset, .unset, .unset]) rfl ?_
    refine XS.iload X12.here hx rfl (hb hby at_43) rfl ?_
    refine XS.iconst X12.here hx rfl (hb hby at_45) ?_
    show oS p e below T12 m 46 #[lv x1, .second, lv x2, .second, lv x3, .second, lv x4, .second, lv x5, .second, iv x6, lv v12, .second, lv v26, .second, lv v41, .second, .unset, .unset, .unset, .unset] [(.int (3 : Int32)), (.int x6)] _
    refine XS.ishr X12.here hx rfl (hb hby at_46) rfl ?_
    refine XS.i2l X12.here hx rfl (hb hby at_47) rfl ?_
    refine XS.lstore X12.here hx rfl (hb hby at_48) rfl (l' := #[lv x1, .second, lv x2, .second, lv x3, .second, lv x4, .second, lv x5, .second, iv x6, lv v12, .second, lv v26, .second, lv v41, .second, lv y48, .second, .unset, .unset]) (by rw [hy48]; rfl) ?_
    show oS p e below T12 m 50 #[lv x1, .second, lv x2, .second, lv x3, .second, lv x4, .second, lv x5, .second, iv x6, lv v12, .second, lv v26, .second, lv v41, .second, lv y48, .second, .unset, .unset] [] _
    refine st13 _ ?_
    refine XS.dup X13.here hx rfl (hb hby at_53) rfl rfl ?_
    exact kt
  have wS16 : ∀ a ∈ Bundle.stringAtoms, a.before a0 Z = true := fun a ha => by
    simp only [Bundle.stringAtoms, List.mem_cons, List.not_mem_nil, or_false] at ha
    rcases ha with rfl | rfl | rfl | rfl | rfl | rfl | rfl
    · exact (own_w hw 4 rfl)
    · exact (own_w hw 5 rfl)
    · exact (own_w hw 6 rfl)
    · exact (own_w hw 7 rfl)
    · exact (own_w hw 8 rfl)
    · exact (own_w hw 9 rfl)
    · exact (own_w hw 10 rfl)
  obtain ⟨sa16, T16, h16, k16, X16, e16, E16, hS16, hk16, hZ, hown, st16⟩ := ldcS (s := s) (vm0 := s.vm) X13 hx hZ hown (own_w hw 3 rfl) wS16 e13 (k0 := 0) (State.WarmedH.since (State.WarmedH.refl s) 0) (Nat.zero_le _) (g := (mkF m 54 #[lv x1, .second, lv x2, .second, lv x3, .second, lv x4, .second, lv x5, .second, iv x6, lv v12, .second, lv v26, .second, lv v41, .second, lv y48, .second, .unset, .unset] [(.ref b13), (.ref b13)])) rfl (hb hby at_54) (n := 4) (by decide) (by decide) (by decide) (by decide)
  have Ec18 : Exa Z h16 b13 "com/example/database_mutex/databasemutex/cli/Workload$Outcome" := (A13.ext E16)
  have Fc19 : Fld Z h16 b13 "com/example/database_mutex/databasemutex/cli/Workload$Outcome" "database" "Ljava/lang/String;" .null := (F_database_b13.ext E16)
  have Fc20 : Fld Z h16 b13 "com/example/database_mutex/databasemutex/cli/Workload$Outcome" "reads" "J" (.long (0 : Int64)) := (F_reads_b13.ext E16)
  have Fc21 : Fld Z h16 b13 "com/example/database_mutex/databasemutex/cli/Workload$Outcome" "updates" "J" (.long (0 : Int64)) := (F_updates_b13.ext E16)
  have Fc22 : Fld Z h16 b13 "com/example/database_mutex/databasemutex/cli/Workload$Outcome" "inconsistentReads" "J" (.long (0 : Int64)) := (F_inconsistentReads_b13.ext E16)
  have Fc23 : Fld Z h16 b13 "com/example/database_mutex/databasemutex/cli/Workload$Outcome" "errors" "J" (.long (0 : Int64)) := (F_errors_b13.ext E16)
  have Fc24 : Fld Z h16 b13 "com/example/database_mutex/databasemutex/cli/Workload$Outcome" "overlaps" "J" (.long (0 : Int64)) := (F_overlaps_b13.ext E16)
  have Fc25 : Fld Z h16 b13 "com/example/database_mutex/databasemutex/cli/Workload$Outcome" "maxConcurrentReaders" "J" (.long (0 : Int64)) := (F_maxConcurrentReaders_b13.ext E16)
  have Fc26 : Fld Z h16 b13 "com/example/database_mutex/databasemutex/cli/Workload$Outcome" "anError" "Ljava/util/Optional;" .null := (F_anError_b13.ext E16)
  have Zc27 : n0 ≤ h16.size := (Nat.le_trans Zc14 E16.1)
  obtain ⟨_, _, ⟨T17, Lw17, kw17, nw17⟩, -, X17, ⟨Lc17, hQ17, l17, y17, z17⟩, st17⟩ := X16.specialBack hx (y := (⟨"com/example/database_mutex/databasemutex/cli/Workload$Outcome", "<init>", "(Ljava/lang/String;JJJJJJLjava/util/Optional;)V"⟩ : MethodName)) rfl hown (mvT hZ (own_w hw 11 rfl)) (mvT hZ (own_w hw 12 rfl)) (mvT hZ (own_w hw 13 rfl)) (by decide) (backOf (W := 1) (rm1 l Z a0 hw [] b13 sa16 x4 x5 v12 v26 v41 y48 .null (.long (0 : Int64)) (.long (0 : Int64)) (.long (0 : Int64)) (.long (0 : Int64)) (.long (0 : Int64)) (.long (0 : Int64)) .null h16 n0 Zc27 Ec18 Fc19 g_b13 Fc20 Fc21 Fc22 Fc23 Fc24 Fc25 Fc26) hZ (own_w hw 13 rfl) (own_w hw 2 rfl) (by decide) (by decide)) (g := (mkF m 69 #[lv x1, .second, lv x2, .second, lv x3, .second, lv x4, .second, lv x5, .second, iv x6, lv v12, .second, lv v26, .second, lv v41, .second, lv y48, .second, .unset, .unset] [.null, (.long y48), (.long v41), (.long v26), (.long v12), (.long x5), (.long x4), (.ref sa16), (.ref b13), (.ref b13)])) rfl (by rw [hml]; rfl) (Steps.refl _) (a := b13) (argsL := [(.ref sa16), (.long x4), (.long x5), (.long v12), (.long v26), (.long v41), (.long y48), .null]) (rest := [(.ref b13)]) (lenOf own_pd1 rfl) rfl (by show 2 * 0 + _ ≤ _; exact Nat.le_of_eq rfl) (hb hby at_69) (fun _ _ => ⟨rfl, e16, (by decide : 3 + 0 ≤ _), (by decide : 16 + 0 ≤ _)⟩)
  dsimp only [Pt.U, Pt.locs, Pt.cells, Pt.slots] at X17 l17 y17 z17 st17 hQ17
  subst l17 y17 z17
  obtain ⟨rfl, Nq17, K17, pf17_0, pf17_1, pf17_2, pf17_3, pf17_4, pf17_5, pf17_6, pf17_7, pf17_8⟩ := hQ17
  have N17 := Fr.app N12 Nq17
  have pre28 : ∀ tz, oS p e below T17 m 84 #[lv x1, .second, lv x2, .second, lv x3, .second, lv x4, .second, lv x5, .second, iv x6, lv v12, .second, lv v26, .second, lv v41, .second, lv y48, .second, rv b13, .unset] [(.int (lcmpW ((v12 ||| v26) ||| v41) (0 : Int64)))] tz → oS p e below T13 m 54 #[lv x1, .second, lv x2, .second, lv x3, .second, lv x4, .second, lv x5, .second, iv x6, lv v12, .second, lv v26, .second, lv v41, .second, lv y48, .second, .unset, .unset] [(.ref b13), (.ref b13)] tz := fun tz kt => by
    show oS p e below T13 m 54 #[lv x1, .second, lv x2, .second, lv x3, .second, lv x4, .second, lv x5, .second, iv x6, lv v12, .second, lv v26, .second, lv v41, .second, lv y48, .second, .unset, .unset] [(.ref b13), (.ref b13)] _
    refine st16 _ ?_
    refine XS.lload X16.here hx rfl (hb hby at_56) rfl ?_
    refine XS.lload X16.here hx rfl (hb hby at_58) rfl ?_
    refine XS.lload X16.here hx rfl (hb hby at_60) rfl ?_
    show oS p e below T16 m 62 #[lv x1, .second, lv x2, .second, lv x3, .second, lv x4, .second, lv x5, .second, iv x6, lv v12, .second, lv v26, .second, lv v41, .second, lv y48, .second, .unset, .unset] [(.long v12), (.long x5), (.long x4), (.ref sa16), (.ref b13), (.ref b13)] _
    refine XS.lload X16.here hx rfl (hb hby at_62) rfl ?_
    refine XS.lload X16.here hx rfl (hb hby at_64) rfl ?_
    refine XS.lload X16.here hx rfl (hb hby at_66) rfl ?_
    refine XS.aconstNull X16.here hx rfl (hb hby at_68) ?_
    show oS p e below T16 m 69 #[lv x1, .second, lv x2, .second, lv x3, .second, lv x4, .second, lv x5, .second, iv x6, lv v12, .second, lv v26, .second, lv v41, .second, lv y48, .second, .unset, .unset] [.null, (.long y48), (.long v41), (.long v26), (.long v12), (.long x5), (.long x4), (.ref sa16), (.ref b13), (.ref b13)] _
    refine st17.trans ?_
    refine XS.astore X17.here hx rfl (hb hby at_72) rfl rfl (l' := #[lv x1, .second, lv x2, .second, lv x3, .second, lv x4, .second, lv x5, .second, iv x6, lv v12, .second, lv v26, .second, lv v41, .second, lv y48, .second, rv b13, .unset]) rfl ?_
    refine XS.lload X17.here hx rfl (hb hby at_74) rfl ?_
    refine XS.lload X17.here hx rfl (hb hby at_76) rfl ?_
    show oS p e below T17 m 78 #[lv x1, .second, lv x2, .second, lv x3, .second, lv x4, .second, lv x5, .second, iv x6, lv v12, .second, lv v26, .second, lv v41, .second, lv y48, .second, rv b13, .unset] [(.long v26), (.long v12)] _
    refine XS.lor X17.here hx rfl (hb hby at_78) rfl ?_
    refine XS.lload X17.here hx rfl (hb hby at_79) rfl ?_
    refine XS.lor X17.here hx rfl (hb hby at_81) rfl ?_
    refine XS.lconst X17.here hx rfl (hb hby at_82) ?_
    show oS p e below T17 m 83 #[lv x1, .second, lv x2, .second, lv x3, .second, lv x4, .second, lv x5, .second, iv x6, lv v12, .second, lv v26, .second, lv v41, .second, lv y48, .second, rv b13, .unset] [(.long (0 : Int64)), (.long ((v12 ||| v26) ||| v41))] _
    refine XS.lcmp X17.here hx rfl (hb hby at_83) rfl ?_
    exact kt
  obtain ⟨v92, T31, Lj31, jv31, N31, X31, e31, st31⟩ := own_join (α := Int32) X17 N17 rfl (mkF m 84 #[lv x1, .second, lv x2, .second, lv x3, .second, lv x4, .second, lv x5, .second, iv x6, lv v12, .second, lv v26, .second, lv v41, .second, lv y48, .second, rv b13, .unset] [(.int (lcmpW ((v12 ||| v26) ||| v41) (0 : Int64)))]) (fun v => (mkF m 92 #[lv x1, .second, lv x2, .second, lv x3, .second, lv x4, .second, lv x5, .second, iv x6, lv v12, .second, lv v26, .second, lv v41, .second, lv y48, .second, rv b13, .unset] [(.int v)])) (fun v => v = (if ((v12 ||| v26) ||| v41) = (0 : Int64) then (1 : Int32) else (0 : Int32))) (by
      by_cases hc84 : ((v12 ||| v26) ||| v41) = (0 : Int64)
      · have pre29 : ∀ tz, oS p e below T17 m 92 #[lv x1, .second, lv x2, .second, lv x3, .second, lv x4, .second, lv x5, .second, iv x6, lv v12, .second, lv v26, .second, lv v41, .second, lv y48, .second, rv b13, .unset] [(.int (1 : Int32))] tz → oS p e below T17 m 84 #[lv x1, .second, lv x2, .second, lv x3, .second, lv x4, .second, lv x5, .second, iv x6, lv v12, .second, lv v26, .second, lv v41, .second, lv y48, .second, rv b13, .unset] [(.int (lcmpW ((v12 ||| v26) ||| v41) (0 : Int64)))] tz := fun tz kt => by
          show oS p e below T17 m 84 #[lv x1, .second, lv x2, .second, lv x3, .second, lv x4, .second, lv x5, .second, iv x6, lv v12, .second, lv v26, .second, lv v41, .second, lv y48, .second, rv b13, .unset] [(.int (lcmpW ((v12 ||| v26) ||| v41) (0 : Int64)))] _
          refine XS.ifNo X17.here hx rfl (hb hby at_84) rfl ((if0 _ _).trans (teq ((lw_eq ((v12 ||| v26) ||| v41) (0 : Int64)).mpr hc84)).2) ?_
          refine XS.iconst X17.here hx rfl (hb hby at_87) ?_
          refine XS.goto X17.here hx rfl (pc0 := 88) (pc' := 92) rfl (hb hby at_88) (by decide) (by decide) ?_
          exact kt
        exact ⟨(1 : Int32), T17, _, (by rw [if_pos hc84]), N17, X17, rfl, fun tz kt => (pre29 _ kt)⟩
      · have pre30 : ∀ tz, oS p e below T17 m 92 #[lv x1, .second, lv x2, .second, lv x3, .second, lv x4, .second, lv x5, .second, iv x6, lv v12, .second, lv v26, .second, lv v41, .second, lv y48, .second, rv b13, .unset] [(.int (0 : Int32))] tz → oS p e below T17 m 84 #[lv x1, .second, lv x2, .second, lv x3, .second, lv x4, .second, lv x5, .second, iv x6, lv v12, .second, lv v26, .second, lv v41, .second, lv y48, .second, rv b13, .unset] [(.int (lcmpW ((v12 ||| v26) ||| v41) (0 : Int64)))] tz := fun tz kt => by
          show oS p e below T17 m 84 #[lv x1, .second, lv x2, .second, lv x3, .second, lv x4, .second, lv x5, .second, iv x6, lv v12, .second, lv v26, .second, lv v41, .second, lv y48, .second, rv b13, .unset] [(.int (lcmpW ((v12 ||| v26) ||| v41) (0 : Int64)))] _
          refine XS.ifYes X17.here hx rfl (pc0 := 84) (pc' := 91) rfl (hb hby at_84) rfl ((if0 _ _).trans (feq (fun q => hc84 ((lw_eq ((v12 ||| v26) ||| v41) (0 : Int64)).mp q))).2) (by decide) (by decide) ?_
          refine XS.iconst X17.here hx rfl (hb hby at_91) ?_
          exact kt
        exact ⟨(0 : Int32), T17, _, (by rw [if_neg hc84]), N17, X17, rfl, fun tz kt => (pre30 _ kt)⟩)
  have hv92 : v92 = (if ((v12 ||| v26) ||| v41) = (0 : Int64) then (1 : Int32) else (0 : Int32)) := jv31
  have Zc33 : n0 ≤ T17.heap.size := (Nat.le_trans Zc27 K17.1)
  obtain ⟨cq32, kq32, q32a, q32b, q32c⟩ := isOf hZ e31 pf17_0
  obtain ⟨_, _, ⟨T32, Lw32, kw32, nw32⟩, -, X32, ⟨Lc32, hQ32, l32, y32, z32⟩, st32⟩ := X31.virtualBack hx (y := (⟨"com/example/database_mutex/databasemutex/cli/Workload$Outcome", "clean", "()Z"⟩ : MethodName)) (z := (⟨"com/example/database_mutex/databasemutex/cli/Workload$Outcome", "clean", "()Z"⟩ : MethodName)) hown (mvT hZ (own_w hw 38 rfl)) (mvT hZ (own_w hw 39 rfl)) (notFace_of_selects (args := #[]) (mvT hZ (own_w hw 41 rfl))) (mvT hZ (own_w hw 41 rfl)) (mvT hZ (own_w hw 40 rfl)) (by decide) (backOf (W := 0) (rm4 l Z a0 hw [] b13 v12 v26 v41 T17.heap n0 Zc33 pf17_4 pf17_5 pf17_6) hZ (own_w hw 42 rfl) (own_w hw 2 rfl) (by decide) (by decide)) q32a q32c (g := (mkF m 96 #[lv x1, .second, lv x2, .second, lv x3, .second, lv x4, .second, lv x5, .second, iv x6, lv v12, .second, lv v26, .second, lv v41, .second, lv y48, .second, rv b13, iv v92] [(.ref b13)])) rfl (by rw [hml]; rfl) (Steps.refl _) (argsL := []) (rest := []) (lenOf own_pd2 rfl) rfl (by show 2 * 0 + _ ≤ _; exact Nat.le_of_eq rfl) (hb hby at_96) (fun _ _ => ⟨rfl, e31, (by decide : 3 + 0 ≤ _), (by decide : 16 + 0 ≤ _)⟩)
  dsimp only [Pt.U, Pt.locs, Pt.cells, Pt.slots] at X32 l32 y32 z32 st32 hQ32
  subst l32 y32 z32
  obtain ⟨rfl, Nq32, eh32⟩ := hQ32
  have N32 := Fr.app N31 Nq32
  have hc101 : (if v12 = (0 : Int64) then (if v26 = (0 : Int64) then (if v41 = (0 : Int64) then (1 : Int32) else (0 : Int32)) else (0 : Int32)) else (0 : Int32)) = v92 := Classical.byContradiction fun hc101 => by
    subst hv92; exact hc101 (own_law _ _ _)
  have pre34 : ∀ tz, oS p e below T32 m 109 #[lv x1, .second, lv x2, .second, lv x3, .second, lv x4, .second, lv x5, .second, iv x6, lv v12, .second, lv v26, .second, lv v41, .second, lv y48, .second, rv b13, iv v92] [(.int (1 : Int32))] tz → oS p e below T17 m 84 #[lv x1, .second, lv x2, .second, lv x3, .second, lv x4, .second, lv x5, .second, iv x6, lv v12, .second, lv v26, .second, lv v41, .second, lv y48, .second, rv b13, .unset] [(.int (lcmpW ((v12 ||| v26) ||| v41) (0 : Int64)))] tz := fun tz kt => by
    show oS p e below T17 m 84 #[lv x1, .second, lv x2, .second, lv x3, .second, lv x4, .second, lv x5, .second, iv x6, lv v12, .second, lv v26, .second, lv v41, .second, lv y48, .second, rv b13, .unset] [(.int (lcmpW ((v12 ||| v26) ||| v41) (0 : Int64)))] _
    refine st31 _ ?_
    refine XS.istore X31.here hx rfl (hb hby at_92) rfl (l' := #[lv x1, .second, lv x2, .second, lv x3, .second, lv x4, .second, lv x5, .second, iv x6, lv v12, .second, lv v26, .second, lv v41, .second, lv y48, .second, rv b13, iv v92]) rfl ?_
    refine XS.aload X31.here hx rfl (hb hby at_94) rfl rfl ?_
    show oS p e below T31 m 96 #[lv x1, .second, lv x2, .second, lv x3, .second, lv x4, .second, lv x5, .second, iv x6, lv v12, .second, lv v26, .second, lv v41, .second, lv y48, .second, rv b13, iv v92] [(.ref b13)] _
    refine st32.trans ?_
    refine XS.iload X32.here hx rfl (hb hby at_99) rfl ?_
    refine XS.icmpNo X32.here hx rfl (hb hby at_101) rfl (teq hc101).2 ?_
    refine XS.iconst X32.here hx rfl (hb hby at_104) ?_
    show oS p e below T32 m 105 #[lv x1, .second, lv x2, .second, lv x3, .second, lv x4, .second, lv x5, .second, iv x6, lv v12, .second, lv v26, .second, lv v41, .second, lv y48, .second, rv b13, iv v92] [(.int (1 : Int32))] _
    refine XS.goto X32.here hx rfl (pc0 := 105) (pc' := 109) rfl (hb hby at_105) (by decide) (by decide) ?_
    exact kt
  have Yc35 : k16 ≤ T17.heap.size := (Nat.le_trans hk16 K17.1)
  obtain ⟨fs, hr, hrun, hended, hRE⟩ := X32.leaveW (s := s) hS16 (by rw [eh32]; exact Yc35) (v := some (.int (1 : Int32))) (fun h => by rw [Bd.returns] at h; cases h)
  refine ⟨_, _, pre0 _ (pre1 _ (pre5 _ (pre9 _ (pre15 _ (pre28 _ (pre34 _ ?_)))))), hrun, hended, _, _, rfl, ?_, ⟨_, rfl⟩, hRE.2.1, hRE.2.2.1, hRE.2.2.2.mono (by decide) (by decide)⟩
  · show oS p e below T32 m 109 #[lv x1, .second, lv x2, .second, lv x3, .second, lv x4, .second, lv x5, .second, iv x6, lv v12, .second, lv v26, .second, lv v41, .second, lv y48, .second, rv b13, iv v92] [(.int (1 : Int32))] _
    exact retN X32 hx (t := .boolean) Bd.returns (by simp) (hb hby at_109) hr
  · show Q0 Z x1 x2 x3 x4 x5 x6 h0 n0 _ T32.heap _
    rw [eh32]
    exact ⟨rfl, N32⟩
set_option maxRecDepth 65536 in
set_option maxHeartbeats 40000000 in
theorem comes_1 {Post : Tables → Env → Array Value → State → Outcome → State → Prop} (hpost : ∀ tb e args s v u, (limb_1_1.after args s (.returned v) u = true ∧ limb_1_2.after args s (.returned v) u = true ∧ True) → ReturnedEndW s (.returned v) u (Jvm.fieldLocs frame_1_writes args s ++ Jvm.arrayLocs frame_1_arrays args s ++ Jvm.staticLocs frame_1_statics s) 16 1152 → Post tb e args s (.returned v) u) :
    ArmFor flags0 classFile x code maxLocals ret World_1 tables_1 room_1 Calls_1 rest_1 Pre_1 Post := by
  intro l hfl _ _ p e ha hc hk s m args below hf hA hF happ hP
  obtain ⟨hcalls, hrest, hpre⟩ := hP
  obtain ⟨-, -, -, hnamed, -, -, -, hat⟩ := (Spec.applies_iff hf).mp happ
  obtain ⟨hg, hn⟩ := and_e (Cond.before_iff.mp (show (Jvm.Cond.and given_1 narrow_1).before args s = true from hpre))
  obtain ⟨gc, gr0⟩ := and_e hg
  obtain ⟨ga0, gr1⟩ := and_e gr0
  obtain ⟨ga1, gr2⟩ := and_e gr1
  obtain ⟨ga2, gr3⟩ := and_e gr2
  obtain ⟨ga3, gr4⟩ := and_e gr3
  obtain ⟨ga4, gr5⟩ := and_e gr4
  have ga5 := gr5
  obtain ⟨w0, w1, w2, w3, w4, w5, rfl⟩ : ∃ w0 w1 w2 w3 w4 w5 : Value, args = #[w0, w1, w2, w3, w4, w5] := by
    have hs : args.size = 6 := by simpa [Cond.value, given_1] using gc
    obtain ⟨L⟩ := args
    match L, hs with
    | [w0, w1, w2, w3, w4, w5], _ => exact ⟨w0, w1, w2, w3, w4, w5, rfl⟩
  have hw := fun d (hd : d ∈ tables_1) => atoms_spec (ws := Jvm.Cond.code x code maxLocals ret :: tables_1) hat d (List.mem_cons_of_mem _ hd)
  obtain ⟨i0, ei0⟩ := isL_v ga0
  obtain rfl : w0 = (.long i0) := Option.some.inj ei0
  obtain ⟨i1, ei1⟩ := isL_v ga1
  obtain rfl : w1 = (.long i1) := Option.some.inj ei1
  obtain ⟨i2, ei2⟩ := isL_v ga2
  obtain rfl : w2 = (.long i2) := Option.some.inj ei2
  obtain ⟨i3, ei3⟩ := isL_v ga3
  obtain rfl : w3 = (.long i3) := Option.some.inj ei3
  obtain ⟨i4, ei4⟩ := isL_v ga4
  obtain rfl : w4 = (.long i4) := Option.some.inj ei4
  obtain ⟨i5, ei5⟩ := is_v ga5
  obtain rfl : w5 = (.int i5) := Option.some.inj ei5
  obtain ⟨n, o, h1, h2, h3, _, L, rfl, ⟨rfl, N⟩, hq⟩ := rm0 l s _ hw tables_1 i0 i1 i2 i3 i4 i5 s.heap s.heap.size (Nat.le_refl _)  p e ha hc hk s m _ below hf ((Spec.applies_iff_loose hf).mp happ).1 ⟨rfl, State.Warmed39.refl s, rfl⟩ trivial
  refine ⟨n, _, h1, h2, h3, hpost _ _ _ _ _ _ ⟨Cond.after_iff.mpr rfl, Cond.after_iff.mpr (eq_i res_at (Term.int_eval (1)) rfl), trivial⟩ ⟨hq.1, hq.2.1, hq.2.2.1, (hq.2.2.2.sift fun y hy => Or.inr (N y hy)).mono (by decide) (by decide)⟩⟩
theorem main_1_1 : Claimed_1_1 := comes_1 fun _ _ _ _ _ _ h hF => ⟨h.1, hF⟩
theorem main_1_2 : Claimed_1_2 := comes_1 fun _ _ _ _ _ _ h hF => ⟨h.2.1, hF⟩
end Jvm.Pilot.@@N@@
namespace Jvm.Pilot.@@N@@
open Jvm Jvm.ClassFile Sem Op Lib Jvm.Free Jvm.Stand Jvm.Pilot.@@N@@.Jvm.D
/-! MADE BY PROGRAM (witnessworld.py) out of the Statement's table words and the real class files: 15 classes; the members and pool entries that the words name. The judged class is class 1, her method 1. -/
namespace start1
open Jvm.ClassFile
def u (s : String) : CpInfo := .utf8 (stringToUtf16 s)
/-- a pool by its gaps: so many unusable entries, then the entry; so many at the end -/
def gap : Nat → List CpInfo → List CpInfo
  | 0, r => r
  | n + 1, r => .unusable :: gap n r
def poolList (es : List (Nat × CpInfo)) (last : Nat) : List CpInfo := es.foldr (fun e r => gap e.1 (e.2 :: r)) (gap last [])
def pool (es : List (Nat × CpInfo)) (last : Nat) : Array CpInfo := ⟨poolList es last⟩
def fileOf (pool : Array CpInfo) (this : Nat) (attrs : Array Attribute := #[]) (ms : Array MethodInfo := #[]) (fl : Nat := 33) (sup : Nat := 0) (ifs : Array Nat := #[]) (fds : Array FieldInfo := #[]) : ClassFile where
  minorVersion := 0
  majorVersion := 65
  constantPool := pool
  accessFlags := fl
  thisClass := this
  superClass := sup
  interfaces := ifs
  fields := fds
  methods := ms
  attributes := attrs
def plain (name : String) (sup : Option ClassId) : Class where
  name := name
  kind := .ordinary
  loader := none
  accessFlags := 33
  super := sup
  interfaces := #[]
  cf := none
  fields := #[]
  methods := #[]
  instanceTypes := #[]
  staticTypes := #[]
  resolved := #[]
  callSites := []
  init := .initialized
  statics := none
  mirror := none

def pool0 : Array CpInfo := pool [(5, u "<init>"), (0, u "()V"), (1, .class_ 10), (1, u "java/lang/Object")] 113

def k0c0 : Code := { maxStack := 0, maxLocals := 1, code := object_method_1_code, exceptionTable := #[], attributes := #[] }
def k0m0 : Method := { name := "<init>", desc := "()V", sig := { parameters := [], returnType := none }, accessFlags := 1, code := some k0c0 }
/-- java/lang/Object -/
def k0 : Class := { plain "java/lang/Object" none with
  accessFlags := 33
  interfaces := #[]
  cf := some (fileOf pool0 8 #[] #[{ accessFlags := 1, nameIndex := 5, descriptorIndex := 6, attributes := #[] }] 33 0 #[] #[])
  fields := #[]
  methods := #[k0m0]
  instanceTypes := #[]
  staticTypes := #[]
  resolved := Array.replicate 124 none
  statics := none }

def pool1 : Array CpInfo := pool [(2, .class_ 4), (1, u "java/lang/Object"), (0, u "<init>"), (0, u "()V"), (0, .class_ 8), (0, u "com/example/database_mutex/databasemutex/cli/Workload$Outcome"), (0, .string 10), (0, u "d"), (0, .methodref 7 12), (0, .nameAndType 5 13), (0, u "(Ljava/lang/String;JJJJJJLjava/util/Optional;)V"), (0, .methodref 7 15), (0, .nameAndType 16 17), (0, u "clean"), (0, u "()Z"), (0, .class_ 19), (0, u "com/example/database_mutex/databasemutex/cli/OutcomeCleanPinLaw"), (2, u "law"), (0, u "(JJJJJI)Z")] 7

def k1m0 : Method := { name := "<init>", desc := "()V", sig := { parameters := [], returnType := none }, accessFlags := 1, code := none }
def k1c1 : Code := { maxStack := 16, maxLocals := 21, code := code, exceptionTable := #[], attributes := #[] }
def k1m1 : Method := { name := "law", desc := "(JJJJJI)Z", sig := { parameters := [.long, .long, .long, .long, .long, .int], returnType := some .boolean }, accessFlags := 9, code := some k1c1 }
/-- com/example/database_mutex/databasemutex/cli/OutcomeCleanPinLaw -/
def k1 : Class := { plain "com/example/database_mutex/databasemutex/cli/OutcomeCleanPinLaw" (some 0) with
  accessFlags := 49
  interfaces := #[]
  cf := some (fileOf pool1 18 #[] #[{ accessFlags := 1, nameIndex := 5, descriptorIndex := 6, attributes := #[] }, { accessFlags := 9, nameIndex := 22, descriptorIndex := 23, attributes := #[] }] 49 2 #[] #[])
  fields := #[]
  methods := #[k1m0, k1m1]
  instanceTypes := #[]
  staticTypes := #[]
  resolved := Array.replicate 31 none
  statics := none }

def pool2 : Array CpInfo := pool [(1, .methodref 2 3), (0, .class_ 4), (0, .nameAndType 5 6), (0, u "java/lang/Object"), (0, u "<init>"), (0, u "()V"), (0, .class_ 8), (0, u "java/lang/Record")] 13

def k2c0 : Code := { maxStack := 1, maxLocals := 1, code := jdk_30_method_1_code, exceptionTable := #[], attributes := #[] }
def k2m0 : Method := { name := "<init>", desc := "()V", sig := { parameters := [], returnType := none }, accessFlags := 4, code := some k2c0 }
/-- java/lang/Record -/
def k2 : Class := { plain "java/lang/Record" (some 0) with
  accessFlags := 1057
  interfaces := #[]
  cf := some (fileOf pool2 7 #[] #[{ accessFlags := 4, nameIndex := 5, descriptorIndex := 6, attributes := #[] }] 1057 2 #[] #[])
  fields := #[]
  methods := #[k2m0]
  instanceTypes := #[]
  staticTypes := #[]
  resolved := Array.replicate 22 none
  statics := none }

def pool3 : Array CpInfo := pool [(1, .methodref 2 3), (0, .class_ 4), (0, .nameAndType 5 6), (0, u "java/lang/Record"), (0, u "<init>"), (0, u "()V"), (0, .fieldref 8 9), (0, .class_ 10), (0, .nameAndType 11 12), (0, u "com/example/database_mutex/databasemutex/cli/Workload$Outcome"), (0, u "database"), (0, u "Ljava/lang/String;"), (0, .fieldref 8 14), (0, .nameAndType 15 16), (0, u "reads"), (0, u "J"), (0, .fieldref 8 18), (0, .nameAndType 19 16), (0, u "updates"), (0, .fieldref 8 21), (0, .nameAndType 22 16), (0, u "inconsistentReads"), (0, .fieldref 8 24), (0, .nameAndType 25 16), (0, u "errors"), (0, .fieldref 8 27), (0, .nameAndType 28 16), (0, u "overlaps"), (0, .fieldref 8 30), (0, .nameAndType 31 16), (0, u "maxConcurrentReaders"), (0, .fieldref 8 33), (0, .nameAndType 34 35), (0, u "anError"), (0, u "Ljava/util/Optional;"), (14, u "(Ljava/lang/String;JJJJJJLjava/util/Optional;)V"), (4, u "clean"), (0, u "()Z"), (10, .class_ 68), (0, u "com/example/database_mutex/databasemutex/cli/Workload")] 26

def k3c0 : Code := { maxStack := 3, maxLocals := 15, code := prog_48_method_1_code, exceptionTable := #[], attributes := #[] }
def k3m0 : Method := { name := "<init>", desc := "(Ljava/lang/String;JJJJJJLjava/util/Optional;)V", sig := { parameters := [(.object "java/lang/String"), .long, .long, .long, .long, .long, .long, (.object "java/util/Optional")], returnType := none }, accessFlags := 0, code := some k3c0 }
def k3c1 : Code := { maxStack := 4, maxLocals := 1, code := prog_48_method_2_code, exceptionTable := #[], attributes := #[] }
def k3m1 : Method := { name := "clean", desc := "()Z", sig := { parameters := [], returnType := some .boolean }, accessFlags := 0, code := some k3c1 }
/-- com/example/database_mutex/databasemutex/cli/Workload$Outcome -/
def k3 : Class := { plain "com/example/database_mutex/databasemutex/cli/Workload$Outcome" (some 2) with
  accessFlags := 48
  interfaces := #[]
  cf := some (fileOf pool3 8 #[.nestHost 67] #[{ accessFlags := 0, nameIndex := 5, descriptorIndex := 50, attributes := #[] }, { accessFlags := 0, nameIndex := 55, descriptorIndex := 56, attributes := #[] }] 48 2 #[] #[{ accessFlags := 18, nameIndex := 11, descriptorIndex := 12, attributes := #[] }, { accessFlags := 18, nameIndex := 15, descriptorIndex := 16, attributes := #[] }, { accessFlags := 18, nameIndex := 19, descriptorIndex := 16, attributes := #[] }, { accessFlags := 18, nameIndex := 22, descriptorIndex := 16, attributes := #[] }, { accessFlags := 18, nameIndex := 25, descriptorIndex := 16, attributes := #[] }, { accessFlags := 18, nameIndex := 28, descriptorIndex := 16, attributes := #[] }, { accessFlags := 18, nameIndex := 31, descriptorIndex := 16, attributes := #[] }, { accessFlags := 18, nameIndex := 34, descriptorIndex := 35, attributes := #[] }])
  fields := #[{ name := "database", type := (.object "java/lang/String"), accessFlags := 18, slot := 0, constantValue := 0 }, { name := "reads", type := .long, accessFlags := 18, slot := 1, constantValue := 0 }, { name := "updates", type := .long, accessFlags := 18, slot := 2, constantValue := 0 }, { name := "inconsistentReads", type := .long, accessFlags := 18, slot := 3, constantValue := 0 }, { name := "errors", type := .long, accessFlags := 18, slot := 4, constantValue := 0 }, { name := "overlaps", type := .long, accessFlags := 18, slot := 5, constantValue := 0 }, { name := "maxConcurrentReaders", type := .long, accessFlags := 18, slot := 6, constantValue := 0 }, { name := "anError", type := (.object "java/util/Optional"), accessFlags := 18, slot := 7, constantValue := 0 }]
  methods := #[k3m0, k3m1]
  instanceTypes := #[(.object "java/lang/String"), .long, .long, .long, .long, .long, .long, (.object "java/util/Optional")]
  staticTypes := #[]
  resolved := Array.replicate 95 none
  statics := none }

def pool4 : Array CpInfo := pool [(1, .class_ 2), (0, u "java/io/Serializable"), (0, .class_ 4), (0, u "java/lang/Object")] 2

/-- java/io/Serializable -/
def k4 : Class := { plain "java/io/Serializable" (some 0) with
  accessFlags := 1537
  interfaces := #[]
  cf := some (fileOf pool4 1 #[] #[] 1537 3 #[] #[])
  fields := #[]
  methods := #[]
  instanceTypes := #[]
  staticTypes := #[]
  resolved := Array.replicate 7 none
  statics := none }

def pool5 : Array CpInfo := pool [(1, .class_ 2), (0, u "java/lang/Comparable"), (0, .class_ 4), (0, u "java/lang/Object")] 7

/-- java/lang/Comparable -/
def k5 : Class := { plain "java/lang/Comparable" (some 0) with
  accessFlags := 1537
  interfaces := #[]
  cf := some (fileOf pool5 1 #[] #[] 1537 3 #[] #[])
  fields := #[]
  methods := #[]
  instanceTypes := #[]
  staticTypes := #[]
  resolved := Array.replicate 12 none
  statics := none }

def pool6 : Array CpInfo := pool [(2, .class_ 4), (1, u "java/lang/CharSequence"), (42, .class_ 48), (0, u "java/lang/CharSequence$1CodePointIterator"), (10, .class_ 60), (0, u "java/lang/CharSequence$1CharIterator"), (5, .class_ 67), (0, u "java/lang/Object")] 63

/-- java/lang/CharSequence -/
def k6 : Class := { plain "java/lang/CharSequence" (some 0) with
  accessFlags := 1537
  interfaces := #[]
  cf := some (fileOf pool6 2 #[.nestMembers #[47, 59]] #[] 1537 66 #[] #[])
  fields := #[]
  methods := #[]
  instanceTypes := #[]
  staticTypes := #[]
  resolved := Array.replicate 131 none
  statics := none }

def pool7 : Array CpInfo := pool [(1, .class_ 2), (0, u "java/lang/constant/Constable"), (0, .class_ 4), (0, u "java/lang/Object")] 6

/-- java/lang/constant/Constable -/
def k7 : Class := { plain "java/lang/constant/Constable" (some 0) with
  accessFlags := 1537
  interfaces := #[]
  cf := some (fileOf pool7 1 #[] #[] 1537 3 #[] #[])
  fields := #[]
  methods := #[]
  instanceTypes := #[]
  staticTypes := #[]
  resolved := Array.replicate 11 none
  statics := none }

def pool8 : Array CpInfo := pool [(1, .class_ 2), (0, u "java/lang/constant/ConstantDesc"), (0, .class_ 4), (0, u "java/lang/Object")] 32

/-- java/lang/constant/ConstantDesc -/
def k8 : Class := { plain "java/lang/constant/ConstantDesc" (some 0) with
  accessFlags := 1537
  interfaces := #[]
  cf := some (fileOf pool8 1 #[] #[] 1537 3 #[] #[])
  fields := #[]
  methods := #[]
  instanceTypes := #[]
  staticTypes := #[]
  resolved := Array.replicate 37 none
  statics := none }

def pool9 : Array CpInfo := pool [(2, .class_ 4), (1, u "java/lang/Object"), (0, u "<init>"), (0, u "()V"), (3, .class_ 12), (1, u "java/lang/String"), (0, u "value"), (0, u "[B"), (2, u "coder"), (0, u "B"), (2, u "hash"), (0, u "I"), (2, u "hashIsZero"), (0, u "Z"), (13, u "COMPACT_STRINGS"), (534, .class_ 576), (0, u "java/lang/CharSequence"), (22, u "CASE_INSENSITIVE_ORDER"), (0, u "Ljava/util/Comparator;"), (500, u "serialPersistentFields"), (0, u "[Ljava/io/ObjectStreamField;"), (0, .class_ 1104), (0, u "java/lang/String$CaseInsensitiveComparator"), (1, .class_ 1107), (0, u "java/io/Serializable"), (0, .class_ 1109), (0, u "java/lang/Comparable"), (0, .class_ 1111), (0, u "java/lang/constant/Constable"), (0, .class_ 1113), (0, u "java/lang/constant/ConstantDesc"), (2, u "serialVersionUID"), (0, u "J"), (3, u "REPL"), (0, u "C"), (2, u "LATIN1"), (1, u "UTF16")] 323

def k9m0 : Method := { name := "<init>", desc := "()V", sig := { parameters := [], returnType := none }, accessFlags := 1, code := none }
/-- java/lang/String -/
def k9 : Class := { plain "java/lang/String" (some 0) with
  accessFlags := 49
  interfaces := #[4, 5, 6, 7, 8]
  cf := some (fileOf pool9 10 #[.nestMembers #[1103]] #[{ accessFlags := 1, nameIndex := 5, descriptorIndex := 6, attributes := #[] }] 49 2 #[1106, 1108, 575, 1110, 1112] #[{ accessFlags := 18, nameIndex := 13, descriptorIndex := 14, attributes := #[] }, { accessFlags := 18, nameIndex := 17, descriptorIndex := 18, attributes := #[] }, { accessFlags := 2, nameIndex := 21, descriptorIndex := 22, attributes := #[] }, { accessFlags := 2, nameIndex := 25, descriptorIndex := 26, attributes := #[] }, { accessFlags := 26, nameIndex := 1116, descriptorIndex := 1117, attributes := #[] }, { accessFlags := 24, nameIndex := 40, descriptorIndex := 26, attributes := #[] }, { accessFlags := 26, nameIndex := 1101, descriptorIndex := 1102, attributes := #[] }, { accessFlags := 26, nameIndex := 1121, descriptorIndex := 1122, attributes := #[] }, { accessFlags := 25, nameIndex := 599, descriptorIndex := 600, attributes := #[] }, { accessFlags := 24, nameIndex := 1125, descriptorIndex := 18, attributes := #[] }, { accessFlags := 24, nameIndex := 1127, descriptorIndex := 18, attributes := #[] }])
  fields := #[{ name := "value", type := (.array .byte), accessFlags := 18, slot := 0, constantValue := 0 }, { name := "coder", type := .byte, accessFlags := 18, slot := 1, constantValue := 0 }, { name := "hash", type := .int, accessFlags := 2, slot := 2, constantValue := 0 }, { name := "hashIsZero", type := .boolean, accessFlags := 2, slot := 3, constantValue := 0 }, { name := "serialVersionUID", type := .long, accessFlags := 26, slot := 0, constantValue := 0 }, { name := "COMPACT_STRINGS", type := .boolean, accessFlags := 24, slot := 1, constantValue := 0 }, { name := "serialPersistentFields", type := (.array (.object "java/io/ObjectStreamField")), accessFlags := 26, slot := 2, constantValue := 0 }, { name := "REPL", type := .char, accessFlags := 26, slot := 3, constantValue := 0 }, { name := "CASE_INSENSITIVE_ORDER", type := (.object "java/util/Comparator"), accessFlags := 25, slot := 4, constantValue := 0 }, { name := "LATIN1", type := .byte, accessFlags := 24, slot := 5, constantValue := 0 }, { name := "UTF16", type := .byte, accessFlags := 24, slot := 6, constantValue := 0 }]
  methods := #[k9m0]
  instanceTypes := #[(.array .byte), .byte, .int, .boolean]
  staticTypes := #[.long, .boolean, (.array (.object "java/io/ObjectStreamField")), .char, (.object "java/util/Comparator"), .byte, .byte]
  resolved := Array.replicate 1451 none
  statics := none }

def pool10 : Array CpInfo := pool [(1, u "java/lang/Cloneable"), (0, .class_ 1), (0, u "java/lang/Object"), (0, .class_ 3)] 3

/-- java/lang/Cloneable -/
def k10 : Class := { plain "java/lang/Cloneable" (some 0) with
  accessFlags := 1537
  interfaces := #[]
  cf := some (fileOf pool10 2 #[] #[] 1537 4 #[] #[])
  fields := #[]
  methods := #[]
  instanceTypes := #[]
  staticTypes := #[]
  resolved := Array.replicate 8 none
  statics := none }

/-- the primitive byte -/
def k11 : Class := { plain "byte" none with kind := .primitive 'B', accessFlags := 0x411 }
/-- [B -/
def k12 : Class := { plain "[B" (some 0) with kind := .array 11 .byte, interfaces := #[10, 4], accessFlags := 1041 }

/-- the primitive int -/
def k13 : Class := { plain "int" none with kind := .primitive 'I', accessFlags := 0x411 }
/-- [I -/
def k14 : Class := { plain "[I" (some 0) with kind := .array 13 .int, interfaces := #[10, 4], accessFlags := 1041 }

def heap : Heap := #[]
def classes : Array Class := #[k0, k1, k2, k3, k4, k5, k6, k7, k8, k9, k10, k11, k12, k13, k14]
def interned : List (Array UInt16 × Addr) := []
def slotsUsed : Nat := 0
def theMethod : MethodId := ⟨1, 1⟩
def args0 : Array Value := #[.long 5, .long 6, .long 7, .long 8, .long 9, .int 10]
def aboutOver (below : List Frame) : State where
  vm := { classes := classes, interned := interned.toArray }
  heap := heap
  slotsUsed := slotsUsed
  threads := #[{ frames := .invoking theMethod args0 :: below }]
def below0 : List Frame := [.native { method := ⟨0, 0⟩, args := #[] }]
def about1 : State := aboutOver below0
def p0 : Program := .bare "" "" ""
def e0 : Env := launch0.env 0 0 0
theorem w_frames : about1.frames = Frame.invoking theMethod args0 :: below0 := rfl
set_option maxRecDepth 65536 in
theorem w_args : argsFit about1.vm theMethod args0 = true := by decide +kernel
set_option maxRecDepth 65536 in
theorem w_heap : heapFits about1 = true := by decide +kernel
set_option maxRecDepth 65536 in
theorem w_runnable : about1.curStatus? = some .runnable := by decide +kernel
set_option maxRecDepth 65536 in
theorem w_alone : about1.alone = true := by decide +kernel
set_option maxRecDepth 65536 in
theorem w_named : about1.methodNamed? x = some theMethod := by decide +kernel
set_option maxRecDepth 65536 in
theorem w_hears : about1.hears theMethod below0 = true := by decide +kernel
set_option maxRecDepth 65536 in
theorem w_ripe : about1.ripe theMethod args0 below0 = true := by decide +kernel
theorem w_running : about1.status = .running := rfl
set_option maxRecDepth 65536 in
theorem w_room : about1.hasRoom e0.platform room_1 = true :=
  launch0.hasRoom_least _ room_1 (by decide +kernel) (by decide +kernel) (by decide +kernel) (by decide +kernel) (by decide +kernel) (by decide +kernel)
theorem allAtoms_all (ts : List Jvm.Cond) (a : Array Jvm.Value) (st : Jvm.State) : (allAtoms ts).before a st = ts.all (fun c => c.before a st) := by
  induction ts with
  | nil => rfl
  | cons c t ih =>
    show (Jvm.Cond.and c (allAtoms t)).before a st = _
    rw [Jvm.Cond.before_and, ih, List.all_cons]
def words1 : List Jvm.Cond := Jvm.Cond.code x code maxLocals ret :: tables_1
/-- a 'code' word, met by the world's own term for the bytes: nothing is compared byte by byte -/
theorem code_word {y : MethodName} {bytes : ByteArray} {mx : Nat} {rt : Option FieldType} {a : Array Value} {s : State} {m : MethodId} {meth : Method} {c : Code} (h1 : s.methodNamed? y = some m) (h2 : s.vm.method? m = some meth) (h3 : meth.code = some c) (h4 : c.code = bytes)
    (h5 : (c.maxLocals == mx && c.exceptionTable.isEmpty && decide (c.maxStack ≤ mostOperands) && decide (meth.sig.returnType = rt) && !meth.locks && decide (parseMethodDescriptor y.desc = some meth.sig)) = true) : (Jvm.Cond.code y bytes mx rt).before a s = true := by
  simp only [Bool.and_eq_true, beq_iff_eq, Bool.not_eq_true', decide_eq_true_eq] at h5
  obtain ⟨⟨⟨⟨⟨g1, g2⟩, g3⟩, g4⟩, g5⟩, g6⟩ := h5
  simp [Cond.before, Cond.holds, Cond.value, h1, h2, h3, h4, g1, g2, g3, g4, g5, g6]
def isCode : Jvm.Cond → Bool
  | .code _ _ _ _ => true
  | _ => false
theorem all_split {L : List Jvm.Cond} {P : Jvm.Cond → Bool} (h1 : L.all (fun c => isCode c || P c) = true) (h2 : ∀ c ∈ L.filter isCode, P c = true) : L.all P = true := by
  refine List.all_eq_true.mpr fun c hc => ?_
  have h := List.all_eq_true.mp h1 c hc
  rcases Bool.eq_false_or_eq_true (isCode c) with hi | hi
  · exact h2 c (List.mem_filter.mpr ⟨hc, hi⟩)
  · simpa [hi] using h
set_option maxRecDepth 65536 in
theorem w_c0 : (Jvm.Cond.code x code maxLocals ret).before args0 about1 = true := code_word (m := ⟨1, 1⟩) (meth := k1m1) (c := k1c1) (by decide +kernel) rfl rfl rfl (by decide +kernel)
set_option maxRecDepth 65536 in
theorem w_c1 : (Jvm.Cond.code ({ cls := "com/example/database_mutex/databasemutex/cli/Workload$Outcome", name := "<init>", desc := "(Ljava/lang/String;JJJJJJLjava/util/Optional;)V" } : Jvm.MethodName) prog_48_method_1_code (15 : Nat) (Option.none : Option Jvm.ClassFile.FieldType)).before args0 about1 = true := code_word (m := ⟨3, 0⟩) (meth := k3m0) (c := k3c0) (by decide +kernel) rfl rfl rfl (by decide +kernel)
set_option maxRecDepth 65536 in
theorem w_c2 : (Jvm.Cond.code ({ cls := "java/lang/Record", name := "<init>", desc := "()V" } : Jvm.MethodName) jdk_30_method_1_code (1 : Nat) (Option.none : Option Jvm.ClassFile.FieldType)).before args0 about1 = true := code_word (m := ⟨2, 0⟩) (meth := k2m0) (c := k2c0) (by decide +kernel) rfl rfl rfl (by decide +kernel)
set_option maxRecDepth 65536 in
theorem w_c3 : (Jvm.Cond.code ({ cls := "java/lang/Object", name := "<init>", desc := "()V" } : Jvm.MethodName) object_method_1_code (1 : Nat) (Option.none : Option Jvm.ClassFile.FieldType)).before args0 about1 = true := code_word (m := ⟨0, 0⟩) (meth := k0m0) (c := k0c0) (by decide +kernel) rfl rfl rfl (by decide +kernel)
set_option maxRecDepth 65536 in
theorem w_c4 : (Jvm.Cond.code ({ cls := "com/example/database_mutex/databasemutex/cli/Workload$Outcome", name := "clean", desc := "()Z" } : Jvm.MethodName) prog_48_method_2_code (1 : Nat) (Option.some Jvm.ClassFile.FieldType.boolean)).before args0 about1 = true := code_word (m := ⟨3, 1⟩) (meth := k3m1) (c := k3c1) (by decide +kernel) rfl rfl rfl (by decide +kernel)
def codes1 : List Jvm.Cond := [Jvm.Cond.code x code maxLocals ret, Jvm.Cond.code ({ cls := "com/example/database_mutex/databasemutex/cli/Workload$Outcome", name := "<init>", desc := "(Ljava/lang/String;JJJJJJLjava/util/Optional;)V" } : Jvm.MethodName) prog_48_method_1_code (15 : Nat) (Option.none : Option Jvm.ClassFile.FieldType), Jvm.Cond.code ({ cls := "java/lang/Record", name := "<init>", desc := "()V" } : Jvm.MethodName) jdk_30_method_1_code (1 : Nat) (Option.none : Option Jvm.ClassFile.FieldType), Jvm.Cond.code ({ cls := "java/lang/Object", name := "<init>", desc := "()V" } : Jvm.MethodName) object_method_1_code (1 : Nat) (Option.none : Option Jvm.ClassFile.FieldType), Jvm.Cond.code ({ cls := "com/example/database_mutex/databasemutex/cli/Workload$Outcome", name := "clean", desc := "()Z" } : Jvm.MethodName) prog_48_method_2_code (1 : Nat) (Option.some Jvm.ClassFile.FieldType.boolean)]
set_option maxRecDepth 65536 in
theorem codes_eq : words1.filter isCode = codes1 := rfl
theorem w_codes : ∀ c ∈ words1.filter isCode, c.before args0 about1 = true := by
  rw [codes_eq]
  intro c hc
  simp only [codes1, List.mem_cons, List.not_mem_nil, or_false] at hc
  rcases hc with rfl | rfl | rfl | rfl | rfl
  · exact w_c0
  · exact w_c1
  · exact w_c2
  · exact w_c3
  · exact w_c4
set_option maxRecDepth 65536 in
theorem w_t1 : (words1.take 24).all (fun c => isCode c || c.before args0 about1) = true := by decide +kernel
set_option maxRecDepth 65536 in
theorem w_t2 : (words1.drop 24).all (fun c => isCode c || c.before args0 about1) = true := by decide +kernel
theorem w_tables : (allAtoms (Jvm.Cond.code x code maxLocals ret :: tables_1)).before args0 about1 = true := by
  rw [allAtoms_all]
  show words1.all (fun c => c.before args0 about1) = true
  refine all_split ?_ w_codes
  rw [← List.take_append_drop 24 words1, List.all_append, w_t1, w_t2]
  rfl
set_option maxRecDepth 65536 in
theorem w_case : (Jvm.Cond.and given_1 narrow_1).before args0 about1 = true := by decide +kernel
theorem w_applies : (headSpec (Jvm.Cond.code x code maxLocals ret :: tables_1) room_1).applies x e0.platform about1 = true :=
  (Spec.applies_iff w_frames).mpr ⟨w_running, w_runnable, w_alone, w_named, w_hears, w_ripe, w_room, w_tables⟩
theorem atStart : AtStart classFile x code maxLocals ret World_1 tables_1 room_1 Calls_1 rest_1 Pre_1 launch0 p0 e0 about1 theMethod args0 below0 :=
  ⟨lists_1, trivial, launch0.admits_env _ _ _, launch0.least_env, fairChoices_fair.cas, fairChoices_fair.clock, w_frames, w_args, w_heap, w_applies, trivial, trivial, w_case⟩
end start1
theorem witness_1 : WitnessClaimed_1 := ⟨start1.p0, start1.e0, start1.about1, start1.theMethod, start1.args0, start1.below0, start1.atStart⟩
end Jvm.Pilot.@@N@@
