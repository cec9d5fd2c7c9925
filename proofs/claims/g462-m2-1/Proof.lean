import JvmDerived
import JvmDerived.Pilot.@@N@@Statement
import JvmDerived.Pilot.@@N@@Code
set_option linter.unusedVariables false
set_option linter.unusedSimpArgs false
namespace Jvm.Pilot.@@N@@
open Jvm Jvm.ClassFile Sem Op Lib Jvm.Free Jvm.Stand Jvm.LawKit Jvm.RoadKit Bundle Jvm.Pilot.@@N@@.Jvm.D
theorem own_w {a0 : Array Value} {Z : State} (hw : ∀ d ∈ tables_1, d.before a0 Z = true) (i : Nat) {d : Jvm.Cond} (h : tables_1[i]? = some d) : d.before a0 Z = true := hw _ (List.mem_of_getElem? h)
abbrev oS (p : Program) (e : Env) (b : List Frame) (T : State) (m : MethodId) (pc : Nat) (L : Array Slot) (S : List Value) (t : State) : Prop := Steps p.tables e b (T.setTop (mkF m pc L S)) t
abbrev lv (x : Int64) : Slot := .val (.long x)
theorem own_join {α : Type} {p : Program} {l : Launch} {e : Env} {R : Room} {s : State} {m : MethodId} {args : Array Value} {below : List Frame} {meth : Method} {c : Code} {T : State} {locs : List Loc} {cells slots n0 : Nat} {h : Heap}
    (_ : Stand p l e R s m args below meth c T locs cells slots) (_ : Fr n0 locs) (_ : T.heap = h) (A : JFrame) (B : α → JFrame) (P : α → Prop)
    (k : ∃ (v : α) (T' : State) (locs' : List Loc), P v ∧ Fr n0 locs' ∧ Stand p l e R s m args below meth c T' locs' cells slots ∧ T'.heap = h ∧ ∀ t, Steps p.tables e below (T'.setTop (B v)) t → Steps p.tables e below (T.setTop A) t) :
    ∃ (v : α) (T' : State) (locs' : List Loc), P v ∧ Fr n0 locs' ∧ Stand p l e R s m args below meth c T' locs' cells slots ∧ T'.heap = h ∧ ∀ t, Steps p.tables e below (T'.setTop (B v)) t → Steps p.tables e below (T.setTop A) t := k
theorem own_joinH {α : Type} {p : Program} {l : Launch} {e : Env} {R : Room} {s : State} {m : MethodId} {args : Array Value} {below : List Frame} {meth : Method} {c : Code} {T : State} {locs : List Loc} {cells slots n0 : Nat} {h : Heap}
    (_ : Stand p l e R s m args below meth c T locs cells slots) (_ : Fr n0 locs) (_ : T.heap = h) (A : JFrame) (B : α → JFrame) (P : α → Heap → Prop)
    (k : ∃ (v : α) (T' : State) (h' : Heap) (locs' : List Loc), P v h' ∧ Fr n0 locs' ∧ Stand p l e R s m args below meth c T' locs' cells slots ∧ T'.heap = h' ∧ ∀ t, Steps p.tables e below (T'.setTop (B v)) t → Steps p.tables e below (T.setTop A) t) :
    ∃ (v : α) (T' : State) (h' : Heap) (locs' : List Loc), P v h' ∧ Fr n0 locs' ∧ Stand p l e R s m args below meth c T' locs' cells slots ∧ T'.heap = h' ∧ ∀ t, Steps p.tables e below (T'.setTop (B v)) t → Steps p.tables e below (T.setTop A) t := k
theorem own_selp {s Z : State} {a0 args : Array Value} {y : MethodName} {n : Nat} (hZ : Z.Warmed39 s.vm) (wi : (Cond.instantiable y.cls n).before a0 Z = true) (wp : (Cond.privateMethod y).before a0 Z = true) (wm : (Cond.instanceMethod y).before a0 Z = true)
    (hy : y.cls ≠ "java/lang/invoke/MethodHandle" ∧ y.cls ≠ "java/lang/invoke/VarHandle") : (Cond.selects y.cls y y).before args s = true := by
  have wi' : (Cond.instantiable y.cls n).before args s = true := mvT hZ wi
  obtain ⟨c, k, h1, h2, h3, h4, -⟩ := Cond.instantiable_spec wi'
  exact Stand.selects_self_of_private h1 h2 (Bool.or_eq_false_iff.mp h4).1 (Cond.privateMethod_at (mvP hZ wp (args := #[]))) (mvT hZ wm) hy
theorem own_or0 (a b : Int64) : a ||| b = 0 ↔ a = 0 ∧ b = 0 := by
  rw [← Int64.toBitVec_inj, ← Int64.toBitVec_inj, ← Int64.toBitVec_inj, Int64.toBitVec_or]
  show a.toBitVec ||| b.toBitVec = 0#64 ↔ a.toBitVec = 0#64 ∧ b.toBitVec = 0#64
  exact BitVec.or_eq_zero_iff
theorem own_law (a b c : Int64) : (if a = (0 : Int64) then (if b = (0 : Int64) then (if c = (0 : Int64) then (1 : Int32) else (0 : Int32)) else (0 : Int32)) else (0 : Int32)) = (if ((a ||| b) ||| c) = (0 : Int64) then (1 : Int32) else (0 : Int32)) := by
  by_cases h1 : a = 0 <;> by_cases h2 : b = 0 <;> by_cases h3 : c = 0 <;> simp [own_or0, h1, h2, h3]
theorem d2_0 : decode jdk_30_method_1_code 0 = .ok (.aload_n 0, 1) := by decide +kernel
theorem d2_1 : decode jdk_30_method_1_code 1 = .ok (.invokespecial 1, 3) := by decide +kernel
theorem d2_4 : decode jdk_30_method_1_code 4 = .ok (.return_, 1) := by decide +kernel
theorem own_pn0 : plainName "java/lang/Record" = true := by first | (simp [plainName, overriddenIn]; done) | decide +kernel
theorem ef2 (m : MethodId) (o : Addr) : entryFrame m #[(.ref o)] 1 = mkF m 0 #[rv o] [] := by first | (simp [entryFrame, mkF, argsToLocals, Value.category]; done) | rfl
def Q2 (Z : State) (o : Addr) (h0 : Heap) (n0 : Nat) (v : Option Value) (h : Heap) (L : List Loc) : Prop := v = none ∧ Fr n0 L ∧ h = h0
set_option maxRecDepth 65536 in
set_option maxHeartbeats 40000000 in
theorem rm2 (l : Launch) (Z : State) (a0 : Array Value) (hw : ∀ d ∈ tables_1, d.before a0 Z = true) (ws : List Jvm.Cond) (o : Addr) (h0 : Heap) (n0 : Nat) (Z0 : n0 ≤ h0.size) :
    MetFree l (⟨"java/lang/Record", "<init>", "()V"⟩ : MethodName) (head1 (Jvm.Cond.code (⟨"java/lang/Record", "<init>", "()V"⟩ : MethodName) jdk_30_method_1_code 1 none :: ws) ({ frames := 1, cells := 0, slots := 0, locals := 12 } : Room)) (fun a U => a = #[(.ref o)] ∧ Z.Warmed39 U.vm ∧ U.heap = h0) (fun _ _ _ _ _ => True) (fun _ U oc U' => ∃ v L, oc = .returned v ∧ Q2 Z o h0 n0 v U'.heap L ∧ FrameEnd U oc U' L ({ frames := 1, cells := 0, slots := 0, locals := 12 } : Room).cells ({ frames := 1, cells := 0, slots := 0, locals := 12 } : Room).slots) := by
  refine MetFree.of_bodySF (plainFor_of_name own_pn0) hisR ?_
  intro p e s m args below meth c s₁ Bd hml0 hP hK
  obtain ⟨rfl, hZ, hh⟩ := hP
  have hx := Bd.exec
  have hby := Bd.bytes
  have hml : c.maxLocals = 1 := hml0
  have hown : s.vm.findClass "java/lang/Record" = some m.cls := findClass_of_methodNamed Bd.named
  have hnm := (name_of_methodNamed Bd.named Bd.method).1
  have X0 : Stand p l e ({ frames := 1, cells := 0, slots := 0, locals := 12 } : Room) s m #[(.ref o)] below meth c s₁ [] 0 0 := Stand.of_body Bd
  have e0 : s₁.heap = h0 := by rw [← hh, Bd.state]; rfl
  have N0 := Fr.nil n0
  have pre0 : ∀ t, Steps p.tables e below (s₁.setTop (mkF m 0 #[rv o] [])) t → Steps p.tables e below (s₁.setTop (entryFrame m #[(.ref o)] 1)) t := fun t k => castTop (ef2 m o) k
  obtain ⟨T1, X1, e1, st1⟩ := initO X0 hx hZ hown (own_w hw 11 rfl) (own_w hw 12 rfl) (own_w hw 13 rfl) e0 (g := (mkF m 1 #[rv o] [(.ref o)])) rfl (by rw [hml]; rfl) rfl (hb hby d2_1) (by decide) (W := 0) (by show 2 * 0 + _ ≤ _; exact Nat.le_of_eq rfl) (by decide)
  have pre2 : ∀ tz, oS p e below T1 m 4 #[rv o] [] tz → oS p e below s₁ m 0 #[rv o] [] tz := fun tz kt => by
    show oS p e below s₁ m 0 #[rv o] [] _
    refine XS.aloadN X0.here hx rfl (hb hby d2_0) rfl rfl ?_
    show oS p e below s₁ m 1 #[rv o] [(.ref o)] _
    refine st1 _ ?_
    exact kt
  obtain ⟨fs, hr, hrun, hended, hW, hsame⟩ := X1.leave (v := none) (fun _ => rfl)
  refine ⟨_, _, pre0 _ (pre2 _ ?_), hrun, hended, _, _, rfl, ?_, ⟨_, rfl⟩, hW, hsame.mono (by decide) (by decide)⟩
  · show oS p e below T1 m 4 #[rv o] [] _
    exact X1.returnOut hx Bd.returns (hb hby d2_4) hr
  · show Q2 Z o h0 n0 _ T1.heap _
    rw [e1]
    exact ⟨rfl, N0, rfl⟩
theorem own_pd0 : parseMethodDescriptor "()V" = some ⟨[], none⟩ := by decide +kernel
theorem d1_0 : decode prog_100_method_1_code 0 = .ok (.aload_n 0, 1) := by decide +kernel
theorem d1_1 : decode prog_100_method_1_code 1 = .ok (.invokespecial 1, 3) := by decide +kernel
theorem d1_4 : decode prog_100_method_1_code 4 = .ok (.aload_n 0, 1) := by decide +kernel
theorem d1_5 : decode prog_100_method_1_code 5 = .ok (.lload_n 1, 1) := by decide +kernel
theorem d1_6 : decode prog_100_method_1_code 6 = .ok (.putfield 7, 3) := by decide +kernel
theorem d1_9 : decode prog_100_method_1_code 9 = .ok (.aload_n 0, 1) := by decide +kernel
theorem d1_10 : decode prog_100_method_1_code 10 = .ok (.lload_n 3, 1) := by decide +kernel
theorem d1_11 : decode prog_100_method_1_code 11 = .ok (.putfield 13, 3) := by decide +kernel
theorem d1_14 : decode prog_100_method_1_code 14 = .ok (.aload_n 0, 1) := by decide +kernel
theorem d1_15 : decode prog_100_method_1_code 15 = .ok (.lload 5, 2) := by decide +kernel
theorem d1_17 : decode prog_100_method_1_code 17 = .ok (.putfield 16, 3) := by decide +kernel
theorem d1_20 : decode prog_100_method_1_code 20 = .ok (.aload_n 0, 1) := by decide +kernel
theorem d1_21 : decode prog_100_method_1_code 21 = .ok (.lload 7, 2) := by decide +kernel
theorem d1_23 : decode prog_100_method_1_code 23 = .ok (.putfield 19, 3) := by decide +kernel
theorem d1_26 : decode prog_100_method_1_code 26 = .ok (.aload_n 0, 1) := by decide +kernel
theorem d1_27 : decode prog_100_method_1_code 27 = .ok (.lload 9, 2) := by decide +kernel
theorem d1_29 : decode prog_100_method_1_code 29 = .ok (.putfield 22, 3) := by decide +kernel
theorem d1_32 : decode prog_100_method_1_code 32 = .ok (.return_, 1) := by decide +kernel
theorem own_pn1 : plainName "com/example/lockstep/lockstep/TokenCounts" = true := by first | (simp [plainName, overriddenIn]; done) | decide +kernel
theorem ef1 (m : MethodId) (o : Addr) (x1 : Int64) (x2 : Int64) (x3 : Int64) (x4 : Int64) (x5 : Int64) : entryFrame m #[(.ref o), (.long x1), (.long x2), (.long x3), (.long x4), (.long x5)] 11 = mkF m 0 #[rv o, lv x1, .second, lv x2, .second, lv x3, .second, lv x4, .second, lv x5, .second] [] := by first | (simp [entryFrame, mkF, argsToLocals, Value.category]; done) | rfl
def Q1 (Z : State) (o : Addr) (x1 : Int64) (x2 : Int64) (x3 : Int64) (x4 : Int64) (x5 : Int64) (w_missing_o : Value) (w_consumed_o : Value) (w_remaining_o : Value) (w_produced_o : Value) (w_unmatchedEvents_o : Value) (h0 : Heap) (n0 : Nat) (v : Option Value) (h : Heap) (L : List Loc) : Prop := v = none ∧ Fr n0 L ∧ Keep h0 h [o] ∧ Exa Z h o "com/example/lockstep/lockstep/TokenCounts" ∧ Fld Z h o "com/example/lockstep/lockstep/TokenCounts" "missing" "J" (.long x1) ∧ Fld Z h o "com/example/lockstep/lockstep/TokenCounts" "consumed" "J" (.long x2) ∧ Fld Z h o "com/example/lockstep/lockstep/TokenCounts" "remaining" "J" (.long x3) ∧ Fld Z h o "com/example/lockstep/lockstep/TokenCounts" "produced" "J" (.long x4) ∧ Fld Z h o "com/example/lockstep/lockstep/TokenCounts" "unmatchedEvents" "J" (.long x5)
set_option maxRecDepth 65536 in
set_option maxHeartbeats 40000000 in
theorem rm1 (l : Launch) (Z : State) (a0 : Array Value) (hw : ∀ d ∈ tables_1, d.before a0 Z = true) (ws : List Jvm.Cond) (o : Addr) (x1 : Int64) (x2 : Int64) (x3 : Int64) (x4 : Int64) (x5 : Int64) (w_missing_o : Value) (w_consumed_o : Value) (w_remaining_o : Value) (w_produced_o : Value) (w_unmatchedEvents_o : Value) (h0 : Heap) (n0 : Nat) (Z0 : n0 ≤ h0.size) (E_o : Exa Z h0 o "com/example/lockstep/lockstep/TokenCounts") (F_missing_o : Fld Z h0 o "com/example/lockstep/lockstep/TokenCounts" "missing" "J" w_missing_o) (g_o : n0 ≤ o) (F_consumed_o : Fld Z h0 o "com/example/lockstep/lockstep/TokenCounts" "consumed" "J" w_consumed_o) (F_remaining_o : Fld Z h0 o "com/example/lockstep/lockstep/TokenCounts" "remaining" "J" w_remaining_o) (F_produced_o : Fld Z h0 o "com/example/lockstep/lockstep/TokenCounts" "produced" "J" w_produced_o) (F_unmatchedEvents_o : Fld Z h0 o "com/example/lockstep/lockstep/TokenCounts" "unmatchedEvents" "J" w_unmatchedEvents_o) :
    MetFree l (⟨"com/example/lockstep/lockstep/TokenCounts", "<init>", "(JJJJJ)V"⟩ : MethodName) (head1 (Jvm.Cond.code (⟨"com/example/lockstep/lockstep/TokenCounts", "<init>", "(JJJJJ)V"⟩ : MethodName) prog_100_method_1_code 11 none :: ws) ({ frames := 2, cells := 0, slots := 0, locals := 24 } : Room)) (fun a U => a = #[(.ref o), (.long x1), (.long x2), (.long x3), (.long x4), (.long x5)] ∧ Z.Warmed39 U.vm ∧ U.heap = h0) (fun _ _ _ _ _ => True) (fun _ U oc U' => ∃ v L, oc = .returned v ∧ Q1 Z o x1 x2 x3 x4 x5 w_missing_o w_consumed_o w_remaining_o w_produced_o w_unmatchedEvents_o h0 n0 v U'.heap L ∧ FrameEnd U oc U' L ({ frames := 2, cells := 0, slots := 0, locals := 24 } : Room).cells ({ frames := 2, cells := 0, slots := 0, locals := 24 } : Room).slots) := by
  refine MetFree.of_bodySF (plainFor_of_name own_pn1) hisR ?_
  intro p e s m args below meth c s₁ Bd hml0 hP hK
  obtain ⟨rfl, hZ, hh⟩ := hP
  have hx := Bd.exec
  have hby := Bd.bytes
  have hml : c.maxLocals = 11 := hml0
  have hown : s.vm.findClass "com/example/lockstep/lockstep/TokenCounts" = some m.cls := findClass_of_methodNamed Bd.named
  have hnm := (name_of_methodNamed Bd.named Bd.method).1
  have X0 : Stand p l e ({ frames := 2, cells := 0, slots := 0, locals := 24 } : Room) s m #[(.ref o), (.long x1), (.long x2), (.long x3), (.long x4), (.long x5)] below meth c s₁ [] 0 0 := Stand.of_body Bd
  have e0 : s₁.heap = h0 := by rw [← hh, Bd.state]; rfl
  have N0 := Fr.nil n0
  have pre0 : ∀ t, Steps p.tables e below (s₁.setTop (mkF m 0 #[rv o, lv x1, .second, lv x2, .second, lv x3, .second, lv x4, .second, lv x5, .second] [])) t → Steps p.tables e below (s₁.setTop (entryFrame m #[(.ref o), (.long x1), (.long x2), (.long x3), (.long x4), (.long x5)] 11)) t := fun t k => castTop (ef1 m o x1 x2 x3 x4 x5) k
  obtain ⟨_, _, ⟨T1, Lw1, kw1, nw1⟩, -, X1, ⟨Lc1, hQ1, l1, y1, z1⟩, st1⟩ := X0.specialBack hx (y := (⟨"java/lang/Record", "<init>", "()V"⟩ : MethodName)) rfl hown (mvT hZ (own_w hw 6 rfl)) (mvT hZ (own_w hw 7 rfl)) (mvT hZ (own_w hw 10 rfl)) (by decide) (backOf (W := 0) (rm2 l Z a0 hw [] o h0 n0 Z0 ) hZ (own_w hw 10 rfl) (own_w hw 9 rfl) (by decide) (by decide)) (g := (mkF m 1 #[rv o, lv x1, .second, lv x2, .second, lv x3, .second, lv x4, .second, lv x5, .second] [(.ref o)])) rfl (by rw [hml]; rfl) (Steps.refl _) (a := o) (argsL := []) (rest := []) (lenOf own_pd0 rfl) rfl (by show 2 * 0 + _ ≤ _; exact Nat.le_of_eq rfl) (hb hby d1_1) (fun _ _ => ⟨rfl, e0, (by decide : 0 + 0 ≤ _), (by decide : 0 + 0 ≤ _)⟩)
  dsimp only [Pt.U, Pt.locs, Pt.cells, Pt.slots] at X1 l1 y1 z1 st1 hQ1
  subst l1 y1 z1
  obtain ⟨rfl, Nq1, eh1⟩ := hQ1
  have N1 := Fr.app N0 Nq1
  obtain ⟨T2, h2, X2, e2, W2, st2⟩ := putF X1 hx hZ hown (host := "") (Or.inl (own_w hw 14 rfl)) Via.refl eh1 F_missing_o E_o (Or.inr ⟨(own_w hw 15 rfl), rfl, hnm⟩) (own_w hw 1 rfl) (ty := .long) (by decide) rfl rfl (g := (mkF m 6 #[rv o, lv x1, .second, lv x2, .second, lv x3, .second, lv x4, .second, lv x5, .second] [(.long x1), (.ref o)])) rfl rfl (hb hby d1_6)
  have Fw2 : Fld Z h2 o "com/example/lockstep/lockstep/TokenCounts" "missing" "J" (.long x1) := F_missing_o.same W2
  have N2 := Fr.snoc X2 N1 g_o
  have Ec3 : Exa Z h2 o "com/example/lockstep/lockstep/TokenCounts" := (E_o.wr W2)
  have Fc4 : Fld Z h2 o "com/example/lockstep/lockstep/TokenCounts" "consumed" "J" w_consumed_o := (F_consumed_o.other W2 (Or.inr (slot_ne (Or.inr (own_w hw 17 rfl)) (Or.inr (own_w hw 15 rfl)) (by decide) (t := .long) (t' := .long) (by decide) (by decide))))
  obtain ⟨T5, h5, X5, e5, W5, st5⟩ := putF X2 hx hZ hown (host := "") (Or.inl (own_w hw 16 rfl)) Via.refl e2 Fc4 Ec3 (Or.inr ⟨(own_w hw 17 rfl), rfl, hnm⟩) (own_w hw 1 rfl) (ty := .long) (by decide) rfl rfl (g := (mkF m 11 #[rv o, lv x1, .second, lv x2, .second, lv x3, .second, lv x4, .second, lv x5, .second] [(.long x2), (.ref o)])) rfl rfl (hb hby d1_11)
  have Fw5 : Fld Z h5 o "com/example/lockstep/lockstep/TokenCounts" "consumed" "J" (.long x2) := Fc4.same W5
  have N5 := Fr.snoc X5 N2 g_o
  have Ec6 : Exa Z h5 o "com/example/lockstep/lockstep/TokenCounts" := (Ec3.wr W5)
  have Fc7 : Fld Z h5 o "com/example/lockstep/lockstep/TokenCounts" "remaining" "J" w_remaining_o := ((F_remaining_o.other W2 (Or.inr (slot_ne (Or.inr (own_w hw 19 rfl)) (Or.inr (own_w hw 15 rfl)) (by decide) (t := .long) (t' := .long) (by decide) (by decide)))).other W5 (Or.inr (slot_ne (Or.inr (own_w hw 19 rfl)) (Or.inr (own_w hw 17 rfl)) (by decide) (t := .long) (t' := .long) (by decide) (by decide))))
  obtain ⟨T8, h8, X8, e8, W8, st8⟩ := putF X5 hx hZ hown (host := "") (Or.inl (own_w hw 18 rfl)) Via.refl e5 Fc7 Ec6 (Or.inr ⟨(own_w hw 19 rfl), rfl, hnm⟩) (own_w hw 1 rfl) (ty := .long) (by decide) rfl rfl (g := (mkF m 17 #[rv o, lv x1, .second, lv x2, .second, lv x3, .second, lv x4, .second, lv x5, .second] [(.long x3), (.ref o)])) rfl rfl (hb hby d1_17)
  have Fw8 : Fld Z h8 o "com/example/lockstep/lockstep/TokenCounts" "remaining" "J" (.long x3) := Fc7.same W8
  have N8 := Fr.snoc X8 N5 g_o
  have Ec9 : Exa Z h8 o "com/example/lockstep/lockstep/TokenCounts" := (Ec6.wr W8)
  have Fc10 : Fld Z h8 o "com/example/lockstep/lockstep/TokenCounts" "produced" "J" w_produced_o := (((F_produced_o.other W2 (Or.inr (slot_ne (Or.inr (own_w hw 21 rfl)) (Or.inr (own_w hw 15 rfl)) (by decide) (t := .long) (t' := .long) (by decide) (by decide)))).other W5 (Or.inr (slot_ne (Or.inr (own_w hw 21 rfl)) (Or.inr (own_w hw 17 rfl)) (by decide) (t := .long) (t' := .long) (by decide) (by decide)))).other W8 (Or.inr (slot_ne (Or.inr (own_w hw 21 rfl)) (Or.inr (own_w hw 19 rfl)) (by decide) (t := .long) (t' := .long) (by decide) (by decide))))
  obtain ⟨T11, h11, X11, e11, W11, st11⟩ := putF X8 hx hZ hown (host := "") (Or.inl (own_w hw 20 rfl)) Via.refl e8 Fc10 Ec9 (Or.inr ⟨(own_w hw 21 rfl), rfl, hnm⟩) (own_w hw 1 rfl) (ty := .long) (by decide) rfl rfl (g := (mkF m 23 #[rv o, lv x1, .second, lv x2, .second, lv x3, .second, lv x4, .second, lv x5, .second] [(.long x4), (.ref o)])) rfl rfl (hb hby d1_23)
  have Fw11 : Fld Z h11 o "com/example/lockstep/lockstep/TokenCounts" "produced" "J" (.long x4) := Fc10.same W11
  have N11 := Fr.snoc X11 N8 g_o
  have Ec12 : Exa Z h11 o "com/example/lockstep/lockstep/TokenCounts" := (Ec9.wr W11)
  have Fc13 : Fld Z h11 o "com/example/lockstep/lockstep/TokenCounts" "unmatchedEvents" "J" w_unmatchedEvents_o := ((((F_unmatchedEvents_o.other W2 (Or.inr (slot_ne (Or.inr (own_w hw 23 rfl)) (Or.inr (own_w hw 15 rfl)) (by decide) (t := .long) (t' := .long) (by decide) (by decide)))).other W5 (Or.inr (slot_ne (Or.inr (own_w hw 23 rfl)) (Or.inr (own_w hw 17 rfl)) (by decide) (t := .long) (t' := .long) (by decide) (by decide)))).other W8 (Or.inr (slot_ne (Or.inr (own_w hw 23 rfl)) (Or.inr (own_w hw 19 rfl)) (by decide) (t := .long) (t' := .long) (by decide) (by decide)))).other W11 (Or.inr (slot_ne (Or.inr (own_w hw 23 rfl)) (Or.inr (own_w hw 21 rfl)) (by decide) (t := .long) (t' := .long) (by decide) (by decide))))
  obtain ⟨T14, h14, X14, e14, W14, st14⟩ := putF X11 hx hZ hown (host := "") (Or.inl (own_w hw 22 rfl)) Via.refl e11 Fc13 Ec12 (Or.inr ⟨(own_w hw 23 rfl), rfl, hnm⟩) (own_w hw 1 rfl) (ty := .long) (by decide) rfl rfl (g := (mkF m 29 #[rv o, lv x1, .second, lv x2, .second, lv x3, .second, lv x4, .second, lv x5, .second] [(.long x5), (.ref o)])) rfl rfl (hb hby d1_29)
  have Fw14 : Fld Z h14 o "com/example/lockstep/lockstep/TokenCounts" "unmatchedEvents" "J" (.long x5) := Fc13.same W14
  have N14 := Fr.snoc X14 N11 g_o
  have pre15 : ∀ tz, oS p e below T14 m 32 #[rv o, lv x1, .second, lv x2, .second, lv x3, .second, lv x4, .second, lv x5, .second] [] tz → oS p e below s₁ m 0 #[rv o, lv x1, .second, lv x2, .second, lv x3, .second, lv x4, .second, lv x5, .second] [] tz := fun tz kt => by
    show oS p e below s₁ m 0 #[rv o, lv x1, .second, lv x2, .second, lv x3, .second, lv x4, .second, lv x5, .second] [] _
    refine XS.aloadN X0.here hx rfl (hb hby d1_0) rfl rfl ?_
    show oS p e below s₁ m 1 #[rv o, lv x1, .second, lv x2, .second, lv x3, .second, lv x4, .second, lv x5, .second] [(.ref o)] _
    refine st1.trans ?_
    refine XS.aloadN X1.here hx rfl (hb hby d1_4) rfl rfl ?_
    refine XS.lloadN X1.here hx rfl (hb hby d1_5) rfl ?_
    show oS p e below T1 m 6 #[rv o, lv x1, .second, lv x2, .second, lv x3, .second, lv x4, .second, lv x5, .second] [(.long x1), (.ref o)] _
    refine st2 _ ?_
    refine XS.aloadN X2.here hx rfl (hb hby d1_9) rfl rfl ?_
    refine XS.lloadN X2.here hx rfl (hb hby d1_10) rfl ?_
    show oS p e below T2 m 11 #[rv o, lv x1, .second, lv x2, .second, lv x3, .second, lv x4, .second, lv x5, .second] [(.long x2), (.ref o)] _
    refine st5 _ ?_
    refine XS.aloadN X5.here hx rfl (hb hby d1_14) rfl rfl ?_
    refine XS.lload X5.here hx rfl (hb hby d1_15) rfl ?_
    show oS p e below T5 m 17 #[rv o, lv x1, .second, lv x2, .second, lv x3, .second, lv x4, .second, lv x5, .second] [(.long x3), (.ref o)] _
    refine st8 _ ?_
    refine XS.aloadN X8.here hx rfl (hb hby d1_20) rfl rfl ?_
    refine XS.lload X8.here hx rfl (hb hby d1_21) rfl ?_
    show oS p e below T8 m 23 #[rv o, lv x1, .second, lv x2, .second, lv x3, .second, lv x4, .second, lv x5, .second] [(.long x4), (.ref o)] _
    refine st11 _ ?_
    refine XS.aloadN X11.here hx rfl (hb hby d1_26) rfl rfl ?_
    refine XS.lload X11.here hx rfl (hb hby d1_27) rfl ?_
    show oS p e below T11 m 29 #[rv o, lv x1, .second, lv x2, .second, lv x3, .second, lv x4, .second, lv x5, .second] [(.long x5), (.ref o)] _
    refine st14 _ ?_
    exact kt
  have Ec16 : Exa Z h14 o "com/example/lockstep/lockstep/TokenCounts" := (Ec12.wr W14)
  have KP17 : Keep h0 h14 [o] := ((((((Keep.refl h0 [o]).wr W2 (Or.inl (List.mem_of_getElem? (i := 0) rfl))).wr W5 (Or.inl (List.mem_of_getElem? (i := 0) rfl))).wr W8 (Or.inl (List.mem_of_getElem? (i := 0) rfl))).wr W11 (Or.inl (List.mem_of_getElem? (i := 0) rfl))).wr W14 (Or.inl (List.mem_of_getElem? (i := 0) rfl)))
  have Fc18 : Fld Z h14 o "com/example/lockstep/lockstep/TokenCounts" "missing" "J" (.long x1) := ((((Fw2.other W5 (Or.inr (slot_ne (Or.inr (own_w hw 15 rfl)) (Or.inr (own_w hw 17 rfl)) (by decide) (t := .long) (t' := .long) (by decide) (by decide)))).other W8 (Or.inr (slot_ne (Or.inr (own_w hw 15 rfl)) (Or.inr (own_w hw 19 rfl)) (by decide) (t := .long) (t' := .long) (by decide) (by decide)))).other W11 (Or.inr (slot_ne (Or.inr (own_w hw 15 rfl)) (Or.inr (own_w hw 21 rfl)) (by decide) (t := .long) (t' := .long) (by decide) (by decide)))).other W14 (Or.inr (slot_ne (Or.inr (own_w hw 15 rfl)) (Or.inr (own_w hw 23 rfl)) (by decide) (t := .long) (t' := .long) (by decide) (by decide))))
  have Fc19 : Fld Z h14 o "com/example/lockstep/lockstep/TokenCounts" "consumed" "J" (.long x2) := (((Fw5.other W8 (Or.inr (slot_ne (Or.inr (own_w hw 17 rfl)) (Or.inr (own_w hw 19 rfl)) (by decide) (t := .long) (t' := .long) (by decide) (by decide)))).other W11 (Or.inr (slot_ne (Or.inr (own_w hw 17 rfl)) (Or.inr (own_w hw 21 rfl)) (by decide) (t := .long) (t' := .long) (by decide) (by decide)))).other W14 (Or.inr (slot_ne (Or.inr (own_w hw 17 rfl)) (Or.inr (own_w hw 23 rfl)) (by decide) (t := .long) (t' := .long) (by decide) (by decide))))
  have Fc20 : Fld Z h14 o "com/example/lockstep/lockstep/TokenCounts" "remaining" "J" (.long x3) := ((Fw8.other W11 (Or.inr (slot_ne (Or.inr (own_w hw 19 rfl)) (Or.inr (own_w hw 21 rfl)) (by decide) (t := .long) (t' := .long) (by decide) (by decide)))).other W14 (Or.inr (slot_ne (Or.inr (own_w hw 19 rfl)) (Or.inr (own_w hw 23 rfl)) (by decide) (t := .long) (t' := .long) (by decide) (by decide))))
  have Fc21 : Fld Z h14 o "com/example/lockstep/lockstep/TokenCounts" "produced" "J" (.long x4) := (Fw11.other W14 (Or.inr (slot_ne (Or.inr (own_w hw 21 rfl)) (Or.inr (own_w hw 23 rfl)) (by decide) (t := .long) (t' := .long) (by decide) (by decide))))
  obtain ⟨fs, hr, hrun, hended, hW, hsame⟩ := X14.leave (v := none) (fun _ => rfl)
  refine ⟨_, _, pre0 _ (pre15 _ ?_), hrun, hended, _, _, rfl, ?_, ⟨_, rfl⟩, hW, hsame.mono (by decide) (by decide)⟩
  · show oS p e below T14 m 32 #[rv o, lv x1, .second, lv x2, .second, lv x3, .second, lv x4, .second, lv x5, .second] [] _
    exact X14.returnOut hx Bd.returns (hb hby d1_32) hr
  · show Q1 Z o x1 x2 x3 x4 x5 w_missing_o w_consumed_o w_remaining_o w_produced_o w_unmatchedEvents_o h0 n0 _ T14.heap _
    rw [e14]
    exact ⟨rfl, N14, KP17, Ec16, Fc18, Fc19, Fc20, Fc21, Fw14⟩
theorem d4_0 : decode prog_100_method_3_code 0 = .ok (.aload_n 0, 1) := by decide +kernel
theorem d4_1 : decode prog_100_method_3_code 1 = .ok (.getfield 7, 3) := by decide +kernel
theorem d4_4 : decode prog_100_method_3_code 4 = .ok (.lconst 0, 1) := by decide +kernel
theorem d4_5 : decode prog_100_method_3_code 5 = .ok (.lcmp, 1) := by decide +kernel
theorem d4_6 : decode prog_100_method_3_code 6 = .ok (.ifCond .ne 25, 3) := by decide +kernel
theorem d4_9 : decode prog_100_method_3_code 9 = .ok (.aload_n 0, 1) := by decide +kernel
theorem d4_10 : decode prog_100_method_3_code 10 = .ok (.getfield 16, 3) := by decide +kernel
theorem d4_13 : decode prog_100_method_3_code 13 = .ok (.lconst 0, 1) := by decide +kernel
theorem d4_14 : decode prog_100_method_3_code 14 = .ok (.lcmp, 1) := by decide +kernel
theorem d4_15 : decode prog_100_method_3_code 15 = .ok (.ifCond .ne 16, 3) := by decide +kernel
theorem d4_18 : decode prog_100_method_3_code 18 = .ok (.aload_n 0, 1) := by decide +kernel
theorem d4_19 : decode prog_100_method_3_code 19 = .ok (.getfield 22, 3) := by decide +kernel
theorem d4_22 : decode prog_100_method_3_code 22 = .ok (.lconst 0, 1) := by decide +kernel
theorem d4_23 : decode prog_100_method_3_code 23 = .ok (.lcmp, 1) := by decide +kernel
theorem d4_24 : decode prog_100_method_3_code 24 = .ok (.ifCond .ne 7, 3) := by decide +kernel
theorem d4_27 : decode prog_100_method_3_code 27 = .ok (.iconst 1, 1) := by decide +kernel
theorem d4_28 : decode prog_100_method_3_code 28 = .ok (.goto 4, 3) := by decide +kernel
theorem d4_31 : decode prog_100_method_3_code 31 = .ok (.iconst 0, 1) := by decide +kernel
theorem d4_32 : decode prog_100_method_3_code 32 = .ok (.ireturn, 1) := by decide +kernel
theorem ef4 (m : MethodId) (o : Addr) : entryFrame m #[(.ref o)] 1 = mkF m 0 #[rv o] [] := by first | (simp [entryFrame, mkF, argsToLocals, Value.category]; done) | rfl
def Q4 (Z : State) (o : Addr) (w_missing_o : Int64) (w_remaining_o : Int64) (w_unmatchedEvents_o : Int64) (h0 : Heap) (n0 : Nat) (v : Option Value) (h : Heap) (L : List Loc) : Prop := v = some (.int (if w_missing_o = (0 : Int64) then (if w_remaining_o = (0 : Int64) then (if w_unmatchedEvents_o = (0 : Int64) then (1 : Int32) else (0 : Int32)) else (0 : Int32)) else (0 : Int32))) ∧ Fr n0 L ∧ h = h0
set_option maxRecDepth 65536 in
set_option maxHeartbeats 40000000 in
theorem rm4 (l : Launch) (Z : State) (a0 : Array Value) (hw : ∀ d ∈ tables_1, d.before a0 Z = true) (ws : List Jvm.Cond) (o : Addr) (w_missing_o : Int64) (w_remaining_o : Int64) (w_unmatchedEvents_o : Int64) (h0 : Heap) (n0 : Nat) (Z0 : n0 ≤ h0.size) (F_missing_o : Fld Z h0 o "com/example/lockstep/lockstep/TokenCounts" "missing" "J" (.long w_missing_o)) (F_remaining_o : Fld Z h0 o "com/example/lockstep/lockstep/TokenCounts" "remaining" "J" (.long w_remaining_o)) (F_unmatchedEvents_o : Fld Z h0 o "com/example/lockstep/lockstep/TokenCounts" "unmatchedEvents" "J" (.long w_unmatchedEvents_o)) :
    MetFree l (⟨"com/example/lockstep/lockstep/TokenCounts", "fits", "()Z"⟩ : MethodName) (head1 (Jvm.Cond.code (⟨"com/example/lockstep/lockstep/TokenCounts", "fits", "()Z"⟩ : MethodName) prog_100_method_3_code 1 (some .boolean) :: ws) ({ frames := 0, cells := 0, slots := 0, locals := 0 } : Room)) (fun a U => a = #[(.ref o)] ∧ Z.Warmed39 U.vm ∧ U.heap = h0) (fun _ _ _ _ _ => True) (fun _ U oc U' => ∃ v L, oc = .returned v ∧ Q4 Z o w_missing_o w_remaining_o w_unmatchedEvents_o h0 n0 v U'.heap L ∧ FrameEnd U oc U' L ({ frames := 0, cells := 0, slots := 0, locals := 0 } : Room).cells ({ frames := 0, cells := 0, slots := 0, locals := 0 } : Room).slots) := by
  refine MetFree.of_bodySF (plainFor_of_name own_pn1) hisR ?_
  intro p e s m args below meth c s₁ Bd hml0 hP hK
  obtain ⟨rfl, hZ, hh⟩ := hP
  have hx := Bd.exec
  have hby := Bd.bytes
  have hml : c.maxLocals = 1 := hml0
  have hown : s.vm.findClass "com/example/lockstep/lockstep/TokenCounts" = some m.cls := findClass_of_methodNamed Bd.named
  have hnm := (name_of_methodNamed Bd.named Bd.method).1
  have X0 : Stand p l e ({ frames := 0, cells := 0, slots := 0, locals := 0 } : Room) s m #[(.ref o)] below meth c s₁ [] 0 0 := Stand.of_body Bd
  have e0 : s₁.heap = h0 := by rw [← hh, Bd.state]; rfl
  have N0 := Fr.nil n0
  have pre0 : ∀ t, Steps p.tables e below (s₁.setTop (mkF m 0 #[rv o] [])) t → Steps p.tables e below (s₁.setTop (entryFrame m #[(.ref o)] 1)) t := fun t k => castTop (ef4 m o) k
  obtain ⟨T1, X1, e1, st1⟩ := getF X0 hx hZ hown (host := "") (Or.inl (own_w hw 14 rfl)) Via.refl e0 F_missing_o (g := (mkF m 1 #[rv o] [(.ref o)])) rfl rfl (hb hby d4_1)
  have pre2 : ∀ tz, oS p e below T1 m 6 #[rv o] [(.int (lcmpW w_missing_o (0 : Int64)))] tz → oS p e below s₁ m 0 #[rv o] [] tz := fun tz kt => by
    show oS p e below s₁ m 0 #[rv o] [] _
    refine XS.aloadN X0.here hx rfl (hb hby d4_0) rfl rfl ?_
    show oS p e below s₁ m 1 #[rv o] [(.ref o)] _
    refine st1 _ ?_
    refine XS.lconst X1.here hx rfl (hb hby d4_4) ?_
    refine XS.lcmp X1.here hx rfl (hb hby d4_5) rfl ?_
    exact kt
  by_cases hc6 : w_missing_o = (0 : Int64)
  · obtain ⟨T3, X3, e3, st3⟩ := getF X1 hx hZ hown (host := "") (Or.inl (own_w hw 18 rfl)) Via.refl e1 F_remaining_o (g := (mkF m 10 #[rv o] [(.ref o)])) rfl rfl (hb hby d4_10)
    have pre4 : ∀ tz, oS p e below T3 m 15 #[rv o] [(.int (lcmpW w_remaining_o (0 : Int64)))] tz → oS p e below T1 m 6 #[rv o] [(.int (lcmpW w_missing_o (0 : Int64)))] tz := fun tz kt => by
      show oS p e below T1 m 6 #[rv o] [(.int (lcmpW w_missing_o (0 : Int64)))] _
      refine XS.ifNo X1.here hx rfl (hb hby d4_6) rfl ((if0 _ _).trans (teq ((lw_eq w_missing_o (0 : Int64)).mpr hc6)).2) ?_
      refine XS.aloadN X1.here hx rfl (hb hby d4_9) rfl rfl ?_
      show oS p e below T1 m 10 #[rv o] [(.ref o)] _
      refine st3 _ ?_
      refine XS.lconst X3.here hx rfl (hb hby d4_13) ?_
      refine XS.lcmp X3.here hx rfl (hb hby d4_14) rfl ?_
      exact kt
    by_cases hc15 : w_remaining_o = (0 : Int64)
    · obtain ⟨T5, X5, e5, st5⟩ := getF X3 hx hZ hown (host := "") (Or.inl (own_w hw 22 rfl)) Via.refl e3 F_unmatchedEvents_o (g := (mkF m 19 #[rv o] [(.ref o)])) rfl rfl (hb hby d4_19)
      have pre6 : ∀ tz, oS p e below T5 m 24 #[rv o] [(.int (lcmpW w_unmatchedEvents_o (0 : Int64)))] tz → oS p e below T3 m 15 #[rv o] [(.int (lcmpW w_remaining_o (0 : Int64)))] tz := fun tz kt => by
        show oS p e below T3 m 15 #[rv o] [(.int (lcmpW w_remaining_o (0 : Int64)))] _
        refine XS.ifNo X3.here hx rfl (hb hby d4_15) rfl ((if0 _ _).trans (teq ((lw_eq w_remaining_o (0 : Int64)).mpr hc15)).2) ?_
        refine XS.aloadN X3.here hx rfl (hb hby d4_18) rfl rfl ?_
        show oS p e below T3 m 19 #[rv o] [(.ref o)] _
        refine st5 _ ?_
        refine XS.lconst X5.here hx rfl (hb hby d4_22) ?_
        refine XS.lcmp X5.here hx rfl (hb hby d4_23) rfl ?_
        exact kt
      by_cases hc24 : w_unmatchedEvents_o = (0 : Int64)
      · have pre7 : ∀ tz, oS p e below T5 m 32 #[rv o] [(.int (1 : Int32))] tz → oS p e below T5 m 24 #[rv o] [(.int (lcmpW w_unmatchedEvents_o (0 : Int64)))] tz := fun tz kt => by
          show oS p e below T5 m 24 #[rv o] [(.int (lcmpW w_unmatchedEvents_o (0 : Int64)))] _
          refine XS.ifNo X5.here hx rfl (hb hby d4_24) rfl ((if0 _ _).trans (teq ((lw_eq w_unmatchedEvents_o (0 : Int64)).mpr hc24)).2) ?_
          refine XS.iconst X5.here hx rfl (hb hby d4_27) ?_
          refine XS.goto X5.here hx rfl (pc0 := 28) (pc' := 32) rfl (hb hby d4_28) (by decide) (by decide) ?_
          exact kt
        obtain ⟨fs, hr, hrun, hended, hW, hsame⟩ := X5.leave (v := some (.int (1 : Int32))) (fun h => by rw [Bd.returns] at h; cases h)
        refine ⟨_, _, pre0 _ (pre2 _ (pre4 _ (pre6 _ (pre7 _ ?_)))), hrun, hended, _, _, rfl, ?_, ⟨_, rfl⟩, hW, hsame.mono (by decide) (by decide)⟩
        · show oS p e below T5 m 32 #[rv o] [(.int (1 : Int32))] _
          exact retN X5 hx (t := .boolean) Bd.returns (by simp) (hb hby d4_32) hr
        · show Q4 Z o w_missing_o w_remaining_o w_unmatchedEvents_o h0 n0 _ T5.heap _
          rw [e5]
          exact ⟨(by first | rfl | simp only [if_pos hc6, if_pos hc15, if_pos hc24]), N0, rfl⟩
      · have pre8 : ∀ tz, oS p e below T5 m 32 #[rv o] [(.int (0 : Int32))] tz → oS p e below T5 m 24 #[rv o] [(.int (lcmpW w_unmatchedEvents_o (0 : Int64)))] tz := fun tz kt => by
          show oS p e below T5 m 24 #[rv o] [(.int (lcmpW w_unmatchedEvents_o (0 : Int64)))] _
          refine XS.ifYes X5.here hx rfl (pc0 := 24) (pc' := 31) rfl (hb hby d4_24) rfl ((if0 _ _).trans (feq (fun q => hc24 ((lw_eq w_unmatchedEvents_o (0 : Int64)).mp q))).2) (by decide) (by decide) ?_
          refine XS.iconst X5.here hx rfl (hb hby d4_31) ?_
          exact kt
        obtain ⟨fs, hr, hrun, hended, hW, hsame⟩ := X5.leave (v := some (.int (0 : Int32))) (fun h => by rw [Bd.returns] at h; cases h)
        refine ⟨_, _, pre0 _ (pre2 _ (pre4 _ (pre6 _ (pre8 _ ?_)))), hrun, hended, _, _, rfl, ?_, ⟨_, rfl⟩, hW, hsame.mono (by decide) (by decide)⟩
        · show oS p e below T5 m 32 #[rv o] [(.int (0 : Int32))] _
          exact retN X5 hx (t := .boolean) Bd.returns (by simp) (hb hby d4_32) hr
        · show Q4 Z o w_missing_o w_remaining_o w_unmatchedEvents_o h0 n0 _ T5.heap _
          rw [e5]
          exact ⟨(by first | rfl | simp only [if_pos hc6, if_pos hc15, if_neg hc24]), N0, rfl⟩
    · have pre9 : ∀ tz, oS p e below T3 m 32 #[rv o] [(.int (0 : Int32))] tz → oS p e below T3 m 15 #[rv o] [(.int (lcmpW w_remaining_o (0 : Int64)))] tz := fun tz kt => by
        show oS p e below T3 m 15 #[rv o] [(.int (lcmpW w_remaining_o (0 : Int64)))] _
        refine XS.ifYes X3.here hx rfl (pc0 := 15) (pc' := 31) rfl (hb hby d4_15) rfl ((if0 _ _).trans (feq (fun q => hc15 ((lw_eq w_remaining_o (0 : Int64)).mp q))).2) (by decide) (by decide) ?_
        refine XS.iconst X3.here hx rfl (hb hby d4_31) ?_
        exact kt
      obtain ⟨fs, hr, hrun, hended, hW, hsame⟩ := X3.leave (v := some (.int (0 : Int32))) (fun h => by rw [Bd.returns] at h; cases h)
      refine ⟨_, _, pre0 _ (pre2 _ (pre4 _ (pre9 _ ?_))), hrun, hended, _, _, rfl, ?_, ⟨_, rfl⟩, hW, hsame.mono (by decide) (by decide)⟩
      · show oS p e below T3 m 32 #[rv o] [(.int (0 : Int32))] _
        exact retN X3 hx (t := .boolean) Bd.returns (by simp) (hb hby d4_32) hr
      · show Q4 Z o w_missing_o w_remaining_o w_unmatchedEvents_o h0 n0 _ T3.heap _
        rw [e3]
        exact ⟨(by first | rfl | simp only [if_pos hc6, if_neg hc15]), N0, rfl⟩
  · have pre10 : ∀ tz, oS p e below T1 m 32 #[rv o] [(.int (0 : Int32))] tz → oS p e below T1 m 6 #[rv o] [(.int (lcmpW w_missing_o (0 : Int64)))] tz := fun tz kt => by
      show oS p e below T1 m 6 #[rv o] [(.int (lcmpW w_missing_o (0 : Int64)))] _
      refine XS.ifYes X1.here hx rfl (pc0 := 6) (pc' := 31) rfl (hb hby d4_6) rfl ((if0 _ _).trans (feq (fun q => hc6 ((lw_eq w_missing_o (0 : Int64)).mp q))).2) (by decide) (by decide) ?_
      refine XS.iconst X1.here hx rfl (hb hby d4_31) ?_
      exact kt
    obtain ⟨fs, hr, hrun, hended, hW, hsame⟩ := X1.leave (v := some (.int (0 : Int32))) (fun h => by rw [Bd.returns] at h; cases h)
    refine ⟨_, _, pre0 _ (pre2 _ (pre10 _ ?_)), hrun, hended, _, _, rfl, ?_, ⟨_, rfl⟩, hW, hsame.mono (by decide) (by decide)⟩
    · show oS p e below T1 m 32 #[rv o] [(.int (0 : Int32))] _
      exact retN X1 hx (t := .boolean) Bd.returns (by simp) (hb hby d4_32) hr
    · show Q4 Z o w_missing_o w_remaining_o w_unmatchedEvents_o h0 n0 _ T1.heap _
      rw [e1]
      exact ⟨(by first | rfl | simp only [if_neg hc6]), N0, rfl⟩
theorem own_pd1 : parseMethodDescriptor "(JJJJJ)V" = some ⟨[.long, .long, .long, .long, .long], none⟩ := by decide +kernel
theorem own_pd2 : parseMethodDescriptor "()Z" = some ⟨[], some .boolean⟩ := by decide +kernel
theorem own_pn2 : plainName "com/example/lockstep/lockstep/TokenCountsFitsPinLaw" = true := by first | (simp [plainName, overriddenIn]; done) | decide +kernel
theorem ef0 (m : MethodId) (x1 : Int64) (x2 : Int64) (x3 : Int64) (x4 : Int64) (x5 : Int64) (x6 : Int32) : entryFrame m #[(.long x1), (.long x2), (.long x3), (.long x4), (.long x5), (.int x6)] maxLocals = mkF m 0 #[lv x1, .second, lv x2, .second, lv x3, .second, lv x4, .second, lv x5, .second, iv x6, .unset, .unset, .unset, .unset, .unset, .unset, .unset, .unset, .unset, .unset, .unset, .unset] [] := by first | (simp [entryFrame, mkF, argsToLocals, Value.category, maxLocals]; done) | rfl
def Q0 (Z : State) (x1 : Int64) (x2 : Int64) (x3 : Int64) (x4 : Int64) (x5 : Int64) (x6 : Int32) (h0 : Heap) (n0 : Nat) (v : Option Value) (h : Heap) (L : List Loc) : Prop := v = some (.int (1 : Int32)) ∧ Fr n0 L
set_option maxRecDepth 65536 in
set_option maxHeartbeats 40000000 in
theorem rm0 (l : Launch) (Z : State) (a0 : Array Value) (hw : ∀ d ∈ tables_1, d.before a0 Z = true) (ws : List Jvm.Cond) (x1 : Int64) (x2 : Int64) (x3 : Int64) (x4 : Int64) (x5 : Int64) (x6 : Int32) (h0 : Heap) (n0 : Nat) (Z0 : n0 ≤ h0.size) :
    MetFree l x (head1 (Jvm.Cond.code x code maxLocals ret :: ws) room_1) (fun a U => a = #[(.long x1), (.long x2), (.long x3), (.long x4), (.long x5), (.int x6)] ∧ Z.Warmed39 U.vm ∧ U.heap = h0) (fun _ _ _ _ _ => True) (fun _ U oc U' => ∃ v L, oc = .returned v ∧ Q0 Z x1 x2 x3 x4 x5 x6 h0 n0 v U'.heap L ∧ FrameEnd U oc U' L room_1.cells room_1.slots) := by
  refine MetFree.of_bodySF (plainFor_of_name own_pn2) hisR ?_
  intro p e s m args below meth c s₁ Bd hml0 hP hK
  obtain ⟨rfl, hZ, hh⟩ := hP
  have hx := Bd.exec
  have hby := Bd.bytes
  have hml : c.maxLocals = 23 := hml0
  have hown : s.vm.findClass "com/example/lockstep/lockstep/TokenCountsFitsPinLaw" = some m.cls := findClass_of_methodNamed Bd.named
  have hnm := (name_of_methodNamed Bd.named Bd.method).1
  have X0 : Stand p l e room_1 s m #[(.long x1), (.long x2), (.long x3), (.long x4), (.long x5), (.int x6)] below meth c s₁ [] 0 0 := Stand.of_body Bd
  have e0 : s₁.heap = h0 := by rw [← hh, Bd.state]; rfl
  have N0 := Fr.nil n0
  have pre0 : ∀ t, Steps p.tables e below (s₁.setTop (mkF m 0 #[lv x1, .second, lv x2, .second, lv x3, .second, lv x4, .second, lv x5, .second, iv x6, .unset, .unset, .unset, .unset, .unset, .unset, .unset, .unset, .unset, .unset, .unset, .unset] [])) t → Steps p.tables e below (s₁.setTop (entryFrame m #[(.long x1), (.long x2), (.long x3), (.long x4), (.long x5), (.int x6)] maxLocals)) t := fun t k => castTop (ef0 m x1 x2 x3 x4 x5 x6) k
  have pre1 : ∀ tz, oS p e below s₁ m 4 #[lv x1, .second, lv x2, .second, lv x3, .second, lv x4, .second, lv x5, .second, iv x6, .unset, .unset, .unset, .unset, .unset, .unset, .unset, .unset, .unset, .unset, .unset, .unset] [(.int (x6 &&& (1 : Int32)))] tz → oS p e below s₁ m 0 #[lv x1, .second, lv x2, .second, lv x3, .second, lv x4, .second, lv x5, .second, iv x6, .unset, .unset, .unset, .unset, .unset, .unset, .unset, .unset, .unset, .unset, .unset, .unset] [] tz := fun tz kt => by
    show oS p e below s₁ m 0 #[lv x1, .second, lv x2, .second, lv x3, .second, lv x4, .second, lv x5, .second, iv x6, .unset, .unset, .unset, .unset, .unset, .unset, .unset, .unset, .unset, .unset, .unset, .unset] [] _
    refine XS.iload X0.here hx rfl (hb hby at_0) rfl ?_
    refine XS.iconst X0.here hx rfl (hb hby at_2) ?_
    refine XS.iand X0.here hx rfl (hb hby at_3) rfl ?_
    exact kt
  obtain ⟨v12, T4, Lj4, jv4, N4, X4, e4, st4⟩ := own_join (α := Int64) X0 N0 e0 (mkF m 4 #[lv x1, .second, lv x2, .second, lv x3, .second, lv x4, .second, lv x5, .second, iv x6, .unset, .unset, .unset, .unset, .unset, .unset, .unset, .unset, .unset, .unset, .unset, .unset] [(.int (x6 &&& (1 : Int32)))]) (fun v => (mkF m 12 #[lv x1, .second, lv x2, .second, lv x3, .second, lv x4, .second, lv x5, .second, iv x6, .unset, .unset, .unset, .unset, .unset, .unset, .unset, .unset, .unset, .unset, .unset, .unset] [(.long v)])) (fun v => v = (if (x6 &&& (1 : Int32)) = (0 : Int32) then x1 else (0 : Int64))) (by
      by_cases hc4 : (x6 &&& (1 : Int32)) = (0 : Int32)
      · have pre2 : ∀ tz, oS p e below s₁ m 12 #[lv x1, .second, lv x2, .second, lv x3, .second, lv x4, .second, lv x5, .second, iv x6, .unset, .unset, .unset, .unset, .unset, .unset, .unset, .unset, .unset, .unset, .unset, .unset] [(.long x1)] tz → oS p e below s₁ m 4 #[lv x1, .second, lv x2, .second, lv x3, .second, lv x4, .second, lv x5, .second, iv x6, .unset, .unset, .unset, .unset, .unset, .unset, .unset, .unset, .unset, .unset, .unset, .unset] [(.int (x6 &&& (1 : Int32)))] tz := fun tz kt => by
          show oS p e below s₁ m 4 #[lv x1, .second, lv x2, .second, lv x3, .second, lv x4, .second, lv x5, .second, iv x6, .unset, .unset, .unset, .unset, .unset, .unset, .unset, .unset, .unset, .unset, .unset, .unset] [(.int (x6 &&& (1 : Int32)))] _
          refine XS.ifYes X0.here hx rfl (pc0 := 4) (pc' := 11) rfl (hb hby at_4) rfl ((if0 _ _).trans (teq hc4).1) (by decide) (by decide) ?_
          refine XS.lloadN X0.here hx rfl (hb hby at_11) rfl ?_
          exact kt
        exact ⟨x1, s₁, _, (by rw [if_pos hc4]), N0, X0, e0, fun tz kt => (pre2 _ kt)⟩
      · have pre3 : ∀ tz, oS p e below s₁ m 12 #[lv x1, .second, lv x2, .second, lv x3, .second, lv x4, .second, lv x5, .second, iv x6, .unset, .unset, .unset, .unset, .unset, .unset, .unset, .unset, .unset, .unset, .unset, .unset] [(.long (0 : Int64))] tz → oS p e below s₁ m 4 #[lv x1, .second, lv x2, .second, lv x3, .second, lv x4, .second, lv x5, .second, iv x6, .unset, .unset, .unset, .unset, .unset, .unset, .unset, .unset, .unset, .unset, .unset, .unset] [(.int (x6 &&& (1 : Int32)))] tz := fun tz kt => by
          show oS p e below s₁ m 4 #[lv x1, .second, lv x2, .second, lv x3, .second, lv x4, .second, lv x5, .second, iv x6, .unset, .unset, .unset, .unset, .unset, .unset, .unset, .unset, .unset, .unset, .unset, .unset] [(.int (x6 &&& (1 : Int32)))] _
          refine XS.ifNo X0.here hx rfl (hb hby at_4) rfl ((if0 _ _).trans (feq hc4).1) ?_
          refine XS.lconst X0.here hx rfl (hb hby at_7) ?_
          refine XS.goto X0.here hx rfl (pc0 := 8) (pc' := 12) rfl (hb hby at_8) (by decide) (by decide) ?_
          exact kt
        exact ⟨(0 : Int64), s₁, _, (by rw [if_neg hc4]), N0, X0, e0, fun tz kt => (pre3 _ kt)⟩)
  have hv12 : v12 = (if (x6 &&& (1 : Int32)) = (0 : Int32) then x1 else (0 : Int64)) := jv4
  have pre5 : ∀ tz, oS p e below T4 m 18 #[lv x1, .second, lv x2, .second, lv x3, .second, lv x4, .second, lv x5, .second, iv x6, lv v12, .second, .unset, .unset, .unset, .unset, .unset, .unset, .unset, .unset, .unset, .unset] [(.int (x6 &&& (2 : Int32)))] tz → oS p e below s₁ m 4 #[lv x1, .second, lv x2, .second, lv x3, .second, lv x4, .second, lv x5, .second, iv x6, .unset, .unset, .unset, .unset, .unset, .unset, .unset, .unset, .unset, .unset, .unset, .unset] [(.int (x6 &&& (1 : Int32)))] tz := fun tz kt => by
    show oS p e below s₁ m 4 #[lv x1, .second, lv x2, .second, lv x3, .second, lv x4, .second, lv x5, .second, iv x6, .unset, .unset, .unset, .unset, .unset, .unset, .unset, .unset, .unset, .unset, .unset, .unset] [(.int (x6 &&& (1 : Int32)))] _
    refine st4 _ ?_
    refine XS.lstore X4.here hx rfl (hb hby at_12) rfl (l' := #[lv x1, .second, lv x2, .second, lv x3, .second, lv x4, .second, lv x5, .second, iv x6, lv v12, .second, .unset, .unset, .unset, .unset, .unset, .unset, .unset, .unset, .unset, .unset]) rfl ?_
    refine XS.iload X4.here hx rfl (hb hby at_14) rfl ?_
    refine XS.iconst X4.here hx rfl (hb hby at_16) ?_
    show oS p e below T4 m 17 #[lv x1, .second, lv x2, .second, lv x3, .second, lv x4, .second, lv x5, .second, iv x6, lv v12, .second, .unset, .unset, .unset, .unset, .unset, .unset, .unset, .unset, .unset, .unset] [(.int (2 : Int32)), (.int x6)] _
    refine XS.iand X4.here hx rfl (hb hby at_17) rfl ?_
    exact kt
  obtain ⟨v27, T8, Lj8, jv8, N8, X8, e8, st8⟩ := own_join (α := Int64) X4 N4 e4 (mkF m 18 #[lv x1, .second, lv x2, .second, lv x3, .second, lv x4, .second, lv x5, .second, iv x6, lv v12, .second, .unset, .unset, .unset, .unset, .unset, .unset, .unset, .unset, .unset, .unset] [(.int (x6 &&& (2 : Int32)))]) (fun v => (mkF m 27 #[lv x1, .second, lv x2, .second, lv x3, .second, lv x4, .second, lv x5, .second, iv x6, lv v12, .second, .unset, .unset, .unset, .unset, .unset, .unset, .unset, .unset, .unset, .unset] [(.long v)])) (fun v => v = (if (x6 &&& (2 : Int32)) = (0 : Int32) then x3 else (0 : Int64))) (by
      by_cases hc18 : (x6 &&& (2 : Int32)) = (0 : Int32)
      · have pre6 : ∀ tz, oS p e below T4 m 27 #[lv x1, .second, lv x2, .second, lv x3, .second, lv x4, .second, lv x5, .second, iv x6, lv v12, .second, .unset, .unset, .unset, .unset, .unset, .unset, .unset, .unset, .unset, .unset] [(.long x3)] tz → oS p e below T4 m 18 #[lv x1, .second, lv x2, .second, lv x3, .second, lv x4, .second, lv x5, .second, iv x6, lv v12, .second, .unset, .unset, .unset, .unset, .unset, .unset, .unset, .unset, .unset, .unset] [(.int (x6 &&& (2 : Int32)))] tz := fun tz kt => by
          show oS p e below T4 m 18 #[lv x1, .second, lv x2, .second, lv x3, .second, lv x4, .second, lv x5, .second, iv x6, lv v12, .second, .unset, .unset, .unset, .unset, .unset, .unset, .unset, .unset, .unset, .unset] [(.int (x6 &&& (2 : Int32)))] _
          refine XS.ifYes X4.here hx rfl (pc0 := 18) (pc' := 25) rfl (hb hby at_18) rfl ((if0 _ _).trans (teq hc18).1) (by decide) (by decide) ?_
          refine XS.lload X4.here hx rfl (hb hby at_25) rfl ?_
          exact kt
        exact ⟨x3, T4, _, (by rw [if_pos hc18]), N4, X4, e4, fun tz kt => (pre6 _ kt)⟩
      · have pre7 : ∀ tz, oS p e below T4 m 27 #[lv x1, .second, lv x2, .second, lv x3, .second, lv x4, .second, lv x5, .second, iv x6, lv v12, .second, .unset, .unset, .unset, .unset, .unset, .unset, .unset, .unset, .unset, .unset] [(.long (0 : Int64))] tz → oS p e below T4 m 18 #[lv x1, .second, lv x2, .second, lv x3, .second, lv x4, .second, lv x5, .second, iv x6, lv v12, .second, .unset, .unset, .unset, .unset, .unset, .unset, .unset, .unset, .unset, .unset] [(.int (x6 &&& (2 : Int32)))] tz := fun tz kt => by
          show oS p e below T4 m 18 #[lv x1, .second, lv x2, .second, lv x3, .second, lv x4, .second, lv x5, .second, iv x6, lv v12, .second, .unset, .unset, .unset, .unset, .unset, .unset, .unset, .unset, .unset, .unset] [(.int (x6 &&& (2 : Int32)))] _
          refine XS.ifNo X4.here hx rfl (hb hby at_18) rfl ((if0 _ _).trans (feq hc18).1) ?_
          refine XS.lconst X4.here hx rfl (hb hby at_21) ?_
          refine XS.goto X4.here hx rfl (pc0 := 22) (pc' := 27) rfl (hb hby at_22) (by decide) (by decide) ?_
          exact kt
        exact ⟨(0 : Int64), T4, _, (by rw [if_neg hc18]), N4, X4, e4, fun tz kt => (pre7 _ kt)⟩)
  have hv27 : v27 = (if (x6 &&& (2 : Int32)) = (0 : Int32) then x3 else (0 : Int64)) := jv8
  have pre9 : ∀ tz, oS p e below T8 m 33 #[lv x1, .second, lv x2, .second, lv x3, .second, lv x4, .second, lv x5, .second, iv x6, lv v12, .second, lv v27, .second, .unset, .unset, .unset, .unset, .unset, .unset, .unset, .unset] [(.int (x6 &&& (4 : Int32)))] tz → oS p e below T4 m 18 #[lv x1, .second, lv x2, .second, lv x3, .second, lv x4, .second, lv x5, .second, iv x6, lv v12, .second, .unset, .unset, .unset, .unset, .unset, .unset, .unset, .unset, .unset, .unset] [(.int (x6 &&& (2 : Int32)))] tz := fun tz kt => by
    show oS p e below T4 m 18 #[lv x1, .second, lv x2, .second, lv x3, .second, lv x4, .second, lv x5, .second, iv x6, lv v12, .second, .unset, .unset, .unset, .unset, .unset, .unset, .unset, .unset, .unset, .unset] [(.int (x6 &&& (2 : Int32)))] _
    refine st8 _ ?_
    refine XS.lstore X8.here hx rfl (hb hby at_27) rfl (l' := #[lv x1, .second, lv x2, .second, lv x3, .second, lv x4, .second, lv x5, .second, iv x6, lv v12, .second, lv v27, .second, .unset, .unset, .unset, .unset, .unset, .unset, .unset, .unset]) rfl ?_
    refine XS.iload X8.here hx rfl (hb hby at_29) rfl ?_
    refine XS.iconst X8.here hx rfl (hb hby at_31) ?_
    show oS p e below T8 m 32 #[lv x1, .second, lv x2, .second, lv x3, .second, lv x4, .second, lv x5, .second, iv x6, lv v12, .second, lv v27, .second, .unset, .unset, .unset, .unset, .unset, .unset, .unset, .unset] [(.int (4 : Int32)), (.int x6)] _
    refine XS.iand X8.here hx rfl (hb hby at_32) rfl ?_
    exact kt
  obtain ⟨v42, T12, Lj12, jv12, N12, X12, e12, st12⟩ := own_join (α := Int64) X8 N8 e8 (mkF m 33 #[lv x1, .second, lv x2, .second, lv x3, .second, lv x4, .second, lv x5, .second, iv x6, lv v12, .second, lv v27, .second, .unset, .unset, .unset, .unset, .unset, .unset, .unset, .unset] [(.int (x6 &&& (4 : Int32)))]) (fun v => (mkF m 42 #[lv x1, .second, lv x2, .second, lv x3, .second, lv x4, .second, lv x5, .second, iv x6, lv v12, .second, lv v27, .second, .unset, .unset, .unset, .unset, .unset, .unset, .unset, .unset] [(.long v)])) (fun v => v = (if (x6 &&& (4 : Int32)) = (0 : Int32) then x5 else (0 : Int64))) (by
      by_cases hc33 : (x6 &&& (4 : Int32)) = (0 : Int32)
      · have pre10 : ∀ tz, oS p e below T8 m 42 #[lv x1, .second, lv x2, .second, lv x3, .second, lv x4, .second, lv x5, .second, iv x6, lv v12, .second, lv v27, .second, .unset, .unset, .unset, .unset, .unset, .unset, .unset, .unset] [(.long x5)] tz → oS p e below T8 m 33 #[lv x1, .second, lv x2, .second, lv x3, .second, lv x4, .second, lv x5, .second, iv x6, lv v12, .second, lv v27, .second, .unset, .unset, .unset, .unset, .unset, .unset, .unset, .unset] [(.int (x6 &&& (4 : Int32)))] tz := fun tz kt => by
          show oS p e below T8 m 33 #[lv x1, .second, lv x2, .second, lv x3, .second, lv x4, .second, lv x5, .second, iv x6, lv v12, .second, lv v27, .second, .unset, .unset, .unset, .unset, .unset, .unset, .unset, .unset] [(.int (x6 &&& (4 : Int32)))] _
          refine XS.ifYes X8.here hx rfl (pc0 := 33) (pc' := 40) rfl (hb hby at_33) rfl ((if0 _ _).trans (teq hc33).1) (by decide) (by decide) ?_
          refine XS.lload X8.here hx rfl (hb hby at_40) rfl ?_
          exact kt
        exact ⟨x5, T8, _, (by rw [if_pos hc33]), N8, X8, e8, fun tz kt => (pre10 _ kt)⟩
      · have pre11 : ∀ tz, oS p e below T8 m 42 #[lv x1, .second, lv x2, .second, lv x3, .second, lv x4, .second, lv x5, .second, iv x6, lv v12, .second, lv v27, .second, .unset, .unset, .unset, .unset, .unset, .unset, .unset, .unset] [(.long (0 : Int64))] tz → oS p e below T8 m 33 #[lv x1, .second, lv x2, .second, lv x3, .second, lv x4, .second, lv x5, .second, iv x6, lv v12, .second, lv v27, .second, .unset, .unset, .unset, .unset, .unset, .unset, .unset, .unset] [(.int (x6 &&& (4 : Int32)))] tz := fun tz kt => by
          show oS p e below T8 m 33 #[lv x1, .second, lv x2, .second, lv x3, .second, lv x4, .second, lv x5, .second, iv x6, lv v12, .second, lv v27, .second, .unset, .unset, .unset, .unset, .unset, .unset, .unset, .unset] [(.int (x6 &&& (4 : Int32)))] _
          refine XS.ifNo X8.here hx rfl (hb hby at_33) rfl ((if0 _ _).trans (feq hc33).1) ?_
          refine XS.lconst X8.here hx rfl (hb hby at_36) ?_
          refine XS.goto X8.here hx rfl (pc0 := 37) (pc' := 42) rfl (hb hby at_37) (by decide) (by decide) ?_
          exact kt
        exact ⟨(0 : Int64), T8, _, (by rw [if_neg hc33]), N8, X8, e8, fun tz kt => (pre11 _ kt)⟩)
  have hv42 : v42 = (if (x6 &&& (4 : Int32)) = (0 : Int32) then x5 else (0 : Int64)) := jv12
  have pre13 : ∀ tz, oS p e below T12 m 49 #[lv x1, .second, lv x2, .second, lv x3, .second, lv x4, .second, lv x5, .second, iv x6, lv v12, .second, lv v27, .second, lv v42, .second, .unset, .unset, .unset, .unset, .unset, .unset] [(.int (x6 &&& (8 : Int32)))] tz → oS p e below T8 m 33 #[lv x1, .second, lv x2, .second, lv x3, .second, lv x4, .second, lv x5, .second, iv x6, lv v12, .second, lv v27, .second, .unset, .unset, .unset, .unset, .unset, .unset, .unset, .unset] [(.int (x6 &&& (4 : Int32)))] tz := fun tz kt => by
    show oS p e below T8 m 33 #[lv x1, .second, lv x2, .second, lv x3, .second, lv x4, .second, lv x5, .second, iv x6, lv v12, .second, lv v27, .second, .unset, .unset, .unset, .unset, .unset, .unset, .unset, .unset] [(.int (x6 &&& (4 : Int32)))] _
    refine st12 _ ?_
    refine XS.lstore X12.here hx rfl (hb hby at_42) rfl (l' := #[lv x1, .second, lv x2, .second, lv x3, .second, lv x4, .second, lv x5, .second, iv x6, lv v12, .second, lv v27, .second, lv v42, .second, .unset, .unset, .unset, .unset, .unset, .unset]) rfl ?_
    refine XS.iload X12.here hx rfl (hb hby at_44) rfl ?_
    refine XS.bipush X12.here hx rfl (hb hby at_46) ?_
    show oS p e below T12 m 48 #[lv x1, .second, lv x2, .second, lv x3, .second, lv x4, .second, lv x5, .second, iv x6, lv v12, .second, lv v27, .second, lv v42, .second, .unset, .unset, .unset, .unset, .unset, .unset] [(.int (8 : Int32)), (.int x6)] _
    refine XS.iand X12.here hx rfl (hb hby at_48) rfl ?_
    exact kt
  obtain ⟨v57, T16, Lj16, jv16, N16, X16, e16, st16⟩ := own_join (α := Int64) X12 N12 e12 (mkF m 49 #[lv x1, .second, lv x2, .second, lv x3, .second, lv x4, .second, lv x5, .second, iv x6, lv v12, .second, lv v27, .second, lv v42, .second, .unset, .unset, .unset, .unset, .unset, .unset] [(.int (x6 &&& (8 : Int32)))]) (fun v => (mkF m 57 #[lv x1, .second, lv x2, .second, lv x3, .second, lv x4, .second, lv x5, .second, iv x6, lv v12, .second, lv v27, .second, lv v42, .second, .unset, .unset, .unset, .unset, .unset, .unset] [(.long v)])) (fun v => v = (if (x6 &&& (8 : Int32)) = (0 : Int32) then x2 else (0 : Int64))) (by
      by_cases hc49 : (x6 &&& (8 : Int32)) = (0 : Int32)
      · have pre14 : ∀ tz, oS p e below T12 m 57 #[lv x1, .second, lv x2, .second, lv x3, .second, lv x4, .second, lv x5, .second, iv x6, lv v12, .second, lv v27, .second, lv v42, .second, .unset, .unset, .unset, .unset, .unset, .unset] [(.long x2)] tz → oS p e below T12 m 49 #[lv x1, .second, lv x2, .second, lv x3, .second, lv x4, .second, lv x5, .second, iv x6, lv v12, .second, lv v27, .second, lv v42, .second, .unset, .unset, .unset, .unset, .unset, .unset] [(.int (x6 &&& (8 : Int32)))] tz := fun tz kt => by
          show oS p e below T12 m 49 #[lv x1, .second, lv x2, .second, lv x3, .second, lv x4, .second, lv x5, .second, iv x6, lv v12, .second, lv v27, .second, lv v42, .second, .unset, .unset, .unset, .unset, .unset, .unset] [(.int (x6 &&& (8 : Int32)))] _
          refine XS.ifYes X12.here hx rfl (pc0 := 49) (pc' := 56) rfl (hb hby at_49) rfl ((if0 _ _).trans (teq hc49).1) (by decide) (by decide) ?_
          refine XS.lloadN X12.here hx rfl (hb hby at_56) rfl ?_
          exact kt
        exact ⟨x2, T12, _, (by rw [if_pos hc49]), N12, X12, e12, fun tz kt => (pre14 _ kt)⟩
      · have pre15 : ∀ tz, oS p e below T12 m 57 #[lv x1, .second, lv x2, .second, lv x3, .second, lv x4, .second, lv x5, .second, iv x6, lv v12, .second, lv v27, .second, lv v42, .second, .unset, .unset, .unset, .unset, .unset, .unset] [(.long (0 : Int64))] tz → oS p e below T12 m 49 #[lv x1, .second, lv x2, .second, lv x3, .second, lv x4, .second, lv x5, .second, iv x6, lv v12, .second, lv v27, .second, lv v42, .second, .unset, .unset, .unset, .unset, .unset, .unset] [(.int (x6 &&& (8 : Int32)))] tz := fun tz kt => by
          show oS p e below T12 m 49 #[lv x1, .second, lv x2, .second, lv x3, .second, lv x4, .second, lv x5, .second, iv x6, lv v12, .second, lv v27, .second, lv v42, .second, .unset, .unset, .unset, .unset, .unset, .unset] [(.int (x6 &&& (8 : Int32)))] _
          refine XS.ifNo X12.here hx rfl (hb hby at_49) rfl ((if0 _ _).trans (feq hc49).1) ?_
          refine XS.lconst X12.here hx rfl (hb hby at_52) ?_
          refine XS.goto X12.here hx rfl (pc0 := 53) (pc' := 57) rfl (hb hby at_53) (by decide) (by decide) ?_
          exact kt
        exact ⟨(0 : Int64), T12, _, (by rw [if_neg hc49]), N12, X12, e12, fun tz kt => (pre15 _ kt)⟩)
  have hv57 : v57 = (if (x6 &&& (8 : Int32)) = (0 : Int32) then x2 else (0 : Int64)) := jv16
  have pre17 : ∀ tz, oS p e below T16 m 64 #[lv x1, .second, lv x2, .second, lv x3, .second, lv x4, .second, lv x5, .second, iv x6, lv v12, .second, lv v27, .second, lv v42, .second, lv v57, .second, .unset, .unset, .unset, .unset] [(.int (x6 &&& (16 : Int32)))] tz → oS p e below T12 m 49 #[lv x1, .second, lv x2, .second, lv x3, .second, lv x4, .second, lv x5, .second, iv x6, lv v12, .second, lv v27, .second, lv v42, .second, .unset, .unset, .unset, .unset, .unset, .unset] [(.int (x6 &&& (8 : Int32)))] tz := fun tz kt => by
    show oS p e below T12 m 49 #[lv x1, .second, lv x2, .second, lv x3, .second, lv x4, .second, lv x5, .second, iv x6, lv v12, .second, lv v27, .second, lv v42, .second, .unset, .unset, .unset, .unset, .unset, .unset] [(.int (x6 &&& (8 : Int32)))] _
    refine st16 _ ?_
    refine XS.lstore X16.here hx rfl (hb hby at_57) rfl (l' := #[lv x1, .second, lv x2, .second, lv x3, .second, lv x4, .second, lv x5, .second, iv x6, lv v12, .second, lv v27, .second, lv v42, .second, lv v57, .second, .unset, .unset, .unset, .unset]) rfl ?_
    refine XS.iload X16.here hx rfl (hb hby at_59) rfl ?_
    refine XS.bipush X16.here hx rfl (hb hby at_61) ?_
    show oS p e below T16 m 63 #[lv x1, .second, lv x2, .second, lv x3, .second, lv x4, .second, lv x5, .second, iv x6, lv v12, .second, lv v27, .second, lv v42, .second, lv v57, .second, .unset, .unset, .unset, .unset] [(.int (16 : Int32)), (.int x6)] _
    refine XS.iand X16.here hx rfl (hb hby at_63) rfl ?_
    exact kt
  obtain ⟨v73, T20, Lj20, jv20, N20, X20, e20, st20⟩ := own_join (α := Int64) X16 N16 e16 (mkF m 64 #[lv x1, .second, lv x2, .second, lv x3, .second, lv x4, .second, lv x5, .second, iv x6, lv v12, .second, lv v27, .second, lv v42, .second, lv v57, .second, .unset, .unset, .unset, .unset] [(.int (x6 &&& (16 : Int32)))]) (fun v => (mkF m 73 #[lv x1, .second, lv x2, .second, lv x3, .second, lv x4, .second, lv x5, .second, iv x6, lv v12, .second, lv v27, .second, lv v42, .second, lv v57, .second, .unset, .unset, .unset, .unset] [(.long v)])) (fun v => v = (if (x6 &&& (16 : Int32)) = (0 : Int32) then x4 else (0 : Int64))) (by
      by_cases hc64 : (x6 &&& (16 : Int32)) = (0 : Int32)
      · have pre18 : ∀ tz, oS p e below T16 m 73 #[lv x1, .second, lv x2, .second, lv x3, .second, lv x4, .second, lv x5, .second, iv x6, lv v12, .second, lv v27, .second, lv v42, .second, lv v57, .second, .unset, .unset, .unset, .unset] [(.long x4)] tz → oS p e below T16 m 64 #[lv x1, .second, lv x2, .second, lv x3, .second, lv x4, .second, lv x5, .second, iv x6, lv v12, .second, lv v27, .second, lv v42, .second, lv v57, .second, .unset, .unset, .unset, .unset] [(.int (x6 &&& (16 : Int32)))] tz := fun tz kt => by
          show oS p e below T16 m 64 #[lv x1, .second, lv x2, .second, lv x3, .second, lv x4, .second, lv x5, .second, iv x6, lv v12, .second, lv v27, .second, lv v42, .second, lv v57, .second, .unset, .unset, .unset, .unset] [(.int (x6 &&& (16 : Int32)))] _
          refine XS.ifYes X16.here hx rfl (pc0 := 64) (pc' := 71) rfl (hb hby at_64) rfl ((if0 _ _).trans (teq hc64).1) (by decide) (by decide) ?_
          refine XS.lload X16.here hx rfl (hb hby at_71) rfl ?_
          exact kt
        exact ⟨x4, T16, _, (by rw [if_pos hc64]), N16, X16, e16, fun tz kt => (pre18 _ kt)⟩
      · have pre19 : ∀ tz, oS p e below T16 m 73 #[lv x1, .second, lv x2, .second, lv x3, .second, lv x4, .second, lv x5, .second, iv x6, lv v12, .second, lv v27, .second, lv v42, .second, lv v57, .second, .unset, .unset, .unset, .unset] [(.long (0 : Int64))] tz → oS p e below T16 m 64 #[lv x1, .second, lv x2, .second, lv x3, .second, lv x4, .second, lv x5, .second, iv x6, lv v12, .second, lv v27, .second, lv v42, .second, lv v57, .second, .unset, .unset, .unset, .unset] [(.int (x6 &&& (16 : Int32)))] tz := fun tz kt => by
          show oS p e below T16 m 64 #[lv x1, .second, lv x2, .second, lv x3, .second, lv x4, .second, lv x5, .second, iv x6, lv v12, .second, lv v27, .second, lv v42, .second, lv v57, .second, .unset, .unset, .unset, .unset] [(.int (x6 &&& (16 : Int32)))] _
          refine XS.ifNo X16.here hx rfl (hb hby at_64) rfl ((if0 _ _).trans (feq hc64).1) ?_
          refine XS.lconst X16.here hx rfl (hb hby at_67) ?_
          refine XS.goto X16.here hx rfl (pc0 := 68) (pc' := 73) rfl (hb hby at_68) (by decide) (by decide) ?_
          exact kt
        exact ⟨(0 : Int64), T16, _, (by rw [if_neg hc64]), N16, X16, e16, fun tz kt => (pre19 _ kt)⟩)
  have hv73 : v73 = (if (x6 &&& (16 : Int32)) = (0 : Int32) then x4 else (0 : Int64)) := jv20
  obtain ⟨T21, h21, X21, e21, E21, A21, D21, -, st21⟩ := newO X20 hx hZ hown (own_w hw 0 rfl) (own_w hw 1 rfl) (own_w hw 2 rfl) e20 (g := (mkF m 75 #[lv x1, .second, lv x2, .second, lv x3, .second, lv x4, .second, lv x5, .second, iv x6, lv v12, .second, lv v27, .second, lv v42, .second, lv v57, .second, lv v73, .second, .unset, .unset] [])) rfl (hb hby at_75) (by decide) (by decide)
  obtain ⟨b21, g21⟩ : ∃ z, z = h0.size := ⟨_, rfl⟩
  rw [← g21] at A21 D21 st21
  have g_b21 : n0 ≤ b21 := Nat.le_trans Z0 (Nat.le_of_eq g21.symm)
  have F_missing_b21 : Fld Z h21 b21 "com/example/lockstep/lockstep/TokenCounts" "missing" "J" (.long (0 : Int64)) := D21 (Or.inr (own_w hw 15 rfl)) (ty := .long) (by decide)
  have F_consumed_b21 : Fld Z h21 b21 "com/example/lockstep/lockstep/TokenCounts" "consumed" "J" (.long (0 : Int64)) := D21 (Or.inr (own_w hw 17 rfl)) (ty := .long) (by decide)
  have F_remaining_b21 : Fld Z h21 b21 "com/example/lockstep/lockstep/TokenCounts" "remaining" "J" (.long (0 : Int64)) := D21 (Or.inr (own_w hw 19 rfl)) (ty := .long) (by decide)
  have F_produced_b21 : Fld Z h21 b21 "com/example/lockstep/lockstep/TokenCounts" "produced" "J" (.long (0 : Int64)) := D21 (Or.inr (own_w hw 21 rfl)) (ty := .long) (by decide)
  have F_unmatchedEvents_b21 : Fld Z h21 b21 "com/example/lockstep/lockstep/TokenCounts" "unmatchedEvents" "J" (.long (0 : Int64)) := D21 (Or.inr (own_w hw 23 rfl)) (ty := .long) (by decide)
  have Zc23 : n0 ≤ h21.size := (Nat.le_trans Z0 E21.1)
  obtain ⟨_, _, ⟨T22, Lw22, kw22, nw22⟩, -, X22, ⟨Lc22, hQ22, l22, y22, z22⟩, st22⟩ := X21.specialBack hx (y := (⟨"com/example/lockstep/lockstep/TokenCounts", "<init>", "(JJJJJ)V"⟩ : MethodName)) rfl hown (mvT hZ (own_w hw 3 rfl)) (mvT hZ (own_w hw 4 rfl)) (mvT hZ (own_w hw 5 rfl)) (by decide) (backOf (W := 1) (rm1 l Z a0 hw [] b21 v12 v57 v27 v73 v42 (.long (0 : Int64)) (.long (0 : Int64)) (.long (0 : Int64)) (.long (0 : Int64)) (.long (0 : Int64)) h21 n0 Zc23 A21 F_missing_b21 g_b21 F_consumed_b21 F_remaining_b21 F_produced_b21 F_unmatchedEvents_b21) hZ (own_w hw 5 rfl) (own_w hw 2 rfl) (by decide) (by decide)) (g := (mkF m 89 #[lv x1, .second, lv x2, .second, lv x3, .second, lv x4, .second, lv x5, .second, iv x6, lv v12, .second, lv v27, .second, lv v42, .second, lv v57, .second, lv v73, .second, .unset, .unset] [(.long v42), (.long v73), (.long v27), (.long v57), (.long v12), (.ref b21), (.ref b21)])) rfl (by rw [hml]; rfl) (Steps.refl _) (a := b21) (argsL := [(.long v12), (.long v57), (.long v27), (.long v73), (.long v42)]) (rest := [(.ref b21)]) (lenOf own_pd1 rfl) rfl (by show 2 * 0 + _ ≤ _; exact Nat.le_of_eq rfl) (hb hby at_89) (fun _ _ => ⟨rfl, e21, (by decide : 1 + 0 ≤ _), (by decide : 5 + 0 ≤ _)⟩)
  dsimp only [Pt.U, Pt.locs, Pt.cells, Pt.slots] at X22 l22 y22 z22 st22 hQ22
  subst l22 y22 z22
  obtain ⟨rfl, Nq22, K22, pf22_0, pf22_1, pf22_2, pf22_3, pf22_4, pf22_5⟩ := hQ22
  have N22 := Fr.app N20 Nq22
  have pre24 : ∀ tz, oS p e below T22 m 104 #[lv x1, .second, lv x2, .second, lv x3, .second, lv x4, .second, lv x5, .second, iv x6, lv v12, .second, lv v27, .second, lv v42, .second, lv v57, .second, lv v73, .second, rv b21, .unset] [(.int (lcmpW ((v12 ||| v27) ||| v42) (0 : Int64)))] tz → oS p e below T16 m 64 #[lv x1, .second, lv x2, .second, lv x3, .second, lv x4, .second, lv x5, .second, iv x6, lv v12, .second, lv v27, .second, lv v42, .second, lv v57, .second, .unset, .unset, .unset, .unset] [(.int (x6 &&& (16 : Int32)))] tz := fun tz kt => by
    show oS p e below T16 m 64 #[lv x1, .second, lv x2, .second, lv x3, .second, lv x4, .second, lv x5, .second, iv x6, lv v12, .second, lv v27, .second, lv v42, .second, lv v57, .second, .unset, .unset, .unset, .unset] [(.int (x6 &&& (16 : Int32)))] _
    refine st20 _ ?_
    refine XS.lstore X20.here hx rfl (hb hby at_73) rfl (l' := #[lv x1, .second, lv x2, .second, lv x3, .second, lv x4, .second, lv x5, .second, iv x6, lv v12, .second, lv v27, .second, lv v42, .second, lv v57, .second, lv v73, .second, .unset, .unset]) rfl ?_
    show oS p e below T20 m 75 #[lv x1, .second, lv x2, .second, lv x3, .second, lv x4, .second, lv x5, .second, iv x6, lv v12, .second, lv v27, .second, lv v42, .second, lv v57, .second, lv v73, .second, .unset, .unset] [] _
    refine st21 _ ?_
    refine XS.dup X21.here hx rfl (hb hby at_78) rfl rfl ?_
    refine XS.lload X21.here hx rfl (hb hby at_79) rfl ?_
    refine XS.lload X21.here hx rfl (hb hby at_81) rfl ?_
    show oS p e below T21 m 83 #[lv x1, .second, lv x2, .second, lv x3, .second, lv x4, .second, lv x5, .second, iv x6, lv v12, .second, lv v27, .second, lv v42, .second, lv v57, .second, lv v73, .second, .unset, .unset] [(.long v57), (.long v12), (.ref b21), (.ref b21)] _
    refine XS.lload X21.here hx rfl (hb hby at_83) rfl ?_
    refine XS.lload X21.here hx rfl (hb hby at_85) rfl ?_
    refine XS.lload X21.here hx rfl (hb hby at_87) rfl ?_
    show oS p e below T21 m 89 #[lv x1, .second, lv x2, .second, lv x3, .second, lv x4, .second, lv x5, .second, iv x6, lv v12, .second, lv v27, .second, lv v42, .second, lv v57, .second, lv v73, .second, .unset, .unset] [(.long v42), (.long v73), (.long v27), (.long v57), (.long v12), (.ref b21), (.ref b21)] _
    refine st22.trans ?_
    refine XS.astore X22.here hx rfl (hb hby at_92) rfl rfl (l' := #[lv x1, .second, lv x2, .second, lv x3, .second, lv x4, .second, lv x5, .second, iv x6, lv v12, .second, lv v27, .second, lv v42, .second, lv v57, .second, lv v73, .second, rv b21, .unset]) rfl ?_
    refine XS.lload X22.here hx rfl (hb hby at_94) rfl ?_
    refine XS.lload X22.here hx rfl (hb hby at_96) rfl ?_
    show oS p e below T22 m 98 #[lv x1, .second, lv x2, .second, lv x3, .second, lv x4, .second, lv x5, .second, iv x6, lv v12, .second, lv v27, .second, lv v42, .second, lv v57, .second, lv v73, .second, rv b21, .unset] [(.long v27), (.long v12)] _
    refine XS.lor X22.here hx rfl (hb hby at_98) rfl ?_
    refine XS.lload X22.here hx rfl (hb hby at_99) rfl ?_
    refine XS.lor X22.here hx rfl (hb hby at_101) rfl ?_
    refine XS.lconst X22.here hx rfl (hb hby at_102) ?_
    show oS p e below T22 m 103 #[lv x1, .second, lv x2, .second, lv x3, .second, lv x4, .second, lv x5, .second, iv x6, lv v12, .second, lv v27, .second, lv v42, .second, lv v57, .second, lv v73, .second, rv b21, .unset] [(.long (0 : Int64)), (.long ((v12 ||| v27) ||| v42))] _
    refine XS.lcmp X22.here hx rfl (hb hby at_103) rfl ?_
    exact kt
  obtain ⟨v112, T27, Lj27, jv27, N27, X27, e27, st27⟩ := own_join (α := Int32) X22 N22 rfl (mkF m 104 #[lv x1, .second, lv x2, .second, lv x3, .second, lv x4, .second, lv x5, .second, iv x6, lv v12, .second, lv v27, .second, lv v42, .second, lv v57, .second, lv v73, .second, rv b21, .unset] [(.int (lcmpW ((v12 ||| v27) ||| v42) (0 : Int64)))]) (fun v => (mkF m 112 #[lv x1, .second, lv x2, .second, lv x3, .second, lv x4, .second, lv x5, .second, iv x6, lv v12, .second, lv v27, .second, lv v42, .second, lv v57, .second, lv v73, .second, rv b21, .unset] [(.int v)])) (fun v => v = (if ((v12 ||| v27) ||| v42) = (0 : Int64) then (1 : Int32) else (0 : Int32))) (by
      by_cases hc104 : ((v12 ||| v27) ||| v42) = (0 : Int64)
      · have pre25 : ∀ tz, oS p e below T22 m 112 #[lv x1, .second, lv x2, .second, lv x3, .second, lv x4, .second, lv x5, .second, iv x6, lv v12, .second, lv v27, .second, lv v42, .second, lv v57, .second, lv v73, .second, rv b21, .unset] [(.int (1 : Int32))] tz → oS p e below T22 m 104 #[lv x1, .second, lv x2, .second, lv x3, .second, lv x4, .second, lv x5, .second, iv x6, lv v12, .second, lv v27, .second, lv v42, .second, lv v57, .second, lv v73, .second, rv b21, .unset] [(.int (lcmpW ((v12 ||| v27) ||| v42) (0 : Int64)))] tz := fun tz kt => by
          show oS p e below T22 m 104 #[lv x1, .second, lv x2, .second, lv x3, .second, lv x4, .second, lv x5, .second, iv x6, lv v12, .second, lv v27, .second, lv v42, .second, lv v57, .second, lv v73, .second, rv b21, .unset] [(.int (lcmpW ((v12 ||| v27) ||| v42) (0 : Int64)))] _
          refine XS.ifNo X22.here hx rfl (hb hby at_104) rfl ((if0 _ _).trans (teq ((lw_eq ((v12 ||| v27) ||| v42) (0 : Int64)).mpr hc104)).2) ?_
          refine XS.iconst X22.here hx rfl (hb hby at_107) ?_
          refine XS.goto X22.here hx rfl (pc0 := 108) (pc' := 112) rfl (hb hby at_108) (by decide) (by decide) ?_
          exact kt
        exact ⟨(1 : Int32), T22, _, (by rw [if_pos hc104]), N22, X22, rfl, fun tz kt => (pre25 _ kt)⟩
      · have pre26 : ∀ tz, oS p e below T22 m 112 #[lv x1, .second, lv x2, .second, lv x3, .second, lv x4, .second, lv x5, .second, iv x6, lv v12, .second, lv v27, .second, lv v42, .second, lv v57, .second, lv v73, .second, rv b21, .unset] [(.int (0 : Int32))] tz → oS p e below T22 m 104 #[lv x1, .second, lv x2, .second, lv x3, .second, lv x4, .second, lv x5, .second, iv x6, lv v12, .second, lv v27, .second, lv v42, .second, lv v57, .second, lv v73, .second, rv b21, .unset] [(.int (lcmpW ((v12 ||| v27) ||| v42) (0 : Int64)))] tz := fun tz kt => by
          show oS p e below T22 m 104 #[lv x1, .second, lv x2, .second, lv x3, .second, lv x4, .second, lv x5, .second, iv x6, lv v12, .second, lv v27, .second, lv v42, .second, lv v57, .second, lv v73, .second, rv b21, .unset] [(.int (lcmpW ((v12 ||| v27) ||| v42) (0 : Int64)))] _
          refine XS.ifYes X22.here hx rfl (pc0 := 104) (pc' := 111) rfl (hb hby at_104) rfl ((if0 _ _).trans (feq (fun q => hc104 ((lw_eq ((v12 ||| v27) ||| v42) (0 : Int64)).mp q))).2) (by decide) (by decide) ?_
          refine XS.iconst X22.here hx rfl (hb hby at_111) ?_
          exact kt
        exact ⟨(0 : Int32), T22, _, (by rw [if_neg hc104]), N22, X22, rfl, fun tz kt => (pre26 _ kt)⟩)
  have hv112 : v112 = (if ((v12 ||| v27) ||| v42) = (0 : Int64) then (1 : Int32) else (0 : Int32)) := jv27
  have Zc29 : n0 ≤ T22.heap.size := (Nat.le_trans Zc23 K22.1)
  obtain ⟨cq28, kq28, q28a, q28b, q28c⟩ := isOf hZ e27 pf22_0
  obtain ⟨_, _, ⟨T28, Lw28, kw28, nw28⟩, -, X28, ⟨Lc28, hQ28, l28, y28, z28⟩, st28⟩ := X27.virtualBack hx (y := (⟨"com/example/lockstep/lockstep/TokenCounts", "fits", "()Z"⟩ : MethodName)) (z := (⟨"com/example/lockstep/lockstep/TokenCounts", "fits", "()Z"⟩ : MethodName)) hown (mvT hZ (own_w hw 24 rfl)) (mvT hZ (own_w hw 25 rfl)) (notFace_of_selects (args := #[]) (mvT hZ (own_w hw 27 rfl))) (mvT hZ (own_w hw 27 rfl)) (mvT hZ (own_w hw 26 rfl)) (by decide) (backOf (W := 0) (rm4 l Z a0 hw [] b21 v12 v27 v42 T22.heap n0 Zc29 pf22_1 pf22_3 pf22_5) hZ (own_w hw 28 rfl) (own_w hw 2 rfl) (by decide) (by decide)) q28a q28c (g := (mkF m 116 #[lv x1, .second, lv x2, .second, lv x3, .second, lv x4, .second, lv x5, .second, iv x6, lv v12, .second, lv v27, .second, lv v42, .second, lv v57, .second, lv v73, .second, rv b21, iv v112] [(.ref b21)])) rfl (by rw [hml]; rfl) (Steps.refl _) (argsL := []) (rest := []) (lenOf own_pd2 rfl) rfl (by show 2 * 0 + _ ≤ _; exact Nat.le_of_eq rfl) (hb hby at_116) (fun _ _ => ⟨rfl, e27, (by decide : 1 + 0 ≤ _), (by decide : 5 + 0 ≤ _)⟩)
  dsimp only [Pt.U, Pt.locs, Pt.cells, Pt.slots] at X28 l28 y28 z28 st28 hQ28
  subst l28 y28 z28
  obtain ⟨rfl, Nq28, eh28⟩ := hQ28
  have N28 := Fr.app N27 Nq28
  have pre30 : ∀ tz, oS p e below T28 m 121 #[lv x1, .second, lv x2, .second, lv x3, .second, lv x4, .second, lv x5, .second, iv x6, lv v12, .second, lv v27, .second, lv v42, .second, lv v57, .second, lv v73, .second, rv b21, iv v112] [(.int v112), (.int (if v12 = (0 : Int64) then (if v27 = (0 : Int64) then (if v42 = (0 : Int64) then (1 : Int32) else (0 : Int32)) else (0 : Int32)) else (0 : Int32)))] tz → oS p e below T22 m 104 #[lv x1, .second, lv x2, .second, lv x3, .second, lv x4, .second, lv x5, .second, iv x6, lv v12, .second, lv v27, .second, lv v42, .second, lv v57, .second, lv v73, .second, rv b21, .unset] [(.int (lcmpW ((v12 ||| v27) ||| v42) (0 : Int64)))] tz := fun tz kt => by
    show oS p e below T22 m 104 #[lv x1, .second, lv x2, .second, lv x3, .second, lv x4, .second, lv x5, .second, iv x6, lv v12, .second, lv v27, .second, lv v42, .second, lv v57, .second, lv v73, .second, rv b21, .unset] [(.int (lcmpW ((v12 ||| v27) ||| v42) (0 : Int64)))] _
    refine st27 _ ?_
    refine XS.istore X27.here hx rfl (hb hby at_112) rfl (l' := #[lv x1, .second, lv x2, .second, lv x3, .second, lv x4, .second, lv x5, .second, iv x6, lv v12, .second, lv v27, .second, lv v42, .second, lv v57, .second, lv v73, .second, rv b21, iv v112]) rfl ?_
    refine XS.aload X27.here hx rfl (hb hby at_114) rfl rfl ?_
    show oS p e below T27 m 116 #[lv x1, .second, lv x2, .second, lv x3, .second, lv x4, .second, lv x5, .second, iv x6, lv v12, .second, lv v27, .second, lv v42, .second, lv v57, .second, lv v73, .second, rv b21, iv v112] [(.ref b21)] _
    refine st28.trans ?_
    refine XS.iload X28.here hx rfl (hb hby at_119) rfl ?_
    exact kt
  by_cases hc121 : (if v12 = (0 : Int64) then (if v27 = (0 : Int64) then (if v42 = (0 : Int64) then (1 : Int32) else (0 : Int32)) else (0 : Int32)) else (0 : Int32)) = v112
  · have pre31 : ∀ tz, oS p e below T28 m 129 #[lv x1, .second, lv x2, .second, lv x3, .second, lv x4, .second, lv x5, .second, iv x6, lv v12, .second, lv v27, .second, lv v42, .second, lv v57, .second, lv v73, .second, rv b21, iv v112] [(.int (1 : Int32))] tz → oS p e below T28 m 121 #[lv x1, .second, lv x2, .second, lv x3, .second, lv x4, .second, lv x5, .second, iv x6, lv v12, .second, lv v27, .second, lv v42, .second, lv v57, .second, lv v73, .second, rv b21, iv v112] [(.int v112), (.int (if v12 = (0 : Int64) then (if v27 = (0 : Int64) then (if v42 = (0 : Int64) then (1 : Int32) else (0 : Int32)) else (0 : Int32)) else (0 : Int32)))] tz := fun tz kt => by
      show oS p e below T28 m 121 #[lv x1, .second, lv x2, .second, lv x3, .second, lv x4, .second, lv x5, .second, iv x6, lv v12, .second, lv v27, .second, lv v42, .second, lv v57, .second, lv v73, .second, rv b21, iv v112] [(.int v112), (.int (if v12 = (0 : Int64) then (if v27 = (0 : Int64) then (if v42 = (0 : Int64) then (1 : Int32) else (0 : Int32)) else (0 : Int32)) else (0 : Int32)))] _
      refine XS.icmpNo X28.here hx rfl (hb hby at_121) rfl (teq hc121).2 ?_
      refine XS.iconst X28.here hx rfl (hb hby at_124) ?_
      refine XS.goto X28.here hx rfl (pc0 := 125) (pc' := 129) rfl (hb hby at_125) (by decide) (by decide) ?_
      exact kt
    obtain ⟨fs, hr, hrun, hended, hW, hsame⟩ := X28.leave (v := some (.int (1 : Int32))) (fun h => by rw [Bd.returns] at h; cases h)
    refine ⟨_, _, pre0 _ (pre1 _ (pre5 _ (pre9 _ (pre13 _ (pre17 _ (pre24 _ (pre30 _ (pre31 _ ?_)))))))), hrun, hended, _, _, rfl, ?_, ⟨_, rfl⟩, hW, hsame.mono (by decide) (by decide)⟩
    · show oS p e below T28 m 129 #[lv x1, .second, lv x2, .second, lv x3, .second, lv x4, .second, lv x5, .second, iv x6, lv v12, .second, lv v27, .second, lv v42, .second, lv v57, .second, lv v73, .second, rv b21, iv v112] [(.int (1 : Int32))] _
      exact retN X28 hx (t := .boolean) Bd.returns (by simp) (hb hby at_129) hr
    · show Q0 Z x1 x2 x3 x4 x5 x6 h0 n0 _ T28.heap _
      rw [eh28]
      exact ⟨rfl, N28⟩
  · exfalso
    subst hv112; exact hc121 (own_law _ _ _)
set_option maxRecDepth 65536 in
set_option maxHeartbeats 40000000 in
theorem comes_1 {Post : Tables → Env → Array Value → State → Outcome → State → Prop} (hpost : ∀ tb e args s v u, (limb_1_1.after args s (.returned v) u = true ∧ limb_1_2.after args s (.returned v) u = true ∧ True) → FrameEnd s (.returned v) u (Jvm.fieldLocs frame_1_writes args s ++ Jvm.arrayLocs frame_1_arrays args s ++ Jvm.staticLocs frame_1_statics s) 16 128 → Post tb e args s (.returned v) u) :
    ArmFor flags0 classFile x code maxLocals ret World_1 tables_1 room_1 Calls_1 rest_1 Pre_1 Post := by
  intro l hfl _ _ p e ha hc hk s m args below hf hA hF happ hP
  obtain ⟨hcalls, hrest, hpre⟩ := hP
  obtain ⟨-, -, -, hnamed, -, -, -, hat⟩ := (Spec.applies_iff hf).mp happ
  obtain ⟨hg, hn⟩ := and_e (Cond.before_iff.mp (show (Jvm.Cond.and given_1 narrow_1).before args s = true from hpre))
  obtain ⟨gc, gr0⟩ := and_e hg
  obtain ⟨ga0, gr1⟩ := and_e gr0
  obtain ⟨ga1, gr2⟩ := and_e gr1
  obtain ⟨ga2, gr3⟩ := and_e gr2
  obtain ⟨ga3, gr4⟩ := and_e gr3
  obtain ⟨ga4, gr5⟩ := and_e gr4
  have ga5 := gr5
  obtain ⟨w0, w1, w2, w3, w4, w5, rfl⟩ : ∃ w0 w1 w2 w3 w4 w5 : Value, args = #[w0, w1, w2, w3, w4, w5] := by
    have hs : args.size = 6 := by simpa [Cond.value, given_1] using gc
    obtain ⟨L⟩ := args
    match L, hs with
    | [w0, w1, w2, w3, w4, w5], _ => exact ⟨w0, w1, w2, w3, w4, w5, rfl⟩
  have hw := fun d (hd : d ∈ tables_1) => atoms_spec (ws := Jvm.Cond.code x code maxLocals ret :: tables_1) hat d (List.mem_cons_of_mem _ hd)
  obtain ⟨i0, ei0⟩ := isL_v ga0
  obtain rfl : w0 = (.long i0) := Option.some.inj ei0
  obtain ⟨i1, ei1⟩ := isL_v ga1
  obtain rfl : w1 = (.long i1) := Option.some.inj ei1
  obtain ⟨i2, ei2⟩ := isL_v ga2
  obtain rfl : w2 = (.long i2) := Option.some.inj ei2
  obtain ⟨i3, ei3⟩ := isL_v ga3
  obtain rfl : w3 = (.long i3) := Option.some.inj ei3
  obtain ⟨i4, ei4⟩ := isL_v ga4
  obtain rfl : w4 = (.long i4) := Option.some.inj ei4
  obtain ⟨i5, ei5⟩ := is_v ga5
  obtain rfl : w5 = (.int i5) := Option.some.inj ei5
  obtain ⟨n, o, h1, h2, h3, _, L, rfl, ⟨rfl, N⟩, hq⟩ := rm0 l s _ hw tables_1 i0 i1 i2 i3 i4 i5 s.heap s.heap.size (Nat.le_refl _)  p e ha hc hk s m _ below hf ((Spec.applies_iff_loose hf).mp happ).1 ⟨rfl, State.Warmed39.refl s, rfl⟩ trivial
  refine ⟨n, _, h1, h2, h3, hpost _ _ _ _ _ _ ⟨Cond.after_iff.mpr rfl, Cond.after_iff.mpr (eq_i res_at (Term.int_eval (1)) rfl), trivial⟩ ⟨hq.1, hq.2.1, (hq.2.2.sift fun y hy => Or.inr (N y hy)).mono (by decide) (by decide)⟩⟩
theorem main_1_1 : Claimed_1_1 := comes_1 fun _ _ _ _ _ _ h hF => ⟨h.1, hF⟩
theorem main_1_2 : Claimed_1_2 := comes_1 fun _ _ _ _ _ _ h hF => ⟨h.2.1, hF⟩
end Jvm.Pilot.@@N@@
namespace Jvm.Pilot.@@N@@
open Jvm Jvm.ClassFile Sem Op Lib Jvm.Free Jvm.Stand Jvm.Pilot.@@N@@.Jvm.D
/-! MADE BY PROGRAM (witnessworld.py) out of the Statement's table words and the real class files: 10 classes; the members and pool entries that the words name. The judged class is class 1, her method 1. -/
namespace start1
open Jvm.ClassFile
def u (s : String) : CpInfo := .utf8 (stringToUtf16 s)
/-- a pool by its gaps: so many unusable entries, then the entry; so many at the end -/
def gap : Nat → List CpInfo → List CpInfo
  | 0, r => r
  | n + 1, r => .unusable :: gap n r
def poolList (es : List (Nat × CpInfo)) (last : Nat) : List CpInfo := es.foldr (fun e r => gap e.1 (e.2 :: r)) (gap last [])
def pool (es : List (Nat × CpInfo)) (last : Nat) : Array CpInfo := ⟨poolList es last⟩
def fileOf (pool : Array CpInfo) (this : Nat) (attrs : Array Attribute := #[]) (ms : Array MethodInfo := #[]) (fl : Nat := 33) (sup : Nat := 0) (ifs : Array Nat := #[]) (fds : Array FieldInfo := #[]) : ClassFile where
  minorVersion := 0
  majorVersion := 65
  constantPool := pool
  accessFlags := fl
  thisClass := this
  superClass := sup
  interfaces := ifs
  fields := fds
  methods := ms
  attributes := attrs
def plain (name : String) (sup : Option ClassId) : Class where
  name := name
  kind := .ordinary
  loader := none
  accessFlags := 33
  super := sup
  interfaces := #[]
  cf := none
  fields := #[]
  methods := #[]
  instanceTypes := #[]
  staticTypes := #[]
  resolved := #[]
  callSites := []
  init := .initialized
  statics := none
  mirror := none

def pool0 : Array CpInfo := pool [(5, u "<init>"), (0, u "()V"), (1, .class_ 10), (1, u "java/lang/Object")] 113

def k0c0 : Code := { maxStack := 0, maxLocals := 1, code := object_method_1_code, exceptionTable := #[], attributes := #[] }
def k0m0 : Method := { name := "<init>", desc := "()V", sig := { parameters := [], returnType := none }, accessFlags := 1, code := some k0c0 }
/-- java/lang/Object -/
def k0 : Class := { plain "java/lang/Object" none with
  accessFlags := 33
  interfaces := #[]
  cf := some (fileOf pool0 8 #[] #[{ accessFlags := 1, nameIndex := 5, descriptorIndex := 6, attributes := #[] }] 33 0 #[] #[])
  fields := #[]
  methods := #[k0m0]
  instanceTypes := #[]
  staticTypes := #[]
  resolved := Array.replicate 124 none
  statics := none }

def pool1 : Array CpInfo := pool [(2, .class_ 4), (1, u "java/lang/Object"), (0, u "<init>"), (0, u "()V"), (0, .class_ 8), (0, u "com/example/lockstep/lockstep/TokenCounts"), (0, .methodref 7 10), (0, .nameAndType 5 11), (0, u "(JJJJJ)V"), (0, .methodref 7 13), (0, .nameAndType 14 15), (0, u "fits"), (0, u "()Z"), (0, .class_ 17), (0, u "com/example/lockstep/lockstep/TokenCountsFitsPinLaw"), (2, u "law"), (0, u "(JJJJJI)Z")] 3

def k1m0 : Method := { name := "<init>", desc := "()V", sig := { parameters := [], returnType := none }, accessFlags := 1, code := none }
def k1c1 : Code := { maxStack := 12, maxLocals := 23, code := code, exceptionTable := #[], attributes := #[] }
def k1m1 : Method := { name := "law", desc := "(JJJJJI)Z", sig := { parameters := [.long, .long, .long, .long, .long, .int], returnType := some .boolean }, accessFlags := 9, code := some k1c1 }
/-- com/example/lockstep/lockstep/TokenCountsFitsPinLaw -/
def k1 : Class := { plain "com/example/lockstep/lockstep/TokenCountsFitsPinLaw" (some 0) with
  accessFlags := 49
  interfaces := #[]
  cf := some (fileOf pool1 16 #[] #[{ accessFlags := 1, nameIndex := 5, descriptorIndex := 6, attributes := #[] }, { accessFlags := 9, nameIndex := 20, descriptorIndex := 21, attributes := #[] }] 49 2 #[] #[])
  fields := #[]
  methods := #[k1m0, k1m1]
  instanceTypes := #[]
  staticTypes := #[]
  resolved := Array.replicate 25 none
  statics := none }

def pool2 : Array CpInfo := pool [(1, .methodref 2 3), (0, .class_ 4), (0, .nameAndType 5 6), (0, u "java/lang/Object"), (0, u "<init>"), (0, u "()V"), (0, .class_ 8), (0, u "java/lang/Record")] 13

def k2c0 : Code := { maxStack := 1, maxLocals := 1, code := jdk_30_method_1_code, exceptionTable := #[], attributes := #[] }
def k2m0 : Method := { name := "<init>", desc := "()V", sig := { parameters := [], returnType := none }, accessFlags := 4, code := some k2c0 }
/-- java/lang/Record -/
def k2 : Class := { plain "java/lang/Record" (some 0) with
  accessFlags := 1057
  interfaces := #[]
  cf := some (fileOf pool2 7 #[] #[{ accessFlags := 4, nameIndex := 5, descriptorIndex := 6, attributes := #[] }] 1057 2 #[] #[])
  fields := #[]
  methods := #[k2m0]
  instanceTypes := #[]
  staticTypes := #[]
  resolved := Array.replicate 22 none
  statics := none }

def pool3 : Array CpInfo := pool [(1, .methodref 2 3), (0, .class_ 4), (0, .nameAndType 5 6), (0, u "java/lang/Record"), (0, u "<init>"), (0, u "()V"), (0, .fieldref 8 9), (0, .class_ 10), (0, .nameAndType 11 12), (0, u "com/example/lockstep/lockstep/TokenCounts"), (0, u "missing"), (0, u "J"), (0, .fieldref 8 14), (0, .nameAndType 15 12), (0, u "consumed"), (0, .fieldref 8 17), (0, .nameAndType 18 12), (0, u "remaining"), (0, .fieldref 8 20), (0, .nameAndType 21 12), (0, u "produced"), (0, .fieldref 8 23), (0, .nameAndType 24 12), (0, u "unmatchedEvents"), (2, u "(JJJJJ)V"), (52, u "NONE"), (0, u "Lcom/example/lockstep/lockstep/TokenCounts;"), (5, u "fits"), (0, u "()Z")] 32

def k3c0 : Code := { maxStack := 3, maxLocals := 11, code := prog_100_method_1_code, exceptionTable := #[], attributes := #[] }
def k3m0 : Method := { name := "<init>", desc := "(JJJJJ)V", sig := { parameters := [.long, .long, .long, .long, .long], returnType := none }, accessFlags := 1, code := some k3c0 }
def k3c1 : Code := { maxStack := 4, maxLocals := 1, code := prog_100_method_3_code, exceptionTable := #[], attributes := #[] }
def k3m1 : Method := { name := "fits", desc := "()Z", sig := { parameters := [], returnType := some .boolean }, accessFlags := 1, code := some k3c1 }
/-- com/example/lockstep/lockstep/TokenCounts -/
def k3 : Class := { plain "com/example/lockstep/lockstep/TokenCounts" (some 2) with
  accessFlags := 49
  interfaces := #[]
  cf := some (fileOf pool3 8 #[] #[{ accessFlags := 1, nameIndex := 5, descriptorIndex := 27, attributes := #[] }, { accessFlags := 1, nameIndex := 87, descriptorIndex := 88, attributes := #[] }] 49 2 #[] #[{ accessFlags := 18, nameIndex := 11, descriptorIndex := 12, attributes := #[] }, { accessFlags := 18, nameIndex := 15, descriptorIndex := 12, attributes := #[] }, { accessFlags := 18, nameIndex := 18, descriptorIndex := 12, attributes := #[] }, { accessFlags := 18, nameIndex := 21, descriptorIndex := 12, attributes := #[] }, { accessFlags := 18, nameIndex := 24, descriptorIndex := 12, attributes := #[] }, { accessFlags := 25, nameIndex := 80, descriptorIndex := 81, attributes := #[] }])
  fields := #[{ name := "missing", type := .long, accessFlags := 18, slot := 0, constantValue := 0 }, { name := "consumed", type := .long, accessFlags := 18, slot := 1, constantValue := 0 }, { name := "remaining", type := .long, accessFlags := 18, slot := 2, constantValue := 0 }, { name := "produced", type := .long, accessFlags := 18, slot := 3, constantValue := 0 }, { name := "unmatchedEvents", type := .long, accessFlags := 18, slot := 4, constantValue := 0 }, { name := "NONE", type := (.object "com/example/lockstep/lockstep/TokenCounts"), accessFlags := 25, slot := 0, constantValue := 0 }]
  methods := #[k3m0, k3m1]
  instanceTypes := #[.long, .long, .long, .long, .long]
  staticTypes := #[(.object "com/example/lockstep/lockstep/TokenCounts")]
  resolved := Array.replicate 121 none
  statics := none }

def pool4 : Array CpInfo := pool [(1, u "java/lang/Cloneable"), (0, .class_ 1), (0, u "java/lang/Object"), (0, .class_ 3)] 3

/-- java/lang/Cloneable -/
def k4 : Class := { plain "java/lang/Cloneable" (some 0) with
  accessFlags := 1537
  interfaces := #[]
  cf := some (fileOf pool4 2 #[] #[] 1537 4 #[] #[])
  fields := #[]
  methods := #[]
  instanceTypes := #[]
  staticTypes := #[]
  resolved := Array.replicate 8 none
  statics := none }

def pool5 : Array CpInfo := pool [(1, u "java/io/Serializable"), (0, .class_ 1), (0, u "java/lang/Object"), (0, .class_ 3)] 3

/-- java/io/Serializable -/
def k5 : Class := { plain "java/io/Serializable" (some 0) with
  accessFlags := 1537
  interfaces := #[]
  cf := some (fileOf pool5 2 #[] #[] 1537 4 #[] #[])
  fields := #[]
  methods := #[]
  instanceTypes := #[]
  staticTypes := #[]
  resolved := Array.replicate 8 none
  statics := none }

/-- the primitive byte -/
def k6 : Class := { plain "byte" none with kind := .primitive 'B', accessFlags := 0x411 }
/-- [B -/
def k7 : Class := { plain "[B" (some 0) with kind := .array 6 .byte, interfaces := #[4, 5], accessFlags := 1041 }

/-- the primitive int -/
def k8 : Class := { plain "int" none with kind := .primitive 'I', accessFlags := 0x411 }
/-- [I -/
def k9 : Class := { plain "[I" (some 0) with kind := .array 8 .int, interfaces := #[4, 5], accessFlags := 1041 }

def heap : Heap := #[]
def classes : Array Class := #[k0, k1, k2, k3, k4, k5, k6, k7, k8, k9]
def interned : List (Array UInt16 × Addr) := []
def slotsUsed : Nat := 0
def theMethod : MethodId := ⟨1, 1⟩
def args0 : Array Value := #[.long 5, .long 6, .long 7, .long 8, .long 9, .int 10]
def aboutOver (below : List Frame) : State where
  vm := { classes := classes, interned := interned.toArray }
  heap := heap
  slotsUsed := slotsUsed
  threads := #[{ frames := .invoking theMethod args0 :: below }]
def below0 : List Frame := [.native { method := ⟨0, 0⟩, args := #[] }]
def about1 : State := aboutOver below0
def p0 : Program := .bare "" "" ""
def e0 : Env := launch0.env 0 0 0
theorem w_frames : about1.frames = Frame.invoking theMethod args0 :: below0 := rfl
set_option maxRecDepth 65536 in
theorem w_args : argsFit about1.vm theMethod args0 = true := by decide +kernel
set_option maxRecDepth 65536 in
theorem w_heap : heapFits about1 = true := by decide +kernel
set_option maxRecDepth 65536 in
theorem w_runnable : about1.curStatus? = some .runnable := by decide +kernel
set_option maxRecDepth 65536 in
theorem w_alone : about1.alone = true := by decide +kernel
set_option maxRecDepth 65536 in
theorem w_named : about1.methodNamed? x = some theMethod := by decide +kernel
set_option maxRecDepth 65536 in
theorem w_hears : about1.hears theMethod below0 = true := by decide +kernel
set_option maxRecDepth 65536 in
theorem w_ripe : about1.ripe theMethod args0 below0 = true := by decide +kernel
theorem w_running : about1.status = .running := rfl
set_option maxRecDepth 65536 in
theorem w_room : about1.hasRoom e0.platform room_1 = true :=
  launch0.hasRoom_least _ room_1 (by decide +kernel) (by decide +kernel) (by decide +kernel) (by decide +kernel) (by decide +kernel) (by decide +kernel)
theorem allAtoms_all (ts : List Jvm.Cond) (a : Array Jvm.Value) (st : Jvm.State) : (allAtoms ts).before a st = ts.all (fun c => c.before a st) := by
  induction ts with
  | nil => rfl
  | cons c t ih =>
    show (Jvm.Cond.and c (allAtoms t)).before a st = _
    rw [Jvm.Cond.before_and, ih, List.all_cons]
def words1 : List Jvm.Cond := Jvm.Cond.code x code maxLocals ret :: tables_1
/-- a 'code' word, met by the world's own term for the bytes: nothing is compared byte by byte -/
theorem code_word {y : MethodName} {bytes : ByteArray} {mx : Nat} {rt : Option FieldType} {a : Array Value} {s : State} {m : MethodId} {meth : Method} {c : Code} (h1 : s.methodNamed? y = some m) (h2 : s.vm.method? m = some meth) (h3 : meth.code = some c) (h4 : c.code = bytes)
    (h5 : (c.maxLocals == mx && c.exceptionTable.isEmpty && decide (c.maxStack ≤ mostOperands) && decide (meth.sig.returnType = rt) && !meth.locks && decide (parseMethodDescriptor y.desc = some meth.sig)) = true) : (Jvm.Cond.code y bytes mx rt).before a s = true := by
  simp only [Bool.and_eq_true, beq_iff_eq, Bool.not_eq_true', decide_eq_true_eq] at h5
  obtain ⟨⟨⟨⟨⟨g1, g2⟩, g3⟩, g4⟩, g5⟩, g6⟩ := h5
  simp [Cond.before, Cond.holds, Cond.value, h1, h2, h3, h4, g1, g2, g3, g4, g5, g6]
def isCode : Jvm.Cond → Bool
  | .code _ _ _ _ => true
  | _ => false
theorem all_split {L : List Jvm.Cond} {P : Jvm.Cond → Bool} (h1 : L.all (fun c => isCode c || P c) = true) (h2 : ∀ c ∈ L.filter isCode, P c = true) : L.all P = true := by
  refine List.all_eq_true.mpr fun c hc => ?_
  have h := List.all_eq_true.mp h1 c hc
  rcases Bool.eq_false_or_eq_true (isCode c) with hi | hi
  · exact h2 c (List.mem_filter.mpr ⟨hc, hi⟩)
  · simpa [hi] using h
set_option maxRecDepth 65536 in
theorem w_c0 : (Jvm.Cond.code x code maxLocals ret).before args0 about1 = true := code_word (m := ⟨1, 1⟩) (meth := k1m1) (c := k1c1) (by decide +kernel) rfl rfl rfl (by decide +kernel)
set_option maxRecDepth 65536 in
theorem w_c1 : (Jvm.Cond.code ({ cls := "com/example/lockstep/lockstep/TokenCounts", name := "<init>", desc := "(JJJJJ)V" } : Jvm.MethodName) prog_100_method_1_code (11 : Nat) (Option.none : Option Jvm.ClassFile.FieldType)).before args0 about1 = true := code_word (m := ⟨3, 0⟩) (meth := k3m0) (c := k3c0) (by decide +kernel) rfl rfl rfl (by decide +kernel)
set_option maxRecDepth 65536 in
theorem w_c2 : (Jvm.Cond.code ({ cls := "java/lang/Record", name := "<init>", desc := "()V" } : Jvm.MethodName) jdk_30_method_1_code (1 : Nat) (Option.none : Option Jvm.ClassFile.FieldType)).before args0 about1 = true := code_word (m := ⟨2, 0⟩) (meth := k2m0) (c := k2c0) (by decide +kernel) rfl rfl rfl (by decide +kernel)
set_option maxRecDepth 65536 in
theorem w_c3 : (Jvm.Cond.code ({ cls := "java/lang/Object", name := "<init>", desc := "()V" } : Jvm.MethodName) object_method_1_code (1 : Nat) (Option.none : Option Jvm.ClassFile.FieldType)).before args0 about1 = true := code_word (m := ⟨0, 0⟩) (meth := k0m0) (c := k0c0) (by decide +kernel) rfl rfl rfl (by decide +kernel)
set_option maxRecDepth 65536 in
theorem w_c4 : (Jvm.Cond.code ({ cls := "com/example/lockstep/lockstep/TokenCounts", name := "fits", desc := "()Z" } : Jvm.MethodName) prog_100_method_3_code (1 : Nat) (Option.some Jvm.ClassFile.FieldType.boolean)).before args0 about1 = true := code_word (m := ⟨3, 1⟩) (meth := k3m1) (c := k3c1) (by decide +kernel) rfl rfl rfl (by decide +kernel)
def codes1 : List Jvm.Cond := [Jvm.Cond.code x code maxLocals ret, Jvm.Cond.code ({ cls := "com/example/lockstep/lockstep/TokenCounts", name := "<init>", desc := "(JJJJJ)V" } : Jvm.MethodName) prog_100_method_1_code (11 : Nat) (Option.none : Option Jvm.ClassFile.FieldType), Jvm.Cond.code ({ cls := "java/lang/Record", name := "<init>", desc := "()V" } : Jvm.MethodName) jdk_30_method_1_code (1 : Nat) (Option.none : Option Jvm.ClassFile.FieldType), Jvm.Cond.code ({ cls := "java/lang/Object", name := "<init>", desc := "()V" } : Jvm.MethodName) object_method_1_code (1 : Nat) (Option.none : Option Jvm.ClassFile.FieldType), Jvm.Cond.code ({ cls := "com/example/lockstep/lockstep/TokenCounts", name := "fits", desc := "()Z" } : Jvm.MethodName) prog_100_method_3_code (1 : Nat) (Option.some Jvm.ClassFile.FieldType.boolean)]
set_option maxRecDepth 65536 in
theorem codes_eq : words1.filter isCode = codes1 := rfl
theorem w_codes : ∀ c ∈ words1.filter isCode, c.before args0 about1 = true := by
  rw [codes_eq]
  intro c hc
  simp only [codes1, List.mem_cons, List.not_mem_nil, or_false] at hc
  rcases hc with rfl | rfl | rfl | rfl | rfl
  · exact w_c0
  · exact w_c1
  · exact w_c2
  · exact w_c3
  · exact w_c4
set_option maxRecDepth 65536 in
theorem w_t1 : (words1.take 24).all (fun c => isCode c || c.before args0 about1) = true := by decide +kernel
set_option maxRecDepth 65536 in
theorem w_t2 : (words1.drop 24).all (fun c => isCode c || c.before args0 about1) = true := by decide +kernel
theorem w_tables : (allAtoms (Jvm.Cond.code x code maxLocals ret :: tables_1)).before args0 about1 = true := by
  rw [allAtoms_all]
  show words1.all (fun c => c.before args0 about1) = true
  refine all_split ?_ w_codes
  rw [← List.take_append_drop 24 words1, List.all_append, w_t1, w_t2]
  rfl
set_option maxRecDepth 65536 in
theorem w_case : (Jvm.Cond.and given_1 narrow_1).before args0 about1 = true := by decide +kernel
theorem w_applies : (headSpec (Jvm.Cond.code x code maxLocals ret :: tables_1) room_1).applies x e0.platform about1 = true :=
  (Spec.applies_iff w_frames).mpr ⟨w_running, w_runnable, w_alone, w_named, w_hears, w_ripe, w_room, w_tables⟩
theorem atStart : AtStart classFile x code maxLocals ret World_1 tables_1 room_1 Calls_1 rest_1 Pre_1 launch0 p0 e0 about1 theMethod args0 below0 :=
  ⟨lists_1, trivial, launch0.admits_env _ _ _, launch0.least_env, fairChoices_fair.cas, fairChoices_fair.clock, w_frames, w_args, w_heap, w_applies, trivial, trivial, w_case⟩
end start1
theorem witness_1 : WitnessClaimed_1 := ⟨start1.p0, start1.e0, start1.about1, start1.theMethod, start1.args0, start1.below0, start1.atStart⟩
end Jvm.Pilot.@@N@@
