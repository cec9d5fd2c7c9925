import JvmDerived
import JvmDerived.Pilot.@@N@@Statement
import JvmDerived.Pilot.@@N@@Code
set_option linter.unusedVariables false
set_option linter.unusedSimpArgs false
namespace Jvm.Pilot.@@N@@
open Jvm Jvm.ClassFile Sem Op Lib Jvm.Free Jvm.Stand Jvm.LawKit Jvm.RoadKit Bundle Jvm.Pilot.@@N@@.Jvm.D
theorem own_w {a0 : Array Value} {Z : State} (hw : ∀ d ∈ tables_1, d.before a0 Z = true) (i : Nat) {d : Jvm.Cond} (h : tables_1[i]? = some d) : d.before a0 Z = true := hw _ (List.mem_of_getElem? h)
abbrev oS (p : Program) (e : Env) (b : List Frame) (T : State) (m : MethodId) (pc : Nat) (L : Array Slot) (S : List Value) (t : State) : Prop := Steps p.tables e b (T.setTop (mkF m pc L S)) t
abbrev lv (x : Int64) : Slot := .val (.long x)
theorem own_join {α : Type} {p : Program} {l : Launch} {e : Env} {R : Room} {s : State} {m : MethodId} {args : Array Value} {below : List Frame} {meth : Method} {c : Code} {T : State} {locs : List Loc} {cells slots n0 : Nat} {h : Heap}
    (_ : Stand p l e R s m args below meth c T locs cells slots) (_ : Fr n0 locs) (_ : T.heap = h) (A : JFrame) (B : α → JFrame) (P : α → Prop)
    (k : ∃ (v : α) (T' : State) (locs' : List Loc), P v ∧ Fr n0 locs' ∧ Stand p l e R s m args below meth c T' locs' cells slots ∧ T'.heap = h ∧ ∀ t, Steps p.tables e below (T'.setTop (B v)) t → Steps p.tables e below (T.setTop A) t) :
    ∃ (v : α) (T' : State) (locs' : List Loc), P v ∧ Fr n0 locs' ∧ Stand p l e R s m args below meth c T' locs' cells slots ∧ T'.heap = h ∧ ∀ t, Steps p.tables e below (T'.setTop (B v)) t → Steps p.tables e below (T.setTop A) t := k
theorem own_joinH {α : Type} {p : Program} {l : Launch} {e : Env} {R : Room} {s : State} {m : MethodId} {args : Array Value} {below : List Frame} {meth : Method} {c : Code} {T : State} {locs : List Loc} {cells slots n0 : Nat} {h : Heap}
    (_ : Stand p l e R s m args below meth c T locs cells slots) (_ : Fr n0 locs) (_ : T.heap = h) (A : JFrame) (B : α → JFrame) (P : α → Heap → Prop)
    (k : ∃ (v : α) (T' : State) (h' : Heap) (locs' : List Loc), P v h' ∧ Fr n0 locs' ∧ Stand p l e R s m args below meth c T' locs' cells slots ∧ T'.heap = h' ∧ ∀ t, Steps p.tables e below (T'.setTop (B v)) t → Steps p.tables e below (T.setTop A) t) :
    ∃ (v : α) (T' : State) (h' : Heap) (locs' : List Loc), P v h' ∧ Fr n0 locs' ∧ Stand p l e R s m args below meth c T' locs' cells slots ∧ T'.heap = h' ∧ ∀ t, Steps p.tables e below (T'.setTop (B v)) t → Steps p.tables e below (T.setTop A) t := k
theorem own_selp {s Z : State} {a0 args : Array Value} {y : MethodName} {n : Nat} (hZ : Z.Warmed39 s.vm) (wi : (Cond.instantiable y.cls n).before a0 Z = true) (wp : (Cond.privateMethod y).before a0 Z = true) (wm : (Cond.instanceMethod y).before a0 Z = true)
    (hy : y.cls ≠ "java/lang/invoke/MethodHandle" ∧ y.cls ≠ "java/lang/invoke/VarHandle") : (Cond.selects y.cls y y).before args s = true := by
  have wi' : (Cond.instantiable y.cls n).before args s = true := mvT hZ wi
  obtain ⟨c, k, h1, h2, h3, h4, -⟩ := Cond.instantiable_spec wi'
  exact Stand.selects_self_of_private h1 h2 (Bool.or_eq_false_iff.mp h4).1 (Cond.privateMethod_at (mvP hZ wp (args := #[]))) (mvT hZ wm) hy
abbrev oz0 : String := "com/example/ordered_scheduler/orderedscheduler/sequencing/Place"
abbrev oz1 : String := "com/example/ordered_scheduler/orderedscheduler/sequencing/Backlog"
abbrev oz2 : String := "Lcom/example/ordered_scheduler/orderedscheduler/sequencing/Place;"
abbrev oz3 : String := "Lcom/example/ordered_scheduler/orderedscheduler/sequencing/Backlog;"
abbrev oz4 : String := "(Lcom/example/ordered_scheduler/orderedscheduler/sequencing/Backlog;Lcom/example/ordered_scheduler/orderedscheduler/sequencing/Place;Lcom/example/ordered_scheduler/orderedscheduler/sequencing/Place;II)I"
abbrev oz5 : String := "(Lcom/example/ordered_scheduler/orderedscheduler/sequencing/Place;)Z"
abbrev oz6 : String := "com/example/ordered_scheduler/orderedscheduler/sequencing/BacklogIsEmptyPinLaw"
abbrev oz7 : String := "(Lcom/example/ordered_scheduler/orderedscheduler/sequencing/Place;)V"
abbrev oz8 : String := "()Lcom/example/ordered_scheduler/orderedscheduler/sequencing/Place;"
theorem d1_0 : decode prog_10_method_1_code 0 = .ok (.aload_n 0, 1) := by decide +kernel
theorem d1_1 : decode prog_10_method_1_code 1 = .ok (.invokespecial 1, 3) := by decide +kernel
theorem d1_4 : decode prog_10_method_1_code 4 = .ok (.return_, 1) := by decide +kernel
theorem own_pn0 : plainName "com/example/ordered_scheduler/orderedscheduler/sequencing/Backlog" = true := by first | (simp [plainName, overriddenIn]; done) | decide +kernel
theorem ef1 (m : MethodId) (o : Addr) : entryFrame m #[(.ref o)] 1 = mkF m 0 #[rv o] [] := by first | (simp [entryFrame, mkF, argsToLocals, Value.category]; done) | rfl
def Q1 (Z : State) (o : Addr) (h0 : Heap) (n0 : Nat) (v : Option Value) (h : Heap) (L : List Loc) : Prop := v = none ∧ Fr n0 L ∧ h = h0
set_option maxRecDepth 65536 in
set_option maxHeartbeats 40000000 in
theorem rm1 (l : Launch) (Z : State) (a0 : Array Value) (hw : ∀ d ∈ tables_1, d.before a0 Z = true) (ws : List Jvm.Cond) (o : Addr) (h0 : Heap) (n0 : Nat) (Z0 : n0 ≤ h0.size) :
    MetFree l (⟨oz1, "<init>", "()V"⟩ : MethodName) (head1 (Jvm.Cond.code (⟨oz1, "<init>", "()V"⟩ : MethodName) prog_10_method_1_code 1 none :: ws) ({ frames := 1, cells := 0, slots := 0, locals := 12 } : Room)) (fun a U => a = #[(.ref o)] ∧ Z.Warmed39 U.vm ∧ U.heap = h0) (fun _ _ _ _ _ => True) (fun _ U oc U' => ∃ v L, oc = .returned v ∧ Q1 Z o h0 n0 v U'.heap L ∧ FrameEnd U oc U' L ({ frames := 1, cells := 0, slots := 0, locals := 12 } : Room).cells ({ frames := 1, cells := 0, slots := 0, locals := 12 } : Room).slots) := by
  refine MetFree.of_bodySF (plainFor_of_name own_pn0) hisR ?_
  intro p e s m args below meth c s₁ Bd hml0 hP hK
  obtain ⟨rfl, hZ, hh⟩ := hP
  have hx := Bd.exec
  have hby := Bd.bytes
  have hml : c.maxLocals = 1 := hml0
  have hown : s.vm.findClass oz1 = some m.cls := findClass_of_methodNamed Bd.named
  have hnm := (name_of_methodNamed Bd.named Bd.method).1
  have X0 : Stand p l e ({ frames := 1, cells := 0, slots := 0, locals := 12 } : Room) s m #[(.ref o)] below meth c s₁ [] 0 0 := Stand.of_body Bd
  have e0 : s₁.heap = h0 := by rw [← hh, Bd.state]; rfl
  have N0 := Fr.nil n0
  have pre0 : ∀ t, Steps p.tables e below (s₁.setTop (mkF m 0 #[rv o] [])) t → Steps p.tables e below (s₁.setTop (entryFrame m #[(.ref o)] 1)) t := fun t k => castTop (ef1 m o) k
  obtain ⟨T1, X1, e1, st1⟩ := initO X0 hx hZ hown (own_w hw 6 rfl) (own_w hw 7 rfl) (own_w hw 8 rfl) e0 (g := (mkF m 1 #[rv o] [(.ref o)])) rfl (by rw [hml]; rfl) rfl (hb hby d1_1) (by decide) (W := 0) (by show 2 * 0 + _ ≤ _; exact Nat.le_of_eq rfl) (by decide)
  have pre2 : ∀ tz, oS p e below T1 m 4 #[rv o] [] tz → oS p e below s₁ m 0 #[rv o] [] tz := fun tz kt => by
    show oS p e below s₁ m 0 #[rv o] [] _
    refine XS.aloadN X0.here hx rfl (hb hby d1_0) rfl rfl ?_
    show oS p e below s₁ m 1 #[rv o] [(.ref o)] _
    refine st1 _ ?_
    exact kt
  obtain ⟨fs, hr, hrun, hended, hW, hsame⟩ := X1.leave (v := none) (fun _ => rfl)
  refine ⟨_, _, pre0 _ (pre2 _ ?_), hrun, hended, _, _, rfl, ?_, ⟨_, rfl⟩, hW, hsame.mono (by decide) (by decide)⟩
  · show oS p e below T1 m 4 #[rv o] [] _
    exact X1.returnOut hx Bd.returns (hb hby d1_4) hr
  · show Q1 Z o h0 n0 _ T1.heap _
    rw [e1]
    exact ⟨rfl, N0, rfl⟩
theorem d3_0 : decode prog_13_method_1_code 0 = .ok (.aload_n 0, 1) := by decide +kernel
theorem d3_1 : decode prog_13_method_1_code 1 = .ok (.invokespecial 1, 3) := by decide +kernel
theorem d3_4 : decode prog_13_method_1_code 4 = .ok (.aload_n 0, 1) := by decide +kernel
theorem d3_5 : decode prog_13_method_1_code 5 = .ok (.aload_n 1, 1) := by decide +kernel
theorem d3_6 : decode prog_13_method_1_code 6 = .ok (.putfield 7, 3) := by decide +kernel
theorem d3_9 : decode prog_13_method_1_code 9 = .ok (.aload_n 0, 1) := by decide +kernel
theorem d3_10 : decode prog_13_method_1_code 10 = .ok (.aload_n 2, 1) := by decide +kernel
theorem d3_11 : decode prog_13_method_1_code 11 = .ok (.putfield 13, 3) := by decide +kernel
theorem d3_14 : decode prog_13_method_1_code 14 = .ok (.aload_n 0, 1) := by decide +kernel
theorem d3_15 : decode prog_13_method_1_code 15 = .ok (.aload_n 3, 1) := by decide +kernel
theorem d3_16 : decode prog_13_method_1_code 16 = .ok (.putfield 17, 3) := by decide +kernel
theorem d3_19 : decode prog_13_method_1_code 19 = .ok (.aload_n 0, 1) := by decide +kernel
theorem d3_20 : decode prog_13_method_1_code 20 = .ok (.aload 4, 2) := by decide +kernel
theorem d3_22 : decode prog_13_method_1_code 22 = .ok (.putfield 21, 3) := by decide +kernel
theorem d3_25 : decode prog_13_method_1_code 25 = .ok (.return_, 1) := by decide +kernel
theorem own_pn1 : plainName "com/example/ordered_scheduler/orderedscheduler/sequencing/Place" = true := by first | (simp [plainName, overriddenIn]; done) | decide +kernel
theorem ef3 (m : MethodId) (o : Addr) : entryFrame m #[(.ref o), .null, .null, .null, .null] 5 = mkF m 0 #[rv o, .val .null, .val .null, .val .null, .val .null] [] := by first | (simp [entryFrame, mkF, argsToLocals, Value.category]; done) | rfl
def Q3 (Z : State) (o : Addr) (w_sequencer_o : Value) (w_key_o : Value) (w_task_o : Value) (w_tally_o : Value) (h0 : Heap) (n0 : Nat) (v : Option Value) (h : Heap) (L : List Loc) : Prop := v = none ∧ Fr n0 L ∧ Keep h0 h [o] ∧ Fld Z h o oz0 "in" oz3 .null ∧ Fld Z h o oz0 "before" oz2 .null ∧ Fld Z h o oz0 "after" oz2 .null
set_option maxRecDepth 65536 in
set_option maxHeartbeats 40000000 in
theorem rm3 (l : Launch) (Z : State) (a0 : Array Value) (hw : ∀ d ∈ tables_1, d.before a0 Z = true) (ws : List Jvm.Cond) (o : Addr) (w_sequencer_o : Value) (w_key_o : Value) (w_task_o : Value) (w_tally_o : Value) (h0 : Heap) (n0 : Nat) (Z0 : n0 ≤ h0.size) (E_o : Exa Z h0 o oz0) (g_o : n0 ≤ o) (F_in_o : Fld Z h0 o oz0 "in" oz3 .null) (F_before_o : Fld Z h0 o oz0 "before" oz2 .null) (F_after_o : Fld Z h0 o oz0 "after" oz2 .null) (F_sequencer_o : Fld Z h0 o oz0 "sequencer" "Lcom/example/ordered_scheduler/orderedscheduler/sequencing/Sequencer;" w_sequencer_o) (F_key_o : Fld Z h0 o oz0 "key" "Ljava/lang/Object;" w_key_o) (F_task_o : Fld Z h0 o oz0 "task" "Ljava/lang/Runnable;" w_task_o) (F_tally_o : Fld Z h0 o oz0 "tally" "Lcom/example/ordered_scheduler/orderedscheduler/sequencing/Tally;" w_tally_o) :
    MetFree l (⟨oz0, "<init>", "(Lcom/example/ordered_scheduler/orderedscheduler/sequencing/Sequencer;Ljava/lang/Object;Ljava/lang/Runnable;Lcom/example/ordered_scheduler/orderedscheduler/sequencing/Tally;)V"⟩ : MethodName) (head1 (Jvm.Cond.code (⟨oz0, "<init>", "(Lcom/example/ordered_scheduler/orderedscheduler/sequencing/Sequencer;Ljava/lang/Object;Ljava/lang/Runnable;Lcom/example/ordered_scheduler/orderedscheduler/sequencing/Tally;)V"⟩ : MethodName) prog_13_method_1_code 5 none :: ws) ({ frames := 1, cells := 0, slots := 0, locals := 12 } : Room)) (fun a U => a = #[(.ref o), .null, .null, .null, .null] ∧ Z.Warmed39 U.vm ∧ U.heap = h0) (fun _ _ _ _ _ => True) (fun _ U oc U' => ∃ v L, oc = .returned v ∧ Q3 Z o w_sequencer_o w_key_o w_task_o w_tally_o h0 n0 v U'.heap L ∧ FrameEnd U oc U' L ({ frames := 1, cells := 0, slots := 0, locals := 12 } : Room).cells ({ frames := 1, cells := 0, slots := 0, locals := 12 } : Room).slots) := by
  refine MetFree.of_bodySF (plainFor_of_name own_pn1) hisR ?_
  intro p e s m args below meth c s₁ Bd hml0 hP hK
  obtain ⟨rfl, hZ, hh⟩ := hP
  have hx := Bd.exec
  have hby := Bd.bytes
  have hml : c.maxLocals = 5 := hml0
  have hown : s.vm.findClass oz0 = some m.cls := findClass_of_methodNamed Bd.named
  have hnm := (name_of_methodNamed Bd.named Bd.method).1
  have X0 : Stand p l e ({ frames := 1, cells := 0, slots := 0, locals := 12 } : Room) s m #[(.ref o), .null, .null, .null, .null] below meth c s₁ [] 0 0 := Stand.of_body Bd
  have e0 : s₁.heap = h0 := by rw [← hh, Bd.state]; rfl
  have N0 := Fr.nil n0
  have pre0 : ∀ t, Steps p.tables e below (s₁.setTop (mkF m 0 #[rv o, .val .null, .val .null, .val .null, .val .null] [])) t → Steps p.tables e below (s₁.setTop (entryFrame m #[(.ref o), .null, .null, .null, .null] 5)) t := fun t k => castTop (ef3 m o) k
  obtain ⟨T1, X1, e1, st1⟩ := initO X0 hx hZ hown (own_w hw 15 rfl) (own_w hw 7 rfl) (own_w hw 8 rfl) e0 (g := (mkF m 1 #[rv o, .val .null, .val .null, .val .null, .val .null] [(.ref o)])) rfl (by rw [hml]; rfl) rfl (hb hby d3_1) (by decide) (W := 0) (by show 2 * 0 + _ ≤ _; exact Nat.le_of_eq rfl) (by decide)
  obtain ⟨T2, h2, X2, e2, W2, st2⟩ := putF X1 hx hZ hown (host := "") (Or.inl (own_w hw 16 rfl)) Via.refl e1 F_sequencer_o E_o (Or.inr ⟨(own_w hw 17 rfl), rfl, hnm⟩) (own_w hw 10 rfl) (ty := (.object "com/example/ordered_scheduler/orderedscheduler/sequencing/Sequencer")) (by decide) rfl rfl (g := (mkF m 6 #[rv o, .val .null, .val .null, .val .null, .val .null] [.null, (.ref o)])) rfl rfl (hb hby d3_6)
  have Fw2 : Fld Z h2 o oz0 "sequencer" "Lcom/example/ordered_scheduler/orderedscheduler/sequencing/Sequencer;" .null := F_sequencer_o.same W2
  have N2 := Fr.snoc X2 N0 g_o
  have Ec3 : Exa Z h2 o oz0 := (E_o.wr W2)
  have Fc4 : Fld Z h2 o oz0 "key" "Ljava/lang/Object;" w_key_o := (F_key_o.other W2 (Or.inr (slot_ne (Or.inr (own_w hw 19 rfl)) (Or.inr (own_w hw 17 rfl)) (by decide) (t := (.object "java/lang/Object")) (t' := (.object "com/example/ordered_scheduler/orderedscheduler/sequencing/Sequencer")) (by decide) (by decide))))
  obtain ⟨T5, h5, X5, e5, W5, st5⟩ := putF X2 hx hZ hown (host := "") (Or.inl (own_w hw 18 rfl)) Via.refl e2 Fc4 Ec3 (Or.inr ⟨(own_w hw 19 rfl), rfl, hnm⟩) (own_w hw 10 rfl) (ty := (.object "java/lang/Object")) (by decide) rfl rfl (g := (mkF m 11 #[rv o, .val .null, .val .null, .val .null, .val .null] [.null, (.ref o)])) rfl rfl (hb hby d3_11)
  have Fw5 : Fld Z h5 o oz0 "key" "Ljava/lang/Object;" .null := Fc4.same W5
  have N5 := Fr.snoc X5 N2 g_o
  have Ec6 : Exa Z h5 o oz0 := (Ec3.wr W5)
  have Fc7 : Fld Z h5 o oz0 "task" "Ljava/lang/Runnable;" w_task_o := ((F_task_o.other W2 (Or.inr (slot_ne (Or.inl (own_w hw 21 rfl)) (Or.inr (own_w hw 17 rfl)) (by decide) (t := (.object "java/lang/Runnable")) (t' := (.object "com/example/ordered_scheduler/orderedscheduler/sequencing/Sequencer")) (by decide) (by decide)))).other W5 (Or.inr (slot_ne (Or.inl (own_w hw 21 rfl)) (Or.inr (own_w hw 19 rfl)) (by decide) (t := (.object "java/lang/Runnable")) (t' := (.object "java/lang/Object")) (by decide) (by decide))))
  obtain ⟨T8, h8, X8, e8, W8, st8⟩ := putF X5 hx hZ hown (host := "") (Or.inl (own_w hw 20 rfl)) Via.refl e5 Fc7 Ec6 (Or.inl (own_w hw 21 rfl)) (own_w hw 10 rfl) (ty := (.object "java/lang/Runnable")) (by decide) rfl rfl (g := (mkF m 16 #[rv o, .val .null, .val .null, .val .null, .val .null] [.null, (.ref o)])) rfl rfl (hb hby d3_16)
  have Fw8 : Fld Z h8 o oz0 "task" "Ljava/lang/Runnable;" .null := Fc7.same W8
  have N8 := Fr.snoc X8 N5 g_o
  have Ec9 : Exa Z h8 o oz0 := (Ec6.wr W8)
  have Fc10 : Fld Z h8 o oz0 "tally" "Lcom/example/ordered_scheduler/orderedscheduler/sequencing/Tally;" w_tally_o := (((F_tally_o.other W2 (Or.inr (slot_ne (Or.inr (own_w hw 23 rfl)) (Or.inr (own_w hw 17 rfl)) (by decide) (t := (.object "com/example/ordered_scheduler/orderedscheduler/sequencing/Tally")) (t' := (.object "com/example/ordered_scheduler/orderedscheduler/sequencing/Sequencer")) (by decide) (by decide)))).other W5 (Or.inr (slot_ne (Or.inr (own_w hw 23 rfl)) (Or.inr (own_w hw 19 rfl)) (by decide) (t := (.object "com/example/ordered_scheduler/orderedscheduler/sequencing/Tally")) (t' := (.object "java/lang/Object")) (by decide) (by decide)))).other W8 (Or.inr (slot_ne (Or.inr (own_w hw 23 rfl)) (Or.inl (own_w hw 21 rfl)) (by decide) (t := (.object "com/example/ordered_scheduler/orderedscheduler/sequencing/Tally")) (t' := (.object "java/lang/Runnable")) (by decide) (by decide))))
  obtain ⟨T11, h11, X11, e11, W11, st11⟩ := putF X8 hx hZ hown (host := "") (Or.inl (own_w hw 22 rfl)) Via.refl e8 Fc10 Ec9 (Or.inr ⟨(own_w hw 23 rfl), rfl, hnm⟩) (own_w hw 10 rfl) (ty := (.object "com/example/ordered_scheduler/orderedscheduler/sequencing/Tally")) (by decide) rfl rfl (g := (mkF m 22 #[rv o, .val .null, .val .null, .val .null, .val .null] [.null, (.ref o)])) rfl rfl (hb hby d3_22)
  have Fw11 : Fld Z h11 o oz0 "tally" "Lcom/example/ordered_scheduler/orderedscheduler/sequencing/Tally;" .null := Fc10.same W11
  have N11 := Fr.snoc X11 N8 g_o
  have pre12 : ∀ tz, oS p e below T11 m 25 #[rv o, .val .null, .val .null, .val .null, .val .null] [] tz → oS p e below s₁ m 0 #[rv o, .val .null, .val .null, .val .null, .val .null] [] tz := fun tz kt => by
    show oS p e below s₁ m 0 #[rv o, .val .null, .val .null, .val .null, .val .null] [] _
    refine XS.aloadN X0.here hx rfl (hb hby d3_0) rfl rfl ?_
    show oS p e below s₁ m 1 #[rv o, .val .null, .val .null, .val .null, .val .null] [(.ref o)] _
    refine st1 _ ?_
    refine XS.aloadN X1.here hx rfl (hb hby d3_4) rfl rfl ?_
    refine XS.aloadN X1.here hx rfl (hb hby d3_5) rfl rfl ?_
    show oS p e below T1 m 6 #[rv o, .val .null, .val .null, .val .null, .val .null] [.null, (.ref o)] _
    refine st2 _ ?_
    refine XS.aloadN X2.here hx rfl (hb hby d3_9) rfl rfl ?_
    refine XS.aloadN X2.here hx rfl (hb hby d3_10) rfl rfl ?_
    show oS p e below T2 m 11 #[rv o, .val .null, .val .null, .val .null, .val .null] [.null, (.ref o)] _
    refine st5 _ ?_
    refine XS.aloadN X5.here hx rfl (hb hby d3_14) rfl rfl ?_
    refine XS.aloadN X5.here hx rfl (hb hby d3_15) rfl rfl ?_
    show oS p e below T5 m 16 #[rv o, .val .null, .val .null, .val .null, .val .null] [.null, (.ref o)] _
    refine st8 _ ?_
    refine XS.aloadN X8.here hx rfl (hb hby d3_19) rfl rfl ?_
    refine XS.aload X8.here hx rfl (hb hby d3_20) rfl rfl ?_
    show oS p e below T8 m 22 #[rv o, .val .null, .val .null, .val .null, .val .null] [.null, (.ref o)] _
    refine st11 _ ?_
    exact kt
  have KP13 : Keep h0 h11 [o] := (((((Keep.refl h0 [o]).wr W2 (Or.inl (List.mem_of_getElem? (i := 0) rfl))).wr W5 (Or.inl (List.mem_of_getElem? (i := 0) rfl))).wr W8 (Or.inl (List.mem_of_getElem? (i := 0) rfl))).wr W11 (Or.inl (List.mem_of_getElem? (i := 0) rfl)))
  have Fc14 : Fld Z h11 o oz0 "in" oz3 .null := ((((F_in_o.other W2 (Or.inr (slot_ne (Or.inl (own_w hw 41 rfl)) (Or.inr (own_w hw 17 rfl)) (by decide) (t := (.object oz1)) (t' := (.object "com/example/ordered_scheduler/orderedscheduler/sequencing/Sequencer")) (by decide) (by decide)))).other W5 (Or.inr (slot_ne (Or.inl (own_w hw 41 rfl)) (Or.inr (own_w hw 19 rfl)) (by decide) (t := (.object oz1)) (t' := (.object "java/lang/Object")) (by decide) (by decide)))).other W8 (Or.inr (slot_ne (Or.inl (own_w hw 41 rfl)) (Or.inl (own_w hw 21 rfl)) (by decide) (t := (.object oz1)) (t' := (.object "java/lang/Runnable")) (by decide) (by decide)))).other W11 (Or.inr (slot_ne (Or.inl (own_w hw 41 rfl)) (Or.inr (own_w hw 23 rfl)) (by decide) (t := (.object oz1)) (t' := (.object "com/example/ordered_scheduler/orderedscheduler/sequencing/Tally")) (by decide) (by decide))))
  have Fc15 : Fld Z h11 o oz0 "before" oz2 .null := ((((F_before_o.other W2 (Or.inr (slot_ne (Or.inl (own_w hw 45 rfl)) (Or.inr (own_w hw 17 rfl)) (by decide) (t := (.object oz0)) (t' := (.object "com/example/ordered_scheduler/orderedscheduler/sequencing/Sequencer")) (by decide) (by decide)))).other W5 (Or.inr (slot_ne (Or.inl (own_w hw 45 rfl)) (Or.inr (own_w hw 19 rfl)) (by decide) (t := (.object oz0)) (t' := (.object "java/lang/Object")) (by decide) (by decide)))).other W8 (Or.inr (slot_ne (Or.inl (own_w hw 45 rfl)) (Or.inl (own_w hw 21 rfl)) (by decide) (t := (.object oz0)) (t' := (.object "java/lang/Runnable")) (by decide) (by decide)))).other W11 (Or.inr (slot_ne (Or.inl (own_w hw 45 rfl)) (Or.inr (own_w hw 23 rfl)) (by decide) (t := (.object oz0)) (t' := (.object "com/example/ordered_scheduler/orderedscheduler/sequencing/Tally")) (by decide) (by decide))))
  have Fc16 : Fld Z h11 o oz0 "after" oz2 .null := ((((F_after_o.other W2 (Or.inr (slot_ne (Or.inl (own_w hw 56 rfl)) (Or.inr (own_w hw 17 rfl)) (by decide) (t := (.object oz0)) (t' := (.object "com/example/ordered_scheduler/orderedscheduler/sequencing/Sequencer")) (by decide) (by decide)))).other W5 (Or.inr (slot_ne (Or.inl (own_w hw 56 rfl)) (Or.inr (own_w hw 19 rfl)) (by decide) (t := (.object oz0)) (t' := (.object "java/lang/Object")) (by decide) (by decide)))).other W8 (Or.inr (slot_ne (Or.inl (own_w hw 56 rfl)) (Or.inl (own_w hw 21 rfl)) (by decide) (t := (.object oz0)) (t' := (.object "java/lang/Runnable")) (by decide) (by decide)))).other W11 (Or.inr (slot_ne (Or.inl (own_w hw 56 rfl)) (Or.inr (own_w hw 23 rfl)) (by decide) (t := (.object oz0)) (t' := (.object "com/example/ordered_scheduler/orderedscheduler/sequencing/Tally")) (by decide) (by decide))))
  obtain ⟨fs, hr, hrun, hended, hW, hsame⟩ := X11.leave (v := none) (fun _ => rfl)
  refine ⟨_, _, pre0 _ (pre12 _ ?_), hrun, hended, _, _, rfl, ?_, ⟨_, rfl⟩, hW, hsame.mono (by decide) (by decide)⟩
  · show oS p e below T11 m 25 #[rv o, .val .null, .val .null, .val .null, .val .null] [] _
    exact X11.returnOut hx Bd.returns (hb hby d3_25) hr
  · show Q3 Z o w_sequencer_o w_key_o w_task_o w_tally_o h0 n0 _ T11.heap _
    rw [e11]
    exact ⟨rfl, N11, KP13, Fc14, Fc15, Fc16⟩
theorem d4_0 : decode prog_10_method_2_code 0 = .ok (.aload_n 0, 1) := by decide +kernel
theorem d4_1 : decode prog_10_method_2_code 1 = .ok (.getfield 7, 3) := by decide +kernel
theorem d4_4 : decode prog_10_method_2_code 4 = .ok (.ifnonnull 7, 3) := by decide +kernel
theorem d4_7 : decode prog_10_method_2_code 7 = .ok (.iconst 1, 1) := by decide +kernel
theorem d4_8 : decode prog_10_method_2_code 8 = .ok (.goto 4, 3) := by decide +kernel
theorem d4_12 : decode prog_10_method_2_code 12 = .ok (.ireturn, 1) := by decide +kernel
theorem efE0 (m : MethodId) (o : Addr) : entryFrame m #[(.ref o)] 1 = mkF m 0 #[rv o] [] := by first | (simp [entryFrame, mkF, argsToLocals, Value.category]; done) | rfl
def QE0 (Z : State) (o : Addr) (h0 : Heap) (n0 : Nat) (v : Option Value) (h : Heap) (L : List Loc) : Prop := v = some (.int (1 : Int32)) ∧ Fr n0 L ∧ h = h0
set_option maxRecDepth 65536 in
set_option maxHeartbeats 40000000 in
theorem rmE0 (l : Launch) (Z : State) (a0 : Array Value) (hw : ∀ d ∈ tables_1, d.before a0 Z = true) (ws : List Jvm.Cond) (o : Addr) (h0 : Heap) (n0 : Nat) (Z0 : n0 ≤ h0.size) (E_o : Exa Z h0 o oz1) (F_first_o : Fld Z h0 o oz1 "first" oz2 .null) :
    MetFree l (⟨oz1, "isEmpty", "()Z"⟩ : MethodName) (head1 (Jvm.Cond.code (⟨oz1, "isEmpty", "()Z"⟩ : MethodName) prog_10_method_2_code 1 (some .boolean) :: ws) ({ frames := 0, cells := 0, slots := 0, locals := 0 } : Room)) (fun a U => a = #[(.ref o)] ∧ Z.Warmed39 U.vm ∧ U.heap = h0) (fun _ _ _ _ _ => True) (fun _ U oc U' => ∃ v L, oc = .returned v ∧ QE0 Z o h0 n0 v U'.heap L ∧ FrameEnd U oc U' L ({ frames := 0, cells := 0, slots := 0, locals := 0 } : Room).cells ({ frames := 0, cells := 0, slots := 0, locals := 0 } : Room).slots) := by
  refine MetFree.of_bodySF (plainFor_of_name own_pn0) hisR ?_
  intro p e s m args below meth c s₁ Bd hml0 hP hK
  obtain ⟨rfl, hZ, hh⟩ := hP
  have hx := Bd.exec
  have hby := Bd.bytes
  have hml : c.maxLocals = 1 := hml0
  have hown : s.vm.findClass oz1 = some m.cls := findClass_of_methodNamed Bd.named
  have hnm := (name_of_methodNamed Bd.named Bd.method).1
  have X0 : Stand p l e ({ frames := 0, cells := 0, slots := 0, locals := 0 } : Room) s m #[(.ref o)] below meth c s₁ [] 0 0 := Stand.of_body Bd
  have e0 : s₁.heap = h0 := by rw [← hh, Bd.state]; rfl
  have N0 := Fr.nil n0
  have pre0 : ∀ t, Steps p.tables e below (s₁.setTop (mkF m 0 #[rv o] [])) t → Steps p.tables e below (s₁.setTop (entryFrame m #[(.ref o)] 1)) t := fun t k => castTop (efE0 m o) k
  obtain ⟨T1, X1, e1, st1⟩ := getF X0 hx hZ hown (host := "") (Or.inl (own_w hw 29 rfl)) Via.refl e0 F_first_o (g := (mkF m 1 #[rv o] [(.ref o)])) rfl rfl (hb hby d4_1)
  have pre2 : ∀ tz, oS p e below T1 m 12 #[rv o] [(.int (1 : Int32))] tz → oS p e below s₁ m 0 #[rv o] [] tz := fun tz kt => by
    show oS p e below s₁ m 0 #[rv o] [] _
    refine XS.aloadN X0.here hx rfl (hb hby d4_0) rfl rfl ?_
    show oS p e below s₁ m 1 #[rv o] [(.ref o)] _
    refine st1 _ ?_
    refine XS.ifnonnullNo X1.here hx rfl (hb hby d4_4) rfl ?_
    refine XS.iconst X1.here hx rfl (hb hby d4_7) ?_
    refine XS.goto X1.here hx rfl (pc0 := 8) (pc' := 12) rfl (hb hby d4_8) (by decide) (by decide) ?_
    exact kt
  obtain ⟨fs, hr, hrun, hended, hW, hsame⟩ := X1.leave (v := some (.int (1 : Int32))) (fun h => by rw [Bd.returns] at h; cases h)
  refine ⟨_, _, pre0 _ (pre2 _ ?_), hrun, hended, _, _, rfl, ?_, ⟨_, rfl⟩, hW, hsame.mono (by decide) (by decide)⟩
  · show oS p e below T1 m 12 #[rv o] [(.int (1 : Int32))] _
    exact retN X1 hx (t := .boolean) Bd.returns (by simp) (hb hby d4_12) hr
  · show QE0 Z o h0 n0 _ T1.heap _
    rw [e1]
    exact ⟨rfl, N0, rfl⟩
theorem d4_11 : decode prog_10_method_2_code 11 = .ok (.iconst 0, 1) := by decide +kernel
theorem efE1 (m : MethodId) (o : Addr) : entryFrame m #[(.ref o)] 1 = mkF m 0 #[rv o] [] := by first | (simp [entryFrame, mkF, argsToLocals, Value.category]; done) | rfl
def QE1 (Z : State) (o : Addr) (f : Addr) (h0 : Heap) (n0 : Nat) (v : Option Value) (h : Heap) (L : List Loc) : Prop := v = some (.int (0 : Int32)) ∧ Fr n0 L ∧ h = h0
set_option maxRecDepth 65536 in
set_option maxHeartbeats 40000000 in
theorem rmE1 (l : Launch) (Z : State) (a0 : Array Value) (hw : ∀ d ∈ tables_1, d.before a0 Z = true) (ws : List Jvm.Cond) (o : Addr) (f : Addr) (h0 : Heap) (n0 : Nat) (Z0 : n0 ≤ h0.size) (E_o : Exa Z h0 o oz1) (F_first_o : Fld Z h0 o oz1 "first" oz2 (.ref f)) :
    MetFree l (⟨oz1, "isEmpty", "()Z"⟩ : MethodName) (head1 (Jvm.Cond.code (⟨oz1, "isEmpty", "()Z"⟩ : MethodName) prog_10_method_2_code 1 (some .boolean) :: ws) ({ frames := 0, cells := 0, slots := 0, locals := 0 } : Room)) (fun a U => a = #[(.ref o)] ∧ Z.Warmed39 U.vm ∧ U.heap = h0) (fun _ _ _ _ _ => True) (fun _ U oc U' => ∃ v L, oc = .returned v ∧ QE1 Z o f h0 n0 v U'.heap L ∧ FrameEnd U oc U' L ({ frames := 0, cells := 0, slots := 0, locals := 0 } : Room).cells ({ frames := 0, cells := 0, slots := 0, locals := 0 } : Room).slots) := by
  refine MetFree.of_bodySF (plainFor_of_name own_pn0) hisR ?_
  intro p e s m args below meth c s₁ Bd hml0 hP hK
  obtain ⟨rfl, hZ, hh⟩ := hP
  have hx := Bd.exec
  have hby := Bd.bytes
  have hml : c.maxLocals = 1 := hml0
  have hown : s.vm.findClass oz1 = some m.cls := findClass_of_methodNamed Bd.named
  have hnm := (name_of_methodNamed Bd.named Bd.method).1
  have X0 : Stand p l e ({ frames := 0, cells := 0, slots := 0, locals := 0 } : Room) s m #[(.ref o)] below meth c s₁ [] 0 0 := Stand.of_body Bd
  have e0 : s₁.heap = h0 := by rw [← hh, Bd.state]; rfl
  have N0 := Fr.nil n0
  have pre0 : ∀ t, Steps p.tables e below (s₁.setTop (mkF m 0 #[rv o] [])) t → Steps p.tables e below (s₁.setTop (entryFrame m #[(.ref o)] 1)) t := fun t k => castTop (efE1 m o) k
  obtain ⟨T1, X1, e1, st1⟩ := getF X0 hx hZ hown (host := "") (Or.inl (own_w hw 29 rfl)) Via.refl e0 F_first_o (g := (mkF m 1 #[rv o] [(.ref o)])) rfl rfl (hb hby d4_1)
  have pre2 : ∀ tz, oS p e below T1 m 12 #[rv o] [(.int (0 : Int32))] tz → oS p e below s₁ m 0 #[rv o] [] tz := fun tz kt => by
    show oS p e below s₁ m 0 #[rv o] [] _
    refine XS.aloadN X0.here hx rfl (hb hby d4_0) rfl rfl ?_
    show oS p e below s₁ m 1 #[rv o] [(.ref o)] _
    refine st1 _ ?_
    refine XS.ifnonnullYes X1.here hx rfl (pc0 := 4) (pc' := 11) rfl (hb hby d4_4) rfl (by decide) (by decide) ?_
    refine XS.iconst X1.here hx rfl (hb hby d4_11) ?_
    exact kt
  obtain ⟨fs, hr, hrun, hended, hW, hsame⟩ := X1.leave (v := some (.int (0 : Int32))) (fun h => by rw [Bd.returns] at h; cases h)
  refine ⟨_, _, pre0 _ (pre2 _ ?_), hrun, hended, _, _, rfl, ?_, ⟨_, rfl⟩, hW, hsame.mono (by decide) (by decide)⟩
  · show oS p e below T1 m 12 #[rv o] [(.int (0 : Int32))] _
    exact retN X1 hx (t := .boolean) Bd.returns (by simp) (hb hby d4_12) hr
  · show QE1 Z o f h0 n0 _ T1.heap _
    rw [e1]
    exact ⟨rfl, N0, rfl⟩
theorem d8_0 : decode prog_10_method_9_code 0 = .ok (.aload_n 1, 1) := by decide +kernel
theorem d8_1 : decode prog_10_method_9_code 1 = .ok (.getfield 22, 3) := by decide +kernel
theorem d8_4 : decode prog_10_method_9_code 4 = .ok (.ifnonnull 14, 3) := by decide +kernel
theorem d8_7 : decode prog_10_method_9_code 7 = .ok (.aload_n 0, 1) := by decide +kernel
theorem d8_8 : decode prog_10_method_9_code 8 = .ok (.aload_n 1, 1) := by decide +kernel
theorem d8_9 : decode prog_10_method_9_code 9 = .ok (.getfield 25, 3) := by decide +kernel
theorem d8_12 : decode prog_10_method_9_code 12 = .ok (.putfield 7, 3) := by decide +kernel
theorem d8_15 : decode prog_10_method_9_code 15 = .ok (.goto 14, 3) := by decide +kernel
theorem d8_29 : decode prog_10_method_9_code 29 = .ok (.aload_n 1, 1) := by decide +kernel
theorem d8_30 : decode prog_10_method_9_code 30 = .ok (.getfield 25, 3) := by decide +kernel
theorem d8_33 : decode prog_10_method_9_code 33 = .ok (.ifnonnull 14, 3) := by decide +kernel
theorem d8_36 : decode prog_10_method_9_code 36 = .ok (.aload_n 0, 1) := by decide +kernel
theorem d8_37 : decode prog_10_method_9_code 37 = .ok (.aload_n 1, 1) := by decide +kernel
theorem d8_38 : decode prog_10_method_9_code 38 = .ok (.getfield 22, 3) := by decide +kernel
theorem d8_41 : decode prog_10_method_9_code 41 = .ok (.putfield 13, 3) := by decide +kernel
theorem d8_44 : decode prog_10_method_9_code 44 = .ok (.goto 14, 3) := by decide +kernel
theorem d8_58 : decode prog_10_method_9_code 58 = .ok (.aload_n 1, 1) := by decide +kernel
theorem d8_59 : decode prog_10_method_9_code 59 = .ok (.aconst_null, 1) := by decide +kernel
theorem d8_60 : decode prog_10_method_9_code 60 = .ok (.putfield 16, 3) := by decide +kernel
theorem d8_63 : decode prog_10_method_9_code 63 = .ok (.aload_n 1, 1) := by decide +kernel
theorem d8_64 : decode prog_10_method_9_code 64 = .ok (.aconst_null, 1) := by decide +kernel
theorem d8_65 : decode prog_10_method_9_code 65 = .ok (.putfield 22, 3) := by decide +kernel
theorem d8_68 : decode prog_10_method_9_code 68 = .ok (.aload_n 1, 1) := by decide +kernel
theorem d8_69 : decode prog_10_method_9_code 69 = .ok (.aconst_null, 1) := by decide +kernel
theorem d8_70 : decode prog_10_method_9_code 70 = .ok (.putfield 25, 3) := by decide +kernel
theorem d8_73 : decode prog_10_method_9_code 73 = .ok (.return_, 1) := by decide +kernel
theorem efU00 (m : MethodId) (o : Addr) (x1 : Addr) : entryFrame m #[(.ref o), (.ref x1)] 2 = mkF m 0 #[rv o, rv x1] [] := by first | (simp [entryFrame, mkF, argsToLocals, Value.category]; done) | rfl
def QU00 (Z : State) (o : Addr) (x1 : Addr) (fu : Value) (lu : Value) (iu : Value) (h0 : Heap) (n0 : Nat) (v : Option Value) (h : Heap) (L : List Loc) : Prop := v = none ∧ Fr n0 L ∧ Keep h0 h [o, x1] ∧ Fld Z h o oz1 "first" oz2 .null ∧ Fld Z h o oz1 "last" oz2 .null ∧ Fld Z h x1 oz0 "in" oz3 .null ∧ Fld Z h x1 oz0 "before" oz2 .null ∧ Fld Z h x1 oz0 "after" oz2 .null
set_option maxRecDepth 65536 in
set_option maxHeartbeats 40000000 in
theorem rmU00 (l : Launch) (Z : State) (a0 : Array Value) (hw : ∀ d ∈ tables_1, d.before a0 Z = true) (ws : List Jvm.Cond) (o : Addr) (x1 : Addr) (fu : Value) (lu : Value) (iu : Value) (h0 : Heap) (n0 : Nat) (Z0 : n0 ≤ h0.size) (E_o : Exa Z h0 o oz1) (E_x1 : Exa Z h0 x1 oz0) (g_o : n0 ≤ o) (g_x1 : n0 ≤ x1) (F_first_o : Fld Z h0 o oz1 "first" oz2 fu) (F_last_o : Fld Z h0 o oz1 "last" oz2 lu) (F_in_x1 : Fld Z h0 x1 oz0 "in" oz3 iu) (F_before_x1 : Fld Z h0 x1 oz0 "before" oz2 .null) (F_after_x1 : Fld Z h0 x1 oz0 "after" oz2 .null) :
    MetFree l (⟨oz1, "unlink", oz7⟩ : MethodName) (head1 (Jvm.Cond.code (⟨oz1, "unlink", oz7⟩ : MethodName) prog_10_method_9_code 2 none :: ws) ({ frames := 0, cells := 0, slots := 0, locals := 0 } : Room)) (fun a U => a = #[(.ref o), (.ref x1)] ∧ Z.Warmed39 U.vm ∧ U.heap = h0) (fun _ _ _ _ _ => True) (fun _ U oc U' => ∃ v L, oc = .returned v ∧ QU00 Z o x1 fu lu iu h0 n0 v U'.heap L ∧ FrameEnd U oc U' L ({ frames := 0, cells := 0, slots := 0, locals := 0 } : Room).cells ({ frames := 0, cells := 0, slots := 0, locals := 0 } : Room).slots) := by
  refine MetFree.of_bodySF (plainFor_of_name own_pn0) hisR ?_
  intro p e s m args below meth c s₁ Bd hml0 hP hK
  obtain ⟨rfl, hZ, hh⟩ := hP
  have hx := Bd.exec
  have hby := Bd.bytes
  have hml : c.maxLocals = 2 := hml0
  have hown : s.vm.findClass oz1 = some m.cls := findClass_of_methodNamed Bd.named
  have hnm := (name_of_methodNamed Bd.named Bd.method).1
  have X0 : Stand p l e ({ frames := 0, cells := 0, slots := 0, locals := 0 } : Room) s m #[(.ref o), (.ref x1)] below meth c s₁ [] 0 0 := Stand.of_body Bd
  have e0 : s₁.heap = h0 := by rw [← hh, Bd.state]; rfl
  have N0 := Fr.nil n0
  have pre0 : ∀ t, Steps p.tables e below (s₁.setTop (mkF m 0 #[rv o, rv x1] [])) t → Steps p.tables e below (s₁.setTop (entryFrame m #[(.ref o), (.ref x1)] 2)) t := fun t k => castTop (efU00 m o x1) k
  obtain ⟨T1, X1, e1, st1⟩ := getF X0 hx hZ hown (host := "") (Or.inl (own_w hw 44 rfl)) Via.refl e0 F_before_x1 (g := (mkF m 1 #[rv o, rv x1] [(.ref x1)])) rfl rfl (hb hby d8_1)
  obtain ⟨T2, X2, e2, st2⟩ := getF X1 hx hZ hown (host := "") (Or.inl (own_w hw 55 rfl)) Via.refl e1 F_after_x1 (g := (mkF m 9 #[rv o, rv x1] [(.ref x1), (.ref o)])) rfl rfl (hb hby d8_9)
  obtain ⟨T3, h3, X3, e3, W3, st3⟩ := putF X2 hx hZ hown (host := "") (Or.inl (own_w hw 29 rfl)) Via.refl e2 F_first_o E_o (Or.inl (own_w hw 30 rfl)) (own_w hw 1 rfl) (ty := (.object oz0)) (by decide) rfl rfl (g := (mkF m 12 #[rv o, rv x1] [.null, (.ref o)])) rfl rfl (hb hby d8_12)
  have Fw3 : Fld Z h3 o oz1 "first" oz2 .null := F_first_o.same W3
  have N3 := Fr.snoc X3 N0 g_o
  have Ec5 : Exa Z h3 x1 oz0 := (E_x1.wr W3)
  have Ec6 : Exa Z h3 o oz1 := (E_o.wr W3)
  have ne4 : x1 ≠ o := ne_exa Ec5 Ec6 (by decide)
  have Fc7 : Fld Z h3 x1 oz0 "after" oz2 .null := (F_after_x1.other W3 (Or.inl ne4))
  obtain ⟨T8, X8, e8, st8⟩ := getF X3 hx hZ hown (host := "") (Or.inl (own_w hw 55 rfl)) Via.refl e3 Fc7 (g := (mkF m 30 #[rv o, rv x1] [(.ref x1)])) rfl rfl (hb hby d8_30)
  have Fc9 : Fld Z h3 x1 oz0 "before" oz2 .null := (F_before_x1.other W3 (Or.inl ne4))
  obtain ⟨T10, X10, e10, st10⟩ := getF X8 hx hZ hown (host := "") (Or.inl (own_w hw 44 rfl)) Via.refl e8 Fc9 (g := (mkF m 38 #[rv o, rv x1] [(.ref x1), (.ref o)])) rfl rfl (hb hby d8_38)
  have Fc11 : Fld Z h3 o oz1 "last" oz2 lu := (F_last_o.other W3 (Or.inr (slot_ne (Or.inl (own_w hw 43 rfl)) (Or.inl (own_w hw 30 rfl)) (by decide) (t := (.object oz0)) (t' := (.object oz0)) (by decide) (by decide))))
  obtain ⟨T12, h12, X12, e12, W12, st12⟩ := putF X10 hx hZ hown (host := "") (Or.inl (own_w hw 42 rfl)) Via.refl e10 Fc11 Ec6 (Or.inl (own_w hw 43 rfl)) (own_w hw 1 rfl) (ty := (.object oz0)) (by decide) rfl rfl (g := (mkF m 41 #[rv o, rv x1] [.null, (.ref o)])) rfl rfl (hb hby d8_41)
  have Fw12 : Fld Z h12 o oz1 "last" oz2 .null := Fc11.same W12
  have N12 := Fr.snoc X12 N3 g_o
  have Ec13 : Exa Z h12 x1 oz0 := (Ec5.wr W12)
  have Fc14 : Fld Z h12 x1 oz0 "in" oz3 iu := ((F_in_x1.other W3 (Or.inl ne4)).other W12 (Or.inl ne4))
  obtain ⟨T15, h15, X15, e15, W15, st15⟩ := putF X12 hx hZ hown (host := "") (Or.inl (own_w hw 40 rfl)) Via.refl e12 Fc14 Ec13 (Or.inl (own_w hw 41 rfl)) (own_w hw 10 rfl) (ty := (.object oz1)) (by decide) rfl rfl (g := (mkF m 60 #[rv o, rv x1] [.null, (.ref x1)])) rfl rfl (hb hby d8_60)
  have Fw15 : Fld Z h15 x1 oz0 "in" oz3 .null := Fc14.same W15
  have N15 := Fr.snoc X15 N12 g_x1
  have Ec16 : Exa Z h15 x1 oz0 := (Ec13.wr W15)
  have Fc17 : Fld Z h15 x1 oz0 "before" oz2 .null := ((Fc9.other W12 (Or.inl ne4)).other W15 (Or.inr (slot_ne (Or.inl (own_w hw 45 rfl)) (Or.inl (own_w hw 41 rfl)) (by decide) (t := (.object oz0)) (t' := (.object oz1)) (by decide) (by decide))))
  obtain ⟨T18, h18, X18, e18, W18, st18⟩ := putF X15 hx hZ hown (host := "") (Or.inl (own_w hw 44 rfl)) Via.refl e15 Fc17 Ec16 (Or.inl (own_w hw 45 rfl)) (own_w hw 10 rfl) (ty := (.object oz0)) (by decide) rfl rfl (g := (mkF m 65 #[rv o, rv x1] [.null, (.ref x1)])) rfl rfl (hb hby d8_65)
  have Fw18 : Fld Z h18 x1 oz0 "before" oz2 .null := Fc17.same W18
  have N18 := Fr.snoc X18 N15 g_x1
  have Ec19 : Exa Z h18 x1 oz0 := (Ec16.wr W18)
  have Fc20 : Fld Z h18 x1 oz0 "after" oz2 .null := (((Fc7.other W12 (Or.inl ne4)).other W15 (Or.inr (slot_ne (Or.inl (own_w hw 56 rfl)) (Or.inl (own_w hw 41 rfl)) (by decide) (t := (.object oz0)) (t' := (.object oz1)) (by decide) (by decide)))).other W18 (Or.inr (slot_ne (Or.inl (own_w hw 56 rfl)) (Or.inl (own_w hw 45 rfl)) (by decide) (t := (.object oz0)) (t' := (.object oz0)) (by decide) (by decide))))
  obtain ⟨T21, h21, X21, e21, W21, st21⟩ := putF X18 hx hZ hown (host := "") (Or.inl (own_w hw 55 rfl)) Via.refl e18 Fc20 Ec19 (Or.inl (own_w hw 56 rfl)) (own_w hw 10 rfl) (ty := (.object oz0)) (by decide) rfl rfl (g := (mkF m 70 #[rv o, rv x1] [.null, (.ref x1)])) rfl rfl (hb hby d8_70)
  have Fw21 : Fld Z h21 x1 oz0 "after" oz2 .null := Fc20.same W21
  have N21 := Fr.snoc X21 N18 g_x1
  have pre22 : ∀ tz, oS p e below T21 m 73 #[rv o, rv x1] [] tz → oS p e below s₁ m 0 #[rv o, rv x1] [] tz := fun tz kt => by
    show oS p e below s₁ m 0 #[rv o, rv x1] [] _
    refine XS.aloadN X0.here hx rfl (hb hby d8_0) rfl rfl ?_
    show oS p e below s₁ m 1 #[rv o, rv x1] [(.ref x1)] _
    refine st1 _ ?_
    refine XS.ifnonnullNo X1.here hx rfl (hb hby d8_4) rfl ?_
    refine XS.aloadN X1.here hx rfl (hb hby d8_7) rfl rfl ?_
    refine XS.aloadN X1.here hx rfl (hb hby d8_8) rfl rfl ?_
    show oS p e below T1 m 9 #[rv o, rv x1] [(.ref x1), (.ref o)] _
    refine st2 _ ?_
    show oS p e below T2 m 12 #[rv o, rv x1] [.null, (.ref o)] _
    refine st3 _ ?_
    refine XS.goto X3.here hx rfl (pc0 := 15) (pc' := 29) rfl (hb hby d8_15) (by decide) (by decide) ?_
    refine XS.aloadN X3.here hx rfl (hb hby d8_29) rfl rfl ?_
    show oS p e below T3 m 30 #[rv o, rv x1] [(.ref x1)] _
    refine st8 _ ?_
    refine XS.ifnonnullNo X8.here hx rfl (hb hby d8_33) rfl ?_
    refine XS.aloadN X8.here hx rfl (hb hby d8_36) rfl rfl ?_
    refine XS.aloadN X8.here hx rfl (hb hby d8_37) rfl rfl ?_
    show oS p e below T8 m 38 #[rv o, rv x1] [(.ref x1), (.ref o)] _
    refine st10 _ ?_
    show oS p e below T10 m 41 #[rv o, rv x1] [.null, (.ref o)] _
    refine st12 _ ?_
    refine XS.goto X12.here hx rfl (pc0 := 44) (pc' := 58) rfl (hb hby d8_44) (by decide) (by decide) ?_
    refine XS.aloadN X12.here hx rfl (hb hby d8_58) rfl rfl ?_
    refine XS.aconstNull X12.here hx rfl (hb hby d8_59) ?_
    show oS p e below T12 m 60 #[rv o, rv x1] [.null, (.ref x1)] _
    refine st15 _ ?_
    refine XS.aloadN X15.here hx rfl (hb hby d8_63) rfl rfl ?_
    refine XS.aconstNull X15.here hx rfl (hb hby d8_64) ?_
    show oS p e below T15 m 65 #[rv o, rv x1] [.null, (.ref x1)] _
    refine st18 _ ?_
    refine XS.aloadN X18.here hx rfl (hb hby d8_68) rfl rfl ?_
    refine XS.aconstNull X18.here hx rfl (hb hby d8_69) ?_
    show oS p e below T18 m 70 #[rv o, rv x1] [.null, (.ref x1)] _
    refine st21 _ ?_
    exact kt
  have KP23 : Keep h0 h21 [o, x1] := ((((((Keep.refl h0 [o, x1]).wr W3 (Or.inl (List.mem_of_getElem? (i := 0) rfl))).wr W12 (Or.inl (List.mem_of_getElem? (i := 0) rfl))).wr W15 (Or.inl (List.mem_of_getElem? (i := 1) rfl))).wr W18 (Or.inl (List.mem_of_getElem? (i := 1) rfl))).wr W21 (Or.inl (List.mem_of_getElem? (i := 1) rfl)))
  have Fc24 : Fld Z h21 o oz1 "first" oz2 .null := ((((Fw3.other W12 (Or.inr (slot_ne (Or.inl (own_w hw 30 rfl)) (Or.inl (own_w hw 43 rfl)) (by decide) (t := (.object oz0)) (t' := (.object oz0)) (by decide) (by decide)))).other W15 (Or.inl (Ne.symm ne4))).other W18 (Or.inl (Ne.symm ne4))).other W21 (Or.inl (Ne.symm ne4)))
  have Fc25 : Fld Z h21 o oz1 "last" oz2 .null := (((Fw12.other W15 (Or.inl (Ne.symm ne4))).other W18 (Or.inl (Ne.symm ne4))).other W21 (Or.inl (Ne.symm ne4)))
  have Fc26 : Fld Z h21 x1 oz0 "in" oz3 .null := ((Fw15.other W18 (Or.inr (slot_ne (Or.inl (own_w hw 41 rfl)) (Or.inl (own_w hw 45 rfl)) (by decide) (t := (.object oz1)) (t' := (.object oz0)) (by decide) (by decide)))).other W21 (Or.inr (slot_ne (Or.inl (own_w hw 41 rfl)) (Or.inl (own_w hw 56 rfl)) (by decide) (t := (.object oz1)) (t' := (.object oz0)) (by decide) (by decide))))
  have Fc27 : Fld Z h21 x1 oz0 "before" oz2 .null := (Fw18.other W21 (Or.inr (slot_ne (Or.inl (own_w hw 45 rfl)) (Or.inl (own_w hw 56 rfl)) (by decide) (t := (.object oz0)) (t' := (.object oz0)) (by decide) (by decide))))
  obtain ⟨fs, hr, hrun, hended, hW, hsame⟩ := X21.leave (v := none) (fun _ => rfl)
  refine ⟨_, _, pre0 _ (pre22 _ ?_), hrun, hended, _, _, rfl, ?_, ⟨_, rfl⟩, hW, hsame.mono (by decide) (by decide)⟩
  · show oS p e below T21 m 73 #[rv o, rv x1] [] _
    exact X21.returnOut hx Bd.returns (hb hby d8_73) hr
  · show QU00 Z o x1 fu lu iu h0 n0 _ T21.heap _
    rw [e21]
    exact ⟨rfl, N21, KP23, Fc24, Fc25, Fc26, Fc27, Fw21⟩
theorem d8_47 : decode prog_10_method_9_code 47 = .ok (.aload_n 1, 1) := by decide +kernel
theorem d8_48 : decode prog_10_method_9_code 48 = .ok (.getfield 25, 3) := by decide +kernel
theorem d8_51 : decode prog_10_method_9_code 51 = .ok (.aload_n 1, 1) := by decide +kernel
theorem d8_52 : decode prog_10_method_9_code 52 = .ok (.getfield 22, 3) := by decide +kernel
theorem d8_55 : decode prog_10_method_9_code 55 = .ok (.putfield 22, 3) := by decide +kernel
theorem efU0t (m : MethodId) (o : Addr) (x1 : Addr) : entryFrame m #[(.ref o), (.ref x1)] 2 = mkF m 0 #[rv o, rv x1] [] := by first | (simp [entryFrame, mkF, argsToLocals, Value.category]; done) | rfl
def QU0t (Z : State) (o : Addr) (x1 : Addr) (fu : Value) (lu : Value) (iu : Value) (ti : Value) (tb : Value) (ta : Value) (tq : Addr) (h0 : Heap) (n0 : Nat) (v : Option Value) (h : Heap) (L : List Loc) : Prop := v = none ∧ Fr n0 L ∧ Keep h0 h [o, x1, tq] ∧ Fld Z h o oz1 "first" oz2 (.ref tq) ∧ Fld Z h o oz1 "last" oz2 lu ∧ Fld Z h x1 oz0 "in" oz3 .null ∧ Fld Z h x1 oz0 "before" oz2 .null ∧ Fld Z h x1 oz0 "after" oz2 .null ∧ Fld Z h tq oz0 "in" oz3 ti ∧ Fld Z h tq oz0 "before" oz2 .null ∧ Fld Z h tq oz0 "after" oz2 ta
set_option maxRecDepth 65536 in
set_option maxHeartbeats 40000000 in
theorem rmU0t (l : Launch) (Z : State) (a0 : Array Value) (hw : ∀ d ∈ tables_1, d.before a0 Z = true) (ws : List Jvm.Cond) (o : Addr) (x1 : Addr) (fu : Value) (lu : Value) (iu : Value) (ti : Value) (tb : Value) (ta : Value) (tq : Addr) (h0 : Heap) (n0 : Nat) (Z0 : n0 ≤ h0.size) (E_o : Exa Z h0 o oz1) (E_x1 : Exa Z h0 x1 oz0) (E_tq : Exa Z h0 tq oz0) (g_o : n0 ≤ o) (g_x1 : n0 ≤ x1) (g_tq : n0 ≤ tq) (ne_x1_tq : x1 ≠ tq) (F_first_o : Fld Z h0 o oz1 "first" oz2 fu) (F_last_o : Fld Z h0 o oz1 "last" oz2 lu) (F_in_x1 : Fld Z h0 x1 oz0 "in" oz3 iu) (F_before_x1 : Fld Z h0 x1 oz0 "before" oz2 .null) (F_after_x1 : Fld Z h0 x1 oz0 "after" oz2 (.ref tq)) (F_in_tq : Fld Z h0 tq oz0 "in" oz3 ti) (F_before_tq : Fld Z h0 tq oz0 "before" oz2 tb) (F_after_tq : Fld Z h0 tq oz0 "after" oz2 ta) :
    MetFree l (⟨oz1, "unlink", oz7⟩ : MethodName) (head1 (Jvm.Cond.code (⟨oz1, "unlink", oz7⟩ : MethodName) prog_10_method_9_code 2 none :: ws) ({ frames := 0, cells := 0, slots := 0, locals := 0 } : Room)) (fun a U => a = #[(.ref o), (.ref x1)] ∧ Z.Warmed39 U.vm ∧ U.heap = h0) (fun _ _ _ _ _ => True) (fun _ U oc U' => ∃ v L, oc = .returned v ∧ QU0t Z o x1 fu lu iu ti tb ta tq h0 n0 v U'.heap L ∧ FrameEnd U oc U' L ({ frames := 0, cells := 0, slots := 0, locals := 0 } : Room).cells ({ frames := 0, cells := 0, slots := 0, locals := 0 } : Room).slots) := by
  refine MetFree.of_bodySF (plainFor_of_name own_pn0) hisR ?_
  intro p e s m args below meth c s₁ Bd hml0 hP hK
  obtain ⟨rfl, hZ, hh⟩ := hP
  have hx := Bd.exec
  have hby := Bd.bytes
  have hml : c.maxLocals = 2 := hml0
  have hown : s.vm.findClass oz1 = some m.cls := findClass_of_methodNamed Bd.named
  have hnm := (name_of_methodNamed Bd.named Bd.method).1
  have X0 : Stand p l e ({ frames := 0, cells := 0, slots := 0, locals := 0 } : Room) s m #[(.ref o), (.ref x1)] below meth c s₁ [] 0 0 := Stand.of_body Bd
  have e0 : s₁.heap = h0 := by rw [← hh, Bd.state]; rfl
  have N0 := Fr.nil n0
  have pre0 : ∀ t, Steps p.tables e below (s₁.setTop (mkF m 0 #[rv o, rv x1] [])) t → Steps p.tables e below (s₁.setTop (entryFrame m #[(.ref o), (.ref x1)] 2)) t := fun t k => castTop (efU0t m o x1) k
  obtain ⟨T1, X1, e1, st1⟩ := getF X0 hx hZ hown (host := "") (Or.inl (own_w hw 44 rfl)) Via.refl e0 F_before_x1 (g := (mkF m 1 #[rv o, rv x1] [(.ref x1)])) rfl rfl (hb hby d8_1)
  obtain ⟨T2, X2, e2, st2⟩ := getF X1 hx hZ hown (host := "") (Or.inl (own_w hw 55 rfl)) Via.refl e1 F_after_x1 (g := (mkF m 9 #[rv o, rv x1] [(.ref x1), (.ref o)])) rfl rfl (hb hby d8_9)
  obtain ⟨T3, h3, X3, e3, W3, st3⟩ := putF X2 hx hZ hown (host := "") (Or.inl (own_w hw 29 rfl)) Via.refl e2 F_first_o E_o (Or.inl (own_w hw 30 rfl)) (own_w hw 1 rfl) (ty := (.object oz0)) (by decide) rfl rfl (g := (mkF m 12 #[rv o, rv x1] [(.ref tq), (.ref o)])) rfl rfl (hb hby d8_12)
  have Fw3 : Fld Z h3 o oz1 "first" oz2 (.ref tq) := F_first_o.same W3
  have N3 := Fr.snoc X3 N0 g_o
  have Ec5 : Exa Z h3 x1 oz0 := (E_x1.wr W3)
  have Ec6 : Exa Z h3 o oz1 := (E_o.wr W3)
  have ne4 : x1 ≠ o := ne_exa Ec5 Ec6 (by decide)
  have Fc7 : Fld Z h3 x1 oz0 "after" oz2 (.ref tq) := (F_after_x1.other W3 (Or.inl ne4))
  obtain ⟨T8, X8, e8, st8⟩ := getF X3 hx hZ hown (host := "") (Or.inl (own_w hw 55 rfl)) Via.refl e3 Fc7 (g := (mkF m 30 #[rv o, rv x1] [(.ref x1)])) rfl rfl (hb hby d8_30)
  obtain ⟨T9, X9, e9, st9⟩ := getF X8 hx hZ hown (host := "") (Or.inl (own_w hw 55 rfl)) Via.refl e8 Fc7 (g := (mkF m 48 #[rv o, rv x1] [(.ref x1)])) rfl rfl (hb hby d8_48)
  have Fc10 : Fld Z h3 x1 oz0 "before" oz2 .null := (F_before_x1.other W3 (Or.inl ne4))
  obtain ⟨T11, X11, e11, st11⟩ := getF X9 hx hZ hown (host := "") (Or.inl (own_w hw 44 rfl)) Via.refl e9 Fc10 (g := (mkF m 52 #[rv o, rv x1] [(.ref x1), (.ref tq)])) rfl rfl (hb hby d8_52)
  have Ec12 : Exa Z h3 tq oz0 := (E_tq.wr W3)
  have ne13 : tq ≠ o := ne_exa Ec12 Ec6 (by decide)
  have Fc14 : Fld Z h3 tq oz0 "before" oz2 tb := (F_before_tq.other W3 (Or.inl ne13))
  obtain ⟨T15, h15, X15, e15, W15, st15⟩ := putF X11 hx hZ hown (host := "") (Or.inl (own_w hw 44 rfl)) Via.refl e11 Fc14 Ec12 (Or.inl (own_w hw 45 rfl)) (own_w hw 10 rfl) (ty := (.object oz0)) (by decide) rfl rfl (g := (mkF m 55 #[rv o, rv x1] [.null, (.ref tq)])) rfl rfl (hb hby d8_55)
  have Fw15 : Fld Z h15 tq oz0 "before" oz2 .null := Fc14.same W15
  have N15 := Fr.snoc X15 N3 g_tq
  have Ec16 : Exa Z h15 x1 oz0 := (Ec5.wr W15)
  have Fc17 : Fld Z h15 x1 oz0 "in" oz3 iu := ((F_in_x1.other W3 (Or.inl ne4)).other W15 (Or.inl ne_x1_tq))
  obtain ⟨T18, h18, X18, e18, W18, st18⟩ := putF X15 hx hZ hown (host := "") (Or.inl (own_w hw 40 rfl)) Via.refl e15 Fc17 Ec16 (Or.inl (own_w hw 41 rfl)) (own_w hw 10 rfl) (ty := (.object oz1)) (by decide) rfl rfl (g := (mkF m 60 #[rv o, rv x1] [.null, (.ref x1)])) rfl rfl (hb hby d8_60)
  have Fw18 : Fld Z h18 x1 oz0 "in" oz3 .null := Fc17.same W18
  have N18 := Fr.snoc X18 N15 g_x1
  have Ec19 : Exa Z h18 x1 oz0 := (Ec16.wr W18)
  have Fc20 : Fld Z h18 x1 oz0 "before" oz2 .null := ((Fc10.other W15 (Or.inl ne_x1_tq)).other W18 (Or.inr (slot_ne (Or.inl (own_w hw 45 rfl)) (Or.inl (own_w hw 41 rfl)) (by decide) (t := (.object oz0)) (t' := (.object oz1)) (by decide) (by decide))))
  obtain ⟨T21, h21, X21, e21, W21, st21⟩ := putF X18 hx hZ hown (host := "") (Or.inl (own_w hw 44 rfl)) Via.refl e18 Fc20 Ec19 (Or.inl (own_w hw 45 rfl)) (own_w hw 10 rfl) (ty := (.object oz0)) (by decide) rfl rfl (g := (mkF m 65 #[rv o, rv x1] [.null, (.ref x1)])) rfl rfl (hb hby d8_65)
  have Fw21 : Fld Z h21 x1 oz0 "before" oz2 .null := Fc20.same W21
  have N21 := Fr.snoc X21 N18 g_x1
  have Ec22 : Exa Z h21 x1 oz0 := (Ec19.wr W21)
  have Fc23 : Fld Z h21 x1 oz0 "after" oz2 (.ref tq) := (((Fc7.other W15 (Or.inl ne_x1_tq)).other W18 (Or.inr (slot_ne (Or.inl (own_w hw 56 rfl)) (Or.inl (own_w hw 41 rfl)) (by decide) (t := (.object oz0)) (t' := (.object oz1)) (by decide) (by decide)))).other W21 (Or.inr (slot_ne (Or.inl (own_w hw 56 rfl)) (Or.inl (own_w hw 45 rfl)) (by decide) (t := (.object oz0)) (t' := (.object oz0)) (by decide) (by decide))))
  obtain ⟨T24, h24, X24, e24, W24, st24⟩ := putF X21 hx hZ hown (host := "") (Or.inl (own_w hw 55 rfl)) Via.refl e21 Fc23 Ec22 (Or.inl (own_w hw 56 rfl)) (own_w hw 10 rfl) (ty := (.object oz0)) (by decide) rfl rfl (g := (mkF m 70 #[rv o, rv x1] [.null, (.ref x1)])) rfl rfl (hb hby d8_70)
  have Fw24 : Fld Z h24 x1 oz0 "after" oz2 .null := Fc23.same W24
  have N24 := Fr.snoc X24 N21 g_x1
  have pre25 : ∀ tz, oS p e below T24 m 73 #[rv o, rv x1] [] tz → oS p e below s₁ m 0 #[rv o, rv x1] [] tz := fun tz kt => by
    show oS p e below s₁ m 0 #[rv o, rv x1] [] _
    refine XS.aloadN X0.here hx rfl (hb hby d8_0) rfl rfl ?_
    show oS p e below s₁ m 1 #[rv o, rv x1] [(.ref x1)] _
    refine st1 _ ?_
    refine XS.ifnonnullNo X1.here hx rfl (hb hby d8_4) rfl ?_
    refine XS.aloadN X1.here hx rfl (hb hby d8_7) rfl rfl ?_
    refine XS.aloadN X1.here hx rfl (hb hby d8_8) rfl rfl ?_
    show oS p e below T1 m 9 #[rv o, rv x1] [(.ref x1), (.ref o)] _
    refine st2 _ ?_
    show oS p e below T2 m 12 #[rv o, rv x1] [(.ref tq), (.ref o)] _
    refine st3 _ ?_
    refine XS.goto X3.here hx rfl (pc0 := 15) (pc' := 29) rfl (hb hby d8_15) (by decide) (by decide) ?_
    refine XS.aloadN X3.here hx rfl (hb hby d8_29) rfl rfl ?_
    show oS p e below T3 m 30 #[rv o, rv x1] [(.ref x1)] _
    refine st8 _ ?_
    refine XS.ifnonnullYes X8.here hx rfl (pc0 := 33) (pc' := 47) rfl (hb hby d8_33) rfl (by decide) (by decide) ?_
    refine XS.aloadN X8.here hx rfl (hb hby d8_47) rfl rfl ?_
    show oS p e below T8 m 48 #[rv o, rv x1] [(.ref x1)] _
    refine st9 _ ?_
    refine XS.aloadN X9.here hx rfl (hb hby d8_51) rfl rfl ?_
    show oS p e below T9 m 52 #[rv o, rv x1] [(.ref x1), (.ref tq)] _
    refine st11 _ ?_
    show oS p e below T11 m 55 #[rv o, rv x1] [.null, (.ref tq)] _
    refine st15 _ ?_
    refine XS.aloadN X15.here hx rfl (hb hby d8_58) rfl rfl ?_
    refine XS.aconstNull X15.here hx rfl (hb hby d8_59) ?_
    show oS p e below T15 m 60 #[rv o, rv x1] [.null, (.ref x1)] _
    refine st18 _ ?_
    refine XS.aloadN X18.here hx rfl (hb hby d8_63) rfl rfl ?_
    refine XS.aconstNull X18.here hx rfl (hb hby d8_64) ?_
    show oS p e below T18 m 65 #[rv o, rv x1] [.null, (.ref x1)] _
    refine st21 _ ?_
    refine XS.aloadN X21.here hx rfl (hb hby d8_68) rfl rfl ?_
    refine XS.aconstNull X21.here hx rfl (hb hby d8_69) ?_
    show oS p e below T21 m 70 #[rv o, rv x1] [.null, (.ref x1)] _
    refine st24 _ ?_
    exact kt
  have KP26 : Keep h0 h24 [o, x1, tq] := ((((((Keep.refl h0 [o, x1, tq]).wr W3 (Or.inl (List.mem_of_getElem? (i := 0) rfl))).wr W15 (Or.inl (List.mem_of_getElem? (i := 2) rfl))).wr W18 (Or.inl (List.mem_of_getElem? (i := 1) rfl))).wr W21 (Or.inl (List.mem_of_getElem? (i := 1) rfl))).wr W24 (Or.inl (List.mem_of_getElem? (i := 1) rfl)))
  have Fc27 : Fld Z h24 o oz1 "first" oz2 (.ref tq) := ((((Fw3.other W15 (Or.inl (Ne.symm ne13))).other W18 (Or.inl (Ne.symm ne4))).other W21 (Or.inl (Ne.symm ne4))).other W24 (Or.inl (Ne.symm ne4)))
  have Fc28 : Fld Z h24 o oz1 "last" oz2 lu := (((((F_last_o.other W3 (Or.inr (slot_ne (Or.inl (own_w hw 43 rfl)) (Or.inl (own_w hw 30 rfl)) (by decide) (t := (.object oz0)) (t' := (.object oz0)) (by decide) (by decide)))).other W15 (Or.inl (Ne.symm ne13))).other W18 (Or.inl (Ne.symm ne4))).other W21 (Or.inl (Ne.symm ne4))).other W24 (Or.inl (Ne.symm ne4)))
  have Fc29 : Fld Z h24 x1 oz0 "in" oz3 .null := ((Fw18.other W21 (Or.inr (slot_ne (Or.inl (own_w hw 41 rfl)) (Or.inl (own_w hw 45 rfl)) (by decide) (t := (.object oz1)) (t' := (.object oz0)) (by decide) (by decide)))).other W24 (Or.inr (slot_ne (Or.inl (own_w hw 41 rfl)) (Or.inl (own_w hw 56 rfl)) (by decide) (t := (.object oz1)) (t' := (.object oz0)) (by decide) (by decide))))
  have Fc30 : Fld Z h24 x1 oz0 "before" oz2 .null := (Fw21.other W24 (Or.inr (slot_ne (Or.inl (own_w hw 45 rfl)) (Or.inl (own_w hw 56 rfl)) (by decide) (t := (.object oz0)) (t' := (.object oz0)) (by decide) (by decide))))
  have Fc31 : Fld Z h24 tq oz0 "in" oz3 ti := (((((F_in_tq.other W3 (Or.inl ne13)).other W15 (Or.inr (slot_ne (Or.inl (own_w hw 41 rfl)) (Or.inl (own_w hw 45 rfl)) (by decide) (t := (.object oz1)) (t' := (.object oz0)) (by decide) (by decide)))).other W18 (Or.inl (Ne.symm ne_x1_tq))).other W21 (Or.inl (Ne.symm ne_x1_tq))).other W24 (Or.inl (Ne.symm ne_x1_tq)))
  have Fc32 : Fld Z h24 tq oz0 "before" oz2 .null := (((Fw15.other W18 (Or.inl (Ne.symm ne_x1_tq))).other W21 (Or.inl (Ne.symm ne_x1_tq))).other W24 (Or.inl (Ne.symm ne_x1_tq)))
  have Fc33 : Fld Z h24 tq oz0 "after" oz2 ta := (((((F_after_tq.other W3 (Or.inl ne13)).other W15 (Or.inr (slot_ne (Or.inl (own_w hw 56 rfl)) (Or.inl (own_w hw 45 rfl)) (by decide) (t := (.object oz0)) (t' := (.object oz0)) (by decide) (by decide)))).other W18 (Or.inl (Ne.symm ne_x1_tq))).other W21 (Or.inl (Ne.symm ne_x1_tq))).other W24 (Or.inl (Ne.symm ne_x1_tq)))
  obtain ⟨fs, hr, hrun, hended, hW, hsame⟩ := X24.leave (v := none) (fun _ => rfl)
  refine ⟨_, _, pre0 _ (pre25 _ ?_), hrun, hended, _, _, rfl, ?_, ⟨_, rfl⟩, hW, hsame.mono (by decide) (by decide)⟩
  · show oS p e below T24 m 73 #[rv o, rv x1] [] _
    exact X24.returnOut hx Bd.returns (hb hby d8_73) hr
  · show QU0t Z o x1 fu lu iu ti tb ta tq h0 n0 _ T24.heap _
    rw [e24]
    exact ⟨rfl, N24, KP26, Fc27, Fc28, Fc29, Fc30, Fw24, Fc31, Fc32, Fc33⟩
theorem d8_18 : decode prog_10_method_9_code 18 = .ok (.aload_n 1, 1) := by decide +kernel
theorem d8_19 : decode prog_10_method_9_code 19 = .ok (.getfield 22, 3) := by decide +kernel
theorem d8_22 : decode prog_10_method_9_code 22 = .ok (.aload_n 1, 1) := by decide +kernel
theorem d8_23 : decode prog_10_method_9_code 23 = .ok (.getfield 25, 3) := by decide +kernel
theorem d8_26 : decode prog_10_method_9_code 26 = .ok (.putfield 25, 3) := by decide +kernel
theorem efUt0 (m : MethodId) (o : Addr) (x1 : Addr) : entryFrame m #[(.ref o), (.ref x1)] 2 = mkF m 0 #[rv o, rv x1] [] := by first | (simp [entryFrame, mkF, argsToLocals, Value.category]; done) | rfl
def QUt0 (Z : State) (o : Addr) (x1 : Addr) (fu : Value) (lu : Value) (iu : Value) (ti : Value) (tb : Value) (ta : Value) (tq : Addr) (h0 : Heap) (n0 : Nat) (v : Option Value) (h : Heap) (L : List Loc) : Prop := v = none ∧ Fr n0 L ∧ Keep h0 h [o, x1, tq] ∧ Fld Z h o oz1 "first" oz2 fu ∧ Fld Z h o oz1 "last" oz2 (.ref tq) ∧ Fld Z h x1 oz0 "in" oz3 .null ∧ Fld Z h x1 oz0 "before" oz2 .null ∧ Fld Z h x1 oz0 "after" oz2 .null ∧ Fld Z h tq oz0 "in" oz3 ti ∧ Fld Z h tq oz0 "before" oz2 tb ∧ Fld Z h tq oz0 "after" oz2 .null
set_option maxRecDepth 65536 in
set_option maxHeartbeats 40000000 in
theorem rmUt0 (l : Launch) (Z : State) (a0 : Array Value) (hw : ∀ d ∈ tables_1, d.before a0 Z = true) (ws : List Jvm.Cond) (o : Addr) (x1 : Addr) (fu : Value) (lu : Value) (iu : Value) (ti : Value) (tb : Value) (ta : Value) (tq : Addr) (h0 : Heap) (n0 : Nat) (Z0 : n0 ≤ h0.size) (E_o : Exa Z h0 o oz1) (E_x1 : Exa Z h0 x1 oz0) (E_tq : Exa Z h0 tq oz0) (g_o : n0 ≤ o) (g_x1 : n0 ≤ x1) (g_tq : n0 ≤ tq) (ne_x1_tq : x1 ≠ tq) (F_first_o : Fld Z h0 o oz1 "first" oz2 fu) (F_last_o : Fld Z h0 o oz1 "last" oz2 lu) (F_in_x1 : Fld Z h0 x1 oz0 "in" oz3 iu) (F_before_x1 : Fld Z h0 x1 oz0 "before" oz2 (.ref tq)) (F_after_x1 : Fld Z h0 x1 oz0 "after" oz2 .null) (F_in_tq : Fld Z h0 tq oz0 "in" oz3 ti) (F_before_tq : Fld Z h0 tq oz0 "before" oz2 tb) (F_after_tq : Fld Z h0 tq oz0 "after" oz2 ta) :
    MetFree l (⟨oz1, "unlink", oz7⟩ : MethodName) (head1 (Jvm.Cond.code (⟨oz1, "unlink", oz7⟩ : MethodName) prog_10_method_9_code 2 none :: ws) ({ frames := 0, cells := 0, slots := 0, locals := 0 } : Room)) (fun a U => a = #[(.ref o), (.ref x1)] ∧ Z.Warmed39 U.vm ∧ U.heap = h0) (fun _ _ _ _ _ => True) (fun _ U oc U' => ∃ v L, oc = .returned v ∧ QUt0 Z o x1 fu lu iu ti tb ta tq h0 n0 v U'.heap L ∧ FrameEnd U oc U' L ({ frames := 0, cells := 0, slots := 0, locals := 0 } : Room).cells ({ frames := 0, cells := 0, slots := 0, locals := 0 } : Room).slots) := by
  refine MetFree.of_bodySF (plainFor_of_name own_pn0) hisR ?_
  intro p e s m args below meth c s₁ Bd hml0 hP hK
  obtain ⟨rfl, hZ, hh⟩ := hP
  have hx := Bd.exec
  have hby := Bd.bytes
  have hml : c.maxLocals = 2 := hml0
  have hown : s.vm.findClass oz1 = some m.cls := findClass_of_methodNamed Bd.named
  have hnm := (name_of_methodNamed Bd.named Bd.method).1
  have X0 : Stand p l e ({ frames := 0, cells := 0, slots := 0, locals := 0 } : Room) s m #[(.ref o), (.ref x1)] below meth c s₁ [] 0 0 := Stand.of_body Bd
  have e0 : s₁.heap = h0 := by rw [← hh, Bd.state]; rfl
  have N0 := Fr.nil n0
  have pre0 : ∀ t, Steps p.tables e below (s₁.setTop (mkF m 0 #[rv o, rv x1] [])) t → Steps p.tables e below (s₁.setTop (entryFrame m #[(.ref o), (.ref x1)] 2)) t := fun t k => castTop (efUt0 m o x1) k
  obtain ⟨T1, X1, e1, st1⟩ := getF X0 hx hZ hown (host := "") (Or.inl (own_w hw 44 rfl)) Via.refl e0 F_before_x1 (g := (mkF m 1 #[rv o, rv x1] [(.ref x1)])) rfl rfl (hb hby d8_1)
  obtain ⟨T2, X2, e2, st2⟩ := getF X1 hx hZ hown (host := "") (Or.inl (own_w hw 44 rfl)) Via.refl e1 F_before_x1 (g := (mkF m 19 #[rv o, rv x1] [(.ref x1)])) rfl rfl (hb hby d8_19)
  obtain ⟨T3, X3, e3, st3⟩ := getF X2 hx hZ hown (host := "") (Or.inl (own_w hw 55 rfl)) Via.refl e2 F_after_x1 (g := (mkF m 23 #[rv o, rv x1] [(.ref x1), (.ref tq)])) rfl rfl (hb hby d8_23)
  obtain ⟨T4, h4, X4, e4, W4, st4⟩ := putF X3 hx hZ hown (host := "") (Or.inl (own_w hw 55 rfl)) Via.refl e3 F_after_tq E_tq (Or.inl (own_w hw 56 rfl)) (own_w hw 10 rfl) (ty := (.object oz0)) (by decide) rfl rfl (g := (mkF m 26 #[rv o, rv x1] [.null, (.ref tq)])) rfl rfl (hb hby d8_26)
  have Fw4 : Fld Z h4 tq oz0 "after" oz2 .null := F_after_tq.same W4
  have N4 := Fr.snoc X4 N0 g_tq
  have Fc5 : Fld Z h4 x1 oz0 "after" oz2 .null := (F_after_x1.other W4 (Or.inl ne_x1_tq))
  obtain ⟨T6, X6, e6, st6⟩ := getF X4 hx hZ hown (host := "") (Or.inl (own_w hw 55 rfl)) Via.refl e4 Fc5 (g := (mkF m 30 #[rv o, rv x1] [(.ref x1)])) rfl rfl (hb hby d8_30)
  have Fc7 : Fld Z h4 x1 oz0 "before" oz2 (.ref tq) := (F_before_x1.other W4 (Or.inl ne_x1_tq))
  obtain ⟨T8, X8, e8, st8⟩ := getF X6 hx hZ hown (host := "") (Or.inl (own_w hw 44 rfl)) Via.refl e6 Fc7 (g := (mkF m 38 #[rv o, rv x1] [(.ref x1), (.ref o)])) rfl rfl (hb hby d8_38)
  have Ec9 : Exa Z h4 o oz1 := (E_o.wr W4)
  have Ec11 : Exa Z h4 tq oz0 := (E_tq.wr W4)
  have ne10 : o ≠ tq := ne_exa Ec9 Ec11 (by decide)
  have Fc12 : Fld Z h4 o oz1 "last" oz2 lu := (F_last_o.other W4 (Or.inl ne10))
  obtain ⟨T13, h13, X13, e13, W13, st13⟩ := putF X8 hx hZ hown (host := "") (Or.inl (own_w hw 42 rfl)) Via.refl e8 Fc12 Ec9 (Or.inl (own_w hw 43 rfl)) (own_w hw 1 rfl) (ty := (.object oz0)) (by decide) rfl rfl (g := (mkF m 41 #[rv o, rv x1] [(.ref tq), (.ref o)])) rfl rfl (hb hby d8_41)
  have Fw13 : Fld Z h13 o oz1 "last" oz2 (.ref tq) := Fc12.same W13
  have N13 := Fr.snoc X13 N4 g_o
  have Ec14 : Exa Z h13 x1 oz0 := ((E_x1.wr W4).wr W13)
  have Ec16 : Exa Z h13 o oz1 := (Ec9.wr W13)
  have ne15 : x1 ≠ o := ne_exa Ec14 Ec16 (by decide)
  have Fc17 : Fld Z h13 x1 oz0 "in" oz3 iu := ((F_in_x1.other W4 (Or.inl ne_x1_tq)).other W13 (Or.inl ne15))
  obtain ⟨T18, h18, X18, e18, W18, st18⟩ := putF X13 hx hZ hown (host := "") (Or.inl (own_w hw 40 rfl)) Via.refl e13 Fc17 Ec14 (Or.inl (own_w hw 41 rfl)) (own_w hw 10 rfl) (ty := (.object oz1)) (by decide) rfl rfl (g := (mkF m 60 #[rv o, rv x1] [.null, (.ref x1)])) rfl rfl (hb hby d8_60)
  have Fw18 : Fld Z h18 x1 oz0 "in" oz3 .null := Fc17.same W18
  have N18 := Fr.snoc X18 N13 g_x1
  have Ec19 : Exa Z h18 x1 oz0 := (Ec14.wr W18)
  have Fc20 : Fld Z h18 x1 oz0 "before" oz2 (.ref tq) := ((Fc7.other W13 (Or.inl ne15)).other W18 (Or.inr (slot_ne (Or.inl (own_w hw 45 rfl)) (Or.inl (own_w hw 41 rfl)) (by decide) (t := (.object oz0)) (t' := (.object oz1)) (by decide) (by decide))))
  obtain ⟨T21, h21, X21, e21, W21, st21⟩ := putF X18 hx hZ hown (host := "") (Or.inl (own_w hw 44 rfl)) Via.refl e18 Fc20 Ec19 (Or.inl (own_w hw 45 rfl)) (own_w hw 10 rfl) (ty := (.object oz0)) (by decide) rfl rfl (g := (mkF m 65 #[rv o, rv x1] [.null, (.ref x1)])) rfl rfl (hb hby d8_65)
  have Fw21 : Fld Z h21 x1 oz0 "before" oz2 .null := Fc20.same W21
  have N21 := Fr.snoc X21 N18 g_x1
  have Ec22 : Exa Z h21 x1 oz0 := (Ec19.wr W21)
  have Fc23 : Fld Z h21 x1 oz0 "after" oz2 .null := (((Fc5.other W13 (Or.inl ne15)).other W18 (Or.inr (slot_ne (Or.inl (own_w hw 56 rfl)) (Or.inl (own_w hw 41 rfl)) (by decide) (t := (.object oz0)) (t' := (.object oz1)) (by decide) (by decide)))).other W21 (Or.inr (slot_ne (Or.inl (own_w hw 56 rfl)) (Or.inl (own_w hw 45 rfl)) (by decide) (t := (.object oz0)) (t' := (.object oz0)) (by decide) (by decide))))
  obtain ⟨T24, h24, X24, e24, W24, st24⟩ := putF X21 hx hZ hown (host := "") (Or.inl (own_w hw 55 rfl)) Via.refl e21 Fc23 Ec22 (Or.inl (own_w hw 56 rfl)) (own_w hw 10 rfl) (ty := (.object oz0)) (by decide) rfl rfl (g := (mkF m 70 #[rv o, rv x1] [.null, (.ref x1)])) rfl rfl (hb hby d8_70)
  have Fw24 : Fld Z h24 x1 oz0 "after" oz2 .null := Fc23.same W24
  have N24 := Fr.snoc X24 N21 g_x1
  have pre25 : ∀ tz, oS p e below T24 m 73 #[rv o, rv x1] [] tz → oS p e below s₁ m 0 #[rv o, rv x1] [] tz := fun tz kt => by
    show oS p e below s₁ m 0 #[rv o, rv x1] [] _
    refine XS.aloadN X0.here hx rfl (hb hby d8_0) rfl rfl ?_
    show oS p e below s₁ m 1 #[rv o, rv x1] [(.ref x1)] _
    refine st1 _ ?_
    refine XS.ifnonnullYes X1.here hx rfl (pc0 := 4) (pc' := 18) rfl (hb hby d8_4) rfl (by decide) (by decide) ?_
    refine XS.aloadN X1.here hx rfl (hb hby d8_18) rfl rfl ?_
    show oS p e below T1 m 19 #[rv o, rv x1] [(.ref x1)] _
    refine st2 _ ?_
    refine XS.aloadN X2.here hx rfl (hb hby d8_22) rfl rfl ?_
    show oS p e below T2 m 23 #[rv o, rv x1] [(.ref x1), (.ref tq)] _
    refine st3 _ ?_
    show oS p e below T3 m 26 #[rv o, rv x1] [.null, (.ref tq)] _
    refine st4 _ ?_
    refine XS.aloadN X4.here hx rfl (hb hby d8_29) rfl rfl ?_
    show oS p e below T4 m 30 #[rv o, rv x1] [(.ref x1)] _
    refine st6 _ ?_
    refine XS.ifnonnullNo X6.here hx rfl (hb hby d8_33) rfl ?_
    refine XS.aloadN X6.here hx rfl (hb hby d8_36) rfl rfl ?_
    refine XS.aloadN X6.here hx rfl (hb hby d8_37) rfl rfl ?_
    show oS p e below T6 m 38 #[rv o, rv x1] [(.ref x1), (.ref o)] _
    refine st8 _ ?_
    show oS p e below T8 m 41 #[rv o, rv x1] [(.ref tq), (.ref o)] _
    refine st13 _ ?_
    refine XS.goto X13.here hx rfl (pc0 := 44) (pc' := 58) rfl (hb hby d8_44) (by decide) (by decide) ?_
    refine XS.aloadN X13.here hx rfl (hb hby d8_58) rfl rfl ?_
    refine XS.aconstNull X13.here hx rfl (hb hby d8_59) ?_
    show oS p e below T13 m 60 #[rv o, rv x1] [.null, (.ref x1)] _
    refine st18 _ ?_
    refine XS.aloadN X18.here hx rfl (hb hby d8_63) rfl rfl ?_
    refine XS.aconstNull X18.here hx rfl (hb hby d8_64) ?_
    show oS p e below T18 m 65 #[rv o, rv x1] [.null, (.ref x1)] _
    refine st21 _ ?_
    refine XS.aloadN X21.here hx rfl (hb hby d8_68) rfl rfl ?_
    refine XS.aconstNull X21.here hx rfl (hb hby d8_69) ?_
    show oS p e below T21 m 70 #[rv o, rv x1] [.null, (.ref x1)] _
    refine st24 _ ?_
    exact kt
  have KP26 : Keep h0 h24 [o, x1, tq] := ((((((Keep.refl h0 [o, x1, tq]).wr W4 (Or.inl (List.mem_of_getElem? (i := 2) rfl))).wr W13 (Or.inl (List.mem_of_getElem? (i := 0) rfl))).wr W18 (Or.inl (List.mem_of_getElem? (i := 1) rfl))).wr W21 (Or.inl (List.mem_of_getElem? (i := 1) rfl))).wr W24 (Or.inl (List.mem_of_getElem? (i := 1) rfl)))
  have Fc27 : Fld Z h24 o oz1 "first" oz2 fu := (((((F_first_o.other W4 (Or.inl ne10)).other W13 (Or.inr (slot_ne (Or.inl (own_w hw 30 rfl)) (Or.inl (own_w hw 43 rfl)) (by decide) (t := (.object oz0)) (t' := (.object oz0)) (by decide) (by decide)))).other W18 (Or.inl (Ne.symm ne15))).other W21 (Or.inl (Ne.symm ne15))).other W24 (Or.inl (Ne.symm ne15)))
  have Fc28 : Fld Z h24 o oz1 "last" oz2 (.ref tq) := (((Fw13.other W18 (Or.inl (Ne.symm ne15))).other W21 (Or.inl (Ne.symm ne15))).other W24 (Or.inl (Ne.symm ne15)))
  have Fc29 : Fld Z h24 x1 oz0 "in" oz3 .null := ((Fw18.other W21 (Or.inr (slot_ne (Or.inl (own_w hw 41 rfl)) (Or.inl (own_w hw 45 rfl)) (by decide) (t := (.object oz1)) (t' := (.object oz0)) (by decide) (by decide)))).other W24 (Or.inr (slot_ne (Or.inl (own_w hw 41 rfl)) (Or.inl (own_w hw 56 rfl)) (by decide) (t := (.object oz1)) (t' := (.object oz0)) (by decide) (by decide))))
  have Fc30 : Fld Z h24 x1 oz0 "before" oz2 .null := (Fw21.other W24 (Or.inr (slot_ne (Or.inl (own_w hw 45 rfl)) (Or.inl (own_w hw 56 rfl)) (by decide) (t := (.object oz0)) (t' := (.object oz0)) (by decide) (by decide))))
  have Fc31 : Fld Z h24 tq oz0 "in" oz3 ti := (((((F_in_tq.other W4 (Or.inr (slot_ne (Or.inl (own_w hw 41 rfl)) (Or.inl (own_w hw 56 rfl)) (by decide) (t := (.object oz1)) (t' := (.object oz0)) (by decide) (by decide)))).other W13 (Or.inl (Ne.symm ne10))).other W18 (Or.inl (Ne.symm ne_x1_tq))).other W21 (Or.inl (Ne.symm ne_x1_tq))).other W24 (Or.inl (Ne.symm ne_x1_tq)))
  have Fc32 : Fld Z h24 tq oz0 "before" oz2 tb := (((((F_before_tq.other W4 (Or.inr (slot_ne (Or.inl (own_w hw 45 rfl)) (Or.inl (own_w hw 56 rfl)) (by decide) (t := (.object oz0)) (t' := (.object oz0)) (by decide) (by decide)))).other W13 (Or.inl (Ne.symm ne10))).other W18 (Or.inl (Ne.symm ne_x1_tq))).other W21 (Or.inl (Ne.symm ne_x1_tq))).other W24 (Or.inl (Ne.symm ne_x1_tq)))
  have Fc33 : Fld Z h24 tq oz0 "after" oz2 .null := ((((Fw4.other W13 (Or.inl (Ne.symm ne10))).other W18 (Or.inl (Ne.symm ne_x1_tq))).other W21 (Or.inl (Ne.symm ne_x1_tq))).other W24 (Or.inl (Ne.symm ne_x1_tq)))
  obtain ⟨fs, hr, hrun, hended, hW, hsame⟩ := X24.leave (v := none) (fun _ => rfl)
  refine ⟨_, _, pre0 _ (pre25 _ ?_), hrun, hended, _, _, rfl, ?_, ⟨_, rfl⟩, hW, hsame.mono (by decide) (by decide)⟩
  · show oS p e below T24 m 73 #[rv o, rv x1] [] _
    exact X24.returnOut hx Bd.returns (hb hby d8_73) hr
  · show QUt0 Z o x1 fu lu iu ti tb ta tq h0 n0 _ T24.heap _
    rw [e24]
    exact ⟨rfl, N24, KP26, Fc27, Fc28, Fc29, Fc30, Fw24, Fc31, Fc32, Fc33⟩
theorem d6_0 : decode prog_10_method_5_code 0 = .ok (.aload_n 1, 1) := by decide +kernel
theorem d6_1 : decode prog_10_method_5_code 1 = .ok (.aload_n 0, 1) := by decide +kernel
theorem d6_2 : decode prog_10_method_5_code 2 = .ok (.putfield 16, 3) := by decide +kernel
theorem d6_5 : decode prog_10_method_5_code 5 = .ok (.aload_n 1, 1) := by decide +kernel
theorem d6_6 : decode prog_10_method_5_code 6 = .ok (.aload_n 0, 1) := by decide +kernel
theorem d6_7 : decode prog_10_method_5_code 7 = .ok (.getfield 13, 3) := by decide +kernel
theorem d6_10 : decode prog_10_method_5_code 10 = .ok (.putfield 22, 3) := by decide +kernel
theorem d6_13 : decode prog_10_method_5_code 13 = .ok (.aload_n 0, 1) := by decide +kernel
theorem d6_14 : decode prog_10_method_5_code 14 = .ok (.getfield 13, 3) := by decide +kernel
theorem d6_17 : decode prog_10_method_5_code 17 = .ok (.ifnonnull 11, 3) := by decide +kernel
theorem d6_20 : decode prog_10_method_5_code 20 = .ok (.aload_n 0, 1) := by decide +kernel
theorem d6_21 : decode prog_10_method_5_code 21 = .ok (.aload_n 1, 1) := by decide +kernel
theorem d6_22 : decode prog_10_method_5_code 22 = .ok (.putfield 7, 3) := by decide +kernel
theorem d6_25 : decode prog_10_method_5_code 25 = .ok (.goto 11, 3) := by decide +kernel
theorem d6_36 : decode prog_10_method_5_code 36 = .ok (.aload_n 0, 1) := by decide +kernel
theorem d6_37 : decode prog_10_method_5_code 37 = .ok (.aload_n 1, 1) := by decide +kernel
theorem d6_38 : decode prog_10_method_5_code 38 = .ok (.putfield 13, 3) := by decide +kernel
theorem d6_41 : decode prog_10_method_5_code 41 = .ok (.return_, 1) := by decide +kernel
theorem efA0 (m : MethodId) (o : Addr) (x1 : Addr) : entryFrame m #[(.ref o), (.ref x1)] 2 = mkF m 0 #[rv o, rv x1] [] := by first | (simp [entryFrame, mkF, argsToLocals, Value.category]; done) | rfl
def QA0 (Z : State) (o : Addr) (x1 : Addr) (fu : Value) (h0 : Heap) (n0 : Nat) (v : Option Value) (h : Heap) (L : List Loc) : Prop := v = none ∧ Fr n0 L ∧ Keep h0 h [o, x1] ∧ Fld Z h o oz1 "first" oz2 (.ref x1) ∧ Fld Z h o oz1 "last" oz2 (.ref x1) ∧ Fld Z h x1 oz0 "in" oz3 (.ref o) ∧ Fld Z h x1 oz0 "before" oz2 .null ∧ Fld Z h x1 oz0 "after" oz2 .null
set_option maxRecDepth 65536 in
set_option maxHeartbeats 40000000 in
theorem rmA0 (l : Launch) (Z : State) (a0 : Array Value) (hw : ∀ d ∈ tables_1, d.before a0 Z = true) (ws : List Jvm.Cond) (o : Addr) (x1 : Addr) (fu : Value) (h0 : Heap) (n0 : Nat) (Z0 : n0 ≤ h0.size) (E_o : Exa Z h0 o oz1) (E_x1 : Exa Z h0 x1 oz0) (g_o : n0 ≤ o) (g_x1 : n0 ≤ x1) (F_first_o : Fld Z h0 o oz1 "first" oz2 fu) (F_last_o : Fld Z h0 o oz1 "last" oz2 .null) (F_in_x1 : Fld Z h0 x1 oz0 "in" oz3 .null) (F_before_x1 : Fld Z h0 x1 oz0 "before" oz2 .null) (F_after_x1 : Fld Z h0 x1 oz0 "after" oz2 .null) :
    MetFree l (⟨oz1, "add", oz7⟩ : MethodName) (head1 (Jvm.Cond.code (⟨oz1, "add", oz7⟩ : MethodName) prog_10_method_5_code 2 none :: ws) ({ frames := 0, cells := 0, slots := 0, locals := 0 } : Room)) (fun a U => a = #[(.ref o), (.ref x1)] ∧ Z.Warmed39 U.vm ∧ U.heap = h0) (fun _ _ _ _ _ => True) (fun _ U oc U' => ∃ v L, oc = .returned v ∧ QA0 Z o x1 fu h0 n0 v U'.heap L ∧ FrameEnd U oc U' L ({ frames := 0, cells := 0, slots := 0, locals := 0 } : Room).cells ({ frames := 0, cells := 0, slots := 0, locals := 0 } : Room).slots) := by
  refine MetFree.of_bodySF (plainFor_of_name own_pn0) hisR ?_
  intro p e s m args below meth c s₁ Bd hml0 hP hK
  obtain ⟨rfl, hZ, hh⟩ := hP
  have hx := Bd.exec
  have hby := Bd.bytes
  have hml : c.maxLocals = 2 := hml0
  have hown : s.vm.findClass oz1 = some m.cls := findClass_of_methodNamed Bd.named
  have hnm := (name_of_methodNamed Bd.named Bd.method).1
  have X0 : Stand p l e ({ frames := 0, cells := 0, slots := 0, locals := 0 } : Room) s m #[(.ref o), (.ref x1)] below meth c s₁ [] 0 0 := Stand.of_body Bd
  have e0 : s₁.heap = h0 := by rw [← hh, Bd.state]; rfl
  have N0 := Fr.nil n0
  have pre0 : ∀ t, Steps p.tables e below (s₁.setTop (mkF m 0 #[rv o, rv x1] [])) t → Steps p.tables e below (s₁.setTop (entryFrame m #[(.ref o), (.ref x1)] 2)) t := fun t k => castTop (efA0 m o x1) k
  obtain ⟨T1, h1, X1, e1, W1, st1⟩ := putF X0 hx hZ hown (host := "") (Or.inl (own_w hw 40 rfl)) Via.refl e0 F_in_x1 E_x1 (Or.inl (own_w hw 41 rfl)) (own_w hw 10 rfl) (ty := (.object oz1)) (by decide) rfl rfl (g := (mkF m 2 #[rv o, rv x1] [(.ref o), (.ref x1)])) rfl rfl (hb hby d6_2)
  have Fw1 : Fld Z h1 x1 oz0 "in" oz3 (.ref o) := F_in_x1.same W1
  have N1 := Fr.snoc X1 N0 g_x1
  have Ec3 : Exa Z h1 o oz1 := (E_o.wr W1)
  have Ec4 : Exa Z h1 x1 oz0 := (E_x1.wr W1)
  have ne2 : o ≠ x1 := ne_exa Ec3 Ec4 (by decide)
  have Fc5 : Fld Z h1 o oz1 "last" oz2 .null := (F_last_o.other W1 (Or.inl ne2))
  obtain ⟨T6, X6, e6, st6⟩ := getF X1 hx hZ hown (host := "") (Or.inl (own_w hw 42 rfl)) Via.refl e1 Fc5 (g := (mkF m 7 #[rv o, rv x1] [(.ref o), (.ref x1)])) rfl rfl (hb hby d6_7)
  have Fc7 : Fld Z h1 x1 oz0 "before" oz2 .null := (F_before_x1.other W1 (Or.inr (slot_ne (Or.inl (own_w hw 45 rfl)) (Or.inl (own_w hw 41 rfl)) (by decide) (t := (.object oz0)) (t' := (.object oz1)) (by decide) (by decide))))
  obtain ⟨T8, h8, X8, e8, W8, st8⟩ := putF X6 hx hZ hown (host := "") (Or.inl (own_w hw 44 rfl)) Via.refl e6 Fc7 Ec4 (Or.inl (own_w hw 45 rfl)) (own_w hw 10 rfl) (ty := (.object oz0)) (by decide) rfl rfl (g := (mkF m 10 #[rv o, rv x1] [.null, (.ref x1)])) rfl rfl (hb hby d6_10)
  have Fw8 : Fld Z h8 x1 oz0 "before" oz2 .null := Fc7.same W8
  have N8 := Fr.snoc X8 N1 g_x1
  have Fc9 : Fld Z h8 o oz1 "last" oz2 .null := (Fc5.other W8 (Or.inl ne2))
  obtain ⟨T10, X10, e10, st10⟩ := getF X8 hx hZ hown (host := "") (Or.inl (own_w hw 42 rfl)) Via.refl e8 Fc9 (g := (mkF m 14 #[rv o, rv x1] [(.ref o)])) rfl rfl (hb hby d6_14)
  have Ec11 : Exa Z h8 o oz1 := (Ec3.wr W8)
  have Fc12 : Fld Z h8 o oz1 "first" oz2 fu := ((F_first_o.other W1 (Or.inl ne2)).other W8 (Or.inl ne2))
  obtain ⟨T13, h13, X13, e13, W13, st13⟩ := putF X10 hx hZ hown (host := "") (Or.inl (own_w hw 29 rfl)) Via.refl e10 Fc12 Ec11 (Or.inl (own_w hw 30 rfl)) (own_w hw 1 rfl) (ty := (.object oz0)) (by decide) rfl rfl (g := (mkF m 22 #[rv o, rv x1] [(.ref x1), (.ref o)])) rfl rfl (hb hby d6_22)
  have Fw13 : Fld Z h13 o oz1 "first" oz2 (.ref x1) := Fc12.same W13
  have N13 := Fr.snoc X13 N8 g_o
  have Ec14 : Exa Z h13 o oz1 := (Ec11.wr W13)
  have Fc15 : Fld Z h13 o oz1 "last" oz2 .null := (Fc9.other W13 (Or.inr (slot_ne (Or.inl (own_w hw 43 rfl)) (Or.inl (own_w hw 30 rfl)) (by decide) (t := (.object oz0)) (t' := (.object oz0)) (by decide) (by decide))))
  obtain ⟨T16, h16, X16, e16, W16, st16⟩ := putF X13 hx hZ hown (host := "") (Or.inl (own_w hw 42 rfl)) Via.refl e13 Fc15 Ec14 (Or.inl (own_w hw 43 rfl)) (own_w hw 1 rfl) (ty := (.object oz0)) (by decide) rfl rfl (g := (mkF m 38 #[rv o, rv x1] [(.ref x1), (.ref o)])) rfl rfl (hb hby d6_38)
  have Fw16 : Fld Z h16 o oz1 "last" oz2 (.ref x1) := Fc15.same W16
  have N16 := Fr.snoc X16 N13 g_o
  have pre17 : ∀ tz, oS p e below T16 m 41 #[rv o, rv x1] [] tz → oS p e below s₁ m 0 #[rv o, rv x1] [] tz := fun tz kt => by
    show oS p e below s₁ m 0 #[rv o, rv x1] [] _
    refine XS.aloadN X0.here hx rfl (hb hby d6_0) rfl rfl ?_
    refine XS.aloadN X0.here hx rfl (hb hby d6_1) rfl rfl ?_
    show oS p e below s₁ m 2 #[rv o, rv x1] [(.ref o), (.ref x1)] _
    refine st1 _ ?_
    refine XS.aloadN X1.here hx rfl (hb hby d6_5) rfl rfl ?_
    refine XS.aloadN X1.here hx rfl (hb hby d6_6) rfl rfl ?_
    show oS p e below T1 m 7 #[rv o, rv x1] [(.ref o), (.ref x1)] _
    refine st6 _ ?_
    show oS p e below T6 m 10 #[rv o, rv x1] [.null, (.ref x1)] _
    refine st8 _ ?_
    refine XS.aloadN X8.here hx rfl (hb hby d6_13) rfl rfl ?_
    show oS p e below T8 m 14 #[rv o, rv x1] [(.ref o)] _
    refine st10 _ ?_
    refine XS.ifnonnullNo X10.here hx rfl (hb hby d6_17) rfl ?_
    refine XS.aloadN X10.here hx rfl (hb hby d6_20) rfl rfl ?_
    refine XS.aloadN X10.here hx rfl (hb hby d6_21) rfl rfl ?_
    show oS p e below T10 m 22 #[rv o, rv x1] [(.ref x1), (.ref o)] _
    refine st13 _ ?_
    refine XS.goto X13.here hx rfl (pc0 := 25) (pc' := 36) rfl (hb hby d6_25) (by decide) (by decide) ?_
    refine XS.aloadN X13.here hx rfl (hb hby d6_36) rfl rfl ?_
    refine XS.aloadN X13.here hx rfl (hb hby d6_37) rfl rfl ?_
    show oS p e below T13 m 38 #[rv o, rv x1] [(.ref x1), (.ref o)] _
    refine st16 _ ?_
    exact kt
  have KP18 : Keep h0 h16 [o, x1] := (((((Keep.refl h0 [o, x1]).wr W1 (Or.inl (List.mem_of_getElem? (i := 1) rfl))).wr W8 (Or.inl (List.mem_of_getElem? (i := 1) rfl))).wr W13 (Or.inl (List.mem_of_getElem? (i := 0) rfl))).wr W16 (Or.inl (List.mem_of_getElem? (i := 0) rfl)))
  have Fc19 : Fld Z h16 o oz1 "first" oz2 (.ref x1) := (Fw13.other W16 (Or.inr (slot_ne (Or.inl (own_w hw 30 rfl)) (Or.inl (own_w hw 43 rfl)) (by decide) (t := (.object oz0)) (t' := (.object oz0)) (by decide) (by decide))))
  have Fc20 : Fld Z h16 x1 oz0 "in" oz3 (.ref o) := (((Fw1.other W8 (Or.inr (slot_ne (Or.inl (own_w hw 41 rfl)) (Or.inl (own_w hw 45 rfl)) (by decide) (t := (.object oz1)) (t' := (.object oz0)) (by decide) (by decide)))).other W13 (Or.inl (Ne.symm ne2))).other W16 (Or.inl (Ne.symm ne2)))
  have Fc21 : Fld Z h16 x1 oz0 "before" oz2 .null := ((Fw8.other W13 (Or.inl (Ne.symm ne2))).other W16 (Or.inl (Ne.symm ne2)))
  have Fc22 : Fld Z h16 x1 oz0 "after" oz2 .null := ((((F_after_x1.other W1 (Or.inr (slot_ne (Or.inl (own_w hw 56 rfl)) (Or.inl (own_w hw 41 rfl)) (by decide) (t := (.object oz0)) (t' := (.object oz1)) (by decide) (by decide)))).other W8 (Or.inr (slot_ne (Or.inl (own_w hw 56 rfl)) (Or.inl (own_w hw 45 rfl)) (by decide) (t := (.object oz0)) (t' := (.object oz0)) (by decide) (by decide)))).other W13 (Or.inl (Ne.symm ne2))).other W16 (Or.inl (Ne.symm ne2)))
  obtain ⟨fs, hr, hrun, hended, hW, hsame⟩ := X16.leave (v := none) (fun _ => rfl)
  refine ⟨_, _, pre0 _ (pre17 _ ?_), hrun, hended, _, _, rfl, ?_, ⟨_, rfl⟩, hW, hsame.mono (by decide) (by decide)⟩
  · show oS p e below T16 m 41 #[rv o, rv x1] [] _
    exact X16.returnOut hx Bd.returns (hb hby d6_41) hr
  · show QA0 Z o x1 fu h0 n0 _ T16.heap _
    rw [e16]
    exact ⟨rfl, N16, KP18, Fc19, Fw16, Fc20, Fc21, Fc22⟩
theorem d6_28 : decode prog_10_method_5_code 28 = .ok (.aload_n 0, 1) := by decide +kernel
theorem d6_29 : decode prog_10_method_5_code 29 = .ok (.getfield 13, 3) := by decide +kernel
theorem d6_32 : decode prog_10_method_5_code 32 = .ok (.aload_n 1, 1) := by decide +kernel
theorem d6_33 : decode prog_10_method_5_code 33 = .ok (.putfield 25, 3) := by decide +kernel
theorem efA1 (m : MethodId) (o : Addr) (x1 : Addr) : entryFrame m #[(.ref o), (.ref x1)] 2 = mkF m 0 #[rv o, rv x1] [] := by first | (simp [entryFrame, mkF, argsToLocals, Value.category]; done) | rfl
def QA1 (Z : State) (o : Addr) (x1 : Addr) (fu : Value) (ti : Value) (tb : Value) (ta : Value) (tq : Addr) (h0 : Heap) (n0 : Nat) (v : Option Value) (h : Heap) (L : List Loc) : Prop := v = none ∧ Fr n0 L ∧ Keep h0 h [o, x1, tq] ∧ Fld Z h o oz1 "first" oz2 fu ∧ Fld Z h o oz1 "last" oz2 (.ref x1) ∧ Fld Z h x1 oz0 "in" oz3 (.ref o) ∧ Fld Z h x1 oz0 "before" oz2 (.ref tq) ∧ Fld Z h x1 oz0 "after" oz2 .null ∧ Fld Z h tq oz0 "in" oz3 ti ∧ Fld Z h tq oz0 "before" oz2 tb ∧ Fld Z h tq oz0 "after" oz2 (.ref x1)
set_option maxRecDepth 65536 in
set_option maxHeartbeats 40000000 in
theorem rmA1 (l : Launch) (Z : State) (a0 : Array Value) (hw : ∀ d ∈ tables_1, d.before a0 Z = true) (ws : List Jvm.Cond) (o : Addr) (x1 : Addr) (fu : Value) (ti : Value) (tb : Value) (ta : Value) (tq : Addr) (h0 : Heap) (n0 : Nat) (Z0 : n0 ≤ h0.size) (E_o : Exa Z h0 o oz1) (E_x1 : Exa Z h0 x1 oz0) (E_tq : Exa Z h0 tq oz0) (g_o : n0 ≤ o) (g_x1 : n0 ≤ x1) (g_tq : n0 ≤ tq) (ne_x1_tq : x1 ≠ tq) (F_first_o : Fld Z h0 o oz1 "first" oz2 fu) (F_last_o : Fld Z h0 o oz1 "last" oz2 (.ref tq)) (F_in_x1 : Fld Z h0 x1 oz0 "in" oz3 .null) (F_before_x1 : Fld Z h0 x1 oz0 "before" oz2 .null) (F_after_x1 : Fld Z h0 x1 oz0 "after" oz2 .null) (F_in_tq : Fld Z h0 tq oz0 "in" oz3 ti) (F_before_tq : Fld Z h0 tq oz0 "before" oz2 tb) (F_after_tq : Fld Z h0 tq oz0 "after" oz2 ta) :
    MetFree l (⟨oz1, "add", oz7⟩ : MethodName) (head1 (Jvm.Cond.code (⟨oz1, "add", oz7⟩ : MethodName) prog_10_method_5_code 2 none :: ws) ({ frames := 0, cells := 0, slots := 0, locals := 0 } : Room)) (fun a U => a = #[(.ref o), (.ref x1)] ∧ Z.Warmed39 U.vm ∧ U.heap = h0) (fun _ _ _ _ _ => True) (fun _ U oc U' => ∃ v L, oc = .returned v ∧ QA1 Z o x1 fu ti tb ta tq h0 n0 v U'.heap L ∧ FrameEnd U oc U' L ({ frames := 0, cells := 0, slots := 0, locals := 0 } : Room).cells ({ frames := 0, cells := 0, slots := 0, locals := 0 } : Room).slots) := by
  refine MetFree.of_bodySF (plainFor_of_name own_pn0) hisR ?_
  intro p e s m args below meth c s₁ Bd hml0 hP hK
  obtain ⟨rfl, hZ, hh⟩ := hP
  have hx := Bd.exec
  have hby := Bd.bytes
  have hml : c.maxLocals = 2 := hml0
  have hown : s.vm.findClass oz1 = some m.cls := findClass_of_methodNamed Bd.named
  have hnm := (name_of_methodNamed Bd.named Bd.method).1
  have X0 : Stand p l e ({ frames := 0, cells := 0, slots := 0, locals := 0 } : Room) s m #[(.ref o), (.ref x1)] below meth c s₁ [] 0 0 := Stand.of_body Bd
  have e0 : s₁.heap = h0 := by rw [← hh, Bd.state]; rfl
  have N0 := Fr.nil n0
  have pre0 : ∀ t, Steps p.tables e below (s₁.setTop (mkF m 0 #[rv o, rv x1] [])) t → Steps p.tables e below (s₁.setTop (entryFrame m #[(.ref o), (.ref x1)] 2)) t := fun t k => castTop (efA1 m o x1) k
  obtain ⟨T1, h1, X1, e1, W1, st1⟩ := putF X0 hx hZ hown (host := "") (Or.inl (own_w hw 40 rfl)) Via.refl e0 F_in_x1 E_x1 (Or.inl (own_w hw 41 rfl)) (own_w hw 10 rfl) (ty := (.object oz1)) (by decide) rfl rfl (g := (mkF m 2 #[rv o, rv x1] [(.ref o), (.ref x1)])) rfl rfl (hb hby d6_2)
  have Fw1 : Fld Z h1 x1 oz0 "in" oz3 (.ref o) := F_in_x1.same W1
  have N1 := Fr.snoc X1 N0 g_x1
  have Ec3 : Exa Z h1 o oz1 := (E_o.wr W1)
  have Ec4 : Exa Z h1 x1 oz0 := (E_x1.wr W1)
  have ne2 : o ≠ x1 := ne_exa Ec3 Ec4 (by decide)
  have Fc5 : Fld Z h1 o oz1 "last" oz2 (.ref tq) := (F_last_o.other W1 (Or.inl ne2))
  obtain ⟨T6, X6, e6, st6⟩ := getF X1 hx hZ hown (host := "") (Or.inl (own_w hw 42 rfl)) Via.refl e1 Fc5 (g := (mkF m 7 #[rv o, rv x1] [(.ref o), (.ref x1)])) rfl rfl (hb hby d6_7)
  have Fc7 : Fld Z h1 x1 oz0 "before" oz2 .null := (F_before_x1.other W1 (Or.inr (slot_ne (Or.inl (own_w hw 45 rfl)) (Or.inl (own_w hw 41 rfl)) (by decide) (t := (.object oz0)) (t' := (.object oz1)) (by decide) (by decide))))
  obtain ⟨T8, h8, X8, e8, W8, st8⟩ := putF X6 hx hZ hown (host := "") (Or.inl (own_w hw 44 rfl)) Via.refl e6 Fc7 Ec4 (Or.inl (own_w hw 45 rfl)) (own_w hw 10 rfl) (ty := (.object oz0)) (by decide) rfl rfl (g := (mkF m 10 #[rv o, rv x1] [(.ref tq), (.ref x1)])) rfl rfl (hb hby d6_10)
  have Fw8 : Fld Z h8 x1 oz0 "before" oz2 (.ref tq) := Fc7.same W8
  have N8 := Fr.snoc X8 N1 g_x1
  have Fc9 : Fld Z h8 o oz1 "last" oz2 (.ref tq) := (Fc5.other W8 (Or.inl ne2))
  obtain ⟨T10, X10, e10, st10⟩ := getF X8 hx hZ hown (host := "") (Or.inl (own_w hw 42 rfl)) Via.refl e8 Fc9 (g := (mkF m 14 #[rv o, rv x1] [(.ref o)])) rfl rfl (hb hby d6_14)
  obtain ⟨T11, X11, e11, st11⟩ := getF X10 hx hZ hown (host := "") (Or.inl (own_w hw 42 rfl)) Via.refl e10 Fc9 (g := (mkF m 29 #[rv o, rv x1] [(.ref o)])) rfl rfl (hb hby d6_29)
  have Ec12 : Exa Z h8 tq oz0 := ((E_tq.wr W1).wr W8)
  have Fc13 : Fld Z h8 tq oz0 "after" oz2 ta := ((F_after_tq.other W1 (Or.inl (Ne.symm ne_x1_tq))).other W8 (Or.inl (Ne.symm ne_x1_tq)))
  obtain ⟨T14, h14, X14, e14, W14, st14⟩ := putF X11 hx hZ hown (host := "") (Or.inl (own_w hw 55 rfl)) Via.refl e11 Fc13 Ec12 (Or.inl (own_w hw 56 rfl)) (own_w hw 10 rfl) (ty := (.object oz0)) (by decide) rfl rfl (g := (mkF m 33 #[rv o, rv x1] [(.ref x1), (.ref tq)])) rfl rfl (hb hby d6_33)
  have Fw14 : Fld Z h14 tq oz0 "after" oz2 (.ref x1) := Fc13.same W14
  have N14 := Fr.snoc X14 N8 g_tq
  have Ec15 : Exa Z h14 o oz1 := ((Ec3.wr W8).wr W14)
  have Ec17 : Exa Z h14 tq oz0 := (Ec12.wr W14)
  have ne16 : o ≠ tq := ne_exa Ec15 Ec17 (by decide)
  have Fc18 : Fld Z h14 o oz1 "last" oz2 (.ref tq) := (Fc9.other W14 (Or.inl ne16))
  obtain ⟨T19, h19, X19, e19, W19, st19⟩ := putF X14 hx hZ hown (host := "") (Or.inl (own_w hw 42 rfl)) Via.refl e14 Fc18 Ec15 (Or.inl (own_w hw 43 rfl)) (own_w hw 1 rfl) (ty := (.object oz0)) (by decide) rfl rfl (g := (mkF m 38 #[rv o, rv x1] [(.ref x1), (.ref o)])) rfl rfl (hb hby d6_38)
  have Fw19 : Fld Z h19 o oz1 "last" oz2 (.ref x1) := Fc18.same W19
  have N19 := Fr.snoc X19 N14 g_o
  have pre20 : ∀ tz, oS p e below T19 m 41 #[rv o, rv x1] [] tz → oS p e below s₁ m 0 #[rv o, rv x1] [] tz := fun tz kt => by
    show oS p e below s₁ m 0 #[rv o, rv x1] [] _
    refine XS.aloadN X0.here hx rfl (hb hby d6_0) rfl rfl ?_
    refine XS.aloadN X0.here hx rfl (hb hby d6_1) rfl rfl ?_
    show oS p e below s₁ m 2 #[rv o, rv x1] [(.ref o), (.ref x1)] _
    refine st1 _ ?_
    refine XS.aloadN X1.here hx rfl (hb hby d6_5) rfl rfl ?_
    refine XS.aloadN X1.here hx rfl (hb hby d6_6) rfl rfl ?_
    show oS p e below T1 m 7 #[rv o, rv x1] [(.ref o), (.ref x1)] _
    refine st6 _ ?_
    show oS p e below T6 m 10 #[rv o, rv x1] [(.ref tq), (.ref x1)] _
    refine st8 _ ?_
    refine XS.aloadN X8.here hx rfl (hb hby d6_13) rfl rfl ?_
    show oS p e below T8 m 14 #[rv o, rv x1] [(.ref o)] _
    refine st10 _ ?_
    refine XS.ifnonnullYes X10.here hx rfl (pc0 := 17) (pc' := 28) rfl (hb hby d6_17) rfl (by decide) (by decide) ?_
    refine XS.aloadN X10.here hx rfl (hb hby d6_28) rfl rfl ?_
    show oS p e below T10 m 29 #[rv o, rv x1] [(.ref o)] _
    refine st11 _ ?_
    refine XS.aloadN X11.here hx rfl (hb hby d6_32) rfl rfl ?_
    show oS p e below T11 m 33 #[rv o, rv x1] [(.ref x1), (.ref tq)] _
    refine st14 _ ?_
    refine XS.aloadN X14.here hx rfl (hb hby d6_36) rfl rfl ?_
    refine XS.aloadN X14.here hx rfl (hb hby d6_37) rfl rfl ?_
    show oS p e below T14 m 38 #[rv o, rv x1] [(.ref x1), (.ref o)] _
    refine st19 _ ?_
    exact kt
  have KP21 : Keep h0 h19 [o, x1, tq] := (((((Keep.refl h0 [o, x1, tq]).wr W1 (Or.inl (List.mem_of_getElem? (i := 1) rfl))).wr W8 (Or.inl (List.mem_of_getElem? (i := 1) rfl))).wr W14 (Or.inl (List.mem_of_getElem? (i := 2) rfl))).wr W19 (Or.inl (List.mem_of_getElem? (i := 0) rfl)))
  have Fc22 : Fld Z h19 o oz1 "first" oz2 fu := ((((F_first_o.other W1 (Or.inl ne2)).other W8 (Or.inl ne2)).other W14 (Or.inl ne16)).other W19 (Or.inr (slot_ne (Or.inl (own_w hw 30 rfl)) (Or.inl (own_w hw 43 rfl)) (by decide) (t := (.object oz0)) (t' := (.object oz0)) (by decide) (by decide))))
  have Fc23 : Fld Z h19 x1 oz0 "in" oz3 (.ref o) := (((Fw1.other W8 (Or.inr (slot_ne (Or.inl (own_w hw 41 rfl)) (Or.inl (own_w hw 45 rfl)) (by decide) (t := (.object oz1)) (t' := (.object oz0)) (by decide) (by decide)))).other W14 (Or.inl ne_x1_tq)).other W19 (Or.inl (Ne.symm ne2)))
  have Fc24 : Fld Z h19 x1 oz0 "before" oz2 (.ref tq) := ((Fw8.other W14 (Or.inl ne_x1_tq)).other W19 (Or.inl (Ne.symm ne2)))
  have Fc25 : Fld Z h19 x1 oz0 "after" oz2 .null := ((((F_after_x1.other W1 (Or.inr (slot_ne (Or.inl (own_w hw 56 rfl)) (Or.inl (own_w hw 41 rfl)) (by decide) (t := (.object oz0)) (t' := (.object oz1)) (by decide) (by decide)))).other W8 (Or.inr (slot_ne (Or.inl (own_w hw 56 rfl)) (Or.inl (own_w hw 45 rfl)) (by decide) (t := (.object oz0)) (t' := (.object oz0)) (by decide) (by decide)))).other W14 (Or.inl ne_x1_tq)).other W19 (Or.inl (Ne.symm ne2)))
  have Fc26 : Fld Z h19 tq oz0 "in" oz3 ti := ((((F_in_tq.other W1 (Or.inl (Ne.symm ne_x1_tq))).other W8 (Or.inl (Ne.symm ne_x1_tq))).other W14 (Or.inr (slot_ne (Or.inl (own_w hw 41 rfl)) (Or.inl (own_w hw 56 rfl)) (by decide) (t := (.object oz1)) (t' := (.object oz0)) (by decide) (by decide)))).other W19 (Or.inl (Ne.symm ne16)))
  have Fc27 : Fld Z h19 tq oz0 "before" oz2 tb := ((((F_before_tq.other W1 (Or.inl (Ne.symm ne_x1_tq))).other W8 (Or.inl (Ne.symm ne_x1_tq))).other W14 (Or.inr (slot_ne (Or.inl (own_w hw 45 rfl)) (Or.inl (own_w hw 56 rfl)) (by decide) (t := (.object oz0)) (t' := (.object oz0)) (by decide) (by decide)))).other W19 (Or.inl (Ne.symm ne16)))
  have Fc28 : Fld Z h19 tq oz0 "after" oz2 (.ref x1) := (Fw14.other W19 (Or.inl (Ne.symm ne16)))
  obtain ⟨fs, hr, hrun, hended, hW, hsame⟩ := X19.leave (v := none) (fun _ => rfl)
  refine ⟨_, _, pre0 _ (pre20 _ ?_), hrun, hended, _, _, rfl, ?_, ⟨_, rfl⟩, hW, hsame.mono (by decide) (by decide)⟩
  · show oS p e below T19 m 41 #[rv o, rv x1] [] _
    exact X19.returnOut hx Bd.returns (hb hby d6_41) hr
  · show QA1 Z o x1 fu ti tb ta tq h0 n0 _ T19.heap _
    rw [e19]
    exact ⟨rfl, N19, KP21, Fc22, Fw19, Fc23, Fc24, Fc25, Fc26, Fc27, Fc28⟩
theorem d9_0 : decode prog_10_method_6_code 0 = .ok (.aload_n 0, 1) := by decide +kernel
theorem d9_1 : decode prog_10_method_6_code 1 = .ok (.getfield 7, 3) := by decide +kernel
theorem d9_4 : decode prog_10_method_6_code 4 = .ok (.astore_n 1, 1) := by decide +kernel
theorem d9_5 : decode prog_10_method_6_code 5 = .ok (.aload_n 1, 1) := by decide +kernel
theorem d9_6 : decode prog_10_method_6_code 6 = .ok (.ifnull 8, 3) := by decide +kernel
theorem d9_14 : decode prog_10_method_6_code 14 = .ok (.aload_n 1, 1) := by decide +kernel
theorem d9_15 : decode prog_10_method_6_code 15 = .ok (.areturn, 1) := by decide +kernel
theorem efP0 (m : MethodId) (o : Addr) : entryFrame m #[(.ref o)] 2 = mkF m 0 #[rv o, .unset] [] := by first | (simp [entryFrame, mkF, argsToLocals, Value.category]; done) | rfl
def QP0 (Z : State) (o : Addr) (h0 : Heap) (n0 : Nat) (v : Option Value) (h : Heap) (L : List Loc) : Prop := v = some .null ∧ Fr n0 L ∧ h = h0
set_option maxRecDepth 65536 in
set_option maxHeartbeats 40000000 in
theorem rmP0 (l : Launch) (Z : State) (a0 : Array Value) (hw : ∀ d ∈ tables_1, d.before a0 Z = true) (ws : List Jvm.Cond) (o : Addr) (h0 : Heap) (n0 : Nat) (Z0 : n0 ≤ h0.size) (E_o : Exa Z h0 o oz1) (F_first_o : Fld Z h0 o oz1 "first" oz2 .null) :
    MetFree l (⟨oz1, "poll", oz8⟩ : MethodName) (head1 (Jvm.Cond.code (⟨oz1, "poll", oz8⟩ : MethodName) prog_10_method_6_code 2 (some (.object oz0)) :: ws) ({ frames := 0, cells := 0, slots := 0, locals := 0 } : Room)) (fun a U => a = #[(.ref o)] ∧ Z.Warmed39 U.vm ∧ U.heap = h0) (fun _ _ _ _ _ => True) (fun _ U oc U' => ∃ v L, oc = .returned v ∧ QP0 Z o h0 n0 v U'.heap L ∧ FrameEnd U oc U' L ({ frames := 0, cells := 0, slots := 0, locals := 0 } : Room).cells ({ frames := 0, cells := 0, slots := 0, locals := 0 } : Room).slots) := by
  refine MetFree.of_bodySF (plainFor_of_name own_pn0) hisR ?_
  intro p e s m args below meth c s₁ Bd hml0 hP hK
  obtain ⟨rfl, hZ, hh⟩ := hP
  have hx := Bd.exec
  have hby := Bd.bytes
  have hml : c.maxLocals = 2 := hml0
  have hown : s.vm.findClass oz1 = some m.cls := findClass_of_methodNamed Bd.named
  have hnm := (name_of_methodNamed Bd.named Bd.method).1
  have X0 : Stand p l e ({ frames := 0, cells := 0, slots := 0, locals := 0 } : Room) s m #[(.ref o)] below meth c s₁ [] 0 0 := Stand.of_body Bd
  have e0 : s₁.heap = h0 := by rw [← hh, Bd.state]; rfl
  have N0 := Fr.nil n0
  have pre0 : ∀ t, Steps p.tables e below (s₁.setTop (mkF m 0 #[rv o, .unset] [])) t → Steps p.tables e below (s₁.setTop (entryFrame m #[(.ref o)] 2)) t := fun t k => castTop (efP0 m o) k
  obtain ⟨T1, X1, e1, st1⟩ := getF X0 hx hZ hown (host := "") (Or.inl (own_w hw 29 rfl)) Via.refl e0 F_first_o (g := (mkF m 1 #[rv o, .unset] [(.ref o)])) rfl rfl (hb hby d9_1)
  have pre2 : ∀ tz, oS p e below T1 m 15 #[rv o, .val .null] [.null] tz → oS p e below s₁ m 0 #[rv o, .unset] [] tz := fun tz kt => by
    show oS p e below s₁ m 0 #[rv o, .unset] [] _
    refine XS.aloadN X0.here hx rfl (hb hby d9_0) rfl rfl ?_
    show oS p e below s₁ m 1 #[rv o, .unset] [(.ref o)] _
    refine st1 _ ?_
    refine XS.astoreN X1.here hx rfl (hb hby d9_4) rfl rfl (l' := #[rv o, .val .null]) rfl ?_
    refine XS.aloadN X1.here hx rfl (hb hby d9_5) rfl rfl ?_
    refine XS.ifnullYes X1.here hx rfl (pc0 := 6) (pc' := 14) rfl (hb hby d9_6) rfl (by decide) (by decide) ?_
    show oS p e below T1 m 14 #[rv o, .val .null] [] _
    refine XS.aloadN X1.here hx rfl (hb hby d9_14) rfl rfl ?_
    exact kt
  obtain ⟨fs, hr, hrun, hended, hW, hsame⟩ := X1.leave (v := some .null) (fun h => by rw [Bd.returns] at h; cases h)
  refine ⟨_, _, pre0 _ (pre2 _ ?_), hrun, hended, _, _, rfl, ?_, ⟨_, rfl⟩, hW, hsame.mono (by decide) (by decide)⟩
  · show oS p e below T1 m 15 #[rv o, .val .null] [.null] _
    exact retOut X1 hx Bd.returns rfl (Or.inr (Or.inr (Or.inr (Or.inr ⟨rfl, rfl, rfl⟩)))) (hb hby d9_15) hr
  · show QP0 Z o h0 n0 _ T1.heap _
    rw [e1]
    exact ⟨rfl, N0, rfl⟩
theorem own_pd0 : parseMethodDescriptor "(Lcom/example/ordered_scheduler/orderedscheduler/sequencing/Place;)V" = some ⟨[(.object "com/example/ordered_scheduler/orderedscheduler/sequencing/Place")], none⟩ := by decide +kernel
theorem d9_9 : decode prog_10_method_6_code 9 = .ok (.aload_n 0, 1) := by decide +kernel
theorem d9_10 : decode prog_10_method_6_code 10 = .ok (.aload_n 1, 1) := by decide +kernel
theorem d9_11 : decode prog_10_method_6_code 11 = .ok (.invokevirtual 28, 3) := by decide +kernel
theorem efP00 (m : MethodId) (o : Addr) : entryFrame m #[(.ref o)] 2 = mkF m 0 #[rv o, .unset] [] := by first | (simp [entryFrame, mkF, argsToLocals, Value.category]; done) | rfl
def QP00 (Z : State) (o : Addr) (lu : Value) (iu : Value) (x : Addr) (h0 : Heap) (n0 : Nat) (v : Option Value) (h : Heap) (L : List Loc) : Prop := v = some (.ref x) ∧ Fr n0 L ∧ Keep h0 h [o, x] ∧ Fld Z h o oz1 "first" oz2 .null ∧ Fld Z h o oz1 "last" oz2 .null ∧ Fld Z h x oz0 "in" oz3 .null ∧ Fld Z h x oz0 "before" oz2 .null ∧ Fld Z h x oz0 "after" oz2 .null
set_option maxRecDepth 65536 in
set_option maxHeartbeats 40000000 in
theorem rmP00 (l : Launch) (Z : State) (a0 : Array Value) (hw : ∀ d ∈ tables_1, d.before a0 Z = true) (ws : List Jvm.Cond) (o : Addr) (lu : Value) (iu : Value) (x : Addr) (h0 : Heap) (n0 : Nat) (Z0 : n0 ≤ h0.size) (E_o : Exa Z h0 o oz1) (E_x : Exa Z h0 x oz0) (g_o : n0 ≤ o) (g_x : n0 ≤ x) (F_first_o : Fld Z h0 o oz1 "first" oz2 (.ref x)) (F_last_o : Fld Z h0 o oz1 "last" oz2 lu) (F_in_x : Fld Z h0 x oz0 "in" oz3 iu) (F_before_x : Fld Z h0 x oz0 "before" oz2 .null) (F_after_x : Fld Z h0 x oz0 "after" oz2 .null) :
    MetFree l (⟨oz1, "poll", oz8⟩ : MethodName) (head1 (Jvm.Cond.code (⟨oz1, "poll", oz8⟩ : MethodName) prog_10_method_6_code 2 (some (.object oz0)) :: ws) ({ frames := 1, cells := 0, slots := 0, locals := 13 } : Room)) (fun a U => a = #[(.ref o)] ∧ Z.Warmed39 U.vm ∧ U.heap = h0) (fun _ _ _ _ _ => True) (fun _ U oc U' => ∃ v L, oc = .returned v ∧ QP00 Z o lu iu x h0 n0 v U'.heap L ∧ FrameEnd U oc U' L ({ frames := 1, cells := 0, slots := 0, locals := 13 } : Room).cells ({ frames := 1, cells := 0, slots := 0, locals := 13 } : Room).slots) := by
  refine MetFree.of_bodySF (plainFor_of_name own_pn0) hisR ?_
  intro p e s m args below meth c s₁ Bd hml0 hP hK
  obtain ⟨rfl, hZ, hh⟩ := hP
  have hx := Bd.exec
  have hby := Bd.bytes
  have hml : c.maxLocals = 2 := hml0
  have hown : s.vm.findClass oz1 = some m.cls := findClass_of_methodNamed Bd.named
  have hnm := (name_of_methodNamed Bd.named Bd.method).1
  have X0 : Stand p l e ({ frames := 1, cells := 0, slots := 0, locals := 13 } : Room) s m #[(.ref o)] below meth c s₁ [] 0 0 := Stand.of_body Bd
  have e0 : s₁.heap = h0 := by rw [← hh, Bd.state]; rfl
  have N0 := Fr.nil n0
  have pre0 : ∀ t, Steps p.tables e below (s₁.setTop (mkF m 0 #[rv o, .unset] [])) t → Steps p.tables e below (s₁.setTop (entryFrame m #[(.ref o)] 2)) t := fun t k => castTop (efP00 m o) k
  obtain ⟨T1, X1, e1, st1⟩ := getF X0 hx hZ hown (host := "") (Or.inl (own_w hw 29 rfl)) Via.refl e0 F_first_o (g := (mkF m 1 #[rv o, .unset] [(.ref o)])) rfl rfl (hb hby d9_1)
  obtain ⟨cq2, q2, q2'⟩ := E_o.cell
  obtain ⟨_, _, ⟨T2, Lw2, kw2, nw2⟩, -, X2, ⟨Lc2, hQ2, l2, y2, z2⟩, st2⟩ := X1.privateBack hx (y := (⟨oz1, "unlink", oz7⟩ : MethodName)) hown (mvT hZ (own_w hw 51 rfl)) (mvT hZ (own_w hw 52 rfl)) (own_selp hZ (own_w hw 1 rfl) (own_w hw 53 rfl) (own_w hw 52 rfl) (by decide)) (Cond.privateMethod_at (mvP hZ (own_w hw 53 rfl) (args := #[]))) (mvT hZ (own_w hw 54 rfl)) (by decide) (backOf (W := 0) (rmU00 l Z a0 hw [] o x (.ref x) lu iu h0 n0 Z0 E_o E_x g_o g_x F_first_o F_last_o F_in_x F_before_x F_after_x) hZ (own_w hw 54 rfl) (own_w hw 2 rfl) (by decide) (by decide)) (g := (mkF m 11 #[rv o, rv x] [(.ref x), (.ref o)])) rfl (by rw [hml]; rfl) (Steps.refl _) (a := o) (by rw [e1]; exact q2) q2' (argsL := [(.ref x)]) (rest := []) (lenOf own_pd0 rfl) rfl (by show 2 * 0 + _ ≤ _; exact Nat.le_of_eq rfl) (hb hby d9_11) (fun _ _ => ⟨rfl, e1, (by decide : 0 + 0 ≤ _), (by decide : 0 + 0 ≤ _)⟩)
  dsimp only [Pt.U, Pt.locs, Pt.cells, Pt.slots] at X2 l2 y2 z2 st2 hQ2
  subst l2 y2 z2
  obtain ⟨rfl, Nq2, K2, pf2_0, pf2_1, pf2_2, pf2_3, pf2_4⟩ := hQ2
  have N2 := Fr.app N0 Nq2
  have pre3 : ∀ tz, oS p e below T2 m 15 #[rv o, rv x] [(.ref x)] tz → oS p e below s₁ m 0 #[rv o, .unset] [] tz := fun tz kt => by
    show oS p e below s₁ m 0 #[rv o, .unset] [] _
    refine XS.aloadN X0.here hx rfl (hb hby d9_0) rfl rfl ?_
    show oS p e below s₁ m 1 #[rv o, .unset] [(.ref o)] _
    refine st1 _ ?_
    refine XS.astoreN X1.here hx rfl (hb hby d9_4) rfl rfl (l' := #[rv o, rv x]) rfl ?_
    refine XS.aloadN X1.here hx rfl (hb hby d9_5) rfl rfl ?_
    refine XS.ifnullNo X1.here hx rfl (hb hby d9_6) rfl ?_
    show oS p e below T1 m 9 #[rv o, rv x] [] _
    refine XS.aloadN X1.here hx rfl (hb hby d9_9) rfl rfl ?_
    refine XS.aloadN X1.here hx rfl (hb hby d9_10) rfl rfl ?_
    show oS p e below T1 m 11 #[rv o, rv x] [(.ref x), (.ref o)] _
    refine st2.trans ?_
    refine XS.aloadN X2.here hx rfl (hb hby d9_14) rfl rfl ?_
    exact kt
  have KP4 : Keep h0 T2.heap [o, x] := ((Keep.refl h0 [o, x]).trans K2 (allS (Or.inl (List.mem_of_getElem? (i := 0) rfl)) (allS (Or.inl (List.mem_of_getElem? (i := 1) rfl)) all0)))
  obtain ⟨fs, hr, hrun, hended, hW, hsame⟩ := X2.leave (v := some (.ref x)) (fun h => by rw [Bd.returns] at h; cases h)
  refine ⟨_, _, pre0 _ (pre3 _ ?_), hrun, hended, _, _, rfl, ?_, ⟨_, rfl⟩, hW, hsame.mono (by decide) (by decide)⟩
  · show oS p e below T2 m 15 #[rv o, rv x] [(.ref x)] _
    exact retOut X2 hx Bd.returns rfl (Or.inr (Or.inr (Or.inr (Or.inr ⟨rfl, rfl, rfl⟩)))) (hb hby d9_15) hr
  · show QP00 Z o lu iu x h0 n0 _ T2.heap _
    exact ⟨rfl, N2, KP4, pf2_0, pf2_1, pf2_2, pf2_3, pf2_4⟩
theorem efP0t (m : MethodId) (o : Addr) : entryFrame m #[(.ref o)] 2 = mkF m 0 #[rv o, .unset] [] := by first | (simp [entryFrame, mkF, argsToLocals, Value.category]; done) | rfl
def QP0t (Z : State) (o : Addr) (lu : Value) (iu : Value) (ti : Value) (tb : Value) (ta : Value) (x : Addr) (tq : Addr) (h0 : Heap) (n0 : Nat) (v : Option Value) (h : Heap) (L : List Loc) : Prop := v = some (.ref x) ∧ Fr n0 L ∧ Keep h0 h [o, x, tq] ∧ Fld Z h o oz1 "first" oz2 (.ref tq) ∧ Fld Z h o oz1 "last" oz2 lu ∧ Fld Z h x oz0 "in" oz3 .null ∧ Fld Z h x oz0 "before" oz2 .null ∧ Fld Z h x oz0 "after" oz2 .null ∧ Fld Z h tq oz0 "in" oz3 ti ∧ Fld Z h tq oz0 "before" oz2 .null ∧ Fld Z h tq oz0 "after" oz2 ta
set_option maxRecDepth 65536 in
set_option maxHeartbeats 40000000 in
theorem rmP0t (l : Launch) (Z : State) (a0 : Array Value) (hw : ∀ d ∈ tables_1, d.before a0 Z = true) (ws : List Jvm.Cond) (o : Addr) (lu : Value) (iu : Value) (ti : Value) (tb : Value) (ta : Value) (x : Addr) (tq : Addr) (h0 : Heap) (n0 : Nat) (Z0 : n0 ≤ h0.size) (E_o : Exa Z h0 o oz1) (E_x : Exa Z h0 x oz0) (E_tq : Exa Z h0 tq oz0) (g_o : n0 ≤ o) (g_x : n0 ≤ x) (g_tq : n0 ≤ tq) (ne_x_tq : x ≠ tq) (F_first_o : Fld Z h0 o oz1 "first" oz2 (.ref x)) (F_last_o : Fld Z h0 o oz1 "last" oz2 lu) (F_in_x : Fld Z h0 x oz0 "in" oz3 iu) (F_before_x : Fld Z h0 x oz0 "before" oz2 .null) (F_after_x : Fld Z h0 x oz0 "after" oz2 (.ref tq)) (F_in_tq : Fld Z h0 tq oz0 "in" oz3 ti) (F_before_tq : Fld Z h0 tq oz0 "before" oz2 tb) (F_after_tq : Fld Z h0 tq oz0 "after" oz2 ta) :
    MetFree l (⟨oz1, "poll", oz8⟩ : MethodName) (head1 (Jvm.Cond.code (⟨oz1, "poll", oz8⟩ : MethodName) prog_10_method_6_code 2 (some (.object oz0)) :: ws) ({ frames := 1, cells := 0, slots := 0, locals := 13 } : Room)) (fun a U => a = #[(.ref o)] ∧ Z.Warmed39 U.vm ∧ U.heap = h0) (fun _ _ _ _ _ => True) (fun _ U oc U' => ∃ v L, oc = .returned v ∧ QP0t Z o lu iu ti tb ta x tq h0 n0 v U'.heap L ∧ FrameEnd U oc U' L ({ frames := 1, cells := 0, slots := 0, locals := 13 } : Room).cells ({ frames := 1, cells := 0, slots := 0, locals := 13 } : Room).slots) := by
  refine MetFree.of_bodySF (plainFor_of_name own_pn0) hisR ?_
  intro p e s m args below meth c s₁ Bd hml0 hP hK
  obtain ⟨rfl, hZ, hh⟩ := hP
  have hx := Bd.exec
  have hby := Bd.bytes
  have hml : c.maxLocals = 2 := hml0
  have hown : s.vm.findClass oz1 = some m.cls := findClass_of_methodNamed Bd.named
  have hnm := (name_of_methodNamed Bd.named Bd.method).1
  have X0 : Stand p l e ({ frames := 1, cells := 0, slots := 0, locals := 13 } : Room) s m #[(.ref o)] below meth c s₁ [] 0 0 := Stand.of_body Bd
  have e0 : s₁.heap = h0 := by rw [← hh, Bd.state]; rfl
  have N0 := Fr.nil n0
  have pre0 : ∀ t, Steps p.tables e below (s₁.setTop (mkF m 0 #[rv o, .unset] [])) t → Steps p.tables e below (s₁.setTop (entryFrame m #[(.ref o)] 2)) t := fun t k => castTop (efP0t m o) k
  obtain ⟨T1, X1, e1, st1⟩ := getF X0 hx hZ hown (host := "") (Or.inl (own_w hw 29 rfl)) Via.refl e0 F_first_o (g := (mkF m 1 #[rv o, .unset] [(.ref o)])) rfl rfl (hb hby d9_1)
  obtain ⟨cq2, q2, q2'⟩ := E_o.cell
  obtain ⟨_, _, ⟨T2, Lw2, kw2, nw2⟩, -, X2, ⟨Lc2, hQ2, l2, y2, z2⟩, st2⟩ := X1.privateBack hx (y := (⟨oz1, "unlink", oz7⟩ : MethodName)) hown (mvT hZ (own_w hw 51 rfl)) (mvT hZ (own_w hw 52 rfl)) (own_selp hZ (own_w hw 1 rfl) (own_w hw 53 rfl) (own_w hw 52 rfl) (by decide)) (Cond.privateMethod_at (mvP hZ (own_w hw 53 rfl) (args := #[]))) (mvT hZ (own_w hw 54 rfl)) (by decide) (backOf (W := 0) (rmU0t l Z a0 hw [] o x (.ref x) lu iu ti tb ta tq h0 n0 Z0 E_o E_x E_tq g_o g_x g_tq ne_x_tq F_first_o F_last_o F_in_x F_before_x F_after_x F_in_tq F_before_tq F_after_tq) hZ (own_w hw 54 rfl) (own_w hw 2 rfl) (by decide) (by decide)) (g := (mkF m 11 #[rv o, rv x] [(.ref x), (.ref o)])) rfl (by rw [hml]; rfl) (Steps.refl _) (a := o) (by rw [e1]; exact q2) q2' (argsL := [(.ref x)]) (rest := []) (lenOf own_pd0 rfl) rfl (by show 2 * 0 + _ ≤ _; exact Nat.le_of_eq rfl) (hb hby d9_11) (fun _ _ => ⟨rfl, e1, (by decide : 0 + 0 ≤ _), (by decide : 0 + 0 ≤ _)⟩)
  dsimp only [Pt.U, Pt.locs, Pt.cells, Pt.slots] at X2 l2 y2 z2 st2 hQ2
  subst l2 y2 z2
  obtain ⟨rfl, Nq2, K2, pf2_0, pf2_1, pf2_2, pf2_3, pf2_4, pf2_5, pf2_6, pf2_7⟩ := hQ2
  have N2 := Fr.app N0 Nq2
  have pre3 : ∀ tz, oS p e below T2 m 15 #[rv o, rv x] [(.ref x)] tz → oS p e below s₁ m 0 #[rv o, .unset] [] tz := fun tz kt => by
    show oS p e below s₁ m 0 #[rv o, .unset] [] _
    refine XS.aloadN X0.here hx rfl (hb hby d9_0) rfl rfl ?_
    show oS p e below s₁ m 1 #[rv o, .unset] [(.ref o)] _
    refine st1 _ ?_
    refine XS.astoreN X1.here hx rfl (hb hby d9_4) rfl rfl (l' := #[rv o, rv x]) rfl ?_
    refine XS.aloadN X1.here hx rfl (hb hby d9_5) rfl rfl ?_
    refine XS.ifnullNo X1.here hx rfl (hb hby d9_6) rfl ?_
    show oS p e below T1 m 9 #[rv o, rv x] [] _
    refine XS.aloadN X1.here hx rfl (hb hby d9_9) rfl rfl ?_
    refine XS.aloadN X1.here hx rfl (hb hby d9_10) rfl rfl ?_
    show oS p e below T1 m 11 #[rv o, rv x] [(.ref x), (.ref o)] _
    refine st2.trans ?_
    refine XS.aloadN X2.here hx rfl (hb hby d9_14) rfl rfl ?_
    exact kt
  have KP4 : Keep h0 T2.heap [o, x, tq] := ((Keep.refl h0 [o, x, tq]).trans K2 (allS (Or.inl (List.mem_of_getElem? (i := 0) rfl)) (allS (Or.inl (List.mem_of_getElem? (i := 1) rfl)) (allS (Or.inl (List.mem_of_getElem? (i := 2) rfl)) all0))))
  obtain ⟨fs, hr, hrun, hended, hW, hsame⟩ := X2.leave (v := some (.ref x)) (fun h => by rw [Bd.returns] at h; cases h)
  refine ⟨_, _, pre0 _ (pre3 _ ?_), hrun, hended, _, _, rfl, ?_, ⟨_, rfl⟩, hW, hsame.mono (by decide) (by decide)⟩
  · show oS p e below T2 m 15 #[rv o, rv x] [(.ref x)] _
    exact retOut X2 hx Bd.returns rfl (Or.inr (Or.inr (Or.inr (Or.inr ⟨rfl, rfl, rfl⟩)))) (hb hby d9_15) hr
  · show QP0t Z o lu iu ti tb ta x tq h0 n0 _ T2.heap _
    exact ⟨rfl, N2, KP4, pf2_0, pf2_1, pf2_2, pf2_3, pf2_4, pf2_5, pf2_6, pf2_7⟩
theorem d7_0 : decode prog_10_method_8_code 0 = .ok (.aload_n 1, 1) := by decide +kernel
theorem d7_1 : decode prog_10_method_8_code 1 = .ok (.getfield 16, 3) := by decide +kernel
theorem d7_4 : decode prog_10_method_8_code 4 = .ok (.aload_n 0, 1) := by decide +kernel
theorem d7_5 : decode prog_10_method_8_code 5 = .ok (.if_acmp .ne 7, 3) := by decide +kernel
theorem d7_12 : decode prog_10_method_8_code 12 = .ok (.iconst 0, 1) := by decide +kernel
theorem d7_13 : decode prog_10_method_8_code 13 = .ok (.istore_n 2, 1) := by decide +kernel
theorem d7_14 : decode prog_10_method_8_code 14 = .ok (.iload_n 2, 1) := by decide +kernel
theorem d7_15 : decode prog_10_method_8_code 15 = .ok (.ifCond .eq 8, 3) := by decide +kernel
theorem d7_23 : decode prog_10_method_8_code 23 = .ok (.iload_n 2, 1) := by decide +kernel
theorem d7_24 : decode prog_10_method_8_code 24 = .ok (.ireturn, 1) := by decide +kernel
theorem efR0 (m : MethodId) (o : Addr) (x1 : Addr) : entryFrame m #[(.ref o), (.ref x1)] 3 = mkF m 0 #[rv o, rv x1, .unset] [] := by first | (simp [entryFrame, mkF, argsToLocals, Value.category]; done) | rfl
def QR0 (Z : State) (o : Addr) (x1 : Addr) (h0 : Heap) (n0 : Nat) (v : Option Value) (h : Heap) (L : List Loc) : Prop := v = some (.int (0 : Int32)) ∧ Fr n0 L ∧ h = h0
set_option maxRecDepth 65536 in
set_option maxHeartbeats 40000000 in
theorem rmR0 (l : Launch) (Z : State) (a0 : Array Value) (hw : ∀ d ∈ tables_1, d.before a0 Z = true) (ws : List Jvm.Cond) (o : Addr) (x1 : Addr) (h0 : Heap) (n0 : Nat) (Z0 : n0 ≤ h0.size) (E_o : Exa Z h0 o oz1) (E_x1 : Exa Z h0 x1 oz0) (F_in_x1 : Fld Z h0 x1 oz0 "in" oz3 .null) :
    MetFree l (⟨oz1, "remove", oz5⟩ : MethodName) (head1 (Jvm.Cond.code (⟨oz1, "remove", oz5⟩ : MethodName) prog_10_method_8_code 3 (some .boolean) :: ws) ({ frames := 0, cells := 0, slots := 0, locals := 0 } : Room)) (fun a U => a = #[(.ref o), (.ref x1)] ∧ Z.Warmed39 U.vm ∧ U.heap = h0) (fun _ _ _ _ _ => True) (fun _ U oc U' => ∃ v L, oc = .returned v ∧ QR0 Z o x1 h0 n0 v U'.heap L ∧ FrameEnd U oc U' L ({ frames := 0, cells := 0, slots := 0, locals := 0 } : Room).cells ({ frames := 0, cells := 0, slots := 0, locals := 0 } : Room).slots) := by
  refine MetFree.of_bodySF (plainFor_of_name own_pn0) hisR ?_
  intro p e s m args below meth c s₁ Bd hml0 hP hK
  obtain ⟨rfl, hZ, hh⟩ := hP
  have hx := Bd.exec
  have hby := Bd.bytes
  have hml : c.maxLocals = 3 := hml0
  have hown : s.vm.findClass oz1 = some m.cls := findClass_of_methodNamed Bd.named
  have hnm := (name_of_methodNamed Bd.named Bd.method).1
  have X0 : Stand p l e ({ frames := 0, cells := 0, slots := 0, locals := 0 } : Room) s m #[(.ref o), (.ref x1)] below meth c s₁ [] 0 0 := Stand.of_body Bd
  have e0 : s₁.heap = h0 := by rw [← hh, Bd.state]; rfl
  have N0 := Fr.nil n0
  have pre0 : ∀ t, Steps p.tables e below (s₁.setTop (mkF m 0 #[rv o, rv x1, .unset] [])) t → Steps p.tables e below (s₁.setTop (entryFrame m #[(.ref o), (.ref x1)] 3)) t := fun t k => castTop (efR0 m o x1) k
  obtain ⟨T1, X1, e1, st1⟩ := getF X0 hx hZ hown (host := "") (Or.inl (own_w hw 40 rfl)) Via.refl e0 F_in_x1 (g := (mkF m 1 #[rv o, rv x1, .unset] [(.ref x1)])) rfl rfl (hb hby d7_1)
  have pre2 : ∀ tz, oS p e below T1 m 24 #[rv o, rv x1, iv (0 : Int32)] [(.int (0 : Int32))] tz → oS p e below s₁ m 0 #[rv o, rv x1, .unset] [] tz := fun tz kt => by
    show oS p e below s₁ m 0 #[rv o, rv x1, .unset] [] _
    refine XS.aloadN X0.here hx rfl (hb hby d7_0) rfl rfl ?_
    show oS p e below s₁ m 1 #[rv o, rv x1, .unset] [(.ref x1)] _
    refine st1 _ ?_
    refine XS.aloadN X1.here hx rfl (hb hby d7_4) rfl rfl ?_
    refine Jvm.RoadKit.acmp (g := (mkF m 5 #[rv o, rv x1, .unset] [(.ref o), .null])) X1 hx rfl rfl rfl (pc0 := 5) (pc' := 12) (same := false) rfl (hb hby d7_5) rfl (decide_eq_false nofun) (by decide) (by decide) ?_
    refine XS.iconst X1.here hx rfl (hb hby d7_12) ?_
    show oS p e below T1 m 13 #[rv o, rv x1, .unset] [(.int (0 : Int32))] _
    refine XS.istoreN X1.here hx rfl (hb hby d7_13) rfl (l' := #[rv o, rv x1, iv (0 : Int32)]) rfl ?_
    refine XS.iloadN X1.here hx rfl (hb hby d7_14) rfl ?_
    refine XS.ifYes X1.here hx rfl (pc0 := 15) (pc' := 23) rfl (hb hby d7_15) rfl ((if0 _ _).trans (teq (by decide : ((0 : Int32) = (0 : Int32)))).1) (by decide) (by decide) ?_
    refine XS.iloadN X1.here hx rfl (hb hby d7_23) rfl ?_
    exact kt
  obtain ⟨fs, hr, hrun, hended, hW, hsame⟩ := X1.leave (v := some (.int (0 : Int32))) (fun h => by rw [Bd.returns] at h; cases h)
  refine ⟨_, _, pre0 _ (pre2 _ ?_), hrun, hended, _, _, rfl, ?_, ⟨_, rfl⟩, hW, hsame.mono (by decide) (by decide)⟩
  · show oS p e below T1 m 24 #[rv o, rv x1, iv (0 : Int32)] [(.int (0 : Int32))] _
    exact retN X1 hx (t := .boolean) Bd.returns (by simp) (hb hby d7_24) hr
  · show QR0 Z o x1 h0 n0 _ T1.heap _
    rw [e1]
    exact ⟨rfl, N0, rfl⟩
theorem d7_8 : decode prog_10_method_8_code 8 = .ok (.iconst 1, 1) := by decide +kernel
theorem d7_9 : decode prog_10_method_8_code 9 = .ok (.goto 4, 3) := by decide +kernel
theorem d7_18 : decode prog_10_method_8_code 18 = .ok (.aload_n 0, 1) := by decide +kernel
theorem d7_19 : decode prog_10_method_8_code 19 = .ok (.aload_n 1, 1) := by decide +kernel
theorem d7_20 : decode prog_10_method_8_code 20 = .ok (.invokevirtual 28, 3) := by decide +kernel
theorem efR00 (m : MethodId) (o : Addr) (x1 : Addr) : entryFrame m #[(.ref o), (.ref x1)] 3 = mkF m 0 #[rv o, rv x1, .unset] [] := by first | (simp [entryFrame, mkF, argsToLocals, Value.category]; done) | rfl
def QR00 (Z : State) (o : Addr) (x1 : Addr) (fu : Value) (lu : Value) (h0 : Heap) (n0 : Nat) (v : Option Value) (h : Heap) (L : List Loc) : Prop := v = some (.int (1 : Int32)) ∧ Fr n0 L ∧ Keep h0 h [o, x1] ∧ Fld Z h o oz1 "first" oz2 .null ∧ Fld Z h o oz1 "last" oz2 .null ∧ Fld Z h x1 oz0 "in" oz3 .null ∧ Fld Z h x1 oz0 "before" oz2 .null ∧ Fld Z h x1 oz0 "after" oz2 .null
set_option maxRecDepth 65536 in
set_option maxHeartbeats 40000000 in
theorem rmR00 (l : Launch) (Z : State) (a0 : Array Value) (hw : ∀ d ∈ tables_1, d.before a0 Z = true) (ws : List Jvm.Cond) (o : Addr) (x1 : Addr) (fu : Value) (lu : Value) (h0 : Heap) (n0 : Nat) (Z0 : n0 ≤ h0.size) (E_o : Exa Z h0 o oz1) (E_x1 : Exa Z h0 x1 oz0) (g_o : n0 ≤ o) (g_x1 : n0 ≤ x1) (F_first_o : Fld Z h0 o oz1 "first" oz2 fu) (F_last_o : Fld Z h0 o oz1 "last" oz2 lu) (F_in_x1 : Fld Z h0 x1 oz0 "in" oz3 (.ref o)) (F_before_x1 : Fld Z h0 x1 oz0 "before" oz2 .null) (F_after_x1 : Fld Z h0 x1 oz0 "after" oz2 .null) :
    MetFree l (⟨oz1, "remove", oz5⟩ : MethodName) (head1 (Jvm.Cond.code (⟨oz1, "remove", oz5⟩ : MethodName) prog_10_method_8_code 3 (some .boolean) :: ws) ({ frames := 1, cells := 0, slots := 0, locals := 13 } : Room)) (fun a U => a = #[(.ref o), (.ref x1)] ∧ Z.Warmed39 U.vm ∧ U.heap = h0) (fun _ _ _ _ _ => True) (fun _ U oc U' => ∃ v L, oc = .returned v ∧ QR00 Z o x1 fu lu h0 n0 v U'.heap L ∧ FrameEnd U oc U' L ({ frames := 1, cells := 0, slots := 0, locals := 13 } : Room).cells ({ frames := 1, cells := 0, slots := 0, locals := 13 } : Room).slots) := by
  refine MetFree.of_bodySF (plainFor_of_name own_pn0) hisR ?_
  intro p e s m args below meth c s₁ Bd hml0 hP hK
  obtain ⟨rfl, hZ, hh⟩ := hP
  have hx := Bd.exec
  have hby := Bd.bytes
  have hml : c.maxLocals = 3 := hml0
  have hown : s.vm.findClass oz1 = some m.cls := findClass_of_methodNamed Bd.named
  have hnm := (name_of_methodNamed Bd.named Bd.method).1
  have X0 : Stand p l e ({ frames := 1, cells := 0, slots := 0, locals := 13 } : Room) s m #[(.ref o), (.ref x1)] below meth c s₁ [] 0 0 := Stand.of_body Bd
  have e0 : s₁.heap = h0 := by rw [← hh, Bd.state]; rfl
  have N0 := Fr.nil n0
  have pre0 : ∀ t, Steps p.tables e below (s₁.setTop (mkF m 0 #[rv o, rv x1, .unset] [])) t → Steps p.tables e below (s₁.setTop (entryFrame m #[(.ref o), (.ref x1)] 3)) t := fun t k => castTop (efR00 m o x1) k
  obtain ⟨T1, X1, e1, st1⟩ := getF X0 hx hZ hown (host := "") (Or.inl (own_w hw 40 rfl)) Via.refl e0 F_in_x1 (g := (mkF m 1 #[rv o, rv x1, .unset] [(.ref x1)])) rfl rfl (hb hby d7_1)
  obtain ⟨cq2, q2, q2'⟩ := E_o.cell
  obtain ⟨_, _, ⟨T2, Lw2, kw2, nw2⟩, -, X2, ⟨Lc2, hQ2, l2, y2, z2⟩, st2⟩ := X1.privateBack hx (y := (⟨oz1, "unlink", oz7⟩ : MethodName)) hown (mvT hZ (own_w hw 51 rfl)) (mvT hZ (own_w hw 52 rfl)) (own_selp hZ (own_w hw 1 rfl) (own_w hw 53 rfl) (own_w hw 52 rfl) (by decide)) (Cond.privateMethod_at (mvP hZ (own_w hw 53 rfl) (args := #[]))) (mvT hZ (own_w hw 54 rfl)) (by decide) (backOf (W := 0) (rmU00 l Z a0 hw [] o x1 fu lu (.ref o) h0 n0 Z0 E_o E_x1 g_o g_x1 F_first_o F_last_o F_in_x1 F_before_x1 F_after_x1) hZ (own_w hw 54 rfl) (own_w hw 2 rfl) (by decide) (by decide)) (g := (mkF m 20 #[rv o, rv x1, iv (1 : Int32)] [(.ref x1), (.ref o)])) rfl (by rw [hml]; rfl) (Steps.refl _) (a := o) (by rw [e1]; exact q2) q2' (argsL := [(.ref x1)]) (rest := []) (lenOf own_pd0 rfl) rfl (by show 2 * 0 + _ ≤ _; exact Nat.le_of_eq rfl) (hb hby d7_20) (fun _ _ => ⟨rfl, e1, (by decide : 0 + 0 ≤ _), (by decide : 0 + 0 ≤ _)⟩)
  dsimp only [Pt.U, Pt.locs, Pt.cells, Pt.slots] at X2 l2 y2 z2 st2 hQ2
  subst l2 y2 z2
  obtain ⟨rfl, Nq2, K2, pf2_0, pf2_1, pf2_2, pf2_3, pf2_4⟩ := hQ2
  have N2 := Fr.app N0 Nq2
  have pre3 : ∀ tz, oS p e below T2 m 24 #[rv o, rv x1, iv (1 : Int32)] [(.int (1 : Int32))] tz → oS p e below s₁ m 0 #[rv o, rv x1, .unset] [] tz := fun tz kt => by
    show oS p e below s₁ m 0 #[rv o, rv x1, .unset] [] _
    refine XS.aloadN X0.here hx rfl (hb hby d7_0) rfl rfl ?_
    show oS p e below s₁ m 1 #[rv o, rv x1, .unset] [(.ref x1)] _
    refine st1 _ ?_
    refine XS.aloadN X1.here hx rfl (hb hby d7_4) rfl rfl ?_
    refine Jvm.RoadKit.acmp (g := (mkF m 5 #[rv o, rv x1, .unset] [(.ref o), (.ref o)])) X1 hx rfl rfl rfl (pc0 := 5) (pc' := 8) (same := true) rfl (hb hby d7_5) rfl (decide_eq_true rfl) (by decide) (by decide) ?_
    refine XS.iconst X1.here hx rfl (hb hby d7_8) ?_
    show oS p e below T1 m 9 #[rv o, rv x1, .unset] [(.int (1 : Int32))] _
    refine XS.goto X1.here hx rfl (pc0 := 9) (pc' := 13) rfl (hb hby d7_9) (by decide) (by decide) ?_
    refine XS.istoreN X1.here hx rfl (hb hby d7_13) rfl (l' := #[rv o, rv x1, iv (1 : Int32)]) rfl ?_
    refine XS.iloadN X1.here hx rfl (hb hby d7_14) rfl ?_
    refine XS.ifNo X1.here hx rfl (hb hby d7_15) rfl ((if0 _ _).trans (feq (by decide : ¬ ((1 : Int32) = (0 : Int32)))).1) ?_
    show oS p e below T1 m 18 #[rv o, rv x1, iv (1 : Int32)] [] _
    refine XS.aloadN X1.here hx rfl (hb hby d7_18) rfl rfl ?_
    refine XS.aloadN X1.here hx rfl (hb hby d7_19) rfl rfl ?_
    show oS p e below T1 m 20 #[rv o, rv x1, iv (1 : Int32)] [(.ref x1), (.ref o)] _
    refine st2.trans ?_
    refine XS.iloadN X2.here hx rfl (hb hby d7_23) rfl ?_
    exact kt
  have KP4 : Keep h0 T2.heap [o, x1] := ((Keep.refl h0 [o, x1]).trans K2 (allS (Or.inl (List.mem_of_getElem? (i := 0) rfl)) (allS (Or.inl (List.mem_of_getElem? (i := 1) rfl)) all0)))
  obtain ⟨fs, hr, hrun, hended, hW, hsame⟩ := X2.leave (v := some (.int (1 : Int32))) (fun h => by rw [Bd.returns] at h; cases h)
  refine ⟨_, _, pre0 _ (pre3 _ ?_), hrun, hended, _, _, rfl, ?_, ⟨_, rfl⟩, hW, hsame.mono (by decide) (by decide)⟩
  · show oS p e below T2 m 24 #[rv o, rv x1, iv (1 : Int32)] [(.int (1 : Int32))] _
    exact retN X2 hx (t := .boolean) Bd.returns (by simp) (hb hby d7_24) hr
  · show QR00 Z o x1 fu lu h0 n0 _ T2.heap _
    exact ⟨rfl, N2, KP4, pf2_0, pf2_1, pf2_2, pf2_3, pf2_4⟩
theorem efR0t (m : MethodId) (o : Addr) (x1 : Addr) : entryFrame m #[(.ref o), (.ref x1)] 3 = mkF m 0 #[rv o, rv x1, .unset] [] := by first | (simp [entryFrame, mkF, argsToLocals, Value.category]; done) | rfl
def QR0t (Z : State) (o : Addr) (x1 : Addr) (fu : Value) (lu : Value) (ti : Value) (tb : Value) (ta : Value) (tq : Addr) (h0 : Heap) (n0 : Nat) (v : Option Value) (h : Heap) (L : List Loc) : Prop := v = some (.int (1 : Int32)) ∧ Fr n0 L ∧ Keep h0 h [o, x1, tq] ∧ Fld Z h o oz1 "first" oz2 (.ref tq) ∧ Fld Z h o oz1 "last" oz2 lu ∧ Fld Z h x1 oz0 "in" oz3 .null ∧ Fld Z h x1 oz0 "before" oz2 .null ∧ Fld Z h x1 oz0 "after" oz2 .null ∧ Fld Z h tq oz0 "in" oz3 ti ∧ Fld Z h tq oz0 "before" oz2 .null ∧ Fld Z h tq oz0 "after" oz2 ta
set_option maxRecDepth 65536 in
set_option maxHeartbeats 40000000 in
theorem rmR0t (l : Launch) (Z : State) (a0 : Array Value) (hw : ∀ d ∈ tables_1, d.before a0 Z = true) (ws : List Jvm.Cond) (o : Addr) (x1 : Addr) (fu : Value) (lu : Value) (ti : Value) (tb : Value) (ta : Value) (tq : Addr) (h0 : Heap) (n0 : Nat) (Z0 : n0 ≤ h0.size) (E_o : Exa Z h0 o oz1) (E_x1 : Exa Z h0 x1 oz0) (E_tq : Exa Z h0 tq oz0) (g_o : n0 ≤ o) (g_x1 : n0 ≤ x1) (g_tq : n0 ≤ tq) (ne_x1_tq : x1 ≠ tq) (F_first_o : Fld Z h0 o oz1 "first" oz2 fu) (F_last_o : Fld Z h0 o oz1 "last" oz2 lu) (F_in_x1 : Fld Z h0 x1 oz0 "in" oz3 (.ref o)) (F_before_x1 : Fld Z h0 x1 oz0 "before" oz2 .null) (F_after_x1 : Fld Z h0 x1 oz0 "after" oz2 (.ref tq)) (F_in_tq : Fld Z h0 tq oz0 "in" oz3 ti) (F_before_tq : Fld Z h0 tq oz0 "before" oz2 tb) (F_after_tq : Fld Z h0 tq oz0 "after" oz2 ta) :
    MetFree l (⟨oz1, "remove", oz5⟩ : MethodName) (head1 (Jvm.Cond.code (⟨oz1, "remove", oz5⟩ : MethodName) prog_10_method_8_code 3 (some .boolean) :: ws) ({ frames := 1, cells := 0, slots := 0, locals := 13 } : Room)) (fun a U => a = #[(.ref o), (.ref x1)] ∧ Z.Warmed39 U.vm ∧ U.heap = h0) (fun _ _ _ _ _ => True) (fun _ U oc U' => ∃ v L, oc = .returned v ∧ QR0t Z o x1 fu lu ti tb ta tq h0 n0 v U'.heap L ∧ FrameEnd U oc U' L ({ frames := 1, cells := 0, slots := 0, locals := 13 } : Room).cells ({ frames := 1, cells := 0, slots := 0, locals := 13 } : Room).slots) := by
  refine MetFree.of_bodySF (plainFor_of_name own_pn0) hisR ?_
  intro p e s m args below meth c s₁ Bd hml0 hP hK
  obtain ⟨rfl, hZ, hh⟩ := hP
  have hx := Bd.exec
  have hby := Bd.bytes
  have hml : c.maxLocals = 3 := hml0
  have hown : s.vm.findClass oz1 = some m.cls := findClass_of_methodNamed Bd.named
  have hnm := (name_of_methodNamed Bd.named Bd.method).1
  have X0 : Stand p l e ({ frames := 1, cells := 0, slots := 0, locals := 13 } : Room) s m #[(.ref o), (.ref x1)] below meth c s₁ [] 0 0 := Stand.of_body Bd
  have e0 : s₁.heap = h0 := by rw [← hh, Bd.state]; rfl
  have N0 := Fr.nil n0
  have pre0 : ∀ t, Steps p.tables e below (s₁.setTop (mkF m 0 #[rv o, rv x1, .unset] [])) t → Steps p.tables e below (s₁.setTop (entryFrame m #[(.ref o), (.ref x1)] 3)) t := fun t k => castTop (efR0t m o x1) k
  obtain ⟨T1, X1, e1, st1⟩ := getF X0 hx hZ hown (host := "") (Or.inl (own_w hw 40 rfl)) Via.refl e0 F_in_x1 (g := (mkF m 1 #[rv o, rv x1, .unset] [(.ref x1)])) rfl rfl (hb hby d7_1)
  obtain ⟨cq2, q2, q2'⟩ := E_o.cell
  obtain ⟨_, _, ⟨T2, Lw2, kw2, nw2⟩, -, X2, ⟨Lc2, hQ2, l2, y2, z2⟩, st2⟩ := X1.privateBack hx (y := (⟨oz1, "unlink", oz7⟩ : MethodName)) hown (mvT hZ (own_w hw 51 rfl)) (mvT hZ (own_w hw 52 rfl)) (own_selp hZ (own_w hw 1 rfl) (own_w hw 53 rfl) (own_w hw 52 rfl) (by decide)) (Cond.privateMethod_at (mvP hZ (own_w hw 53 rfl) (args := #[]))) (mvT hZ (own_w hw 54 rfl)) (by decide) (backOf (W := 0) (rmU0t l Z a0 hw [] o x1 fu lu (.ref o) ti tb ta tq h0 n0 Z0 E_o E_x1 E_tq g_o g_x1 g_tq ne_x1_tq F_first_o F_last_o F_in_x1 F_before_x1 F_after_x1 F_in_tq F_before_tq F_after_tq) hZ (own_w hw 54 rfl) (own_w hw 2 rfl) (by decide) (by decide)) (g := (mkF m 20 #[rv o, rv x1, iv (1 : Int32)] [(.ref x1), (.ref o)])) rfl (by rw [hml]; rfl) (Steps.refl _) (a := o) (by rw [e1]; exact q2) q2' (argsL := [(.ref x1)]) (rest := []) (lenOf own_pd0 rfl) rfl (by show 2 * 0 + _ ≤ _; exact Nat.le_of_eq rfl) (hb hby d7_20) (fun _ _ => ⟨rfl, e1, (by decide : 0 + 0 ≤ _), (by decide : 0 + 0 ≤ _)⟩)
  dsimp only [Pt.U, Pt.locs, Pt.cells, Pt.slots] at X2 l2 y2 z2 st2 hQ2
  subst l2 y2 z2
  obtain ⟨rfl, Nq2, K2, pf2_0, pf2_1, pf2_2, pf2_3, pf2_4, pf2_5, pf2_6, pf2_7⟩ := hQ2
  have N2 := Fr.app N0 Nq2
  have pre3 : ∀ tz, oS p e below T2 m 24 #[rv o, rv x1, iv (1 : Int32)] [(.int (1 : Int32))] tz → oS p e below s₁ m 0 #[rv o, rv x1, .unset] [] tz := fun tz kt => by
    show oS p e below s₁ m 0 #[rv o, rv x1, .unset] [] _
    refine XS.aloadN X0.here hx rfl (hb hby d7_0) rfl rfl ?_
    show oS p e below s₁ m 1 #[rv o, rv x1, .unset] [(.ref x1)] _
    refine st1 _ ?_
    refine XS.aloadN X1.here hx rfl (hb hby d7_4) rfl rfl ?_
    refine Jvm.RoadKit.acmp (g := (mkF m 5 #[rv o, rv x1, .unset] [(.ref o), (.ref o)])) X1 hx rfl rfl rfl (pc0 := 5) (pc' := 8) (same := true) rfl (hb hby d7_5) rfl (decide_eq_true rfl) (by decide) (by decide) ?_
    refine XS.iconst X1.here hx rfl (hb hby d7_8) ?_
    show oS p e below T1 m 9 #[rv o, rv x1, .unset] [(.int (1 : Int32))] _
    refine XS.goto X1.here hx rfl (pc0 := 9) (pc' := 13) rfl (hb hby d7_9) (by decide) (by decide) ?_
    refine XS.istoreN X1.here hx rfl (hb hby d7_13) rfl (l' := #[rv o, rv x1, iv (1 : Int32)]) rfl ?_
    refine XS.iloadN X1.here hx rfl (hb hby d7_14) rfl ?_
    refine XS.ifNo X1.here hx rfl (hb hby d7_15) rfl ((if0 _ _).trans (feq (by decide : ¬ ((1 : Int32) = (0 : Int32)))).1) ?_
    show oS p e below T1 m 18 #[rv o, rv x1, iv (1 : Int32)] [] _
    refine XS.aloadN X1.here hx rfl (hb hby d7_18) rfl rfl ?_
    refine XS.aloadN X1.here hx rfl (hb hby d7_19) rfl rfl ?_
    show oS p e below T1 m 20 #[rv o, rv x1, iv (1 : Int32)] [(.ref x1), (.ref o)] _
    refine st2.trans ?_
    refine XS.iloadN X2.here hx rfl (hb hby d7_23) rfl ?_
    exact kt
  have KP4 : Keep h0 T2.heap [o, x1, tq] := ((Keep.refl h0 [o, x1, tq]).trans K2 (allS (Or.inl (List.mem_of_getElem? (i := 0) rfl)) (allS (Or.inl (List.mem_of_getElem? (i := 1) rfl)) (allS (Or.inl (List.mem_of_getElem? (i := 2) rfl)) all0))))
  obtain ⟨fs, hr, hrun, hended, hW, hsame⟩ := X2.leave (v := some (.int (1 : Int32))) (fun h => by rw [Bd.returns] at h; cases h)
  refine ⟨_, _, pre0 _ (pre3 _ ?_), hrun, hended, _, _, rfl, ?_, ⟨_, rfl⟩, hW, hsame.mono (by decide) (by decide)⟩
  · show oS p e below T2 m 24 #[rv o, rv x1, iv (1 : Int32)] [(.int (1 : Int32))] _
    exact retN X2 hx (t := .boolean) Bd.returns (by simp) (hb hby d7_24) hr
  · show QR0t Z o x1 fu lu ti tb ta tq h0 n0 _ T2.heap _
    exact ⟨rfl, N2, KP4, pf2_0, pf2_1, pf2_2, pf2_3, pf2_4, pf2_5, pf2_6, pf2_7⟩
theorem efRt0 (m : MethodId) (o : Addr) (x1 : Addr) : entryFrame m #[(.ref o), (.ref x1)] 3 = mkF m 0 #[rv o, rv x1, .unset] [] := by first | (simp [entryFrame, mkF, argsToLocals, Value.category]; done) | rfl
def QRt0 (Z : State) (o : Addr) (x1 : Addr) (fu : Value) (lu : Value) (ti : Value) (tb : Value) (ta : Value) (tq : Addr) (h0 : Heap) (n0 : Nat) (v : Option Value) (h : Heap) (L : List Loc) : Prop := v = some (.int (1 : Int32)) ∧ Fr n0 L ∧ Keep h0 h [o, x1, tq] ∧ Fld Z h o oz1 "first" oz2 fu ∧ Fld Z h o oz1 "last" oz2 (.ref tq) ∧ Fld Z h x1 oz0 "in" oz3 .null ∧ Fld Z h x1 oz0 "before" oz2 .null ∧ Fld Z h x1 oz0 "after" oz2 .null ∧ Fld Z h tq oz0 "in" oz3 ti ∧ Fld Z h tq oz0 "before" oz2 tb ∧ Fld Z h tq oz0 "after" oz2 .null
set_option maxRecDepth 65536 in
set_option maxHeartbeats 40000000 in
theorem rmRt0 (l : Launch) (Z : State) (a0 : Array Value) (hw : ∀ d ∈ tables_1, d.before a0 Z = true) (ws : List Jvm.Cond) (o : Addr) (x1 : Addr) (fu : Value) (lu : Value) (ti : Value) (tb : Value) (ta : Value) (tq : Addr) (h0 : Heap) (n0 : Nat) (Z0 : n0 ≤ h0.size) (E_o : Exa Z h0 o oz1) (E_x1 : Exa Z h0 x1 oz0) (E_tq : Exa Z h0 tq oz0) (g_o : n0 ≤ o) (g_x1 : n0 ≤ x1) (g_tq : n0 ≤ tq) (ne_x1_tq : x1 ≠ tq) (F_first_o : Fld Z h0 o oz1 "first" oz2 fu) (F_last_o : Fld Z h0 o oz1 "last" oz2 lu) (F_in_x1 : Fld Z h0 x1 oz0 "in" oz3 (.ref o)) (F_before_x1 : Fld Z h0 x1 oz0 "before" oz2 (.ref tq)) (F_after_x1 : Fld Z h0 x1 oz0 "after" oz2 .null) (F_in_tq : Fld Z h0 tq oz0 "in" oz3 ti) (F_before_tq : Fld Z h0 tq oz0 "before" oz2 tb) (F_after_tq : Fld Z h0 tq oz0 "after" oz2 ta) :
    MetFree l (⟨oz1, "remove", oz5⟩ : MethodName) (head1 (Jvm.Cond.code (⟨oz1, "remove", oz5⟩ : MethodName) prog_10_method_8_code 3 (some .boolean) :: ws) ({ frames := 1, cells := 0, slots := 0, locals := 13 } : Room)) (fun a U => a = #[(.ref o), (.ref x1)] ∧ Z.Warmed39 U.vm ∧ U.heap = h0) (fun _ _ _ _ _ => True) (fun _ U oc U' => ∃ v L, oc = .returned v ∧ QRt0 Z o x1 fu lu ti tb ta tq h0 n0 v U'.heap L ∧ FrameEnd U oc U' L ({ frames := 1, cells := 0, slots := 0, locals := 13 } : Room).cells ({ frames := 1, cells := 0, slots := 0, locals := 13 } : Room).slots) := by
  refine MetFree.of_bodySF (plainFor_of_name own_pn0) hisR ?_
  intro p e s m args below meth c s₁ Bd hml0 hP hK
  obtain ⟨rfl, hZ, hh⟩ := hP
  have hx := Bd.exec
  have hby := Bd.bytes
  have hml : c.maxLocals = 3 := hml0
  have hown : s.vm.findClass oz1 = some m.cls := findClass_of_methodNamed Bd.named
  have hnm := (name_of_methodNamed Bd.named Bd.method).1
  have X0 : Stand p l e ({ frames := 1, cells := 0, slots := 0, locals := 13 } : Room) s m #[(.ref o), (.ref x1)] below meth c s₁ [] 0 0 := Stand.of_body Bd
  have e0 : s₁.heap = h0 := by rw [← hh, Bd.state]; rfl
  have N0 := Fr.nil n0
  have pre0 : ∀ t, Steps p.tables e below (s₁.setTop (mkF m 0 #[rv o, rv x1, .unset] [])) t → Steps p.tables e below (s₁.setTop (entryFrame m #[(.ref o), (.ref x1)] 3)) t := fun t k => castTop (efRt0 m o x1) k
  obtain ⟨T1, X1, e1, st1⟩ := getF X0 hx hZ hown (host := "") (Or.inl (own_w hw 40 rfl)) Via.refl e0 F_in_x1 (g := (mkF m 1 #[rv o, rv x1, .unset] [(.ref x1)])) rfl rfl (hb hby d7_1)
  obtain ⟨cq2, q2, q2'⟩ := E_o.cell
  obtain ⟨_, _, ⟨T2, Lw2, kw2, nw2⟩, -, X2, ⟨Lc2, hQ2, l2, y2, z2⟩, st2⟩ := X1.privateBack hx (y := (⟨oz1, "unlink", oz7⟩ : MethodName)) hown (mvT hZ (own_w hw 51 rfl)) (mvT hZ (own_w hw 52 rfl)) (own_selp hZ (own_w hw 1 rfl) (own_w hw 53 rfl) (own_w hw 52 rfl) (by decide)) (Cond.privateMethod_at (mvP hZ (own_w hw 53 rfl) (args := #[]))) (mvT hZ (own_w hw 54 rfl)) (by decide) (backOf (W := 0) (rmUt0 l Z a0 hw [] o x1 fu lu (.ref o) ti tb ta tq h0 n0 Z0 E_o E_x1 E_tq g_o g_x1 g_tq ne_x1_tq F_first_o F_last_o F_in_x1 F_before_x1 F_after_x1 F_in_tq F_before_tq F_after_tq) hZ (own_w hw 54 rfl) (own_w hw 2 rfl) (by decide) (by decide)) (g := (mkF m 20 #[rv o, rv x1, iv (1 : Int32)] [(.ref x1), (.ref o)])) rfl (by rw [hml]; rfl) (Steps.refl _) (a := o) (by rw [e1]; exact q2) q2' (argsL := [(.ref x1)]) (rest := []) (lenOf own_pd0 rfl) rfl (by show 2 * 0 + _ ≤ _; exact Nat.le_of_eq rfl) (hb hby d7_20) (fun _ _ => ⟨rfl, e1, (by decide : 0 + 0 ≤ _), (by decide : 0 + 0 ≤ _)⟩)
  dsimp only [Pt.U, Pt.locs, Pt.cells, Pt.slots] at X2 l2 y2 z2 st2 hQ2
  subst l2 y2 z2
  obtain ⟨rfl, Nq2, K2, pf2_0, pf2_1, pf2_2, pf2_3, pf2_4, pf2_5, pf2_6, pf2_7⟩ := hQ2
  have N2 := Fr.app N0 Nq2
  have pre3 : ∀ tz, oS p e below T2 m 24 #[rv o, rv x1, iv (1 : Int32)] [(.int (1 : Int32))] tz → oS p e below s₁ m 0 #[rv o, rv x1, .unset] [] tz := fun tz kt => by
    show oS p e below s₁ m 0 #[rv o, rv x1, .unset] [] _
    refine XS.aloadN X0.here hx rfl (hb hby d7_0) rfl rfl ?_
    show oS p e below s₁ m 1 #[rv o, rv x1, .unset] [(.ref x1)] _
    refine st1 _ ?_
    refine XS.aloadN X1.here hx rfl (hb hby d7_4) rfl rfl ?_
    refine Jvm.RoadKit.acmp (g := (mkF m 5 #[rv o, rv x1, .unset] [(.ref o), (.ref o)])) X1 hx rfl rfl rfl (pc0 := 5) (pc' := 8) (same := true) rfl (hb hby d7_5) rfl (decide_eq_true rfl) (by decide) (by decide) ?_
    refine XS.iconst X1.here hx rfl (hb hby d7_8) ?_
    show oS p e below T1 m 9 #[rv o, rv x1, .unset] [(.int (1 : Int32))] _
    refine XS.goto X1.here hx rfl (pc0 := 9) (pc' := 13) rfl (hb hby d7_9) (by decide) (by decide) ?_
    refine XS.istoreN X1.here hx rfl (hb hby d7_13) rfl (l' := #[rv o, rv x1, iv (1 : Int32)]) rfl ?_
    refine XS.iloadN X1.here hx rfl (hb hby d7_14) rfl ?_
    refine XS.ifNo X1.here hx rfl (hb hby d7_15) rfl ((if0 _ _).trans (feq (by decide : ¬ ((1 : Int32) = (0 : Int32)))).1) ?_
    show oS p e below T1 m 18 #[rv o, rv x1, iv (1 : Int32)] [] _
    refine XS.aloadN X1.here hx rfl (hb hby d7_18) rfl rfl ?_
    refine XS.aloadN X1.here hx rfl (hb hby d7_19) rfl rfl ?_
    show oS p e below T1 m 20 #[rv o, rv x1, iv (1 : Int32)] [(.ref x1), (.ref o)] _
    refine st2.trans ?_
    refine XS.iloadN X2.here hx rfl (hb hby d7_23) rfl ?_
    exact kt
  have KP4 : Keep h0 T2.heap [o, x1, tq] := ((Keep.refl h0 [o, x1, tq]).trans K2 (allS (Or.inl (List.mem_of_getElem? (i := 0) rfl)) (allS (Or.inl (List.mem_of_getElem? (i := 1) rfl)) (allS (Or.inl (List.mem_of_getElem? (i := 2) rfl)) all0))))
  obtain ⟨fs, hr, hrun, hended, hW, hsame⟩ := X2.leave (v := some (.int (1 : Int32))) (fun h => by rw [Bd.returns] at h; cases h)
  refine ⟨_, _, pre0 _ (pre3 _ ?_), hrun, hended, _, _, rfl, ?_, ⟨_, rfl⟩, hW, hsame.mono (by decide) (by decide)⟩
  · show oS p e below T2 m 24 #[rv o, rv x1, iv (1 : Int32)] [(.int (1 : Int32))] _
    exact retN X2 hx (t := .boolean) Bd.returns (by simp) (hb hby d7_24) hr
  · show QRt0 Z o x1 fu lu ti tb ta tq h0 n0 _ T2.heap _
    exact ⟨rfl, N2, KP4, pf2_0, pf2_1, pf2_2, pf2_3, pf2_4, pf2_5, pf2_6, pf2_7⟩
def own_Cfg (Z : State) (h : Heap) (b p q : Addr) (f l pi pb pa qi qb qa : Value) : Prop := Exa Z h b oz1 ∧ Exa Z h p oz0 ∧ Exa Z h q oz0 ∧ Fld Z h b oz1 "first" oz2 f ∧ Fld Z h b oz1 "last" oz2 l ∧ Fld Z h p oz0 "in" oz3 pi ∧ Fld Z h p oz0 "before" oz2 pb ∧ Fld Z h p oz0 "after" oz2 pa ∧ Fld Z h q oz0 "in" oz3 qi ∧ Fld Z h q oz0 "before" oz2 qb ∧ Fld Z h q oz0 "after" oz2 qa
def own_Sh (Z : State) (h : Heap) (b p q : Addr) (s : Int32) : Prop := ((s = 0 ∨ s = 4) ∧ own_Cfg Z h b p q .null .null .null .null .null .null .null .null) ∨ ((s = 1 ∨ s = 5) ∧ own_Cfg Z h b p q (.ref p) (.ref p) (.ref b) .null .null .null .null .null) ∨ ((s = 2 ∨ s = 6) ∧ own_Cfg Z h b p q (.ref q) (.ref q) .null .null .null (.ref b) .null .null) ∨ ((s = 3) ∧ own_Cfg Z h b p q (.ref q) (.ref p) (.ref b) (.ref q) .null (.ref b) .null (.ref p)) ∨ ((s = 7) ∧ own_Cfg Z h b p q (.ref p) (.ref q) (.ref b) .null (.ref q) (.ref b) (.ref p) .null)
theorem own_pd1 : parseMethodDescriptor "()Lcom/example/ordered_scheduler/orderedscheduler/sequencing/Place;" = some ⟨[], some (.object "com/example/ordered_scheduler/orderedscheduler/sequencing/Place")⟩ := by decide +kernel
theorem own_pd2 : parseMethodDescriptor "(Lcom/example/ordered_scheduler/orderedscheduler/sequencing/Place;)Z" = some ⟨[(.object "com/example/ordered_scheduler/orderedscheduler/sequencing/Place")], some .boolean⟩ := by decide +kernel
theorem d5_0 : decode method_3_code 0 = .ok (.iload_n 3, 1) := by decide +kernel
theorem d5_1 : decode method_3_code 1 = .ok (.iconst 1, 1) := by decide +kernel
theorem d5_2 : decode method_3_code 2 = .ok (.iand, 1) := by decide +kernel
theorem d5_3 : decode method_3_code 3 = .ok (.ifCond .eq 7, 3) := by decide +kernel
theorem d5_10 : decode method_3_code 10 = .ok (.iconst 0, 1) := by decide +kernel
theorem d5_11 : decode method_3_code 11 = .ok (.istore 5, 2) := by decide +kernel
theorem d5_13 : decode method_3_code 13 = .ok (.iload_n 3, 1) := by decide +kernel
theorem d5_14 : decode method_3_code 14 = .ok (.iconst 2, 1) := by decide +kernel
theorem d5_15 : decode method_3_code 15 = .ok (.iand, 1) := by decide +kernel
theorem d5_16 : decode method_3_code 16 = .ok (.ifCond .eq 7, 3) := by decide +kernel
theorem d5_23 : decode method_3_code 23 = .ok (.iconst 0, 1) := by decide +kernel
theorem d5_24 : decode method_3_code 24 = .ok (.istore 6, 2) := by decide +kernel
theorem d5_26 : decode method_3_code 26 = .ok (.iload_n 3, 1) := by decide +kernel
theorem d5_27 : decode method_3_code 27 = .ok (.iconst 4, 1) := by decide +kernel
theorem d5_28 : decode method_3_code 28 = .ok (.iand, 1) := by decide +kernel
theorem d5_29 : decode method_3_code 29 = .ok (.ifCond .eq 7, 3) := by decide +kernel
theorem d5_36 : decode method_3_code 36 = .ok (.iconst 0, 1) := by decide +kernel
theorem d5_37 : decode method_3_code 37 = .ok (.istore 7, 2) := by decide +kernel
theorem d5_39 : decode method_3_code 39 = .ok (.iload 4, 2) := by decide +kernel
theorem d5_41 : decode method_3_code 41 = .ok (.iconst 3, 1) := by decide +kernel
theorem d5_42 : decode method_3_code 42 = .ok (.iand, 1) := by decide +kernel
theorem d5_43 : decode method_3_code 43 = .ok (.istore 8, 2) := by decide +kernel
theorem d5_45 : decode method_3_code 45 = .ok (.iload 8, 2) := by decide +kernel
theorem d5_47 : decode method_3_code 47 = .ok (.ifCond .ne 47, 3) := by decide +kernel
theorem d5_50 : decode method_3_code 50 = .ok (.iload 5, 2) := by decide +kernel
theorem d5_52 : decode method_3_code 52 = .ok (.ifCond .eq 19, 3) := by decide +kernel
theorem d5_71 : decode method_3_code 71 = .ok (.aload_n 0, 1) := by decide +kernel
theorem d5_72 : decode method_3_code 72 = .ok (.aload_n 1, 1) := by decide +kernel
theorem d5_73 : decode method_3_code 73 = .ok (.invokevirtual 29, 3) := by decide +kernel
theorem d5_76 : decode method_3_code 76 = .ok (.iconst 1, 1) := by decide +kernel
theorem d5_77 : decode method_3_code 77 = .ok (.istore 5, 2) := by decide +kernel
theorem d5_79 : decode method_3_code 79 = .ok (.iload 6, 2) := by decide +kernel
theorem d5_81 : decode method_3_code 81 = .ok (.ifCond .ne 7, 3) := by decide +kernel
theorem d5_84 : decode method_3_code 84 = .ok (.iconst 1, 1) := by decide +kernel
theorem d5_85 : decode method_3_code 85 = .ok (.goto 4, 3) := by decide +kernel
theorem d5_89 : decode method_3_code 89 = .ok (.istore 7, 2) := by decide +kernel
theorem d5_91 : decode method_3_code 91 = .ok (.goto 136, 3) := by decide +kernel
theorem d5_94 : decode method_3_code 94 = .ok (.iload 8, 2) := by decide +kernel
theorem d5_96 : decode method_3_code 96 = .ok (.iconst 1, 1) := by decide +kernel
theorem d5_97 : decode method_3_code 97 = .ok (.if_icmp .ne 39, 3) := by decide +kernel
theorem d5_100 : decode method_3_code 100 = .ok (.iload 6, 2) := by decide +kernel
theorem d5_102 : decode method_3_code 102 = .ok (.ifCond .eq 19, 3) := by decide +kernel
theorem d5_121 : decode method_3_code 121 = .ok (.aload_n 0, 1) := by decide +kernel
theorem d5_122 : decode method_3_code 122 = .ok (.aload_n 2, 1) := by decide +kernel
theorem d5_123 : decode method_3_code 123 = .ok (.invokevirtual 29, 3) := by decide +kernel
theorem d5_126 : decode method_3_code 126 = .ok (.iconst 1, 1) := by decide +kernel
theorem d5_127 : decode method_3_code 127 = .ok (.istore 6, 2) := by decide +kernel
theorem d5_129 : decode method_3_code 129 = .ok (.iload 5, 2) := by decide +kernel
theorem d5_131 : decode method_3_code 131 = .ok (.istore 7, 2) := by decide +kernel
theorem d5_133 : decode method_3_code 133 = .ok (.goto 94, 3) := by decide +kernel
theorem d5_136 : decode method_3_code 136 = .ok (.iload 8, 2) := by decide +kernel
theorem d5_138 : decode method_3_code 138 = .ok (.iconst 2, 1) := by decide +kernel
theorem d5_139 : decode method_3_code 139 = .ok (.if_icmp .ne 69, 3) := by decide +kernel
theorem d5_142 : decode method_3_code 142 = .ok (.aload_n 0, 1) := by decide +kernel
theorem d5_143 : decode method_3_code 143 = .ok (.invokevirtual 33, 3) := by decide +kernel
theorem d5_146 : decode method_3_code 146 = .ok (.astore 9, 2) := by decide +kernel
theorem d5_148 : decode method_3_code 148 = .ok (.iload 5, 2) := by decide +kernel
theorem d5_150 : decode method_3_code 150 = .ok (.ifCond .ne 15, 3) := by decide +kernel
theorem d5_153 : decode method_3_code 153 = .ok (.iload 6, 2) := by decide +kernel
theorem d5_155 : decode method_3_code 155 = .ok (.ifCond .ne 10, 3) := by decide +kernel
theorem d5_158 : decode method_3_code 158 = .ok (.aload 9, 2) := by decide +kernel
theorem d5_160 : decode method_3_code 160 = .ok (.ifnull 45, 3) := by decide +kernel
theorem d5_205 : decode method_3_code 205 = .ok (.goto 22, 3) := by decide +kernel
theorem d5_208 : decode method_3_code 208 = .ok (.aload_n 0, 1) := by decide +kernel
theorem d5_209 : decode method_3_code 209 = .ok (.aload_n 1, 1) := by decide +kernel
theorem d5_210 : decode method_3_code 210 = .ok (.invokevirtual 25, 3) := by decide +kernel
theorem d5_213 : decode method_3_code 213 = .ok (.istore 9, 2) := by decide +kernel
theorem d5_215 : decode method_3_code 215 = .ok (.iload 9, 2) := by decide +kernel
theorem d5_217 : decode method_3_code 217 = .ok (.iload 5, 2) := by decide +kernel
theorem d5_219 : decode method_3_code 219 = .ok (.if_icmp .eq 5, 3) := by decide +kernel
theorem d5_224 : decode method_3_code 224 = .ok (.iconst 0, 1) := by decide +kernel
theorem d5_225 : decode method_3_code 225 = .ok (.istore 5, 2) := by decide +kernel
theorem d5_227 : decode method_3_code 227 = .ok (.iconst 0, 1) := by decide +kernel
theorem d5_228 : decode method_3_code 228 = .ok (.istore 9, 2) := by decide +kernel
theorem d5_230 : decode method_3_code 230 = .ok (.iload 5, 2) := by decide +kernel
theorem d5_232 : decode method_3_code 232 = .ok (.ifCond .eq 9, 3) := by decide +kernel
theorem d5_235 : decode method_3_code 235 = .ok (.iload 9, 2) := by decide +kernel
theorem d5_237 : decode method_3_code 237 = .ok (.iconst 1, 1) := by decide +kernel
theorem d5_238 : decode method_3_code 238 = .ok (.ior, 1) := by decide +kernel
theorem d5_239 : decode method_3_code 239 = .ok (.istore 9, 2) := by decide +kernel
theorem d5_241 : decode method_3_code 241 = .ok (.iload 6, 2) := by decide +kernel
theorem d5_243 : decode method_3_code 243 = .ok (.ifCond .eq 9, 3) := by decide +kernel
theorem d5_246 : decode method_3_code 246 = .ok (.iload 9, 2) := by decide +kernel
theorem d5_248 : decode method_3_code 248 = .ok (.iconst 2, 1) := by decide +kernel
theorem d5_249 : decode method_3_code 249 = .ok (.ior, 1) := by decide +kernel
theorem d5_250 : decode method_3_code 250 = .ok (.istore 9, 2) := by decide +kernel
theorem d5_252 : decode method_3_code 252 = .ok (.iload 7, 2) := by decide +kernel
theorem d5_254 : decode method_3_code 254 = .ok (.ifCond .eq 9, 3) := by decide +kernel
theorem d5_257 : decode method_3_code 257 = .ok (.iload 9, 2) := by decide +kernel
theorem d5_259 : decode method_3_code 259 = .ok (.iconst 4, 1) := by decide +kernel
theorem d5_260 : decode method_3_code 260 = .ok (.ior, 1) := by decide +kernel
theorem d5_261 : decode method_3_code 261 = .ok (.istore 9, 2) := by decide +kernel
theorem d5_263 : decode method_3_code 263 = .ok (.iload 9, 2) := by decide +kernel
theorem d5_265 : decode method_3_code 265 = .ok (.ireturn, 1) := by decide +kernel
theorem own_pn2 : plainName "com/example/ordered_scheduler/orderedscheduler/sequencing/BacklogIsEmptyPinLaw" = true := by first | (simp [plainName, overriddenIn]; done) | decide +kernel
theorem efS0 (m : MethodId) (x1 : Addr) (x2 : Addr) (x3 : Addr) (x5 : Int32) : entryFrame m #[(.ref x1), (.ref x2), (.ref x3), (.int (0 : Int32)), (.int x5)] 10 = mkF m 0 #[rv x1, rv x2, rv x3, iv (0 : Int32), iv x5, .unset, .unset, .unset, .unset, .unset] [] := by first | (simp [entryFrame, mkF, argsToLocals, Value.category]; done) | rfl
def QS0 (Z : State) (x1 : Addr) (x2 : Addr) (x3 : Addr) (x5 : Int32) (h0 : Heap) (n0 : Nat) (v : Option Value) (h : Heap) (L : List Loc) : Prop := ∃ (s : Int32), v = some (.int s) ∧ Fr n0 L ∧ Keep h0 h [x1, x2, x3] ∧ (¬ s < (0 : Int32)) ∧ (own_Sh Z h x1 x2 x3 s)
set_option maxRecDepth 65536 in
set_option maxHeartbeats 40000000 in
theorem rmS0 (l : Launch) (Z : State) (a0 : Array Value) (hw : ∀ d ∈ tables_1, d.before a0 Z = true) (ws : List Jvm.Cond) (x1 : Addr) (x2 : Addr) (x3 : Addr) (x5 : Int32) (h0 : Heap) (n0 : Nat) (Z0 : n0 ≤ h0.size) (E_x1 : Exa Z h0 x1 oz1) (E_x2 : Exa Z h0 x2 oz0) (E_x3 : Exa Z h0 x3 oz0) (g_x1 : n0 ≤ x1) (g_x2 : n0 ≤ x2) (g_x3 : n0 ≤ x3) (ne_x2_x3 : x2 ≠ x3) (F_first_x1 : Fld Z h0 x1 oz1 "first" oz2 .null) (F_last_x1 : Fld Z h0 x1 oz1 "last" oz2 .null) (F_in_x2 : Fld Z h0 x2 oz0 "in" oz3 .null) (F_before_x2 : Fld Z h0 x2 oz0 "before" oz2 .null) (F_after_x2 : Fld Z h0 x2 oz0 "after" oz2 .null) (F_in_x3 : Fld Z h0 x3 oz0 "in" oz3 .null) (F_before_x3 : Fld Z h0 x3 oz0 "before" oz2 .null) (F_after_x3 : Fld Z h0 x3 oz0 "after" oz2 .null) :
    MetFree l (⟨oz6, "step", oz4⟩ : MethodName) (head1 (Jvm.Cond.code (⟨oz6, "step", oz4⟩ : MethodName) method_3_code 10 (some .int) :: ws) ({ frames := 2, cells := 0, slots := 0, locals := 44 } : Room)) (fun a U => a = #[(.ref x1), (.ref x2), (.ref x3), (.int (0 : Int32)), (.int x5)] ∧ Z.Warmed39 U.vm ∧ U.heap = h0) (fun _ _ _ _ _ => True) (fun _ U oc U' => ∃ v L, oc = .returned v ∧ QS0 Z x1 x2 x3 x5 h0 n0 v U'.heap L ∧ FrameEnd U oc U' L ({ frames := 2, cells := 0, slots := 0, locals := 44 } : Room).cells ({ frames := 2, cells := 0, slots := 0, locals := 44 } : Room).slots) := by
  refine MetFree.of_bodySF (plainFor_of_name own_pn2) hisR ?_
  intro p e s m args below meth c s₁ Bd hml0 hP hK
  obtain ⟨rfl, hZ, hh⟩ := hP
  have hx := Bd.exec
  have hby := Bd.bytes
  have hml : c.maxLocals = 10 := hml0
  have hown : s.vm.findClass oz6 = some m.cls := findClass_of_methodNamed Bd.named
  have hnm := (name_of_methodNamed Bd.named Bd.method).1
  have X0 : Stand p l e ({ frames := 2, cells := 0, slots := 0, locals := 44 } : Room) s m #[(.ref x1), (.ref x2), (.ref x3), (.int (0 : Int32)), (.int x5)] below meth c s₁ [] 0 0 := Stand.of_body Bd
  have e0 : s₁.heap = h0 := by rw [← hh, Bd.state]; rfl
  have N0 := Fr.nil n0
  have pre0 : ∀ t, Steps p.tables e below (s₁.setTop (mkF m 0 #[rv x1, rv x2, rv x3, iv (0 : Int32), iv x5, .unset, .unset, .unset, .unset, .unset] [])) t → Steps p.tables e below (s₁.setTop (entryFrame m #[(.ref x1), (.ref x2), (.ref x3), (.int (0 : Int32)), (.int x5)] 10)) t := fun t k => castTop (efS0 m x1 x2 x3 x5) k
  have pre1 : ∀ tz, oS p e below s₁ m 47 #[rv x1, rv x2, rv x3, iv (0 : Int32), iv x5, iv (0 : Int32), iv (0 : Int32), iv (0 : Int32), iv (x5 &&& (3 : Int32)), .unset] [(.int (x5 &&& (3 : Int32)))] tz → oS p e below s₁ m 0 #[rv x1, rv x2, rv x3, iv (0 : Int32), iv x5, .unset, .unset, .unset, .unset, .unset] [] tz := fun tz kt => by
    show oS p e below s₁ m 0 #[rv x1, rv x2, rv x3, iv (0 : Int32), iv x5, .unset, .unset, .unset, .unset, .unset] [] _
    refine XS.iloadN X0.here hx rfl (hb hby d5_0) rfl ?_
    refine XS.iconst X0.here hx rfl (hb hby d5_1) ?_
    refine XS.iand X0.here hx rfl (hb hby d5_2) rfl ?_
    show oS p e below s₁ m 3 #[rv x1, rv x2, rv x3, iv (0 : Int32), iv x5, .unset, .unset, .unset, .unset, .unset] [(.int (0 : Int32))] _
    refine XS.ifYes X0.here hx rfl (pc0 := 3) (pc' := 10) rfl (hb hby d5_3) rfl ((if0 _ _).trans (teq (by decide : ((0 : Int32) = (0 : Int32)))).1) (by decide) (by decide) ?_
    refine XS.iconst X0.here hx rfl (hb hby d5_10) ?_
    refine XS.istore X0.here hx rfl (hb hby d5_11) rfl (l' := #[rv x1, rv x2, rv x3, iv (0 : Int32), iv x5, iv (0 : Int32), .unset, .unset, .unset, .unset]) rfl ?_
    refine XS.iloadN X0.here hx rfl (hb hby d5_13) rfl ?_
    show oS p e below s₁ m 14 #[rv x1, rv x2, rv x3, iv (0 : Int32), iv x5, iv (0 : Int32), .unset, .unset, .unset, .unset] [(.int (0 : Int32))] _
    refine XS.iconst X0.here hx rfl (hb hby d5_14) ?_
    refine XS.iand X0.here hx rfl (hb hby d5_15) rfl ?_
    show oS p e below s₁ m 16 #[rv x1, rv x2, rv x3, iv (0 : Int32), iv x5, iv (0 : Int32), .unset, .unset, .unset, .unset] [(.int (0 : Int32))] _
    refine XS.ifYes X0.here hx rfl (pc0 := 16) (pc' := 23) rfl (hb hby d5_16) rfl ((if0 _ _).trans (teq (by decide : ((0 : Int32) = (0 : Int32)))).1) (by decide) (by decide) ?_
    refine XS.iconst X0.here hx rfl (hb hby d5_23) ?_
    refine XS.istore X0.here hx rfl (hb hby d5_24) rfl (l' := #[rv x1, rv x2, rv x3, iv (0 : Int32), iv x5, iv (0 : Int32), iv (0 : Int32), .unset, .unset, .unset]) rfl ?_
    refine XS.iloadN X0.here hx rfl (hb hby d5_26) rfl ?_
    show oS p e below s₁ m 27 #[rv x1, rv x2, rv x3, iv (0 : Int32), iv x5, iv (0 : Int32), iv (0 : Int32), .unset, .unset, .unset] [(.int (0 : Int32))] _
    refine XS.iconst X0.here hx rfl (hb hby d5_27) ?_
    refine XS.iand X0.here hx rfl (hb hby d5_28) rfl ?_
    show oS p e below s₁ m 29 #[rv x1, rv x2, rv x3, iv (0 : Int32), iv x5, iv (0 : Int32), iv (0 : Int32), .unset, .unset, .unset] [(.int (0 : Int32))] _
    refine XS.ifYes X0.here hx rfl (pc0 := 29) (pc' := 36) rfl (hb hby d5_29) rfl ((if0 _ _).trans (teq (by decide : ((0 : Int32) = (0 : Int32)))).1) (by decide) (by decide) ?_
    refine XS.iconst X0.here hx rfl (hb hby d5_36) ?_
    refine XS.istore X0.here hx rfl (hb hby d5_37) rfl (l' := #[rv x1, rv x2, rv x3, iv (0 : Int32), iv x5, iv (0 : Int32), iv (0 : Int32), iv (0 : Int32), .unset, .unset]) rfl ?_
    refine XS.iload X0.here hx rfl (hb hby d5_39) rfl ?_
    show oS p e below s₁ m 41 #[rv x1, rv x2, rv x3, iv (0 : Int32), iv x5, iv (0 : Int32), iv (0 : Int32), iv (0 : Int32), .unset, .unset] [(.int x5)] _
    refine XS.iconst X0.here hx rfl (hb hby d5_41) ?_
    refine XS.iand X0.here hx rfl (hb hby d5_42) rfl ?_
    refine XS.istore X0.here hx rfl (hb hby d5_43) rfl (l' := #[rv x1, rv x2, rv x3, iv (0 : Int32), iv x5, iv (0 : Int32), iv (0 : Int32), iv (0 : Int32), iv (x5 &&& (3 : Int32)), .unset]) rfl ?_
    refine XS.iload X0.here hx rfl (hb hby d5_45) rfl ?_
    exact kt
  by_cases hc47 : (x5 &&& (3 : Int32)) = (0 : Int32)
  · obtain ⟨cq2, kq2, q2a, q2b, q2c⟩ := isOf hZ e0 E_x1
    obtain ⟨_, _, ⟨T2, Lw2, kw2, nw2⟩, -, X2, ⟨Lc2, hQ2, l2, y2, z2⟩, st2⟩ := X0.virtualBack hx (y := (⟨oz1, "add", oz7⟩ : MethodName)) (z := (⟨oz1, "add", oz7⟩ : MethodName)) hown (mvT hZ (own_w hw 35 rfl)) (mvT hZ (own_w hw 36 rfl)) (notFace_of_selects (args := #[]) (mvT hZ (own_w hw 38 rfl))) (mvT hZ (own_w hw 38 rfl)) (mvT hZ (own_w hw 37 rfl)) (by decide) (backOf (W := 0) (rmA0 l Z a0 hw [] x1 x2 .null h0 n0 Z0 E_x1 E_x2 g_x1 g_x2 F_first_x1 F_last_x1 F_in_x2 F_before_x2 F_after_x2) hZ (own_w hw 39 rfl) (own_w hw 2 rfl) (by decide) (by decide)) q2a q2c (g := (mkF m 73 #[rv x1, rv x2, rv x3, iv (0 : Int32), iv x5, iv (0 : Int32), iv (0 : Int32), iv (0 : Int32), iv (x5 &&& (3 : Int32)), .unset] [(.ref x2), (.ref x1)])) rfl (by rw [hml]; rfl) (Steps.refl _) (argsL := [(.ref x2)]) (rest := []) (lenOf own_pd0 rfl) rfl (by show 2 * 0 + _ ≤ _; exact Nat.le_of_eq rfl) (hb hby d5_73) (fun _ _ => ⟨rfl, e0, (by decide : 0 + 0 ≤ _), (by decide : 0 + 0 ≤ _)⟩)
    dsimp only [Pt.U, Pt.locs, Pt.cells, Pt.slots] at X2 l2 y2 z2 st2 hQ2
    subst l2 y2 z2
    obtain ⟨rfl, Nq2, K2, pf2_0, pf2_1, pf2_2, pf2_3, pf2_4⟩ := hQ2
    have N2 := Fr.app N0 Nq2
    have pre3 : ∀ tz, oS p e below T2 m 265 #[rv x1, rv x2, rv x3, iv (0 : Int32), iv x5, iv (1 : Int32), iv (0 : Int32), iv (1 : Int32), iv (x5 &&& (3 : Int32)), iv (5 : Int32)] [(.int (5 : Int32))] tz → oS p e below s₁ m 47 #[rv x1, rv x2, rv x3, iv (0 : Int32), iv x5, iv (0 : Int32), iv (0 : Int32), iv (0 : Int32), iv (x5 &&& (3 : Int32)), .unset] [(.int (x5 &&& (3 : Int32)))] tz := fun tz kt => by
      show oS p e below s₁ m 47 #[rv x1, rv x2, rv x3, iv (0 : Int32), iv x5, iv (0 : Int32), iv (0 : Int32), iv (0 : Int32), iv (x5 &&& (3 : Int32)), .unset] [(.int (x5 &&& (3 : Int32)))] _
      refine XS.ifNo X0.here hx rfl (hb hby d5_47) rfl ((if0 _ _).trans (teq hc47).2) ?_
      refine XS.iload X0.here hx rfl (hb hby d5_50) rfl ?_
      refine XS.ifYes X0.here hx rfl (pc0 := 52) (pc' := 71) rfl (hb hby d5_52) rfl ((if0 _ _).trans (teq (by decide : ((0 : Int32) = (0 : Int32)))).1) (by decide) (by decide) ?_
      refine XS.aloadN X0.here hx rfl (hb hby d5_71) rfl rfl ?_
      show oS p e below s₁ m 72 #[rv x1, rv x2, rv x3, iv (0 : Int32), iv x5, iv (0 : Int32), iv (0 : Int32), iv (0 : Int32), iv (x5 &&& (3 : Int32)), .unset] [(.ref x1)] _
      refine XS.aloadN X0.here hx rfl (hb hby d5_72) rfl rfl ?_
      show oS p e below s₁ m 73 #[rv x1, rv x2, rv x3, iv (0 : Int32), iv x5, iv (0 : Int32), iv (0 : Int32), iv (0 : Int32), iv (x5 &&& (3 : Int32)), .unset] [(.ref x2), (.ref x1)] _
      refine st2.trans ?_
      refine XS.iconst X2.here hx rfl (hb hby d5_76) ?_
      refine XS.istore X2.here hx rfl (hb hby d5_77) rfl (l' := #[rv x1, rv x2, rv x3, iv (0 : Int32), iv x5, iv (1 : Int32), iv (0 : Int32), iv (0 : Int32), iv (x5 &&& (3 : Int32)), .unset]) rfl ?_
      refine XS.iload X2.here hx rfl (hb hby d5_79) rfl ?_
      show oS p e below T2 m 81 #[rv x1, rv x2, rv x3, iv (0 : Int32), iv x5, iv (1 : Int32), iv (0 : Int32), iv (0 : Int32), iv (x5 &&& (3 : Int32)), .unset] [(.int (0 : Int32))] _
      refine XS.ifNo X2.here hx rfl (hb hby d5_81) rfl ((if0 _ _).trans (teq (by decide : ((0 : Int32) = (0 : Int32)))).2) ?_
      refine XS.iconst X2.here hx rfl (hb hby d5_84) ?_
      refine XS.goto X2.here hx rfl (pc0 := 85) (pc' := 89) rfl (hb hby d5_85) (by decide) (by decide) ?_
      refine XS.istore X2.here hx rfl (hb hby d5_89) rfl (l' := #[rv x1, rv x2, rv x3, iv (0 : Int32), iv x5, iv (1 : Int32), iv (0 : Int32), iv (1 : Int32), iv (x5 &&& (3 : Int32)), .unset]) rfl ?_
      show oS p e below T2 m 91 #[rv x1, rv x2, rv x3, iv (0 : Int32), iv x5, iv (1 : Int32), iv (0 : Int32), iv (1 : Int32), iv (x5 &&& (3 : Int32)), .unset] [] _
      refine XS.goto X2.here hx rfl (pc0 := 91) (pc' := 227) rfl (hb hby d5_91) (by decide) (by decide) ?_
      refine XS.iconst X2.here hx rfl (hb hby d5_227) ?_
      refine XS.istore X2.here hx rfl (hb hby d5_228) rfl (l' := #[rv x1, rv x2, rv x3, iv (0 : Int32), iv x5, iv (1 : Int32), iv (0 : Int32), iv (1 : Int32), iv (x5 &&& (3 : Int32)), iv (0 : Int32)]) rfl ?_
      refine XS.iload X2.here hx rfl (hb hby d5_230) rfl ?_
      show oS p e below T2 m 232 #[rv x1, rv x2, rv x3, iv (0 : Int32), iv x5, iv (1 : Int32), iv (0 : Int32), iv (1 : Int32), iv (x5 &&& (3 : Int32)), iv (0 : Int32)] [(.int (1 : Int32))] _
      refine XS.ifNo X2.here hx rfl (hb hby d5_232) rfl ((if0 _ _).trans (feq (by decide : ¬ ((1 : Int32) = (0 : Int32)))).1) ?_
      refine XS.iload X2.here hx rfl (hb hby d5_235) rfl ?_
      refine XS.iconst X2.here hx rfl (hb hby d5_237) ?_
      refine XS.ior X2.here hx rfl (hb hby d5_238) rfl ?_
      show oS p e below T2 m 239 #[rv x1, rv x2, rv x3, iv (0 : Int32), iv x5, iv (1 : Int32), iv (0 : Int32), iv (1 : Int32), iv (x5 &&& (3 : Int32)), iv (0 : Int32)] [(.int (1 : Int32))] _
      refine XS.istore X2.here hx rfl (hb hby d5_239) rfl (l' := #[rv x1, rv x2, rv x3, iv (0 : Int32), iv x5, iv (1 : Int32), iv (0 : Int32), iv (1 : Int32), iv (x5 &&& (3 : Int32)), iv (1 : Int32)]) rfl ?_
      refine XS.iload X2.here hx rfl (hb hby d5_241) rfl ?_
      refine XS.ifYes X2.here hx rfl (pc0 := 243) (pc' := 252) rfl (hb hby d5_243) rfl ((if0 _ _).trans (teq (by decide : ((0 : Int32) = (0 : Int32)))).1) (by decide) (by decide) ?_
      refine XS.iload X2.here hx rfl (hb hby d5_252) rfl ?_
      show oS p e below T2 m 254 #[rv x1, rv x2, rv x3, iv (0 : Int32), iv x5, iv (1 : Int32), iv (0 : Int32), iv (1 : Int32), iv (x5 &&& (3 : Int32)), iv (1 : Int32)] [(.int (1 : Int32))] _
      refine XS.ifNo X2.here hx rfl (hb hby d5_254) rfl ((if0 _ _).trans (feq (by decide : ¬ ((1 : Int32) = (0 : Int32)))).1) ?_
      refine XS.iload X2.here hx rfl (hb hby d5_257) rfl ?_
      refine XS.iconst X2.here hx rfl (hb hby d5_259) ?_
      refine XS.ior X2.here hx rfl (hb hby d5_260) rfl ?_
      show oS p e below T2 m 261 #[rv x1, rv x2, rv x3, iv (0 : Int32), iv x5, iv (1 : Int32), iv (0 : Int32), iv (1 : Int32), iv (x5 &&& (3 : Int32)), iv (1 : Int32)] [(.int (5 : Int32))] _
      refine XS.istore X2.here hx rfl (hb hby d5_261) rfl (l' := #[rv x1, rv x2, rv x3, iv (0 : Int32), iv x5, iv (1 : Int32), iv (0 : Int32), iv (1 : Int32), iv (x5 &&& (3 : Int32)), iv (5 : Int32)]) rfl ?_
      refine XS.iload X2.here hx rfl (hb hby d5_263) rfl ?_
      exact kt
    have KP4 : Keep h0 T2.heap [x1, x2, x3] := ((Keep.refl h0 [x1, x2, x3]).trans K2 (allS (Or.inl (List.mem_of_getElem? (i := 0) rfl)) (allS (Or.inl (List.mem_of_getElem? (i := 1) rfl)) all0)))
    have Ec5 : Exa Z T2.heap x1 oz1 := (E_x1.keep K2)
    have Ec6 : Exa Z T2.heap x2 oz0 := (E_x2.keep K2)
    have Ec7 : Exa Z T2.heap x3 oz0 := (E_x3.keep K2)
    have ne8 : x3 ≠ x1 := ne_exa Ec7 Ec5 (by decide)
    have Fc9 : Fld Z T2.heap x3 oz0 "in" oz3 .null := (F_in_x3.keep K2 (ninS ne8 (ninS (Ne.symm ne_x2_x3) nin0)))
    have Fc10 : Fld Z T2.heap x3 oz0 "before" oz2 .null := (F_before_x3.keep K2 (ninS ne8 (ninS (Ne.symm ne_x2_x3) nin0)))
    have Fc11 : Fld Z T2.heap x3 oz0 "after" oz2 .null := (F_after_x3.keep K2 (ninS ne8 (ninS (Ne.symm ne_x2_x3) nin0)))
    obtain ⟨fs, hr, hrun, hended, hW, hsame⟩ := X2.leave (v := some (.int (5 : Int32))) (fun h => by rw [Bd.returns] at h; cases h)
    refine ⟨_, _, pre0 _ (pre1 _ (pre3 _ ?_)), hrun, hended, _, _, rfl, ?_, ⟨_, rfl⟩, hW, hsame.mono (by decide) (by decide)⟩
    · show oS p e below T2 m 265 #[rv x1, rv x2, rv x3, iv (0 : Int32), iv x5, iv (1 : Int32), iv (0 : Int32), iv (1 : Int32), iv (x5 &&& (3 : Int32)), iv (5 : Int32)] [(.int (5 : Int32))] _
      exact retOut X2 hx Bd.returns rfl (Or.inl ⟨rfl, Or.inl rfl, _, rfl⟩) (hb hby d5_265) hr
    · show QS0 Z x1 x2 x3 x5 h0 n0 _ T2.heap _
      exact ⟨(5 : Int32), rfl, N2, KP4, (by decide), (Or.inr (Or.inl ⟨(Or.inr rfl), Ec5, Ec6, Ec7, pf2_0, pf2_1, pf2_2, pf2_3, pf2_4, Fc9, Fc10, Fc11⟩))⟩
  · have pre12 : ∀ tz, oS p e below s₁ m 97 #[rv x1, rv x2, rv x3, iv (0 : Int32), iv x5, iv (0 : Int32), iv (0 : Int32), iv (0 : Int32), iv (x5 &&& (3 : Int32)), .unset] [(.int (1 : Int32)), (.int (x5 &&& (3 : Int32)))] tz → oS p e below s₁ m 47 #[rv x1, rv x2, rv x3, iv (0 : Int32), iv x5, iv (0 : Int32), iv (0 : Int32), iv (0 : Int32), iv (x5 &&& (3 : Int32)), .unset] [(.int (x5 &&& (3 : Int32)))] tz := fun tz kt => by
      show oS p e below s₁ m 47 #[rv x1, rv x2, rv x3, iv (0 : Int32), iv x5, iv (0 : Int32), iv (0 : Int32), iv (0 : Int32), iv (x5 &&& (3 : Int32)), .unset] [(.int (x5 &&& (3 : Int32)))] _
      refine XS.ifYes X0.here hx rfl (pc0 := 47) (pc' := 94) rfl (hb hby d5_47) rfl ((if0 _ _).trans (feq hc47).2) (by decide) (by decide) ?_
      refine XS.iload X0.here hx rfl (hb hby d5_94) rfl ?_
      refine XS.iconst X0.here hx rfl (hb hby d5_96) ?_
      exact kt
    by_cases hc97 : (x5 &&& (3 : Int32)) = (1 : Int32)
    · obtain ⟨cq13, kq13, q13a, q13b, q13c⟩ := isOf hZ e0 E_x1
      obtain ⟨_, _, ⟨T13, Lw13, kw13, nw13⟩, -, X13, ⟨Lc13, hQ13, l13, y13, z13⟩, st13⟩ := X0.virtualBack hx (y := (⟨oz1, "add", oz7⟩ : MethodName)) (z := (⟨oz1, "add", oz7⟩ : MethodName)) hown (mvT hZ (own_w hw 35 rfl)) (mvT hZ (own_w hw 36 rfl)) (notFace_of_selects (args := #[]) (mvT hZ (own_w hw 38 rfl))) (mvT hZ (own_w hw 38 rfl)) (mvT hZ (own_w hw 37 rfl)) (by decide) (backOf (W := 0) (rmA0 l Z a0 hw [] x1 x3 .null h0 n0 Z0 E_x1 E_x3 g_x1 g_x3 F_first_x1 F_last_x1 F_in_x3 F_before_x3 F_after_x3) hZ (own_w hw 39 rfl) (own_w hw 2 rfl) (by decide) (by decide)) q13a q13c (g := (mkF m 123 #[rv x1, rv x2, rv x3, iv (0 : Int32), iv x5, iv (0 : Int32), iv (0 : Int32), iv (0 : Int32), iv (x5 &&& (3 : Int32)), .unset] [(.ref x3), (.ref x1)])) rfl (by rw [hml]; rfl) (Steps.refl _) (argsL := [(.ref x3)]) (rest := []) (lenOf own_pd0 rfl) rfl (by show 2 * 0 + _ ≤ _; exact Nat.le_of_eq rfl) (hb hby d5_123) (fun _ _ => ⟨rfl, e0, (by decide : 0 + 0 ≤ _), (by decide : 0 + 0 ≤ _)⟩)
      dsimp only [Pt.U, Pt.locs, Pt.cells, Pt.slots] at X13 l13 y13 z13 st13 hQ13
      subst l13 y13 z13
      obtain ⟨rfl, Nq13, K13, pf13_0, pf13_1, pf13_2, pf13_3, pf13_4⟩ := hQ13
      have N13 := Fr.app N0 Nq13
      have pre14 : ∀ tz, oS p e below T13 m 265 #[rv x1, rv x2, rv x3, iv (0 : Int32), iv x5, iv (0 : Int32), iv (1 : Int32), iv (0 : Int32), iv (x5 &&& (3 : Int32)), iv (2 : Int32)] [(.int (2 : Int32))] tz → oS p e below s₁ m 97 #[rv x1, rv x2, rv x3, iv (0 : Int32), iv x5, iv (0 : Int32), iv (0 : Int32), iv (0 : Int32), iv (x5 &&& (3 : Int32)), .unset] [(.int (1 : Int32)), (.int (x5 &&& (3 : Int32)))] tz := fun tz kt => by
        show oS p e below s₁ m 97 #[rv x1, rv x2, rv x3, iv (0 : Int32), iv x5, iv (0 : Int32), iv (0 : Int32), iv (0 : Int32), iv (x5 &&& (3 : Int32)), .unset] [(.int (1 : Int32)), (.int (x5 &&& (3 : Int32)))] _
        refine XS.icmpNo X0.here hx rfl (hb hby d5_97) rfl (teq hc97).2 ?_
        refine XS.iload X0.here hx rfl (hb hby d5_100) rfl ?_
        refine XS.ifYes X0.here hx rfl (pc0 := 102) (pc' := 121) rfl (hb hby d5_102) rfl ((if0 _ _).trans (teq (by decide : ((0 : Int32) = (0 : Int32)))).1) (by decide) (by decide) ?_
        refine XS.aloadN X0.here hx rfl (hb hby d5_121) rfl rfl ?_
        show oS p e below s₁ m 122 #[rv x1, rv x2, rv x3, iv (0 : Int32), iv x5, iv (0 : Int32), iv (0 : Int32), iv (0 : Int32), iv (x5 &&& (3 : Int32)), .unset] [(.ref x1)] _
        refine XS.aloadN X0.here hx rfl (hb hby d5_122) rfl rfl ?_
        show oS p e below s₁ m 123 #[rv x1, rv x2, rv x3, iv (0 : Int32), iv x5, iv (0 : Int32), iv (0 : Int32), iv (0 : Int32), iv (x5 &&& (3 : Int32)), .unset] [(.ref x3), (.ref x1)] _
        refine st13.trans ?_
        refine XS.iconst X13.here hx rfl (hb hby d5_126) ?_
        refine XS.istore X13.here hx rfl (hb hby d5_127) rfl (l' := #[rv x1, rv x2, rv x3, iv (0 : Int32), iv x5, iv (0 : Int32), iv (1 : Int32), iv (0 : Int32), iv (x5 &&& (3 : Int32)), .unset]) rfl ?_
        refine XS.iload X13.here hx rfl (hb hby d5_129) rfl ?_
        show oS p e below T13 m 131 #[rv x1, rv x2, rv x3, iv (0 : Int32), iv x5, iv (0 : Int32), iv (1 : Int32), iv (0 : Int32), iv (x5 &&& (3 : Int32)), .unset] [(.int (0 : Int32))] _
        refine XS.istore X13.here hx rfl (hb hby d5_131) rfl (l' := #[rv x1, rv x2, rv x3, iv (0 : Int32), iv x5, iv (0 : Int32), iv (1 : Int32), iv (0 : Int32), iv (x5 &&& (3 : Int32)), .unset]) rfl ?_
        refine XS.goto X13.here hx rfl (pc0 := 133) (pc' := 227) rfl (hb hby d5_133) (by decide) (by decide) ?_
        refine XS.iconst X13.here hx rfl (hb hby d5_227) ?_
        refine XS.istore X13.here hx rfl (hb hby d5_228) rfl (l' := #[rv x1, rv x2, rv x3, iv (0 : Int32), iv x5, iv (0 : Int32), iv (1 : Int32), iv (0 : Int32), iv (x5 &&& (3 : Int32)), iv (0 : Int32)]) rfl ?_
        show oS p e below T13 m 230 #[rv x1, rv x2, rv x3, iv (0 : Int32), iv x5, iv (0 : Int32), iv (1 : Int32), iv (0 : Int32), iv (x5 &&& (3 : Int32)), iv (0 : Int32)] [] _
        refine XS.iload X13.here hx rfl (hb hby d5_230) rfl ?_
        refine XS.ifYes X13.here hx rfl (pc0 := 232) (pc' := 241) rfl (hb hby d5_232) rfl ((if0 _ _).trans (teq (by decide : ((0 : Int32) = (0 : Int32)))).1) (by decide) (by decide) ?_
        refine XS.iload X13.here hx rfl (hb hby d5_241) rfl ?_
        refine XS.ifNo X13.here hx rfl (hb hby d5_243) rfl ((if0 _ _).trans (feq (by decide : ¬ ((1 : Int32) = (0 : Int32)))).1) ?_
        show oS p e below T13 m 246 #[rv x1, rv x2, rv x3, iv (0 : Int32), iv x5, iv (0 : Int32), iv (1 : Int32), iv (0 : Int32), iv (x5 &&& (3 : Int32)), iv (0 : Int32)] [] _
        refine XS.iload X13.here hx rfl (hb hby d5_246) rfl ?_
        refine XS.iconst X13.here hx rfl (hb hby d5_248) ?_
        refine XS.ior X13.here hx rfl (hb hby d5_249) rfl ?_
        show oS p e below T13 m 250 #[rv x1, rv x2, rv x3, iv (0 : Int32), iv x5, iv (0 : Int32), iv (1 : Int32), iv (0 : Int32), iv (x5 &&& (3 : Int32)), iv (0 : Int32)] [(.int (2 : Int32))] _
        refine XS.istore X13.here hx rfl (hb hby d5_250) rfl (l' := #[rv x1, rv x2, rv x3, iv (0 : Int32), iv x5, iv (0 : Int32), iv (1 : Int32), iv (0 : Int32), iv (x5 &&& (3 : Int32)), iv (2 : Int32)]) rfl ?_
        refine XS.iload X13.here hx rfl (hb hby d5_252) rfl ?_
        refine XS.ifYes X13.here hx rfl (pc0 := 254) (pc' := 263) rfl (hb hby d5_254) rfl ((if0 _ _).trans (teq (by decide : ((0 : Int32) = (0 : Int32)))).1) (by decide) (by decide) ?_
        refine XS.iload X13.here hx rfl (hb hby d5_263) rfl ?_
        exact kt
      have KP15 : Keep h0 T13.heap [x1, x2, x3] := ((Keep.refl h0 [x1, x2, x3]).trans K13 (allS (Or.inl (List.mem_of_getElem? (i := 0) rfl)) (allS (Or.inl (List.mem_of_getElem? (i := 2) rfl)) all0)))
      have Ec16 : Exa Z T13.heap x1 oz1 := (E_x1.keep K13)
      have Ec17 : Exa Z T13.heap x2 oz0 := (E_x2.keep K13)
      have Ec18 : Exa Z T13.heap x3 oz0 := (E_x3.keep K13)
      have ne19 : x2 ≠ x1 := ne_exa Ec17 Ec16 (by decide)
      have Fc20 : Fld Z T13.heap x2 oz0 "in" oz3 .null := (F_in_x2.keep K13 (ninS ne19 (ninS ne_x2_x3 nin0)))
      have Fc21 : Fld Z T13.heap x2 oz0 "before" oz2 .null := (F_before_x2.keep K13 (ninS ne19 (ninS ne_x2_x3 nin0)))
      have Fc22 : Fld Z T13.heap x2 oz0 "after" oz2 .null := (F_after_x2.keep K13 (ninS ne19 (ninS ne_x2_x3 nin0)))
      obtain ⟨fs, hr, hrun, hended, hW, hsame⟩ := X13.leave (v := some (.int (2 : Int32))) (fun h => by rw [Bd.returns] at h; cases h)
      refine ⟨_, _, pre0 _ (pre1 _ (pre12 _ (pre14 _ ?_))), hrun, hended, _, _, rfl, ?_, ⟨_, rfl⟩, hW, hsame.mono (by decide) (by decide)⟩
      · show oS p e below T13 m 265 #[rv x1, rv x2, rv x3, iv (0 : Int32), iv x5, iv (0 : Int32), iv (1 : Int32), iv (0 : Int32), iv (x5 &&& (3 : Int32)), iv (2 : Int32)] [(.int (2 : Int32))] _
        exact retOut X13 hx Bd.returns rfl (Or.inl ⟨rfl, Or.inl rfl, _, rfl⟩) (hb hby d5_265) hr
      · show QS0 Z x1 x2 x3 x5 h0 n0 _ T13.heap _
        exact ⟨(2 : Int32), rfl, N13, KP15, (by decide), (Or.inr (Or.inr (Or.inl ⟨(Or.inl rfl), Ec16, Ec17, Ec18, pf13_0, pf13_1, Fc20, Fc21, Fc22, pf13_2, pf13_3, pf13_4⟩)))⟩
    · have pre23 : ∀ tz, oS p e below s₁ m 139 #[rv x1, rv x2, rv x3, iv (0 : Int32), iv x5, iv (0 : Int32), iv (0 : Int32), iv (0 : Int32), iv (x5 &&& (3 : Int32)), .unset] [(.int (2 : Int32)), (.int (x5 &&& (3 : Int32)))] tz → oS p e below s₁ m 97 #[rv x1, rv x2, rv x3, iv (0 : Int32), iv x5, iv (0 : Int32), iv (0 : Int32), iv (0 : Int32), iv (x5 &&& (3 : Int32)), .unset] [(.int (1 : Int32)), (.int (x5 &&& (3 : Int32)))] tz := fun tz kt => by
        show oS p e below s₁ m 97 #[rv x1, rv x2, rv x3, iv (0 : Int32), iv x5, iv (0 : Int32), iv (0 : Int32), iv (0 : Int32), iv (x5 &&& (3 : Int32)), .unset] [(.int (1 : Int32)), (.int (x5 &&& (3 : Int32)))] _
        refine XS.icmpYes X0.here hx rfl (pc0 := 97) (pc' := 136) rfl (hb hby d5_97) rfl (feq hc97).2 (by decide) (by decide) ?_
        refine XS.iload X0.here hx rfl (hb hby d5_136) rfl ?_
        refine XS.iconst X0.here hx rfl (hb hby d5_138) ?_
        exact kt
      by_cases hc139 : (x5 &&& (3 : Int32)) = (2 : Int32)
      · obtain ⟨cq24, kq24, q24a, q24b, q24c⟩ := isOf hZ e0 E_x1
        obtain ⟨_, _, ⟨T24, Lw24, kw24, nw24⟩, -, X24, ⟨Lc24, hQ24, l24, y24, z24⟩, st24⟩ := X0.virtualBack hx (y := (⟨oz1, "poll", oz8⟩ : MethodName)) (z := (⟨oz1, "poll", oz8⟩ : MethodName)) hown (mvT hZ (own_w hw 57 rfl)) (mvT hZ (own_w hw 58 rfl)) (notFace_of_selects (args := #[]) (mvT hZ (own_w hw 60 rfl))) (mvT hZ (own_w hw 60 rfl)) (mvT hZ (own_w hw 59 rfl)) (by decide) (backOf (W := 0) (rmP0 l Z a0 hw [] x1 h0 n0 Z0 E_x1 F_first_x1) hZ (own_w hw 61 rfl) (own_w hw 2 rfl) (by decide) (by decide)) q24a q24c (g := (mkF m 143 #[rv x1, rv x2, rv x3, iv (0 : Int32), iv x5, iv (0 : Int32), iv (0 : Int32), iv (0 : Int32), iv (x5 &&& (3 : Int32)), .unset] [(.ref x1)])) rfl (by rw [hml]; rfl) (Steps.refl _) (argsL := []) (rest := []) (lenOf own_pd1 rfl) rfl (by show 2 * 0 + _ ≤ _; exact Nat.le_of_eq rfl) (hb hby d5_143) (fun _ _ => ⟨rfl, e0, (by decide : 0 + 0 ≤ _), (by decide : 0 + 0 ≤ _)⟩)
        dsimp only [Pt.U, Pt.locs, Pt.cells, Pt.slots] at X24 l24 y24 z24 st24 hQ24
        subst l24 y24 z24
        obtain ⟨rfl, Nq24, eh24⟩ := hQ24
        have N24 := Fr.app N0 Nq24
        have pre25 : ∀ tz, oS p e below T24 m 265 #[rv x1, rv x2, rv x3, iv (0 : Int32), iv x5, iv (0 : Int32), iv (0 : Int32), iv (0 : Int32), iv (x5 &&& (3 : Int32)), iv (0 : Int32)] [(.int (0 : Int32))] tz → oS p e below s₁ m 139 #[rv x1, rv x2, rv x3, iv (0 : Int32), iv x5, iv (0 : Int32), iv (0 : Int32), iv (0 : Int32), iv (x5 &&& (3 : Int32)), .unset] [(.int (2 : Int32)), (.int (x5 &&& (3 : Int32)))] tz := fun tz kt => by
          show oS p e below s₁ m 139 #[rv x1, rv x2, rv x3, iv (0 : Int32), iv x5, iv (0 : Int32), iv (0 : Int32), iv (0 : Int32), iv (x5 &&& (3 : Int32)), .unset] [(.int (2 : Int32)), (.int (x5 &&& (3 : Int32)))] _
          refine XS.icmpNo X0.here hx rfl (hb hby d5_139) rfl (teq hc139).2 ?_
          refine XS.aloadN X0.here hx rfl (hb hby d5_142) rfl rfl ?_
          show oS p e below s₁ m 143 #[rv x1, rv x2, rv x3, iv (0 : Int32), iv x5, iv (0 : Int32), iv (0 : Int32), iv (0 : Int32), iv (x5 &&& (3 : Int32)), .unset] [(.ref x1)] _
          refine st24.trans ?_
          refine XS.astore X24.here hx rfl (hb hby d5_146) rfl rfl (l' := #[rv x1, rv x2, rv x3, iv (0 : Int32), iv x5, iv (0 : Int32), iv (0 : Int32), iv (0 : Int32), iv (x5 &&& (3 : Int32)), .val .null]) rfl ?_
          refine XS.iload X24.here hx rfl (hb hby d5_148) rfl ?_
          refine XS.ifNo X24.here hx rfl (hb hby d5_150) rfl ((if0 _ _).trans (teq (by decide : ((0 : Int32) = (0 : Int32)))).2) ?_
          show oS p e below T24 m 153 #[rv x1, rv x2, rv x3, iv (0 : Int32), iv x5, iv (0 : Int32), iv (0 : Int32), iv (0 : Int32), iv (x5 &&& (3 : Int32)), .val .null] [] _
          refine XS.iload X24.here hx rfl (hb hby d5_153) rfl ?_
          refine XS.ifNo X24.here hx rfl (hb hby d5_155) rfl ((if0 _ _).trans (teq (by decide : ((0 : Int32) = (0 : Int32)))).2) ?_
          refine XS.aload X24.here hx rfl (hb hby d5_158) rfl rfl ?_
          refine XS.ifnullYes X24.here hx rfl (pc0 := 160) (pc' := 205) rfl (hb hby d5_160) rfl (by decide) (by decide) ?_
          show oS p e below T24 m 205 #[rv x1, rv x2, rv x3, iv (0 : Int32), iv x5, iv (0 : Int32), iv (0 : Int32), iv (0 : Int32), iv (x5 &&& (3 : Int32)), .val .null] [] _
          refine XS.goto X24.here hx rfl (pc0 := 205) (pc' := 227) rfl (hb hby d5_205) (by decide) (by decide) ?_
          refine XS.iconst X24.here hx rfl (hb hby d5_227) ?_
          refine XS.istore X24.here hx rfl (hb hby d5_228) rfl (l' := #[rv x1, rv x2, rv x3, iv (0 : Int32), iv x5, iv (0 : Int32), iv (0 : Int32), iv (0 : Int32), iv (x5 &&& (3 : Int32)), iv (0 : Int32)]) rfl ?_
          refine XS.iload X24.here hx rfl (hb hby d5_230) rfl ?_
          show oS p e below T24 m 232 #[rv x1, rv x2, rv x3, iv (0 : Int32), iv x5, iv (0 : Int32), iv (0 : Int32), iv (0 : Int32), iv (x5 &&& (3 : Int32)), iv (0 : Int32)] [(.int (0 : Int32))] _
          refine XS.ifYes X24.here hx rfl (pc0 := 232) (pc' := 241) rfl (hb hby d5_232) rfl ((if0 _ _).trans (teq (by decide : ((0 : Int32) = (0 : Int32)))).1) (by decide) (by decide) ?_
          refine XS.iload X24.here hx rfl (hb hby d5_241) rfl ?_
          refine XS.ifYes X24.here hx rfl (pc0 := 243) (pc' := 252) rfl (hb hby d5_243) rfl ((if0 _ _).trans (teq (by decide : ((0 : Int32) = (0 : Int32)))).1) (by decide) (by decide) ?_
          refine XS.iload X24.here hx rfl (hb hby d5_252) rfl ?_
          show oS p e below T24 m 254 #[rv x1, rv x2, rv x3, iv (0 : Int32), iv x5, iv (0 : Int32), iv (0 : Int32), iv (0 : Int32), iv (x5 &&& (3 : Int32)), iv (0 : Int32)] [(.int (0 : Int32))] _
          refine XS.ifYes X24.here hx rfl (pc0 := 254) (pc' := 263) rfl (hb hby d5_254) rfl ((if0 _ _).trans (teq (by decide : ((0 : Int32) = (0 : Int32)))).1) (by decide) (by decide) ?_
          refine XS.iload X24.here hx rfl (hb hby d5_263) rfl ?_
          exact kt
        obtain ⟨fs, hr, hrun, hended, hW, hsame⟩ := X24.leave (v := some (.int (0 : Int32))) (fun h => by rw [Bd.returns] at h; cases h)
        refine ⟨_, _, pre0 _ (pre1 _ (pre12 _ (pre23 _ (pre25 _ ?_)))), hrun, hended, _, _, rfl, ?_, ⟨_, rfl⟩, hW, hsame.mono (by decide) (by decide)⟩
        · show oS p e below T24 m 265 #[rv x1, rv x2, rv x3, iv (0 : Int32), iv x5, iv (0 : Int32), iv (0 : Int32), iv (0 : Int32), iv (x5 &&& (3 : Int32)), iv (0 : Int32)] [(.int (0 : Int32))] _
          exact retOut X24 hx Bd.returns rfl (Or.inl ⟨rfl, Or.inl rfl, _, rfl⟩) (hb hby d5_265) hr
        · show QS0 Z x1 x2 x3 x5 h0 n0 _ T24.heap _
          rw [eh24]
          exact ⟨(0 : Int32), rfl, N24, (Keep.refl h0 [x1, x2, x3]), (by decide), (Or.inl ⟨(Or.inl rfl), E_x1, E_x2, E_x3, F_first_x1, F_last_x1, F_in_x2, F_before_x2, F_after_x2, F_in_x3, F_before_x3, F_after_x3⟩)⟩
      · obtain ⟨cq26, kq26, q26a, q26b, q26c⟩ := isOf hZ e0 E_x1
        obtain ⟨_, _, ⟨T26, Lw26, kw26, nw26⟩, -, X26, ⟨Lc26, hQ26, l26, y26, z26⟩, st26⟩ := X0.virtualBack hx (y := (⟨oz1, "remove", oz5⟩ : MethodName)) (z := (⟨oz1, "remove", oz5⟩ : MethodName)) hown (mvT hZ (own_w hw 46 rfl)) (mvT hZ (own_w hw 47 rfl)) (notFace_of_selects (args := #[]) (mvT hZ (own_w hw 49 rfl))) (mvT hZ (own_w hw 49 rfl)) (mvT hZ (own_w hw 48 rfl)) (by decide) (backOf (W := 0) (rmR0 l Z a0 hw [] x1 x2 h0 n0 Z0 E_x1 E_x2 F_in_x2) hZ (own_w hw 50 rfl) (own_w hw 2 rfl) (by decide) (by decide)) q26a q26c (g := (mkF m 210 #[rv x1, rv x2, rv x3, iv (0 : Int32), iv x5, iv (0 : Int32), iv (0 : Int32), iv (0 : Int32), iv (x5 &&& (3 : Int32)), .unset] [(.ref x2), (.ref x1)])) rfl (by rw [hml]; rfl) (Steps.refl _) (argsL := [(.ref x2)]) (rest := []) (lenOf own_pd2 rfl) rfl (by show 2 * 0 + _ ≤ _; exact Nat.le_of_eq rfl) (hb hby d5_210) (fun _ _ => ⟨rfl, e0, (by decide : 0 + 0 ≤ _), (by decide : 0 + 0 ≤ _)⟩)
        dsimp only [Pt.U, Pt.locs, Pt.cells, Pt.slots] at X26 l26 y26 z26 st26 hQ26
        subst l26 y26 z26
        obtain ⟨rfl, Nq26, eh26⟩ := hQ26
        have N26 := Fr.app N0 Nq26
        have pre27 : ∀ tz, oS p e below T26 m 265 #[rv x1, rv x2, rv x3, iv (0 : Int32), iv x5, iv (0 : Int32), iv (0 : Int32), iv (0 : Int32), iv (x5 &&& (3 : Int32)), iv (0 : Int32)] [(.int (0 : Int32))] tz → oS p e below s₁ m 139 #[rv x1, rv x2, rv x3, iv (0 : Int32), iv x5, iv (0 : Int32), iv (0 : Int32), iv (0 : Int32), iv (x5 &&& (3 : Int32)), .unset] [(.int (2 : Int32)), (.int (x5 &&& (3 : Int32)))] tz := fun tz kt => by
          show oS p e below s₁ m 139 #[rv x1, rv x2, rv x3, iv (0 : Int32), iv x5, iv (0 : Int32), iv (0 : Int32), iv (0 : Int32), iv (x5 &&& (3 : Int32)), .unset] [(.int (2 : Int32)), (.int (x5 &&& (3 : Int32)))] _
          refine XS.icmpYes X0.here hx rfl (pc0 := 139) (pc' := 208) rfl (hb hby d5_139) rfl (feq hc139).2 (by decide) (by decide) ?_
          refine XS.aloadN X0.here hx rfl (hb hby d5_208) rfl rfl ?_
          refine XS.aloadN X0.here hx rfl (hb hby d5_209) rfl rfl ?_
          show oS p e below s₁ m 210 #[rv x1, rv x2, rv x3, iv (0 : Int32), iv x5, iv (0 : Int32), iv (0 : Int32), iv (0 : Int32), iv (x5 &&& (3 : Int32)), .unset] [(.ref x2), (.ref x1)] _
          refine st26.trans ?_
          refine XS.istore X26.here hx rfl (hb hby d5_213) rfl (l' := #[rv x1, rv x2, rv x3, iv (0 : Int32), iv x5, iv (0 : Int32), iv (0 : Int32), iv (0 : Int32), iv (x5 &&& (3 : Int32)), iv (0 : Int32)]) rfl ?_
          refine XS.iload X26.here hx rfl (hb hby d5_215) rfl ?_
          refine XS.iload X26.here hx rfl (hb hby d5_217) rfl ?_
          show oS p e below T26 m 219 #[rv x1, rv x2, rv x3, iv (0 : Int32), iv x5, iv (0 : Int32), iv (0 : Int32), iv (0 : Int32), iv (x5 &&& (3 : Int32)), iv (0 : Int32)] [(.int (0 : Int32)), (.int (0 : Int32))] _
          refine XS.icmpYes X26.here hx rfl (pc0 := 219) (pc' := 224) rfl (hb hby d5_219) rfl (teq (by decide : ((0 : Int32) = (0 : Int32)))).1 (by decide) (by decide) ?_
          refine XS.iconst X26.here hx rfl (hb hby d5_224) ?_
          refine XS.istore X26.here hx rfl (hb hby d5_225) rfl (l' := #[rv x1, rv x2, rv x3, iv (0 : Int32), iv x5, iv (0 : Int32), iv (0 : Int32), iv (0 : Int32), iv (x5 &&& (3 : Int32)), iv (0 : Int32)]) rfl ?_
          refine XS.iconst X26.here hx rfl (hb hby d5_227) ?_
          show oS p e below T26 m 228 #[rv x1, rv x2, rv x3, iv (0 : Int32), iv x5, iv (0 : Int32), iv (0 : Int32), iv (0 : Int32), iv (x5 &&& (3 : Int32)), iv (0 : Int32)] [(.int (0 : Int32))] _
          refine XS.istore X26.here hx rfl (hb hby d5_228) rfl (l' := #[rv x1, rv x2, rv x3, iv (0 : Int32), iv x5, iv (0 : Int32), iv (0 : Int32), iv (0 : Int32), iv (x5 &&& (3 : Int32)), iv (0 : Int32)]) rfl ?_
          refine XS.iload X26.here hx rfl (hb hby d5_230) rfl ?_
          refine XS.ifYes X26.here hx rfl (pc0 := 232) (pc' := 241) rfl (hb hby d5_232) rfl ((if0 _ _).trans (teq (by decide : ((0 : Int32) = (0 : Int32)))).1) (by decide) (by decide) ?_
          refine XS.iload X26.here hx rfl (hb hby d5_241) rfl ?_
          show oS p e below T26 m 243 #[rv x1, rv x2, rv x3, iv (0 : Int32), iv x5, iv (0 : Int32), iv (0 : Int32), iv (0 : Int32), iv (x5 &&& (3 : Int32)), iv (0 : Int32)] [(.int (0 : Int32))] _
          refine XS.ifYes X26.here hx rfl (pc0 := 243) (pc' := 252) rfl (hb hby d5_243) rfl ((if0 _ _).trans (teq (by decide : ((0 : Int32) = (0 : Int32)))).1) (by decide) (by decide) ?_
          refine XS.iload X26.here hx rfl (hb hby d5_252) rfl ?_
          refine XS.ifYes X26.here hx rfl (pc0 := 254) (pc' := 263) rfl (hb hby d5_254) rfl ((if0 _ _).trans (teq (by decide : ((0 : Int32) = (0 : Int32)))).1) (by decide) (by decide) ?_
          refine XS.iload X26.here hx rfl (hb hby d5_263) rfl ?_
          exact kt
        obtain ⟨fs, hr, hrun, hended, hW, hsame⟩ := X26.leave (v := some (.int (0 : Int32))) (fun h => by rw [Bd.returns] at h; cases h)
        refine ⟨_, _, pre0 _ (pre1 _ (pre12 _ (pre23 _ (pre27 _ ?_)))), hrun, hended, _, _, rfl, ?_, ⟨_, rfl⟩, hW, hsame.mono (by decide) (by decide)⟩
        · show oS p e below T26 m 265 #[rv x1, rv x2, rv x3, iv (0 : Int32), iv x5, iv (0 : Int32), iv (0 : Int32), iv (0 : Int32), iv (x5 &&& (3 : Int32)), iv (0 : Int32)] [(.int (0 : Int32))] _
          exact retOut X26 hx Bd.returns rfl (Or.inl ⟨rfl, Or.inl rfl, _, rfl⟩) (hb hby d5_265) hr
        · show QS0 Z x1 x2 x3 x5 h0 n0 _ T26.heap _
          rw [eh26]
          exact ⟨(0 : Int32), rfl, N26, (Keep.refl h0 [x1, x2, x3]), (by decide), (Or.inl ⟨(Or.inl rfl), E_x1, E_x2, E_x3, F_first_x1, F_last_x1, F_in_x2, F_before_x2, F_after_x2, F_in_x3, F_before_x3, F_after_x3⟩)⟩
theorem d5_6 : decode method_3_code 6 = .ok (.iconst 1, 1) := by decide +kernel
theorem d5_7 : decode method_3_code 7 = .ok (.goto 4, 3) := by decide +kernel
theorem d5_55 : decode method_3_code 55 = .ok (.aload_n 0, 1) := by decide +kernel
theorem d5_56 : decode method_3_code 56 = .ok (.aload_n 1, 1) := by decide +kernel
theorem d5_57 : decode method_3_code 57 = .ok (.invokevirtual 25, 3) := by decide +kernel
theorem d5_60 : decode method_3_code 60 = .ok (.ifCond .ne 5, 3) := by decide +kernel
theorem d5_65 : decode method_3_code 65 = .ok (.iconst 0, 1) := by decide +kernel
theorem d5_66 : decode method_3_code 66 = .ok (.istore 5, 2) := by decide +kernel
theorem d5_68 : decode method_3_code 68 = .ok (.goto 159, 3) := by decide +kernel
theorem d5_165 : decode method_3_code 165 = .ok (.iload 5, 2) := by decide +kernel
theorem d5_167 : decode method_3_code 167 = .ok (.ifCond .eq 27, 3) := by decide +kernel
theorem d5_170 : decode method_3_code 170 = .ok (.iload 6, 2) := by decide +kernel
theorem d5_172 : decode method_3_code 172 = .ok (.ifCond .eq 8, 3) := by decide +kernel
theorem d5_180 : decode method_3_code 180 = .ok (.aload 9, 2) := by decide +kernel
theorem d5_182 : decode method_3_code 182 = .ok (.aload_n 1, 1) := by decide +kernel
theorem d5_183 : decode method_3_code 183 = .ok (.if_acmp .eq 5, 3) := by decide +kernel
theorem d5_188 : decode method_3_code 188 = .ok (.iconst 0, 1) := by decide +kernel
theorem d5_189 : decode method_3_code 189 = .ok (.istore 5, 2) := by decide +kernel
theorem d5_191 : decode method_3_code 191 = .ok (.goto 14, 3) := by decide +kernel
theorem efS1 (m : MethodId) (x1 : Addr) (x2 : Addr) (x3 : Addr) (x5 : Int32) : entryFrame m #[(.ref x1), (.ref x2), (.ref x3), (.int (1 : Int32)), (.int x5)] 10 = mkF m 0 #[rv x1, rv x2, rv x3, iv (1 : Int32), iv x5, .unset, .unset, .unset, .unset, .unset] [] := by first | (simp [entryFrame, mkF, argsToLocals, Value.category]; done) | rfl
def QS1 (Z : State) (x1 : Addr) (x2 : Addr) (x3 : Addr) (x5 : Int32) (h0 : Heap) (n0 : Nat) (v : Option Value) (h : Heap) (L : List Loc) : Prop := ∃ (s : Int32), v = some (.int s) ∧ Fr n0 L ∧ Keep h0 h [x1, x2, x3] ∧ (¬ s < (0 : Int32)) ∧ (own_Sh Z h x1 x2 x3 s)
set_option maxRecDepth 65536 in
set_option maxHeartbeats 40000000 in
theorem rmS1 (l : Launch) (Z : State) (a0 : Array Value) (hw : ∀ d ∈ tables_1, d.before a0 Z = true) (ws : List Jvm.Cond) (x1 : Addr) (x2 : Addr) (x3 : Addr) (x5 : Int32) (h0 : Heap) (n0 : Nat) (Z0 : n0 ≤ h0.size) (E_x1 : Exa Z h0 x1 oz1) (E_x2 : Exa Z h0 x2 oz0) (E_x3 : Exa Z h0 x3 oz0) (g_x1 : n0 ≤ x1) (g_x2 : n0 ≤ x2) (g_x3 : n0 ≤ x3) (ne_x2_x3 : x2 ≠ x3) (F_first_x1 : Fld Z h0 x1 oz1 "first" oz2 (.ref x2)) (F_last_x1 : Fld Z h0 x1 oz1 "last" oz2 (.ref x2)) (F_in_x2 : Fld Z h0 x2 oz0 "in" oz3 (.ref x1)) (F_before_x2 : Fld Z h0 x2 oz0 "before" oz2 .null) (F_after_x2 : Fld Z h0 x2 oz0 "after" oz2 .null) (F_in_x3 : Fld Z h0 x3 oz0 "in" oz3 .null) (F_before_x3 : Fld Z h0 x3 oz0 "before" oz2 .null) (F_after_x3 : Fld Z h0 x3 oz0 "after" oz2 .null) :
    MetFree l (⟨oz6, "step", oz4⟩ : MethodName) (head1 (Jvm.Cond.code (⟨oz6, "step", oz4⟩ : MethodName) method_3_code 10 (some .int) :: ws) ({ frames := 2, cells := 0, slots := 0, locals := 44 } : Room)) (fun a U => a = #[(.ref x1), (.ref x2), (.ref x3), (.int (1 : Int32)), (.int x5)] ∧ Z.Warmed39 U.vm ∧ U.heap = h0) (fun _ _ _ _ _ => True) (fun _ U oc U' => ∃ v L, oc = .returned v ∧ QS1 Z x1 x2 x3 x5 h0 n0 v U'.heap L ∧ FrameEnd U oc U' L ({ frames := 2, cells := 0, slots := 0, locals := 44 } : Room).cells ({ frames := 2, cells := 0, slots := 0, locals := 44 } : Room).slots) := by
  refine MetFree.of_bodySF (plainFor_of_name own_pn2) hisR ?_
  intro p e s m args below meth c s₁ Bd hml0 hP hK
  obtain ⟨rfl, hZ, hh⟩ := hP
  have hx := Bd.exec
  have hby := Bd.bytes
  have hml : c.maxLocals = 10 := hml0
  have hown : s.vm.findClass oz6 = some m.cls := findClass_of_methodNamed Bd.named
  have hnm := (name_of_methodNamed Bd.named Bd.method).1
  have X0 : Stand p l e ({ frames := 2, cells := 0, slots := 0, locals := 44 } : Room) s m #[(.ref x1), (.ref x2), (.ref x3), (.int (1 : Int32)), (.int x5)] below meth c s₁ [] 0 0 := Stand.of_body Bd
  have e0 : s₁.heap = h0 := by rw [← hh, Bd.state]; rfl
  have N0 := Fr.nil n0
  have pre0 : ∀ t, Steps p.tables e below (s₁.setTop (mkF m 0 #[rv x1, rv x2, rv x3, iv (1 : Int32), iv x5, .unset, .unset, .unset, .unset, .unset] [])) t → Steps p.tables e below (s₁.setTop (entryFrame m #[(.ref x1), (.ref x2), (.ref x3), (.int (1 : Int32)), (.int x5)] 10)) t := fun t k => castTop (efS1 m x1 x2 x3 x5) k
  have pre1 : ∀ tz, oS p e below s₁ m 47 #[rv x1, rv x2, rv x3, iv (1 : Int32), iv x5, iv (1 : Int32), iv (0 : Int32), iv (0 : Int32), iv (x5 &&& (3 : Int32)), .unset] [(.int (x5 &&& (3 : Int32)))] tz → oS p e below s₁ m 0 #[rv x1, rv x2, rv x3, iv (1 : Int32), iv x5, .unset, .unset, .unset, .unset, .unset] [] tz := fun tz kt => by
    show oS p e below s₁ m 0 #[rv x1, rv x2, rv x3, iv (1 : Int32), iv x5, .unset, .unset, .unset, .unset, .unset] [] _
    refine XS.iloadN X0.here hx rfl (hb hby d5_0) rfl ?_
    refine XS.iconst X0.here hx rfl (hb hby d5_1) ?_
    refine XS.iand X0.here hx rfl (hb hby d5_2) rfl ?_
    show oS p e below s₁ m 3 #[rv x1, rv x2, rv x3, iv (1 : Int32), iv x5, .unset, .unset, .unset, .unset, .unset] [(.int (1 : Int32))] _
    refine XS.ifNo X0.here hx rfl (hb hby d5_3) rfl ((if0 _ _).trans (feq (by decide : ¬ ((1 : Int32) = (0 : Int32)))).1) ?_
    refine XS.iconst X0.here hx rfl (hb hby d5_6) ?_
    refine XS.goto X0.here hx rfl (pc0 := 7) (pc' := 11) rfl (hb hby d5_7) (by decide) (by decide) ?_
    refine XS.istore X0.here hx rfl (hb hby d5_11) rfl (l' := #[rv x1, rv x2, rv x3, iv (1 : Int32), iv x5, iv (1 : Int32), .unset, .unset, .unset, .unset]) rfl ?_
    show oS p e below s₁ m 13 #[rv x1, rv x2, rv x3, iv (1 : Int32), iv x5, iv (1 : Int32), .unset, .unset, .unset, .unset] [] _
    refine XS.iloadN X0.here hx rfl (hb hby d5_13) rfl ?_
    refine XS.iconst X0.here hx rfl (hb hby d5_14) ?_
    refine XS.iand X0.here hx rfl (hb hby d5_15) rfl ?_
    show oS p e below s₁ m 16 #[rv x1, rv x2, rv x3, iv (1 : Int32), iv x5, iv (1 : Int32), .unset, .unset, .unset, .unset] [(.int (0 : Int32))] _
    refine XS.ifYes X0.here hx rfl (pc0 := 16) (pc' := 23) rfl (hb hby d5_16) rfl ((if0 _ _).trans (teq (by decide : ((0 : Int32) = (0 : Int32)))).1) (by decide) (by decide) ?_
    refine XS.iconst X0.here hx rfl (hb hby d5_23) ?_
    refine XS.istore X0.here hx rfl (hb hby d5_24) rfl (l' := #[rv x1, rv x2, rv x3, iv (1 : Int32), iv x5, iv (1 : Int32), iv (0 : Int32), .unset, .unset, .unset]) rfl ?_
    refine XS.iloadN X0.here hx rfl (hb hby d5_26) rfl ?_
    show oS p e below s₁ m 27 #[rv x1, rv x2, rv x3, iv (1 : Int32), iv x5, iv (1 : Int32), iv (0 : Int32), .unset, .unset, .unset] [(.int (1 : Int32))] _
    refine XS.iconst X0.here hx rfl (hb hby d5_27) ?_
    refine XS.iand X0.here hx rfl (hb hby d5_28) rfl ?_
    show oS p e below s₁ m 29 #[rv x1, rv x2, rv x3, iv (1 : Int32), iv x5, iv (1 : Int32), iv (0 : Int32), .unset, .unset, .unset] [(.int (0 : Int32))] _
    refine XS.ifYes X0.here hx rfl (pc0 := 29) (pc' := 36) rfl (hb hby d5_29) rfl ((if0 _ _).trans (teq (by decide : ((0 : Int32) = (0 : Int32)))).1) (by decide) (by decide) ?_
    refine XS.iconst X0.here hx rfl (hb hby d5_36) ?_
    refine XS.istore X0.here hx rfl (hb hby d5_37) rfl (l' := #[rv x1, rv x2, rv x3, iv (1 : Int32), iv x5, iv (1 : Int32), iv (0 : Int32), iv (0 : Int32), .unset, .unset]) rfl ?_
    refine XS.iload X0.here hx rfl (hb hby d5_39) rfl ?_
    show oS p e below s₁ m 41 #[rv x1, rv x2, rv x3, iv (1 : Int32), iv x5, iv (1 : Int32), iv (0 : Int32), iv (0 : Int32), .unset, .unset] [(.int x5)] _
    refine XS.iconst X0.here hx rfl (hb hby d5_41) ?_
    refine XS.iand X0.here hx rfl (hb hby d5_42) rfl ?_
    refine XS.istore X0.here hx rfl (hb hby d5_43) rfl (l' := #[rv x1, rv x2, rv x3, iv (1 : Int32), iv x5, iv (1 : Int32), iv (0 : Int32), iv (0 : Int32), iv (x5 &&& (3 : Int32)), .unset]) rfl ?_
    refine XS.iload X0.here hx rfl (hb hby d5_45) rfl ?_
    exact kt
  by_cases hc47 : (x5 &&& (3 : Int32)) = (0 : Int32)
  · obtain ⟨cq2, kq2, q2a, q2b, q2c⟩ := isOf hZ e0 E_x1
    obtain ⟨_, _, ⟨T2, Lw2, kw2, nw2⟩, -, X2, ⟨Lc2, hQ2, l2, y2, z2⟩, st2⟩ := X0.virtualBack hx (y := (⟨oz1, "remove", oz5⟩ : MethodName)) (z := (⟨oz1, "remove", oz5⟩ : MethodName)) hown (mvT hZ (own_w hw 46 rfl)) (mvT hZ (own_w hw 47 rfl)) (notFace_of_selects (args := #[]) (mvT hZ (own_w hw 49 rfl))) (mvT hZ (own_w hw 49 rfl)) (mvT hZ (own_w hw 48 rfl)) (by decide) (backOf (W := 0) (rmR00 l Z a0 hw [] x1 x2 (.ref x2) (.ref x2) h0 n0 Z0 E_x1 E_x2 g_x1 g_x2 F_first_x1 F_last_x1 F_in_x2 F_before_x2 F_after_x2) hZ (own_w hw 50 rfl) (own_w hw 2 rfl) (by decide) (by decide)) q2a q2c (g := (mkF m 57 #[rv x1, rv x2, rv x3, iv (1 : Int32), iv x5, iv (1 : Int32), iv (0 : Int32), iv (0 : Int32), iv (x5 &&& (3 : Int32)), .unset] [(.ref x2), (.ref x1)])) rfl (by rw [hml]; rfl) (Steps.refl _) (argsL := [(.ref x2)]) (rest := []) (lenOf own_pd2 rfl) rfl (by show 2 * 0 + _ ≤ _; exact Nat.le_of_eq rfl) (hb hby d5_57) (fun _ _ => ⟨rfl, e0, (by decide : 0 + 0 ≤ _), (by decide : 0 + 0 ≤ _)⟩)
    dsimp only [Pt.U, Pt.locs, Pt.cells, Pt.slots] at X2 l2 y2 z2 st2 hQ2
    subst l2 y2 z2
    obtain ⟨rfl, Nq2, K2, pf2_0, pf2_1, pf2_2, pf2_3, pf2_4⟩ := hQ2
    have N2 := Fr.app N0 Nq2
    have pre3 : ∀ tz, oS p e below T2 m 265 #[rv x1, rv x2, rv x3, iv (1 : Int32), iv x5, iv (0 : Int32), iv (0 : Int32), iv (0 : Int32), iv (x5 &&& (3 : Int32)), iv (0 : Int32)] [(.int (0 : Int32))] tz → oS p e below s₁ m 47 #[rv x1, rv x2, rv x3, iv (1 : Int32), iv x5, iv (1 : Int32), iv (0 : Int32), iv (0 : Int32), iv (x5 &&& (3 : Int32)), .unset] [(.int (x5 &&& (3 : Int32)))] tz := fun tz kt => by
      show oS p e below s₁ m 47 #[rv x1, rv x2, rv x3, iv (1 : Int32), iv x5, iv (1 : Int32), iv (0 : Int32), iv (0 : Int32), iv (x5 &&& (3 : Int32)), .unset] [(.int (x5 &&& (3 : Int32)))] _
      refine XS.ifNo X0.here hx rfl (hb hby d5_47) rfl ((if0 _ _).trans (teq hc47).2) ?_
      refine XS.iload X0.here hx rfl (hb hby d5_50) rfl ?_
      refine XS.ifNo X0.here hx rfl (hb hby d5_52) rfl ((if0 _ _).trans (feq (by decide : ¬ ((1 : Int32) = (0 : Int32)))).1) ?_
      refine XS.aloadN X0.here hx rfl (hb hby d5_55) rfl rfl ?_
      show oS p e below s₁ m 56 #[rv x1, rv x2, rv x3, iv (1 : Int32), iv x5, iv (1 : Int32), iv (0 : Int32), iv (0 : Int32), iv (x5 &&& (3 : Int32)), .unset] [(.ref x1)] _
      refine XS.aloadN X0.here hx rfl (hb hby d5_56) rfl rfl ?_
      show oS p e below s₁ m 57 #[rv x1, rv x2, rv x3, iv (1 : Int32), iv x5, iv (1 : Int32), iv (0 : Int32), iv (0 : Int32), iv (x5 &&& (3 : Int32)), .unset] [(.ref x2), (.ref x1)] _
      refine st2.trans ?_
      refine XS.ifYes X2.here hx rfl (pc0 := 60) (pc' := 65) rfl (hb hby d5_60) rfl ((if0 _ _).trans (feq (by decide : ¬ ((1 : Int32) = (0 : Int32)))).2) (by decide) (by decide) ?_
      refine XS.iconst X2.here hx rfl (hb hby d5_65) ?_
      refine XS.istore X2.here hx rfl (hb hby d5_66) rfl (l' := #[rv x1, rv x2, rv x3, iv (1 : Int32), iv x5, iv (0 : Int32), iv (0 : Int32), iv (0 : Int32), iv (x5 &&& (3 : Int32)), .unset]) rfl ?_
      show oS p e below T2 m 68 #[rv x1, rv x2, rv x3, iv (1 : Int32), iv x5, iv (0 : Int32), iv (0 : Int32), iv (0 : Int32), iv (x5 &&& (3 : Int32)), .unset] [] _
      refine XS.goto X2.here hx rfl (pc0 := 68) (pc' := 227) rfl (hb hby d5_68) (by decide) (by decide) ?_
      refine XS.iconst X2.here hx rfl (hb hby d5_227) ?_
      refine XS.istore X2.here hx rfl (hb hby d5_228) rfl (l' := #[rv x1, rv x2, rv x3, iv (1 : Int32), iv x5, iv (0 : Int32), iv (0 : Int32), iv (0 : Int32), iv (x5 &&& (3 : Int32)), iv (0 : Int32)]) rfl ?_
      refine XS.iload X2.here hx rfl (hb hby d5_230) rfl ?_
      show oS p e below T2 m 232 #[rv x1, rv x2, rv x3, iv (1 : Int32), iv x5, iv (0 : Int32), iv (0 : Int32), iv (0 : Int32), iv (x5 &&& (3 : Int32)), iv (0 : Int32)] [(.int (0 : Int32))] _
      refine XS.ifYes X2.here hx rfl (pc0 := 232) (pc' := 241) rfl (hb hby d5_232) rfl ((if0 _ _).trans (teq (by decide : ((0 : Int32) = (0 : Int32)))).1) (by decide) (by decide) ?_
      refine XS.iload X2.here hx rfl (hb hby d5_241) rfl ?_
      refine XS.ifYes X2.here hx rfl (pc0 := 243) (pc' := 252) rfl (hb hby d5_243) rfl ((if0 _ _).trans (teq (by decide : ((0 : Int32) = (0 : Int32)))).1) (by decide) (by decide) ?_
      refine XS.iload X2.here hx rfl (hb hby d5_252) rfl ?_
      show oS p e below T2 m 254 #[rv x1, rv x2, rv x3, iv (1 : Int32), iv x5, iv (0 : Int32), iv (0 : Int32), iv (0 : Int32), iv (x5 &&& (3 : Int32)), iv (0 : Int32)] [(.int (0 : Int32))] _
      refine XS.ifYes X2.here hx rfl (pc0 := 254) (pc' := 263) rfl (hb hby d5_254) rfl ((if0 _ _).trans (teq (by decide : ((0 : Int32) = (0 : Int32)))).1) (by decide) (by decide) ?_
      refine XS.iload X2.here hx rfl (hb hby d5_263) rfl ?_
      exact kt
    have KP4 : Keep h0 T2.heap [x1, x2, x3] := ((Keep.refl h0 [x1, x2, x3]).trans K2 (allS (Or.inl (List.mem_of_getElem? (i := 0) rfl)) (allS (Or.inl (List.mem_of_getElem? (i := 1) rfl)) all0)))
    have Ec5 : Exa Z T2.heap x1 oz1 := (E_x1.keep K2)
    have Ec6 : Exa Z T2.heap x2 oz0 := (E_x2.keep K2)
    have Ec7 : Exa Z T2.heap x3 oz0 := (E_x3.keep K2)
    have ne8 : x3 ≠ x1 := ne_exa Ec7 Ec5 (by decide)
    have Fc9 : Fld Z T2.heap x3 oz0 "in" oz3 .null := (F_in_x3.keep K2 (ninS ne8 (ninS (Ne.symm ne_x2_x3) nin0)))
    have Fc10 : Fld Z T2.heap x3 oz0 "before" oz2 .null := (F_before_x3.keep K2 (ninS ne8 (ninS (Ne.symm ne_x2_x3) nin0)))
    have Fc11 : Fld Z T2.heap x3 oz0 "after" oz2 .null := (F_after_x3.keep K2 (ninS ne8 (ninS (Ne.symm ne_x2_x3) nin0)))
    obtain ⟨fs, hr, hrun, hended, hW, hsame⟩ := X2.leave (v := some (.int (0 : Int32))) (fun h => by rw [Bd.returns] at h; cases h)
    refine ⟨_, _, pre0 _ (pre1 _ (pre3 _ ?_)), hrun, hended, _, _, rfl, ?_, ⟨_, rfl⟩, hW, hsame.mono (by decide) (by decide)⟩
    · show oS p e below T2 m 265 #[rv x1, rv x2, rv x3, iv (1 : Int32), iv x5, iv (0 : Int32), iv (0 : Int32), iv (0 : Int32), iv (x5 &&& (3 : Int32)), iv (0 : Int32)] [(.int (0 : Int32))] _
      exact retOut X2 hx Bd.returns rfl (Or.inl ⟨rfl, Or.inl rfl, _, rfl⟩) (hb hby d5_265) hr
    · show QS1 Z x1 x2 x3 x5 h0 n0 _ T2.heap _
      exact ⟨(0 : Int32), rfl, N2, KP4, (by decide), (Or.inl ⟨(Or.inl rfl), Ec5, Ec6, Ec7, pf2_0, pf2_1, pf2_2, pf2_3, pf2_4, Fc9, Fc10, Fc11⟩)⟩
  · have pre12 : ∀ tz, oS p e below s₁ m 97 #[rv x1, rv x2, rv x3, iv (1 : Int32), iv x5, iv (1 : Int32), iv (0 : Int32), iv (0 : Int32), iv (x5 &&& (3 : Int32)), .unset] [(.int (1 : Int32)), (.int (x5 &&& (3 : Int32)))] tz → oS p e below s₁ m 47 #[rv x1, rv x2, rv x3, iv (1 : Int32), iv x5, iv (1 : Int32), iv (0 : Int32), iv (0 : Int32), iv (x5 &&& (3 : Int32)), .unset] [(.int (x5 &&& (3 : Int32)))] tz := fun tz kt => by
      show oS p e below s₁ m 47 #[rv x1, rv x2, rv x3, iv (1 : Int32), iv x5, iv (1 : Int32), iv (0 : Int32), iv (0 : Int32), iv (x5 &&& (3 : Int32)), .unset] [(.int (x5 &&& (3 : Int32)))] _
      refine XS.ifYes X0.here hx rfl (pc0 := 47) (pc' := 94) rfl (hb hby d5_47) rfl ((if0 _ _).trans (feq hc47).2) (by decide) (by decide) ?_
      refine XS.iload X0.here hx rfl (hb hby d5_94) rfl ?_
      refine XS.iconst X0.here hx rfl (hb hby d5_96) ?_
      exact kt
    by_cases hc97 : (x5 &&& (3 : Int32)) = (1 : Int32)
    · obtain ⟨cq13, kq13, q13a, q13b, q13c⟩ := isOf hZ e0 E_x1
      obtain ⟨_, _, ⟨T13, Lw13, kw13, nw13⟩, -, X13, ⟨Lc13, hQ13, l13, y13, z13⟩, st13⟩ := X0.virtualBack hx (y := (⟨oz1, "add", oz7⟩ : MethodName)) (z := (⟨oz1, "add", oz7⟩ : MethodName)) hown (mvT hZ (own_w hw 35 rfl)) (mvT hZ (own_w hw 36 rfl)) (notFace_of_selects (args := #[]) (mvT hZ (own_w hw 38 rfl))) (mvT hZ (own_w hw 38 rfl)) (mvT hZ (own_w hw 37 rfl)) (by decide) (backOf (W := 0) (rmA1 l Z a0 hw [] x1 x3 (.ref x2) (.ref x1) .null .null x2 h0 n0 Z0 E_x1 E_x3 E_x2 g_x1 g_x3 g_x2 (Ne.symm ne_x2_x3) F_first_x1 F_last_x1 F_in_x3 F_before_x3 F_after_x3 F_in_x2 F_before_x2 F_after_x2) hZ (own_w hw 39 rfl) (own_w hw 2 rfl) (by decide) (by decide)) q13a q13c (g := (mkF m 123 #[rv x1, rv x2, rv x3, iv (1 : Int32), iv x5, iv (1 : Int32), iv (0 : Int32), iv (0 : Int32), iv (x5 &&& (3 : Int32)), .unset] [(.ref x3), (.ref x1)])) rfl (by rw [hml]; rfl) (Steps.refl _) (argsL := [(.ref x3)]) (rest := []) (lenOf own_pd0 rfl) rfl (by show 2 * 0 + _ ≤ _; exact Nat.le_of_eq rfl) (hb hby d5_123) (fun _ _ => ⟨rfl, e0, (by decide : 0 + 0 ≤ _), (by decide : 0 + 0 ≤ _)⟩)
      dsimp only [Pt.U, Pt.locs, Pt.cells, Pt.slots] at X13 l13 y13 z13 st13 hQ13
      subst l13 y13 z13
      obtain ⟨rfl, Nq13, K13, pf13_0, pf13_1, pf13_2, pf13_3, pf13_4, pf13_5, pf13_6, pf13_7⟩ := hQ13
      have N13 := Fr.app N0 Nq13
      have pre14 : ∀ tz, oS p e below T13 m 265 #[rv x1, rv x2, rv x3, iv (1 : Int32), iv x5, iv (1 : Int32), iv (1 : Int32), iv (1 : Int32), iv (x5 &&& (3 : Int32)), iv (7 : Int32)] [(.int (7 : Int32))] tz → oS p e below s₁ m 97 #[rv x1, rv x2, rv x3, iv (1 : Int32), iv x5, iv (1 : Int32), iv (0 : Int32), iv (0 : Int32), iv (x5 &&& (3 : Int32)), .unset] [(.int (1 : Int32)), (.int (x5 &&& (3 : Int32)))] tz := fun tz kt => by
        show oS p e below s₁ m 97 #[rv x1, rv x2, rv x3, iv (1 : Int32), iv x5, iv (1 : Int32), iv (0 : Int32), iv (0 : Int32), iv (x5 &&& (3 : Int32)), .unset] [(.int (1 : Int32)), (.int (x5 &&& (3 : Int32)))] _
        refine XS.icmpNo X0.here hx rfl (hb hby d5_97) rfl (teq hc97).2 ?_
        refine XS.iload X0.here hx rfl (hb hby d5_100) rfl ?_
        refine XS.ifYes X0.here hx rfl (pc0 := 102) (pc' := 121) rfl (hb hby d5_102) rfl ((if0 _ _).trans (teq (by decide : ((0 : Int32) = (0 : Int32)))).1) (by decide) (by decide) ?_
        refine XS.aloadN X0.here hx rfl (hb hby d5_121) rfl rfl ?_
        show oS p e below s₁ m 122 #[rv x1, rv x2, rv x3, iv (1 : Int32), iv x5, iv (1 : Int32), iv (0 : Int32), iv (0 : Int32), iv (x5 &&& (3 : Int32)), .unset] [(.ref x1)] _
        refine XS.aloadN X0.here hx rfl (hb hby d5_122) rfl rfl ?_
        show oS p e below s₁ m 123 #[rv x1, rv x2, rv x3, iv (1 : Int32), iv x5, iv (1 : Int32), iv (0 : Int32), iv (0 : Int32), iv (x5 &&& (3 : Int32)), .unset] [(.ref x3), (.ref x1)] _
        refine st13.trans ?_
        refine XS.iconst X13.here hx rfl (hb hby d5_126) ?_
        refine XS.istore X13.here hx rfl (hb hby d5_127) rfl (l' := #[rv x1, rv x2, rv x3, iv (1 : Int32), iv x5, iv (1 : Int32), iv (1 : Int32), iv (0 : Int32), iv (x5 &&& (3 : Int32)), .unset]) rfl ?_
        refine XS.iload X13.here hx rfl (hb hby d5_129) rfl ?_
        show oS p e below T13 m 131 #[rv x1, rv x2, rv x3, iv (1 : Int32), iv x5, iv (1 : Int32), iv (1 : Int32), iv (0 : Int32), iv (x5 &&& (3 : Int32)), .unset] [(.int (1 : Int32))] _
        refine XS.istore X13.here hx rfl (hb hby d5_131) rfl (l' := #[rv x1, rv x2, rv x3, iv (1 : Int32), iv x5, iv (1 : Int32), iv (1 : Int32), iv (1 : Int32), iv (x5 &&& (3 : Int32)), .unset]) rfl ?_
        refine XS.goto X13.here hx rfl (pc0 := 133) (pc' := 227) rfl (hb hby d5_133) (by decide) (by decide) ?_
        refine XS.iconst X13.here hx rfl (hb hby d5_227) ?_
        refine XS.istore X13.here hx rfl (hb hby d5_228) rfl (l' := #[rv x1, rv x2, rv x3, iv (1 : Int32), iv x5, iv (1 : Int32), iv (1 : Int32), iv (1 : Int32), iv (x5 &&& (3 : Int32)), iv (0 : Int32)]) rfl ?_
        show oS p e below T13 m 230 #[rv x1, rv x2, rv x3, iv (1 : Int32), iv x5, iv (1 : Int32), iv (1 : Int32), iv (1 : Int32), iv (x5 &&& (3 : Int32)), iv (0 : Int32)] [] _
        refine XS.iload X13.here hx rfl (hb hby d5_230) rfl ?_
        refine XS.ifNo X13.here hx rfl (hb hby d5_232) rfl ((if0 _ _).trans (feq (by decide : ¬ ((1 : Int32) = (0 : Int32)))).1) ?_
        refine XS.iload X13.here hx rfl (hb hby d5_235) rfl ?_
        refine XS.iconst X13.here hx rfl (hb hby d5_237) ?_
        show oS p e below T13 m 238 #[rv x1, rv x2, rv x3, iv (1 : Int32), iv x5, iv (1 : Int32), iv (1 : Int32), iv (1 : Int32), iv (x5 &&& (3 : Int32)), iv (0 : Int32)] [(.int (1 : Int32)), (.int (0 : Int32))] _
        refine XS.ior X13.here hx rfl (hb hby d5_238) rfl ?_
        show oS p e below T13 m 239 #[rv x1, rv x2, rv x3, iv (1 : Int32), iv x5, iv (1 : Int32), iv (1 : Int32), iv (1 : Int32), iv (x5 &&& (3 : Int32)), iv (0 : Int32)] [(.int (1 : Int32))] _
        refine XS.istore X13.here hx rfl (hb hby d5_239) rfl (l' := #[rv x1, rv x2, rv x3, iv (1 : Int32), iv x5, iv (1 : Int32), iv (1 : Int32), iv (1 : Int32), iv (x5 &&& (3 : Int32)), iv (1 : Int32)]) rfl ?_
        refine XS.iload X13.here hx rfl (hb hby d5_241) rfl ?_
        refine XS.ifNo X13.here hx rfl (hb hby d5_243) rfl ((if0 _ _).trans (feq (by decide : ¬ ((1 : Int32) = (0 : Int32)))).1) ?_
        refine XS.iload X13.here hx rfl (hb hby d5_246) rfl ?_
        show oS p e below T13 m 248 #[rv x1, rv x2, rv x3, iv (1 : Int32), iv x5, iv (1 : Int32), iv (1 : Int32), iv (1 : Int32), iv (x5 &&& (3 : Int32)), iv (1 : Int32)] [(.int (1 : Int32))] _
        refine XS.iconst X13.here hx rfl (hb hby d5_248) ?_
        refine XS.ior X13.here hx rfl (hb hby d5_249) rfl ?_
        show oS p e below T13 m 250 #[rv x1, rv x2, rv x3, iv (1 : Int32), iv x5, iv (1 : Int32), iv (1 : Int32), iv (1 : Int32), iv (x5 &&& (3 : Int32)), iv (1 : Int32)] [(.int (3 : Int32))] _
        refine XS.istore X13.here hx rfl (hb hby d5_250) rfl (l' := #[rv x1, rv x2, rv x3, iv (1 : Int32), iv x5, iv (1 : Int32), iv (1 : Int32), iv (1 : Int32), iv (x5 &&& (3 : Int32)), iv (3 : Int32)]) rfl ?_
        refine XS.iload X13.here hx rfl (hb hby d5_252) rfl ?_
        refine XS.ifNo X13.here hx rfl (hb hby d5_254) rfl ((if0 _ _).trans (feq (by decide : ¬ ((1 : Int32) = (0 : Int32)))).1) ?_
        refine XS.iload X13.here hx rfl (hb hby d5_257) rfl ?_
        show oS p e below T13 m 259 #[rv x1, rv x2, rv x3, iv (1 : Int32), iv x5, iv (1 : Int32), iv (1 : Int32), iv (1 : Int32), iv (x5 &&& (3 : Int32)), iv (3 : Int32)] [(.int (3 : Int32))] _
        refine XS.iconst X13.here hx rfl (hb hby d5_259) ?_
        refine XS.ior X13.here hx rfl (hb hby d5_260) rfl ?_
        show oS p e below T13 m 261 #[rv x1, rv x2, rv x3, iv (1 : Int32), iv x5, iv (1 : Int32), iv (1 : Int32), iv (1 : Int32), iv (x5 &&& (3 : Int32)), iv (3 : Int32)] [(.int (7 : Int32))] _
        refine XS.istore X13.here hx rfl (hb hby d5_261) rfl (l' := #[rv x1, rv x2, rv x3, iv (1 : Int32), iv x5, iv (1 : Int32), iv (1 : Int32), iv (1 : Int32), iv (x5 &&& (3 : Int32)), iv (7 : Int32)]) rfl ?_
        refine XS.iload X13.here hx rfl (hb hby d5_263) rfl ?_
        exact kt
      have KP15 : Keep h0 T13.heap [x1, x2, x3] := ((Keep.refl h0 [x1, x2, x3]).trans K13 (allS (Or.inl (List.mem_of_getElem? (i := 0) rfl)) (allS (Or.inl (List.mem_of_getElem? (i := 2) rfl)) (allS (Or.inl (List.mem_of_getElem? (i := 1) rfl)) all0))))
      have Ec16 : Exa Z T13.heap x1 oz1 := (E_x1.keep K13)
      have Ec17 : Exa Z T13.heap x2 oz0 := (E_x2.keep K13)
      have Ec18 : Exa Z T13.heap x3 oz0 := (E_x3.keep K13)
      obtain ⟨fs, hr, hrun, hended, hW, hsame⟩ := X13.leave (v := some (.int (7 : Int32))) (fun h => by rw [Bd.returns] at h; cases h)
      refine ⟨_, _, pre0 _ (pre1 _ (pre12 _ (pre14 _ ?_))), hrun, hended, _, _, rfl, ?_, ⟨_, rfl⟩, hW, hsame.mono (by decide) (by decide)⟩
      · show oS p e below T13 m 265 #[rv x1, rv x2, rv x3, iv (1 : Int32), iv x5, iv (1 : Int32), iv (1 : Int32), iv (1 : Int32), iv (x5 &&& (3 : Int32)), iv (7 : Int32)] [(.int (7 : Int32))] _
        exact retOut X13 hx Bd.returns rfl (Or.inl ⟨rfl, Or.inl rfl, _, rfl⟩) (hb hby d5_265) hr
      · show QS1 Z x1 x2 x3 x5 h0 n0 _ T13.heap _
        exact ⟨(7 : Int32), rfl, N13, KP15, (by decide), (Or.inr (Or.inr (Or.inr (Or.inr ⟨rfl, Ec16, Ec17, Ec18, pf13_0, pf13_1, pf13_5, pf13_6, pf13_7, pf13_2, pf13_3, pf13_4⟩))))⟩
    · have pre19 : ∀ tz, oS p e below s₁ m 139 #[rv x1, rv x2, rv x3, iv (1 : Int32), iv x5, iv (1 : Int32), iv (0 : Int32), iv (0 : Int32), iv (x5 &&& (3 : Int32)), .unset] [(.int (2 : Int32)), (.int (x5 &&& (3 : Int32)))] tz → oS p e below s₁ m 97 #[rv x1, rv x2, rv x3, iv (1 : Int32), iv x5, iv (1 : Int32), iv (0 : Int32), iv (0 : Int32), iv (x5 &&& (3 : Int32)), .unset] [(.int (1 : Int32)), (.int (x5 &&& (3 : Int32)))] tz := fun tz kt => by
        show oS p e below s₁ m 97 #[rv x1, rv x2, rv x3, iv (1 : Int32), iv x5, iv (1 : Int32), iv (0 : Int32), iv (0 : Int32), iv (x5 &&& (3 : Int32)), .unset] [(.int (1 : Int32)), (.int (x5 &&& (3 : Int32)))] _
        refine XS.icmpYes X0.here hx rfl (pc0 := 97) (pc' := 136) rfl (hb hby d5_97) rfl (feq hc97).2 (by decide) (by decide) ?_
        refine XS.iload X0.here hx rfl (hb hby d5_136) rfl ?_
        refine XS.iconst X0.here hx rfl (hb hby d5_138) ?_
        exact kt
      by_cases hc139 : (x5 &&& (3 : Int32)) = (2 : Int32)
      · obtain ⟨cq20, kq20, q20a, q20b, q20c⟩ := isOf hZ e0 E_x1
        obtain ⟨_, _, ⟨T20, Lw20, kw20, nw20⟩, -, X20, ⟨Lc20, hQ20, l20, y20, z20⟩, st20⟩ := X0.virtualBack hx (y := (⟨oz1, "poll", oz8⟩ : MethodName)) (z := (⟨oz1, "poll", oz8⟩ : MethodName)) hown (mvT hZ (own_w hw 57 rfl)) (mvT hZ (own_w hw 58 rfl)) (notFace_of_selects (args := #[]) (mvT hZ (own_w hw 60 rfl))) (mvT hZ (own_w hw 60 rfl)) (mvT hZ (own_w hw 59 rfl)) (by decide) (backOf (W := 0) (rmP00 l Z a0 hw [] x1 (.ref x2) (.ref x1) x2 h0 n0 Z0 E_x1 E_x2 g_x1 g_x2 F_first_x1 F_last_x1 F_in_x2 F_before_x2 F_after_x2) hZ (own_w hw 61 rfl) (own_w hw 2 rfl) (by decide) (by decide)) q20a q20c (g := (mkF m 143 #[rv x1, rv x2, rv x3, iv (1 : Int32), iv x5, iv (1 : Int32), iv (0 : Int32), iv (0 : Int32), iv (x5 &&& (3 : Int32)), .unset] [(.ref x1)])) rfl (by rw [hml]; rfl) (Steps.refl _) (argsL := []) (rest := []) (lenOf own_pd1 rfl) rfl (by show 2 * 0 + _ ≤ _; exact Nat.le_of_eq rfl) (hb hby d5_143) (fun _ _ => ⟨rfl, e0, (by decide : 0 + 0 ≤ _), (by decide : 0 + 0 ≤ _)⟩)
        dsimp only [Pt.U, Pt.locs, Pt.cells, Pt.slots] at X20 l20 y20 z20 st20 hQ20
        subst l20 y20 z20
        obtain ⟨rfl, Nq20, K20, pf20_0, pf20_1, pf20_2, pf20_3, pf20_4⟩ := hQ20
        have N20 := Fr.app N0 Nq20
        have pre21 : ∀ tz, oS p e below T20 m 265 #[rv x1, rv x2, rv x3, iv (1 : Int32), iv x5, iv (0 : Int32), iv (0 : Int32), iv (0 : Int32), iv (x5 &&& (3 : Int32)), iv (0 : Int32)] [(.int (0 : Int32))] tz → oS p e below s₁ m 139 #[rv x1, rv x2, rv x3, iv (1 : Int32), iv x5, iv (1 : Int32), iv (0 : Int32), iv (0 : Int32), iv (x5 &&& (3 : Int32)), .unset] [(.int (2 : Int32)), (.int (x5 &&& (3 : Int32)))] tz := fun tz kt => by
          show oS p e below s₁ m 139 #[rv x1, rv x2, rv x3, iv (1 : Int32), iv x5, iv (1 : Int32), iv (0 : Int32), iv (0 : Int32), iv (x5 &&& (3 : Int32)), .unset] [(.int (2 : Int32)), (.int (x5 &&& (3 : Int32)))] _
          refine XS.icmpNo X0.here hx rfl (hb hby d5_139) rfl (teq hc139).2 ?_
          refine XS.aloadN X0.here hx rfl (hb hby d5_142) rfl rfl ?_
          show oS p e below s₁ m 143 #[rv x1, rv x2, rv x3, iv (1 : Int32), iv x5, iv (1 : Int32), iv (0 : Int32), iv (0 : Int32), iv (x5 &&& (3 : Int32)), .unset] [(.ref x1)] _
          refine st20.trans ?_
          refine XS.astore X20.here hx rfl (hb hby d5_146) rfl rfl (l' := #[rv x1, rv x2, rv x3, iv (1 : Int32), iv x5, iv (1 : Int32), iv (0 : Int32), iv (0 : Int32), iv (x5 &&& (3 : Int32)), rv x2]) rfl ?_
          refine XS.iload X20.here hx rfl (hb hby d5_148) rfl ?_
          refine XS.ifYes X20.here hx rfl (pc0 := 150) (pc' := 165) rfl (hb hby d5_150) rfl ((if0 _ _).trans (feq (by decide : ¬ ((1 : Int32) = (0 : Int32)))).2) (by decide) (by decide) ?_
          show oS p e below T20 m 165 #[rv x1, rv x2, rv x3, iv (1 : Int32), iv x5, iv (1 : Int32), iv (0 : Int32), iv (0 : Int32), iv (x5 &&& (3 : Int32)), rv x2] [] _
          refine XS.iload X20.here hx rfl (hb hby d5_165) rfl ?_
          refine XS.ifNo X20.here hx rfl (hb hby d5_167) rfl ((if0 _ _).trans (feq (by decide : ¬ ((1 : Int32) = (0 : Int32)))).1) ?_
          refine XS.iload X20.here hx rfl (hb hby d5_170) rfl ?_
          refine XS.ifYes X20.here hx rfl (pc0 := 172) (pc' := 180) rfl (hb hby d5_172) rfl ((if0 _ _).trans (teq (by decide : ((0 : Int32) = (0 : Int32)))).1) (by decide) (by decide) ?_
          show oS p e below T20 m 180 #[rv x1, rv x2, rv x3, iv (1 : Int32), iv x5, iv (1 : Int32), iv (0 : Int32), iv (0 : Int32), iv (x5 &&& (3 : Int32)), rv x2] [] _
          refine XS.aload X20.here hx rfl (hb hby d5_180) rfl rfl ?_
          refine XS.aloadN X20.here hx rfl (hb hby d5_182) rfl rfl ?_
          refine Jvm.RoadKit.acmp (g := (mkF m 183 #[rv x1, rv x2, rv x3, iv (1 : Int32), iv x5, iv (1 : Int32), iv (0 : Int32), iv (0 : Int32), iv (x5 &&& (3 : Int32)), rv x2] [(.ref x2), (.ref x2)])) X20 hx rfl rfl rfl (pc0 := 183) (pc' := 188) (same := true) rfl (hb hby d5_183) rfl (decide_eq_true rfl) (by decide) (by decide) ?_
          refine XS.iconst X20.here hx rfl (hb hby d5_188) ?_
          show oS p e below T20 m 189 #[rv x1, rv x2, rv x3, iv (1 : Int32), iv x5, iv (1 : Int32), iv (0 : Int32), iv (0 : Int32), iv (x5 &&& (3 : Int32)), rv x2] [(.int (0 : Int32))] _
          refine XS.istore X20.here hx rfl (hb hby d5_189) rfl (l' := #[rv x1, rv x2, rv x3, iv (1 : Int32), iv x5, iv (0 : Int32), iv (0 : Int32), iv (0 : Int32), iv (x5 &&& (3 : Int32)), rv x2]) rfl ?_
          refine XS.goto X20.here hx rfl (pc0 := 191) (pc' := 205) rfl (hb hby d5_191) (by decide) (by decide) ?_
          refine XS.goto X20.here hx rfl (pc0 := 205) (pc' := 227) rfl (hb hby d5_205) (by decide) (by decide) ?_
          refine XS.iconst X20.here hx rfl (hb hby d5_227) ?_
          show oS p e below T20 m 228 #[rv x1, rv x2, rv x3, iv (1 : Int32), iv x5, iv (0 : Int32), iv (0 : Int32), iv (0 : Int32), iv (x5 &&& (3 : Int32)), rv x2] [(.int (0 : Int32))] _
          refine XS.istore X20.here hx rfl (hb hby d5_228) rfl (l' := #[rv x1, rv x2, rv x3, iv (1 : Int32), iv x5, iv (0 : Int32), iv (0 : Int32), iv (0 : Int32), iv (x5 &&& (3 : Int32)), iv (0 : Int32)]) rfl ?_
          refine XS.iload X20.here hx rfl (hb hby d5_230) rfl ?_
          refine XS.ifYes X20.here hx rfl (pc0 := 232) (pc' := 241) rfl (hb hby d5_232) rfl ((if0 _ _).trans (teq (by decide : ((0 : Int32) = (0 : Int32)))).1) (by decide) (by decide) ?_
          refine XS.iload X20.here hx rfl (hb hby d5_241) rfl ?_
          show oS p e below T20 m 243 #[rv x1, rv x2, rv x3, iv (1 : Int32), iv x5, iv (0 : Int32), iv (0 : Int32), iv (0 : Int32), iv (x5 &&& (3 : Int32)), iv (0 : Int32)] [(.int (0 : Int32))] _
          refine XS.ifYes X20.here hx rfl (pc0 := 243) (pc' := 252) rfl (hb hby d5_243) rfl ((if0 _ _).trans (teq (by decide : ((0 : Int32) = (0 : Int32)))).1) (by decide) (by decide) ?_
          refine XS.iload X20.here hx rfl (hb hby d5_252) rfl ?_
          refine XS.ifYes X20.here hx rfl (pc0 := 254) (pc' := 263) rfl (hb hby d5_254) rfl ((if0 _ _).trans (teq (by decide : ((0 : Int32) = (0 : Int32)))).1) (by decide) (by decide) ?_
          refine XS.iload X20.here hx rfl (hb hby d5_263) rfl ?_
          exact kt
        have KP22 : Keep h0 T20.heap [x1, x2, x3] := ((Keep.refl h0 [x1, x2, x3]).trans K20 (allS (Or.inl (List.mem_of_getElem? (i := 0) rfl)) (allS (Or.inl (List.mem_of_getElem? (i := 1) rfl)) all0)))
        have Ec23 : Exa Z T20.heap x1 oz1 := (E_x1.keep K20)
        have Ec24 : Exa Z T20.heap x2 oz0 := (E_x2.keep K20)
        have Ec25 : Exa Z T20.heap x3 oz0 := (E_x3.keep K20)
        have ne26 : x3 ≠ x1 := ne_exa Ec25 Ec23 (by decide)
        have Fc27 : Fld Z T20.heap x3 oz0 "in" oz3 .null := (F_in_x3.keep K20 (ninS ne26 (ninS (Ne.symm ne_x2_x3) nin0)))
        have Fc28 : Fld Z T20.heap x3 oz0 "before" oz2 .null := (F_before_x3.keep K20 (ninS ne26 (ninS (Ne.symm ne_x2_x3) nin0)))
        have Fc29 : Fld Z T20.heap x3 oz0 "after" oz2 .null := (F_after_x3.keep K20 (ninS ne26 (ninS (Ne.symm ne_x2_x3) nin0)))
        obtain ⟨fs, hr, hrun, hended, hW, hsame⟩ := X20.leave (v := some (.int (0 : Int32))) (fun h => by rw [Bd.returns] at h; cases h)
        refine ⟨_, _, pre0 _ (pre1 _ (pre12 _ (pre19 _ (pre21 _ ?_)))), hrun, hended, _, _, rfl, ?_, ⟨_, rfl⟩, hW, hsame.mono (by decide) (by decide)⟩
        · show oS p e below T20 m 265 #[rv x1, rv x2, rv x3, iv (1 : Int32), iv x5, iv (0 : Int32), iv (0 : Int32), iv (0 : Int32), iv (x5 &&& (3 : Int32)), iv (0 : Int32)] [(.int (0 : Int32))] _
          exact retOut X20 hx Bd.returns rfl (Or.inl ⟨rfl, Or.inl rfl, _, rfl⟩) (hb hby d5_265) hr
        · show QS1 Z x1 x2 x3 x5 h0 n0 _ T20.heap _
          exact ⟨(0 : Int32), rfl, N20, KP22, (by decide), (Or.inl ⟨(Or.inl rfl), Ec23, Ec24, Ec25, pf20_0, pf20_1, pf20_2, pf20_3, pf20_4, Fc27, Fc28, Fc29⟩)⟩
      · obtain ⟨cq30, kq30, q30a, q30b, q30c⟩ := isOf hZ e0 E_x1
        obtain ⟨_, _, ⟨T30, Lw30, kw30, nw30⟩, -, X30, ⟨Lc30, hQ30, l30, y30, z30⟩, st30⟩ := X0.virtualBack hx (y := (⟨oz1, "remove", oz5⟩ : MethodName)) (z := (⟨oz1, "remove", oz5⟩ : MethodName)) hown (mvT hZ (own_w hw 46 rfl)) (mvT hZ (own_w hw 47 rfl)) (notFace_of_selects (args := #[]) (mvT hZ (own_w hw 49 rfl))) (mvT hZ (own_w hw 49 rfl)) (mvT hZ (own_w hw 48 rfl)) (by decide) (backOf (W := 0) (rmR00 l Z a0 hw [] x1 x2 (.ref x2) (.ref x2) h0 n0 Z0 E_x1 E_x2 g_x1 g_x2 F_first_x1 F_last_x1 F_in_x2 F_before_x2 F_after_x2) hZ (own_w hw 50 rfl) (own_w hw 2 rfl) (by decide) (by decide)) q30a q30c (g := (mkF m 210 #[rv x1, rv x2, rv x3, iv (1 : Int32), iv x5, iv (1 : Int32), iv (0 : Int32), iv (0 : Int32), iv (x5 &&& (3 : Int32)), .unset] [(.ref x2), (.ref x1)])) rfl (by rw [hml]; rfl) (Steps.refl _) (argsL := [(.ref x2)]) (rest := []) (lenOf own_pd2 rfl) rfl (by show 2 * 0 + _ ≤ _; exact Nat.le_of_eq rfl) (hb hby d5_210) (fun _ _ => ⟨rfl, e0, (by decide : 0 + 0 ≤ _), (by decide : 0 + 0 ≤ _)⟩)
        dsimp only [Pt.U, Pt.locs, Pt.cells, Pt.slots] at X30 l30 y30 z30 st30 hQ30
        subst l30 y30 z30
        obtain ⟨rfl, Nq30, K30, pf30_0, pf30_1, pf30_2, pf30_3, pf30_4⟩ := hQ30
        have N30 := Fr.app N0 Nq30
        have pre31 : ∀ tz, oS p e below T30 m 265 #[rv x1, rv x2, rv x3, iv (1 : Int32), iv x5, iv (0 : Int32), iv (0 : Int32), iv (0 : Int32), iv (x5 &&& (3 : Int32)), iv (0 : Int32)] [(.int (0 : Int32))] tz → oS p e below s₁ m 139 #[rv x1, rv x2, rv x3, iv (1 : Int32), iv x5, iv (1 : Int32), iv (0 : Int32), iv (0 : Int32), iv (x5 &&& (3 : Int32)), .unset] [(.int (2 : Int32)), (.int (x5 &&& (3 : Int32)))] tz := fun tz kt => by
          show oS p e below s₁ m 139 #[rv x1, rv x2, rv x3, iv (1 : Int32), iv x5, iv (1 : Int32), iv (0 : Int32), iv (0 : Int32), iv (x5 &&& (3 : Int32)), .unset] [(.int (2 : Int32)), (.int (x5 &&& (3 : Int32)))] _
          refine XS.icmpYes X0.here hx rfl (pc0 := 139) (pc' := 208) rfl (hb hby d5_139) rfl (feq hc139).2 (by decide) (by decide) ?_
          refine XS.aloadN X0.here hx rfl (hb hby d5_208) rfl rfl ?_
          refine XS.aloadN X0.here hx rfl (hb hby d5_209) rfl rfl ?_
          show oS p e below s₁ m 210 #[rv x1, rv x2, rv x3, iv (1 : Int32), iv x5, iv (1 : Int32), iv (0 : Int32), iv (0 : Int32), iv (x5 &&& (3 : Int32)), .unset] [(.ref x2), (.ref x1)] _
          refine st30.trans ?_
          refine XS.istore X30.here hx rfl (hb hby d5_213) rfl (l' := #[rv x1, rv x2, rv x3, iv (1 : Int32), iv x5, iv (1 : Int32), iv (0 : Int32), iv (0 : Int32), iv (x5 &&& (3 : Int32)), iv (1 : Int32)]) rfl ?_
          refine XS.iload X30.here hx rfl (hb hby d5_215) rfl ?_
          refine XS.iload X30.here hx rfl (hb hby d5_217) rfl ?_
          show oS p e below T30 m 219 #[rv x1, rv x2, rv x3, iv (1 : Int32), iv x5, iv (1 : Int32), iv (0 : Int32), iv (0 : Int32), iv (x5 &&& (3 : Int32)), iv (1 : Int32)] [(.int (1 : Int32)), (.int (1 : Int32))] _
          refine XS.icmpYes X30.here hx rfl (pc0 := 219) (pc' := 224) rfl (hb hby d5_219) rfl (teq (by decide : ((1 : Int32) = (1 : Int32)))).1 (by decide) (by decide) ?_
          refine XS.iconst X30.here hx rfl (hb hby d5_224) ?_
          refine XS.istore X30.here hx rfl (hb hby d5_225) rfl (l' := #[rv x1, rv x2, rv x3, iv (1 : Int32), iv x5, iv (0 : Int32), iv (0 : Int32), iv (0 : Int32), iv (x5 &&& (3 : Int32)), iv (1 : Int32)]) rfl ?_
          refine XS.iconst X30.here hx rfl (hb hby d5_227) ?_
          show oS p e below T30 m 228 #[rv x1, rv x2, rv x3, iv (1 : Int32), iv x5, iv (0 : Int32), iv (0 : Int32), iv (0 : Int32), iv (x5 &&& (3 : Int32)), iv (1 : Int32)] [(.int (0 : Int32))] _
          refine XS.istore X30.here hx rfl (hb hby d5_228) rfl (l' := #[rv x1, rv x2, rv x3, iv (1 : Int32), iv x5, iv (0 : Int32), iv (0 : Int32), iv (0 : Int32), iv (x5 &&& (3 : Int32)), iv (0 : Int32)]) rfl ?_
          refine XS.iload X30.here hx rfl (hb hby d5_230) rfl ?_
          refine XS.ifYes X30.here hx rfl (pc0 := 232) (pc' := 241) rfl (hb hby d5_232) rfl ((if0 _ _).trans (teq (by decide : ((0 : Int32) = (0 : Int32)))).1) (by decide) (by decide) ?_
          refine XS.iload X30.here hx rfl (hb hby d5_241) rfl ?_
          show oS p e below T30 m 243 #[rv x1, rv x2, rv x3, iv (1 : Int32), iv x5, iv (0 : Int32), iv (0 : Int32), iv (0 : Int32), iv (x5 &&& (3 : Int32)), iv (0 : Int32)] [(.int (0 : Int32))] _
          refine XS.ifYes X30.here hx rfl (pc0 := 243) (pc' := 252) rfl (hb hby d5_243) rfl ((if0 _ _).trans (teq (by decide : ((0 : Int32) = (0 : Int32)))).1) (by decide) (by decide) ?_
          refine XS.iload X30.here hx rfl (hb hby d5_252) rfl ?_
          refine XS.ifYes X30.here hx rfl (pc0 := 254) (pc' := 263) rfl (hb hby d5_254) rfl ((if0 _ _).trans (teq (by decide : ((0 : Int32) = (0 : Int32)))).1) (by decide) (by decide) ?_
          refine XS.iload X30.here hx rfl (hb hby d5_263) rfl ?_
          exact kt
        have KP32 : Keep h0 T30.heap [x1, x2, x3] := ((Keep.refl h0 [x1, x2, x3]).trans K30 (allS (Or.inl (List.mem_of_getElem? (i := 0) rfl)) (allS (Or.inl (List.mem_of_getElem? (i := 1) rfl)) all0)))
        have Ec33 : Exa Z T30.heap x1 oz1 := (E_x1.keep K30)
        have Ec34 : Exa Z T30.heap x2 oz0 := (E_x2.keep K30)
        have Ec35 : Exa Z T30.heap x3 oz0 := (E_x3.keep K30)
        have ne36 : x3 ≠ x1 := ne_exa Ec35 Ec33 (by decide)
        have Fc37 : Fld Z T30.heap x3 oz0 "in" oz3 .null := (F_in_x3.keep K30 (ninS ne36 (ninS (Ne.symm ne_x2_x3) nin0)))
        have Fc38 : Fld Z T30.heap x3 oz0 "before" oz2 .null := (F_before_x3.keep K30 (ninS ne36 (ninS (Ne.symm ne_x2_x3) nin0)))
        have Fc39 : Fld Z T30.heap x3 oz0 "after" oz2 .null := (F_after_x3.keep K30 (ninS ne36 (ninS (Ne.symm ne_x2_x3) nin0)))
        obtain ⟨fs, hr, hrun, hended, hW, hsame⟩ := X30.leave (v := some (.int (0 : Int32))) (fun h => by rw [Bd.returns] at h; cases h)
        refine ⟨_, _, pre0 _ (pre1 _ (pre12 _ (pre19 _ (pre31 _ ?_)))), hrun, hended, _, _, rfl, ?_, ⟨_, rfl⟩, hW, hsame.mono (by decide) (by decide)⟩
        · show oS p e below T30 m 265 #[rv x1, rv x2, rv x3, iv (1 : Int32), iv x5, iv (0 : Int32), iv (0 : Int32), iv (0 : Int32), iv (x5 &&& (3 : Int32)), iv (0 : Int32)] [(.int (0 : Int32))] _
          exact retOut X30 hx Bd.returns rfl (Or.inl ⟨rfl, Or.inl rfl, _, rfl⟩) (hb hby d5_265) hr
        · show QS1 Z x1 x2 x3 x5 h0 n0 _ T30.heap _
          exact ⟨(0 : Int32), rfl, N30, KP32, (by decide), (Or.inl ⟨(Or.inl rfl), Ec33, Ec34, Ec35, pf30_0, pf30_1, pf30_2, pf30_3, pf30_4, Fc37, Fc38, Fc39⟩)⟩
theorem d5_19 : decode method_3_code 19 = .ok (.iconst 1, 1) := by decide +kernel
theorem d5_20 : decode method_3_code 20 = .ok (.goto 4, 3) := by decide +kernel
theorem d5_88 : decode method_3_code 88 = .ok (.iconst 0, 1) := by decide +kernel
theorem d5_105 : decode method_3_code 105 = .ok (.aload_n 0, 1) := by decide +kernel
theorem d5_106 : decode method_3_code 106 = .ok (.aload_n 2, 1) := by decide +kernel
theorem d5_107 : decode method_3_code 107 = .ok (.invokevirtual 25, 3) := by decide +kernel
theorem d5_110 : decode method_3_code 110 = .ok (.ifCond .ne 5, 3) := by decide +kernel
theorem d5_115 : decode method_3_code 115 = .ok (.iconst 0, 1) := by decide +kernel
theorem d5_116 : decode method_3_code 116 = .ok (.istore 6, 2) := by decide +kernel
theorem d5_118 : decode method_3_code 118 = .ok (.goto 109, 3) := by decide +kernel
theorem d5_194 : decode method_3_code 194 = .ok (.aload 9, 2) := by decide +kernel
theorem d5_196 : decode method_3_code 196 = .ok (.aload_n 2, 1) := by decide +kernel
theorem d5_197 : decode method_3_code 197 = .ok (.if_acmp .eq 5, 3) := by decide +kernel
theorem d5_202 : decode method_3_code 202 = .ok (.iconst 0, 1) := by decide +kernel
theorem d5_203 : decode method_3_code 203 = .ok (.istore 6, 2) := by decide +kernel
theorem efS2 (m : MethodId) (x1 : Addr) (x2 : Addr) (x3 : Addr) (x5 : Int32) : entryFrame m #[(.ref x1), (.ref x2), (.ref x3), (.int (2 : Int32)), (.int x5)] 10 = mkF m 0 #[rv x1, rv x2, rv x3, iv (2 : Int32), iv x5, .unset, .unset, .unset, .unset, .unset] [] := by first | (simp [entryFrame, mkF, argsToLocals, Value.category]; done) | rfl
def QS2 (Z : State) (x1 : Addr) (x2 : Addr) (x3 : Addr) (x5 : Int32) (h0 : Heap) (n0 : Nat) (v : Option Value) (h : Heap) (L : List Loc) : Prop := ∃ (s : Int32), v = some (.int s) ∧ Fr n0 L ∧ Keep h0 h [x1, x2, x3] ∧ (¬ s < (0 : Int32)) ∧ (own_Sh Z h x1 x2 x3 s)
set_option maxRecDepth 65536 in
set_option maxHeartbeats 40000000 in
theorem rmS2 (l : Launch) (Z : State) (a0 : Array Value) (hw : ∀ d ∈ tables_1, d.before a0 Z = true) (ws : List Jvm.Cond) (x1 : Addr) (x2 : Addr) (x3 : Addr) (x5 : Int32) (h0 : Heap) (n0 : Nat) (Z0 : n0 ≤ h0.size) (E_x1 : Exa Z h0 x1 oz1) (E_x2 : Exa Z h0 x2 oz0) (E_x3 : Exa Z h0 x3 oz0) (g_x1 : n0 ≤ x1) (g_x2 : n0 ≤ x2) (g_x3 : n0 ≤ x3) (ne_x2_x3 : x2 ≠ x3) (F_first_x1 : Fld Z h0 x1 oz1 "first" oz2 (.ref x3)) (F_last_x1 : Fld Z h0 x1 oz1 "last" oz2 (.ref x3)) (F_in_x2 : Fld Z h0 x2 oz0 "in" oz3 .null) (F_before_x2 : Fld Z h0 x2 oz0 "before" oz2 .null) (F_after_x2 : Fld Z h0 x2 oz0 "after" oz2 .null) (F_in_x3 : Fld Z h0 x3 oz0 "in" oz3 (.ref x1)) (F_before_x3 : Fld Z h0 x3 oz0 "before" oz2 .null) (F_after_x3 : Fld Z h0 x3 oz0 "after" oz2 .null) :
    MetFree l (⟨oz6, "step", oz4⟩ : MethodName) (head1 (Jvm.Cond.code (⟨oz6, "step", oz4⟩ : MethodName) method_3_code 10 (some .int) :: ws) ({ frames := 2, cells := 0, slots := 0, locals := 44 } : Room)) (fun a U => a = #[(.ref x1), (.ref x2), (.ref x3), (.int (2 : Int32)), (.int x5)] ∧ Z.Warmed39 U.vm ∧ U.heap = h0) (fun _ _ _ _ _ => True) (fun _ U oc U' => ∃ v L, oc = .returned v ∧ QS2 Z x1 x2 x3 x5 h0 n0 v U'.heap L ∧ FrameEnd U oc U' L ({ frames := 2, cells := 0, slots := 0, locals := 44 } : Room).cells ({ frames := 2, cells := 0, slots := 0, locals := 44 } : Room).slots) := by
  refine MetFree.of_bodySF (plainFor_of_name own_pn2) hisR ?_
  intro p e s m args below meth c s₁ Bd hml0 hP hK
  obtain ⟨rfl, hZ, hh⟩ := hP
  have hx := Bd.exec
  have hby := Bd.bytes
  have hml : c.maxLocals = 10 := hml0
  have hown : s.vm.findClass oz6 = some m.cls := findClass_of_methodNamed Bd.named
  have hnm := (name_of_methodNamed Bd.named Bd.method).1
  have X0 : Stand p l e ({ frames := 2, cells := 0, slots := 0, locals := 44 } : Room) s m #[(.ref x1), (.ref x2), (.ref x3), (.int (2 : Int32)), (.int x5)] below meth c s₁ [] 0 0 := Stand.of_body Bd
  have e0 : s₁.heap = h0 := by rw [← hh, Bd.state]; rfl
  have N0 := Fr.nil n0
  have pre0 : ∀ t, Steps p.tables e below (s₁.setTop (mkF m 0 #[rv x1, rv x2, rv x3, iv (2 : Int32), iv x5, .unset, .unset, .unset, .unset, .unset] [])) t → Steps p.tables e below (s₁.setTop (entryFrame m #[(.ref x1), (.ref x2), (.ref x3), (.int (2 : Int32)), (.int x5)] 10)) t := fun t k => castTop (efS2 m x1 x2 x3 x5) k
  have pre1 : ∀ tz, oS p e below s₁ m 47 #[rv x1, rv x2, rv x3, iv (2 : Int32), iv x5, iv (0 : Int32), iv (1 : Int32), iv (0 : Int32), iv (x5 &&& (3 : Int32)), .unset] [(.int (x5 &&& (3 : Int32)))] tz → oS p e below s₁ m 0 #[rv x1, rv x2, rv x3, iv (2 : Int32), iv x5, .unset, .unset, .unset, .unset, .unset] [] tz := fun tz kt => by
    show oS p e below s₁ m 0 #[rv x1, rv x2, rv x3, iv (2 : Int32), iv x5, .unset, .unset, .unset, .unset, .unset] [] _
    refine XS.iloadN X0.here hx rfl (hb hby d5_0) rfl ?_
    refine XS.iconst X0.here hx rfl (hb hby d5_1) ?_
    refine XS.iand X0.here hx rfl (hb hby d5_2) rfl ?_
    show oS p e below s₁ m 3 #[rv x1, rv x2, rv x3, iv (2 : Int32), iv x5, .unset, .unset, .unset, .unset, .unset] [(.int (0 : Int32))] _
    refine XS.ifYes X0.here hx rfl (pc0 := 3) (pc' := 10) rfl (hb hby d5_3) rfl ((if0 _ _).trans (teq (by decide : ((0 : Int32) = (0 : Int32)))).1) (by decide) (by decide) ?_
    refine XS.iconst X0.here hx rfl (hb hby d5_10) ?_
    refine XS.istore X0.here hx rfl (hb hby d5_11) rfl (l' := #[rv x1, rv x2, rv x3, iv (2 : Int32), iv x5, iv (0 : Int32), .unset, .unset, .unset, .unset]) rfl ?_
    refine XS.iloadN X0.here hx rfl (hb hby d5_13) rfl ?_
    show oS p e below s₁ m 14 #[rv x1, rv x2, rv x3, iv (2 : Int32), iv x5, iv (0 : Int32), .unset, .unset, .unset, .unset] [(.int (2 : Int32))] _
    refine XS.iconst X0.here hx rfl (hb hby d5_14) ?_
    refine XS.iand X0.here hx rfl (hb hby d5_15) rfl ?_
    show oS p e below s₁ m 16 #[rv x1, rv x2, rv x3, iv (2 : Int32), iv x5, iv (0 : Int32), .unset, .unset, .unset, .unset] [(.int (2 : Int32))] _
    refine XS.ifNo X0.here hx rfl (hb hby d5_16) rfl ((if0 _ _).trans (feq (by decide : ¬ ((2 : Int32) = (0 : Int32)))).1) ?_
    refine XS.iconst X0.here hx rfl (hb hby d5_19) ?_
    refine XS.goto X0.here hx rfl (pc0 := 20) (pc' := 24) rfl (hb hby d5_20) (by decide) (by decide) ?_
    refine XS.istore X0.here hx rfl (hb hby d5_24) rfl (l' := #[rv x1, rv x2, rv x3, iv (2 : Int32), iv x5, iv (0 : Int32), iv (1 : Int32), .unset, .unset, .unset]) rfl ?_
    show oS p e below s₁ m 26 #[rv x1, rv x2, rv x3, iv (2 : Int32), iv x5, iv (0 : Int32), iv (1 : Int32), .unset, .unset, .unset] [] _
    refine XS.iloadN X0.here hx rfl (hb hby d5_26) rfl ?_
    refine XS.iconst X0.here hx rfl (hb hby d5_27) ?_
    refine XS.iand X0.here hx rfl (hb hby d5_28) rfl ?_
    show oS p e below s₁ m 29 #[rv x1, rv x2, rv x3, iv (2 : Int32), iv x5, iv (0 : Int32), iv (1 : Int32), .unset, .unset, .unset] [(.int (0 : Int32))] _
    refine XS.ifYes X0.here hx rfl (pc0 := 29) (pc' := 36) rfl (hb hby d5_29) rfl ((if0 _ _).trans (teq (by decide : ((0 : Int32) = (0 : Int32)))).1) (by decide) (by decide) ?_
    refine XS.iconst X0.here hx rfl (hb hby d5_36) ?_
    refine XS.istore X0.here hx rfl (hb hby d5_37) rfl (l' := #[rv x1, rv x2, rv x3, iv (2 : Int32), iv x5, iv (0 : Int32), iv (1 : Int32), iv (0 : Int32), .unset, .unset]) rfl ?_
    refine XS.iload X0.here hx rfl (hb hby d5_39) rfl ?_
    show oS p e below s₁ m 41 #[rv x1, rv x2, rv x3, iv (2 : Int32), iv x5, iv (0 : Int32), iv (1 : Int32), iv (0 : Int32), .unset, .unset] [(.int x5)] _
    refine XS.iconst X0.here hx rfl (hb hby d5_41) ?_
    refine XS.iand X0.here hx rfl (hb hby d5_42) rfl ?_
    refine XS.istore X0.here hx rfl (hb hby d5_43) rfl (l' := #[rv x1, rv x2, rv x3, iv (2 : Int32), iv x5, iv (0 : Int32), iv (1 : Int32), iv (0 : Int32), iv (x5 &&& (3 : Int32)), .unset]) rfl ?_
    refine XS.iload X0.here hx rfl (hb hby d5_45) rfl ?_
    exact kt
  by_cases hc47 : (x5 &&& (3 : Int32)) = (0 : Int32)
  · obtain ⟨cq2, kq2, q2a, q2b, q2c⟩ := isOf hZ e0 E_x1
    obtain ⟨_, _, ⟨T2, Lw2, kw2, nw2⟩, -, X2, ⟨Lc2, hQ2, l2, y2, z2⟩, st2⟩ := X0.virtualBack hx (y := (⟨oz1, "add", oz7⟩ : MethodName)) (z := (⟨oz1, "add", oz7⟩ : MethodName)) hown (mvT hZ (own_w hw 35 rfl)) (mvT hZ (own_w hw 36 rfl)) (notFace_of_selects (args := #[]) (mvT hZ (own_w hw 38 rfl))) (mvT hZ (own_w hw 38 rfl)) (mvT hZ (own_w hw 37 rfl)) (by decide) (backOf (W := 0) (rmA1 l Z a0 hw [] x1 x2 (.ref x3) (.ref x1) .null .null x3 h0 n0 Z0 E_x1 E_x2 E_x3 g_x1 g_x2 g_x3 ne_x2_x3 F_first_x1 F_last_x1 F_in_x2 F_before_x2 F_after_x2 F_in_x3 F_before_x3 F_after_x3) hZ (own_w hw 39 rfl) (own_w hw 2 rfl) (by decide) (by decide)) q2a q2c (g := (mkF m 73 #[rv x1, rv x2, rv x3, iv (2 : Int32), iv x5, iv (0 : Int32), iv (1 : Int32), iv (0 : Int32), iv (x5 &&& (3 : Int32)), .unset] [(.ref x2), (.ref x1)])) rfl (by rw [hml]; rfl) (Steps.refl _) (argsL := [(.ref x2)]) (rest := []) (lenOf own_pd0 rfl) rfl (by show 2 * 0 + _ ≤ _; exact Nat.le_of_eq rfl) (hb hby d5_73) (fun _ _ => ⟨rfl, e0, (by decide : 0 + 0 ≤ _), (by decide : 0 + 0 ≤ _)⟩)
    dsimp only [Pt.U, Pt.locs, Pt.cells, Pt.slots] at X2 l2 y2 z2 st2 hQ2
    subst l2 y2 z2
    obtain ⟨rfl, Nq2, K2, pf2_0, pf2_1, pf2_2, pf2_3, pf2_4, pf2_5, pf2_6, pf2_7⟩ := hQ2
    have N2 := Fr.app N0 Nq2
    have pre3 : ∀ tz, oS p e below T2 m 265 #[rv x1, rv x2, rv x3, iv (2 : Int32), iv x5, iv (1 : Int32), iv (1 : Int32), iv (0 : Int32), iv (x5 &&& (3 : Int32)), iv (3 : Int32)] [(.int (3 : Int32))] tz → oS p e below s₁ m 47 #[rv x1, rv x2, rv x3, iv (2 : Int32), iv x5, iv (0 : Int32), iv (1 : Int32), iv (0 : Int32), iv (x5 &&& (3 : Int32)), .unset] [(.int (x5 &&& (3 : Int32)))] tz := fun tz kt => by
      show oS p e below s₁ m 47 #[rv x1, rv x2, rv x3, iv (2 : Int32), iv x5, iv (0 : Int32), iv (1 : Int32), iv (0 : Int32), iv (x5 &&& (3 : Int32)), .unset] [(.int (x5 &&& (3 : Int32)))] _
      refine XS.ifNo X0.here hx rfl (hb hby d5_47) rfl ((if0 _ _).trans (teq hc47).2) ?_
      refine XS.iload X0.here hx rfl (hb hby d5_50) rfl ?_
      refine XS.ifYes X0.here hx rfl (pc0 := 52) (pc' := 71) rfl (hb hby d5_52) rfl ((if0 _ _).trans (teq (by decide : ((0 : Int32) = (0 : Int32)))).1) (by decide) (by decide) ?_
      refine XS.aloadN X0.here hx rfl (hb hby d5_71) rfl rfl ?_
      show oS p e below s₁ m 72 #[rv x1, rv x2, rv x3, iv (2 : Int32), iv x5, iv (0 : Int32), iv (1 : Int32), iv (0 : Int32), iv (x5 &&& (3 : Int32)), .unset] [(.ref x1)] _
      refine XS.aloadN X0.here hx rfl (hb hby d5_72) rfl rfl ?_
      show oS p e below s₁ m 73 #[rv x1, rv x2, rv x3, iv (2 : Int32), iv x5, iv (0 : Int32), iv (1 : Int32), iv (0 : Int32), iv (x5 &&& (3 : Int32)), .unset] [(.ref x2), (.ref x1)] _
      refine st2.trans ?_
      refine XS.iconst X2.here hx rfl (hb hby d5_76) ?_
      refine XS.istore X2.here hx rfl (hb hby d5_77) rfl (l' := #[rv x1, rv x2, rv x3, iv (2 : Int32), iv x5, iv (1 : Int32), iv (1 : Int32), iv (0 : Int32), iv (x5 &&& (3 : Int32)), .unset]) rfl ?_
      refine XS.iload X2.here hx rfl (hb hby d5_79) rfl ?_
      show oS p e below T2 m 81 #[rv x1, rv x2, rv x3, iv (2 : Int32), iv x5, iv (1 : Int32), iv (1 : Int32), iv (0 : Int32), iv (x5 &&& (3 : Int32)), .unset] [(.int (1 : Int32))] _
      refine XS.ifYes X2.here hx rfl (pc0 := 81) (pc' := 88) rfl (hb hby d5_81) rfl ((if0 _ _).trans (feq (by decide : ¬ ((1 : Int32) = (0 : Int32)))).2) (by decide) (by decide) ?_
      refine XS.iconst X2.here hx rfl (hb hby d5_88) ?_
      refine XS.istore X2.here hx rfl (hb hby d5_89) rfl (l' := #[rv x1, rv x2, rv x3, iv (2 : Int32), iv x5, iv (1 : Int32), iv (1 : Int32), iv (0 : Int32), iv (x5 &&& (3 : Int32)), .unset]) rfl ?_
      refine XS.goto X2.here hx rfl (pc0 := 91) (pc' := 227) rfl (hb hby d5_91) (by decide) (by decide) ?_
      show oS p e below T2 m 227 #[rv x1, rv x2, rv x3, iv (2 : Int32), iv x5, iv (1 : Int32), iv (1 : Int32), iv (0 : Int32), iv (x5 &&& (3 : Int32)), .unset] [] _
      refine XS.iconst X2.here hx rfl (hb hby d5_227) ?_
      refine XS.istore X2.here hx rfl (hb hby d5_228) rfl (l' := #[rv x1, rv x2, rv x3, iv (2 : Int32), iv x5, iv (1 : Int32), iv (1 : Int32), iv (0 : Int32), iv (x5 &&& (3 : Int32)), iv (0 : Int32)]) rfl ?_
      refine XS.iload X2.here hx rfl (hb hby d5_230) rfl ?_
      refine XS.ifNo X2.here hx rfl (hb hby d5_232) rfl ((if0 _ _).trans (feq (by decide : ¬ ((1 : Int32) = (0 : Int32)))).1) ?_
      show oS p e below T2 m 235 #[rv x1, rv x2, rv x3, iv (2 : Int32), iv x5, iv (1 : Int32), iv (1 : Int32), iv (0 : Int32), iv (x5 &&& (3 : Int32)), iv (0 : Int32)] [] _
      refine XS.iload X2.here hx rfl (hb hby d5_235) rfl ?_
      refine XS.iconst X2.here hx rfl (hb hby d5_237) ?_
      refine XS.ior X2.here hx rfl (hb hby d5_238) rfl ?_
      show oS p e below T2 m 239 #[rv x1, rv x2, rv x3, iv (2 : Int32), iv x5, iv (1 : Int32), iv (1 : Int32), iv (0 : Int32), iv (x5 &&& (3 : Int32)), iv (0 : Int32)] [(.int (1 : Int32))] _
      refine XS.istore X2.here hx rfl (hb hby d5_239) rfl (l' := #[rv x1, rv x2, rv x3, iv (2 : Int32), iv x5, iv (1 : Int32), iv (1 : Int32), iv (0 : Int32), iv (x5 &&& (3 : Int32)), iv (1 : Int32)]) rfl ?_
      refine XS.iload X2.here hx rfl (hb hby d5_241) rfl ?_
      refine XS.ifNo X2.here hx rfl (hb hby d5_243) rfl ((if0 _ _).trans (feq (by decide : ¬ ((1 : Int32) = (0 : Int32)))).1) ?_
      refine XS.iload X2.here hx rfl (hb hby d5_246) rfl ?_
      show oS p e below T2 m 248 #[rv x1, rv x2, rv x3, iv (2 : Int32), iv x5, iv (1 : Int32), iv (1 : Int32), iv (0 : Int32), iv (x5 &&& (3 : Int32)), iv (1 : Int32)] [(.int (1 : Int32))] _
      refine XS.iconst X2.here hx rfl (hb hby d5_248) ?_
      refine XS.ior X2.here hx rfl (hb hby d5_249) rfl ?_
      show oS p e below T2 m 250 #[rv x1, rv x2, rv x3, iv (2 : Int32), iv x5, iv (1 : Int32), iv (1 : Int32), iv (0 : Int32), iv (x5 &&& (3 : Int32)), iv (1 : Int32)] [(.int (3 : Int32))] _
      refine XS.istore X2.here hx rfl (hb hby d5_250) rfl (l' := #[rv x1, rv x2, rv x3, iv (2 : Int32), iv x5, iv (1 : Int32), iv (1 : Int32), iv (0 : Int32), iv (x5 &&& (3 : Int32)), iv (3 : Int32)]) rfl ?_
      refine XS.iload X2.here hx rfl (hb hby d5_252) rfl ?_
      refine XS.ifYes X2.here hx rfl (pc0 := 254) (pc' := 263) rfl (hb hby d5_254) rfl ((if0 _ _).trans (teq (by decide : ((0 : Int32) = (0 : Int32)))).1) (by decide) (by decide) ?_
      refine XS.iload X2.here hx rfl (hb hby d5_263) rfl ?_
      exact kt
    have KP4 : Keep h0 T2.heap [x1, x2, x3] := ((Keep.refl h0 [x1, x2, x3]).trans K2 (allS (Or.inl (List.mem_of_getElem? (i := 0) rfl)) (allS (Or.inl (List.mem_of_getElem? (i := 1) rfl)) (allS (Or.inl (List.mem_of_getElem? (i := 2) rfl)) all0))))
    have Ec5 : Exa Z T2.heap x1 oz1 := (E_x1.keep K2)
    have Ec6 : Exa Z T2.heap x2 oz0 := (E_x2.keep K2)
    have Ec7 : Exa Z T2.heap x3 oz0 := (E_x3.keep K2)
    obtain ⟨fs, hr, hrun, hended, hW, hsame⟩ := X2.leave (v := some (.int (3 : Int32))) (fun h => by rw [Bd.returns] at h; cases h)
    refine ⟨_, _, pre0 _ (pre1 _ (pre3 _ ?_)), hrun, hended, _, _, rfl, ?_, ⟨_, rfl⟩, hW, hsame.mono (by decide) (by decide)⟩
    · show oS p e below T2 m 265 #[rv x1, rv x2, rv x3, iv (2 : Int32), iv x5, iv (1 : Int32), iv (1 : Int32), iv (0 : Int32), iv (x5 &&& (3 : Int32)), iv (3 : Int32)] [(.int (3 : Int32))] _
      exact retOut X2 hx Bd.returns rfl (Or.inl ⟨rfl, Or.inl rfl, _, rfl⟩) (hb hby d5_265) hr
    · show QS2 Z x1 x2 x3 x5 h0 n0 _ T2.heap _
      exact ⟨(3 : Int32), rfl, N2, KP4, (by decide), (Or.inr (Or.inr (Or.inr (Or.inl ⟨rfl, Ec5, Ec6, Ec7, pf2_0, pf2_1, pf2_2, pf2_3, pf2_4, pf2_5, pf2_6, pf2_7⟩))))⟩
  · have pre8 : ∀ tz, oS p e below s₁ m 97 #[rv x1, rv x2, rv x3, iv (2 : Int32), iv x5, iv (0 : Int32), iv (1 : Int32), iv (0 : Int32), iv (x5 &&& (3 : Int32)), .unset] [(.int (1 : Int32)), (.int (x5 &&& (3 : Int32)))] tz → oS p e below s₁ m 47 #[rv x1, rv x2, rv x3, iv (2 : Int32), iv x5, iv (0 : Int32), iv (1 : Int32), iv (0 : Int32), iv (x5 &&& (3 : Int32)), .unset] [(.int (x5 &&& (3 : Int32)))] tz := fun tz kt => by
      show oS p e below s₁ m 47 #[rv x1, rv x2, rv x3, iv (2 : Int32), iv x5, iv (0 : Int32), iv (1 : Int32), iv (0 : Int32), iv (x5 &&& (3 : Int32)), .unset] [(.int (x5 &&& (3 : Int32)))] _
      refine XS.ifYes X0.here hx rfl (pc0 := 47) (pc' := 94) rfl (hb hby d5_47) rfl ((if0 _ _).trans (feq hc47).2) (by decide) (by decide) ?_
      refine XS.iload X0.here hx rfl (hb hby d5_94) rfl ?_
      refine XS.iconst X0.here hx rfl (hb hby d5_96) ?_
      exact kt
    by_cases hc97 : (x5 &&& (3 : Int32)) = (1 : Int32)
    · obtain ⟨cq9, kq9, q9a, q9b, q9c⟩ := isOf hZ e0 E_x1
      obtain ⟨_, _, ⟨T9, Lw9, kw9, nw9⟩, -, X9, ⟨Lc9, hQ9, l9, y9, z9⟩, st9⟩ := X0.virtualBack hx (y := (⟨oz1, "remove", oz5⟩ : MethodName)) (z := (⟨oz1, "remove", oz5⟩ : MethodName)) hown (mvT hZ (own_w hw 46 rfl)) (mvT hZ (own_w hw 47 rfl)) (notFace_of_selects (args := #[]) (mvT hZ (own_w hw 49 rfl))) (mvT hZ (own_w hw 49 rfl)) (mvT hZ (own_w hw 48 rfl)) (by decide) (backOf (W := 0) (rmR00 l Z a0 hw [] x1 x3 (.ref x3) (.ref x3) h0 n0 Z0 E_x1 E_x3 g_x1 g_x3 F_first_x1 F_last_x1 F_in_x3 F_before_x3 F_after_x3) hZ (own_w hw 50 rfl) (own_w hw 2 rfl) (by decide) (by decide)) q9a q9c (g := (mkF m 107 #[rv x1, rv x2, rv x3, iv (2 : Int32), iv x5, iv (0 : Int32), iv (1 : Int32), iv (0 : Int32), iv (x5 &&& (3 : Int32)), .unset] [(.ref x3), (.ref x1)])) rfl (by rw [hml]; rfl) (Steps.refl _) (argsL := [(.ref x3)]) (rest := []) (lenOf own_pd2 rfl) rfl (by show 2 * 0 + _ ≤ _; exact Nat.le_of_eq rfl) (hb hby d5_107) (fun _ _ => ⟨rfl, e0, (by decide : 0 + 0 ≤ _), (by decide : 0 + 0 ≤ _)⟩)
      dsimp only [Pt.U, Pt.locs, Pt.cells, Pt.slots] at X9 l9 y9 z9 st9 hQ9
      subst l9 y9 z9
      obtain ⟨rfl, Nq9, K9, pf9_0, pf9_1, pf9_2, pf9_3, pf9_4⟩ := hQ9
      have N9 := Fr.app N0 Nq9
      have pre10 : ∀ tz, oS p e below T9 m 265 #[rv x1, rv x2, rv x3, iv (2 : Int32), iv x5, iv (0 : Int32), iv (0 : Int32), iv (0 : Int32), iv (x5 &&& (3 : Int32)), iv (0 : Int32)] [(.int (0 : Int32))] tz → oS p e below s₁ m 97 #[rv x1, rv x2, rv x3, iv (2 : Int32), iv x5, iv (0 : Int32), iv (1 : Int32), iv (0 : Int32), iv (x5 &&& (3 : Int32)), .unset] [(.int (1 : Int32)), (.int (x5 &&& (3 : Int32)))] tz := fun tz kt => by
        show oS p e below s₁ m 97 #[rv x1, rv x2, rv x3, iv (2 : Int32), iv x5, iv (0 : Int32), iv (1 : Int32), iv (0 : Int32), iv (x5 &&& (3 : Int32)), .unset] [(.int (1 : Int32)), (.int (x5 &&& (3 : Int32)))] _
        refine XS.icmpNo X0.here hx rfl (hb hby d5_97) rfl (teq hc97).2 ?_
        refine XS.iload X0.here hx rfl (hb hby d5_100) rfl ?_
        refine XS.ifNo X0.here hx rfl (hb hby d5_102) rfl ((if0 _ _).trans (feq (by decide : ¬ ((1 : Int32) = (0 : Int32)))).1) ?_
        refine XS.aloadN X0.here hx rfl (hb hby d5_105) rfl rfl ?_
        show oS p e below s₁ m 106 #[rv x1, rv x2, rv x3, iv (2 : Int32), iv x5, iv (0 : Int32), iv (1 : Int32), iv (0 : Int32), iv (x5 &&& (3 : Int32)), .unset] [(.ref x1)] _
        refine XS.aloadN X0.here hx rfl (hb hby d5_106) rfl rfl ?_
        show oS p e below s₁ m 107 #[rv x1, rv x2, rv x3, iv (2 : Int32), iv x5, iv (0 : Int32), iv (1 : Int32), iv (0 : Int32), iv (x5 &&& (3 : Int32)), .unset] [(.ref x3), (.ref x1)] _
        refine st9.trans ?_
        refine XS.ifYes X9.here hx rfl (pc0 := 110) (pc' := 115) rfl (hb hby d5_110) rfl ((if0 _ _).trans (feq (by decide : ¬ ((1 : Int32) = (0 : Int32)))).2) (by decide) (by decide) ?_
        refine XS.iconst X9.here hx rfl (hb hby d5_115) ?_
        refine XS.istore X9.here hx rfl (hb hby d5_116) rfl (l' := #[rv x1, rv x2, rv x3, iv (2 : Int32), iv x5, iv (0 : Int32), iv (0 : Int32), iv (0 : Int32), iv (x5 &&& (3 : Int32)), .unset]) rfl ?_
        show oS p e below T9 m 118 #[rv x1, rv x2, rv x3, iv (2 : Int32), iv x5, iv (0 : Int32), iv (0 : Int32), iv (0 : Int32), iv (x5 &&& (3 : Int32)), .unset] [] _
        refine XS.goto X9.here hx rfl (pc0 := 118) (pc' := 227) rfl (hb hby d5_118) (by decide) (by decide) ?_
        refine XS.iconst X9.here hx rfl (hb hby d5_227) ?_
        refine XS.istore X9.here hx rfl (hb hby d5_228) rfl (l' := #[rv x1, rv x2, rv x3, iv (2 : Int32), iv x5, iv (0 : Int32), iv (0 : Int32), iv (0 : Int32), iv (x5 &&& (3 : Int32)), iv (0 : Int32)]) rfl ?_
        refine XS.iload X9.here hx rfl (hb hby d5_230) rfl ?_
        show oS p e below T9 m 232 #[rv x1, rv x2, rv x3, iv (2 : Int32), iv x5, iv (0 : Int32), iv (0 : Int32), iv (0 : Int32), iv (x5 &&& (3 : Int32)), iv (0 : Int32)] [(.int (0 : Int32))] _
        refine XS.ifYes X9.here hx rfl (pc0 := 232) (pc' := 241) rfl (hb hby d5_232) rfl ((if0 _ _).trans (teq (by decide : ((0 : Int32) = (0 : Int32)))).1) (by decide) (by decide) ?_
        refine XS.iload X9.here hx rfl (hb hby d5_241) rfl ?_
        refine XS.ifYes X9.here hx rfl (pc0 := 243) (pc' := 252) rfl (hb hby d5_243) rfl ((if0 _ _).trans (teq (by decide : ((0 : Int32) = (0 : Int32)))).1) (by decide) (by decide) ?_
        refine XS.iload X9.here hx rfl (hb hby d5_252) rfl ?_
        show oS p e below T9 m 254 #[rv x1, rv x2, rv x3, iv (2 : Int32), iv x5, iv (0 : Int32), iv (0 : Int32), iv (0 : Int32), iv (x5 &&& (3 : Int32)), iv (0 : Int32)] [(.int (0 : Int32))] _
        refine XS.ifYes X9.here hx rfl (pc0 := 254) (pc' := 263) rfl (hb hby d5_254) rfl ((if0 _ _).trans (teq (by decide : ((0 : Int32) = (0 : Int32)))).1) (by decide) (by decide) ?_
        refine XS.iload X9.here hx rfl (hb hby d5_263) rfl ?_
        exact kt
      have KP11 : Keep h0 T9.heap [x1, x2, x3] := ((Keep.refl h0 [x1, x2, x3]).trans K9 (allS (Or.inl (List.mem_of_getElem? (i := 0) rfl)) (allS (Or.inl (List.mem_of_getElem? (i := 2) rfl)) all0)))
      have Ec12 : Exa Z T9.heap x1 oz1 := (E_x1.keep K9)
      have Ec13 : Exa Z T9.heap x2 oz0 := (E_x2.keep K9)
      have Ec14 : Exa Z T9.heap x3 oz0 := (E_x3.keep K9)
      have ne15 : x2 ≠ x1 := ne_exa Ec13 Ec12 (by decide)
      have Fc16 : Fld Z T9.heap x2 oz0 "in" oz3 .null := (F_in_x2.keep K9 (ninS ne15 (ninS ne_x2_x3 nin0)))
      have Fc17 : Fld Z T9.heap x2 oz0 "before" oz2 .null := (F_before_x2.keep K9 (ninS ne15 (ninS ne_x2_x3 nin0)))
      have Fc18 : Fld Z T9.heap x2 oz0 "after" oz2 .null := (F_after_x2.keep K9 (ninS ne15 (ninS ne_x2_x3 nin0)))
      obtain ⟨fs, hr, hrun, hended, hW, hsame⟩ := X9.leave (v := some (.int (0 : Int32))) (fun h => by rw [Bd.returns] at h; cases h)
      refine ⟨_, _, pre0 _ (pre1 _ (pre8 _ (pre10 _ ?_))), hrun, hended, _, _, rfl, ?_, ⟨_, rfl⟩, hW, hsame.mono (by decide) (by decide)⟩
      · show oS p e below T9 m 265 #[rv x1, rv x2, rv x3, iv (2 : Int32), iv x5, iv (0 : Int32), iv (0 : Int32), iv (0 : Int32), iv (x5 &&& (3 : Int32)), iv (0 : Int32)] [(.int (0 : Int32))] _
        exact retOut X9 hx Bd.returns rfl (Or.inl ⟨rfl, Or.inl rfl, _, rfl⟩) (hb hby d5_265) hr
      · show QS2 Z x1 x2 x3 x5 h0 n0 _ T9.heap _
        exact ⟨(0 : Int32), rfl, N9, KP11, (by decide), (Or.inl ⟨(Or.inl rfl), Ec12, Ec13, Ec14, pf9_0, pf9_1, Fc16, Fc17, Fc18, pf9_2, pf9_3, pf9_4⟩)⟩
    · have pre19 : ∀ tz, oS p e below s₁ m 139 #[rv x1, rv x2, rv x3, iv (2 : Int32), iv x5, iv (0 : Int32), iv (1 : Int32), iv (0 : Int32), iv (x5 &&& (3 : Int32)), .unset] [(.int (2 : Int32)), (.int (x5 &&& (3 : Int32)))] tz → oS p e below s₁ m 97 #[rv x1, rv x2, rv x3, iv (2 : Int32), iv x5, iv (0 : Int32), iv (1 : Int32), iv (0 : Int32), iv (x5 &&& (3 : Int32)), .unset] [(.int (1 : Int32)), (.int (x5 &&& (3 : Int32)))] tz := fun tz kt => by
        show oS p e below s₁ m 97 #[rv x1, rv x2, rv x3, iv (2 : Int32), iv x5, iv (0 : Int32), iv (1 : Int32), iv (0 : Int32), iv (x5 &&& (3 : Int32)), .unset] [(.int (1 : Int32)), (.int (x5 &&& (3 : Int32)))] _
        refine XS.icmpYes X0.here hx rfl (pc0 := 97) (pc' := 136) rfl (hb hby d5_97) rfl (feq hc97).2 (by decide) (by decide) ?_
        refine XS.iload X0.here hx rfl (hb hby d5_136) rfl ?_
        refine XS.iconst X0.here hx rfl (hb hby d5_138) ?_
        exact kt
      by_cases hc139 : (x5 &&& (3 : Int32)) = (2 : Int32)
      · obtain ⟨cq20, kq20, q20a, q20b, q20c⟩ := isOf hZ e0 E_x1
        obtain ⟨_, _, ⟨T20, Lw20, kw20, nw20⟩, -, X20, ⟨Lc20, hQ20, l20, y20, z20⟩, st20⟩ := X0.virtualBack hx (y := (⟨oz1, "poll", oz8⟩ : MethodName)) (z := (⟨oz1, "poll", oz8⟩ : MethodName)) hown (mvT hZ (own_w hw 57 rfl)) (mvT hZ (own_w hw 58 rfl)) (notFace_of_selects (args := #[]) (mvT hZ (own_w hw 60 rfl))) (mvT hZ (own_w hw 60 rfl)) (mvT hZ (own_w hw 59 rfl)) (by decide) (backOf (W := 0) (rmP00 l Z a0 hw [] x1 (.ref x3) (.ref x1) x3 h0 n0 Z0 E_x1 E_x3 g_x1 g_x3 F_first_x1 F_last_x1 F_in_x3 F_before_x3 F_after_x3) hZ (own_w hw 61 rfl) (own_w hw 2 rfl) (by decide) (by decide)) q20a q20c (g := (mkF m 143 #[rv x1, rv x2, rv x3, iv (2 : Int32), iv x5, iv (0 : Int32), iv (1 : Int32), iv (0 : Int32), iv (x5 &&& (3 : Int32)), .unset] [(.ref x1)])) rfl (by rw [hml]; rfl) (Steps.refl _) (argsL := []) (rest := []) (lenOf own_pd1 rfl) rfl (by show 2 * 0 + _ ≤ _; exact Nat.le_of_eq rfl) (hb hby d5_143) (fun _ _ => ⟨rfl, e0, (by decide : 0 + 0 ≤ _), (by decide : 0 + 0 ≤ _)⟩)
        dsimp only [Pt.U, Pt.locs, Pt.cells, Pt.slots] at X20 l20 y20 z20 st20 hQ20
        subst l20 y20 z20
        obtain ⟨rfl, Nq20, K20, pf20_0, pf20_1, pf20_2, pf20_3, pf20_4⟩ := hQ20
        have N20 := Fr.app N0 Nq20
        have pre21 : ∀ tz, oS p e below T20 m 265 #[rv x1, rv x2, rv x3, iv (2 : Int32), iv x5, iv (0 : Int32), iv (0 : Int32), iv (0 : Int32), iv (x5 &&& (3 : Int32)), iv (0 : Int32)] [(.int (0 : Int32))] tz → oS p e below s₁ m 139 #[rv x1, rv x2, rv x3, iv (2 : Int32), iv x5, iv (0 : Int32), iv (1 : Int32), iv (0 : Int32), iv (x5 &&& (3 : Int32)), .unset] [(.int (2 : Int32)), (.int (x5 &&& (3 : Int32)))] tz := fun tz kt => by
          show oS p e below s₁ m 139 #[rv x1, rv x2, rv x3, iv (2 : Int32), iv x5, iv (0 : Int32), iv (1 : Int32), iv (0 : Int32), iv (x5 &&& (3 : Int32)), .unset] [(.int (2 : Int32)), (.int (x5 &&& (3 : Int32)))] _
          refine XS.icmpNo X0.here hx rfl (hb hby d5_139) rfl (teq hc139).2 ?_
          refine XS.aloadN X0.here hx rfl (hb hby d5_142) rfl rfl ?_
          show oS p e below s₁ m 143 #[rv x1, rv x2, rv x3, iv (2 : Int32), iv x5, iv (0 : Int32), iv (1 : Int32), iv (0 : Int32), iv (x5 &&& (3 : Int32)), .unset] [(.ref x1)] _
          refine st20.trans ?_
          refine XS.astore X20.here hx rfl (hb hby d5_146) rfl rfl (l' := #[rv x1, rv x2, rv x3, iv (2 : Int32), iv x5, iv (0 : Int32), iv (1 : Int32), iv (0 : Int32), iv (x5 &&& (3 : Int32)), rv x3]) rfl ?_
          refine XS.iload X20.here hx rfl (hb hby d5_148) rfl ?_
          refine XS.ifNo X20.here hx rfl (hb hby d5_150) rfl ((if0 _ _).trans (teq (by decide : ((0 : Int32) = (0 : Int32)))).2) ?_
          show oS p e below T20 m 153 #[rv x1, rv x2, rv x3, iv (2 : Int32), iv x5, iv (0 : Int32), iv (1 : Int32), iv (0 : Int32), iv (x5 &&& (3 : Int32)), rv x3] [] _
          refine XS.iload X20.here hx rfl (hb hby d5_153) rfl ?_
          refine XS.ifYes X20.here hx rfl (pc0 := 155) (pc' := 165) rfl (hb hby d5_155) rfl ((if0 _ _).trans (feq (by decide : ¬ ((1 : Int32) = (0 : Int32)))).2) (by decide) (by decide) ?_
          refine XS.iload X20.here hx rfl (hb hby d5_165) rfl ?_
          refine XS.ifYes X20.here hx rfl (pc0 := 167) (pc' := 194) rfl (hb hby d5_167) rfl ((if0 _ _).trans (teq (by decide : ((0 : Int32) = (0 : Int32)))).1) (by decide) (by decide) ?_
          show oS p e below T20 m 194 #[rv x1, rv x2, rv x3, iv (2 : Int32), iv x5, iv (0 : Int32), iv (1 : Int32), iv (0 : Int32), iv (x5 &&& (3 : Int32)), rv x3] [] _
          refine XS.aload X20.here hx rfl (hb hby d5_194) rfl rfl ?_
          refine XS.aloadN X20.here hx rfl (hb hby d5_196) rfl rfl ?_
          refine Jvm.RoadKit.acmp (g := (mkF m 197 #[rv x1, rv x2, rv x3, iv (2 : Int32), iv x5, iv (0 : Int32), iv (1 : Int32), iv (0 : Int32), iv (x5 &&& (3 : Int32)), rv x3] [(.ref x3), (.ref x3)])) X20 hx rfl rfl rfl (pc0 := 197) (pc' := 202) (same := true) rfl (hb hby d5_197) rfl (decide_eq_true rfl) (by decide) (by decide) ?_
          refine XS.iconst X20.here hx rfl (hb hby d5_202) ?_
          show oS p e below T20 m 203 #[rv x1, rv x2, rv x3, iv (2 : Int32), iv x5, iv (0 : Int32), iv (1 : Int32), iv (0 : Int32), iv (x5 &&& (3 : Int32)), rv x3] [(.int (0 : Int32))] _
          refine XS.istore X20.here hx rfl (hb hby d5_203) rfl (l' := #[rv x1, rv x2, rv x3, iv (2 : Int32), iv x5, iv (0 : Int32), iv (0 : Int32), iv (0 : Int32), iv (x5 &&& (3 : Int32)), rv x3]) rfl ?_
          refine XS.goto X20.here hx rfl (pc0 := 205) (pc' := 227) rfl (hb hby d5_205) (by decide) (by decide) ?_
          refine XS.iconst X20.here hx rfl (hb hby d5_227) ?_
          refine XS.istore X20.here hx rfl (hb hby d5_228) rfl (l' := #[rv x1, rv x2, rv x3, iv (2 : Int32), iv x5, iv (0 : Int32), iv (0 : Int32), iv (0 : Int32), iv (x5 &&& (3 : Int32)), iv (0 : Int32)]) rfl ?_
          show oS p e below T20 m 230 #[rv x1, rv x2, rv x3, iv (2 : Int32), iv x5, iv (0 : Int32), iv (0 : Int32), iv (0 : Int32), iv (x5 &&& (3 : Int32)), iv (0 : Int32)] [] _
          refine XS.iload X20.here hx rfl (hb hby d5_230) rfl ?_
          refine XS.ifYes X20.here hx rfl (pc0 := 232) (pc' := 241) rfl (hb hby d5_232) rfl ((if0 _ _).trans (teq (by decide : ((0 : Int32) = (0 : Int32)))).1) (by decide) (by decide) ?_
          refine XS.iload X20.here hx rfl (hb hby d5_241) rfl ?_
          refine XS.ifYes X20.here hx rfl (pc0 := 243) (pc' := 252) rfl (hb hby d5_243) rfl ((if0 _ _).trans (teq (by decide : ((0 : Int32) = (0 : Int32)))).1) (by decide) (by decide) ?_
          show oS p e below T20 m 252 #[rv x1, rv x2, rv x3, iv (2 : Int32), iv x5, iv (0 : Int32), iv (0 : Int32), iv (0 : Int32), iv (x5 &&& (3 : Int32)), iv (0 : Int32)] [] _
          refine XS.iload X20.here hx rfl (hb hby d5_252) rfl ?_
          refine XS.ifYes X20.here hx rfl (pc0 := 254) (pc' := 263) rfl (hb hby d5_254) rfl ((if0 _ _).trans (teq (by decide : ((0 : Int32) = (0 : Int32)))).1) (by decide) (by decide) ?_
          refine XS.iload X20.here hx rfl (hb hby d5_263) rfl ?_
          exact kt
        have KP22 : Keep h0 T20.heap [x1, x2, x3] := ((Keep.refl h0 [x1, x2, x3]).trans K20 (allS (Or.inl (List.mem_of_getElem? (i := 0) rfl)) (allS (Or.inl (List.mem_of_getElem? (i := 2) rfl)) all0)))
        have Ec23 : Exa Z T20.heap x1 oz1 := (E_x1.keep K20)
        have Ec24 : Exa Z T20.heap x2 oz0 := (E_x2.keep K20)
        have Ec25 : Exa Z T20.heap x3 oz0 := (E_x3.keep K20)
        have ne26 : x2 ≠ x1 := ne_exa Ec24 Ec23 (by decide)
        have Fc27 : Fld Z T20.heap x2 oz0 "in" oz3 .null := (F_in_x2.keep K20 (ninS ne26 (ninS ne_x2_x3 nin0)))
        have Fc28 : Fld Z T20.heap x2 oz0 "before" oz2 .null := (F_before_x2.keep K20 (ninS ne26 (ninS ne_x2_x3 nin0)))
        have Fc29 : Fld Z T20.heap x2 oz0 "after" oz2 .null := (F_after_x2.keep K20 (ninS ne26 (ninS ne_x2_x3 nin0)))
        obtain ⟨fs, hr, hrun, hended, hW, hsame⟩ := X20.leave (v := some (.int (0 : Int32))) (fun h => by rw [Bd.returns] at h; cases h)
        refine ⟨_, _, pre0 _ (pre1 _ (pre8 _ (pre19 _ (pre21 _ ?_)))), hrun, hended, _, _, rfl, ?_, ⟨_, rfl⟩, hW, hsame.mono (by decide) (by decide)⟩
        · show oS p e below T20 m 265 #[rv x1, rv x2, rv x3, iv (2 : Int32), iv x5, iv (0 : Int32), iv (0 : Int32), iv (0 : Int32), iv (x5 &&& (3 : Int32)), iv (0 : Int32)] [(.int (0 : Int32))] _
          exact retOut X20 hx Bd.returns rfl (Or.inl ⟨rfl, Or.inl rfl, _, rfl⟩) (hb hby d5_265) hr
        · show QS2 Z x1 x2 x3 x5 h0 n0 _ T20.heap _
          exact ⟨(0 : Int32), rfl, N20, KP22, (by decide), (Or.inl ⟨(Or.inl rfl), Ec23, Ec24, Ec25, pf20_0, pf20_1, Fc27, Fc28, Fc29, pf20_2, pf20_3, pf20_4⟩)⟩
      · obtain ⟨cq30, kq30, q30a, q30b, q30c⟩ := isOf hZ e0 E_x1
        obtain ⟨_, _, ⟨T30, Lw30, kw30, nw30⟩, -, X30, ⟨Lc30, hQ30, l30, y30, z30⟩, st30⟩ := X0.virtualBack hx (y := (⟨oz1, "remove", oz5⟩ : MethodName)) (z := (⟨oz1, "remove", oz5⟩ : MethodName)) hown (mvT hZ (own_w hw 46 rfl)) (mvT hZ (own_w hw 47 rfl)) (notFace_of_selects (args := #[]) (mvT hZ (own_w hw 49 rfl))) (mvT hZ (own_w hw 49 rfl)) (mvT hZ (own_w hw 48 rfl)) (by decide) (backOf (W := 0) (rmR0 l Z a0 hw [] x1 x2 h0 n0 Z0 E_x1 E_x2 F_in_x2) hZ (own_w hw 50 rfl) (own_w hw 2 rfl) (by decide) (by decide)) q30a q30c (g := (mkF m 210 #[rv x1, rv x2, rv x3, iv (2 : Int32), iv x5, iv (0 : Int32), iv (1 : Int32), iv (0 : Int32), iv (x5 &&& (3 : Int32)), .unset] [(.ref x2), (.ref x1)])) rfl (by rw [hml]; rfl) (Steps.refl _) (argsL := [(.ref x2)]) (rest := []) (lenOf own_pd2 rfl) rfl (by show 2 * 0 + _ ≤ _; exact Nat.le_of_eq rfl) (hb hby d5_210) (fun _ _ => ⟨rfl, e0, (by decide : 0 + 0 ≤ _), (by decide : 0 + 0 ≤ _)⟩)
        dsimp only [Pt.U, Pt.locs, Pt.cells, Pt.slots] at X30 l30 y30 z30 st30 hQ30
        subst l30 y30 z30
        obtain ⟨rfl, Nq30, eh30⟩ := hQ30
        have N30 := Fr.app N0 Nq30
        have pre31 : ∀ tz, oS p e below T30 m 265 #[rv x1, rv x2, rv x3, iv (2 : Int32), iv x5, iv (0 : Int32), iv (1 : Int32), iv (0 : Int32), iv (x5 &&& (3 : Int32)), iv (2 : Int32)] [(.int (2 : Int32))] tz → oS p e below s₁ m 139 #[rv x1, rv x2, rv x3, iv (2 : Int32), iv x5, iv (0 : Int32), iv (1 : Int32), iv (0 : Int32), iv (x5 &&& (3 : Int32)), .unset] [(.int (2 : Int32)), (.int (x5 &&& (3 : Int32)))] tz := fun tz kt => by
          show oS p e below s₁ m 139 #[rv x1, rv x2, rv x3, iv (2 : Int32), iv x5, iv (0 : Int32), iv (1 : Int32), iv (0 : Int32), iv (x5 &&& (3 : Int32)), .unset] [(.int (2 : Int32)), (.int (x5 &&& (3 : Int32)))] _
          refine XS.icmpYes X0.here hx rfl (pc0 := 139) (pc' := 208) rfl (hb hby d5_139) rfl (feq hc139).2 (by decide) (by decide) ?_
          refine XS.aloadN X0.here hx rfl (hb hby d5_208) rfl rfl ?_
          refine XS.aloadN X0.here hx rfl (hb hby d5_209) rfl rfl ?_
          show oS p e below s₁ m 210 #[rv x1, rv x2, rv x3, iv (2 : Int32), iv x5, iv (0 : Int32), iv (1 : Int32), iv (0 : Int32), iv (x5 &&& (3 : Int32)), .unset] [(.ref x2), (.ref x1)] _
          refine st30.trans ?_
          refine XS.istore X30.here hx rfl (hb hby d5_213) rfl (l' := #[rv x1, rv x2, rv x3, iv (2 : Int32), iv x5, iv (0 : Int32), iv (1 : Int32), iv (0 : Int32), iv (x5 &&& (3 : Int32)), iv (0 : Int32)]) rfl ?_
          refine XS.iload X30.here hx rfl (hb hby d5_215) rfl ?_
          refine XS.iload X30.here hx rfl (hb hby d5_217) rfl ?_
          show oS p e below T30 m 219 #[rv x1, rv x2, rv x3, iv (2 : Int32), iv x5, iv (0 : Int32), iv (1 : Int32), iv (0 : Int32), iv (x5 &&& (3 : Int32)), iv (0 : Int32)] [(.int (0 : Int32)), (.int (0 : Int32))] _
          refine XS.icmpYes X30.here hx rfl (pc0 := 219) (pc' := 224) rfl (hb hby d5_219) rfl (teq (by decide : ((0 : Int32) = (0 : Int32)))).1 (by decide) (by decide) ?_
          refine XS.iconst X30.here hx rfl (hb hby d5_224) ?_
          refine XS.istore X30.here hx rfl (hb hby d5_225) rfl (l' := #[rv x1, rv x2, rv x3, iv (2 : Int32), iv x5, iv (0 : Int32), iv (1 : Int32), iv (0 : Int32), iv (x5 &&& (3 : Int32)), iv (0 : Int32)]) rfl ?_
          refine XS.iconst X30.here hx rfl (hb hby d5_227) ?_
          show oS p e below T30 m 228 #[rv x1, rv x2, rv x3, iv (2 : Int32), iv x5, iv (0 : Int32), iv (1 : Int32), iv (0 : Int32), iv (x5 &&& (3 : Int32)), iv (0 : Int32)] [(.int (0 : Int32))] _
          refine XS.istore X30.here hx rfl (hb hby d5_228) rfl (l' := #[rv x1, rv x2, rv x3, iv (2 : Int32), iv x5, iv (0 : Int32), iv (1 : Int32), iv (0 : Int32), iv (x5 &&& (3 : Int32)), iv (0 : Int32)]) rfl ?_
          refine XS.iload X30.here hx rfl (hb hby d5_230) rfl ?_
          refine XS.ifYes X30.here hx rfl (pc0 := 232) (pc' := 241) rfl (hb hby d5_232) rfl ((if0 _ _).trans (teq (by decide : ((0 : Int32) = (0 : Int32)))).1) (by decide) (by decide) ?_
          refine XS.iload X30.here hx rfl (hb hby d5_241) rfl ?_
          show oS p e below T30 m 243 #[rv x1, rv x2, rv x3, iv (2 : Int32), iv x5, iv (0 : Int32), iv (1 : Int32), iv (0 : Int32), iv (x5 &&& (3 : Int32)), iv (0 : Int32)] [(.int (1 : Int32))] _
          refine XS.ifNo X30.here hx rfl (hb hby d5_243) rfl ((if0 _ _).trans (feq (by decide : ¬ ((1 : Int32) = (0 : Int32)))).1) ?_
          refine XS.iload X30.here hx rfl (hb hby d5_246) rfl ?_
          refine XS.iconst X30.here hx rfl (hb hby d5_248) ?_
          refine XS.ior X30.here hx rfl (hb hby d5_249) rfl ?_
          show oS p e below T30 m 250 #[rv x1, rv x2, rv x3, iv (2 : Int32), iv x5, iv (0 : Int32), iv (1 : Int32), iv (0 : Int32), iv (x5 &&& (3 : Int32)), iv (0 : Int32)] [(.int (2 : Int32))] _
          refine XS.istore X30.here hx rfl (hb hby d5_250) rfl (l' := #[rv x1, rv x2, rv x3, iv (2 : Int32), iv x5, iv (0 : Int32), iv (1 : Int32), iv (0 : Int32), iv (x5 &&& (3 : Int32)), iv (2 : Int32)]) rfl ?_
          refine XS.iload X30.here hx rfl (hb hby d5_252) rfl ?_
          refine XS.ifYes X30.here hx rfl (pc0 := 254) (pc' := 263) rfl (hb hby d5_254) rfl ((if0 _ _).trans (teq (by decide : ((0 : Int32) = (0 : Int32)))).1) (by decide) (by decide) ?_
          refine XS.iload X30.here hx rfl (hb hby d5_263) rfl ?_
          exact kt
        obtain ⟨fs, hr, hrun, hended, hW, hsame⟩ := X30.leave (v := some (.int (2 : Int32))) (fun h => by rw [Bd.returns] at h; cases h)
        refine ⟨_, _, pre0 _ (pre1 _ (pre8 _ (pre19 _ (pre31 _ ?_)))), hrun, hended, _, _, rfl, ?_, ⟨_, rfl⟩, hW, hsame.mono (by decide) (by decide)⟩
        · show oS p e below T30 m 265 #[rv x1, rv x2, rv x3, iv (2 : Int32), iv x5, iv (0 : Int32), iv (1 : Int32), iv (0 : Int32), iv (x5 &&& (3 : Int32)), iv (2 : Int32)] [(.int (2 : Int32))] _
          exact retOut X30 hx Bd.returns rfl (Or.inl ⟨rfl, Or.inl rfl, _, rfl⟩) (hb hby d5_265) hr
        · show QS2 Z x1 x2 x3 x5 h0 n0 _ T30.heap _
          rw [eh30]
          exact ⟨(2 : Int32), rfl, N30, (Keep.refl h0 [x1, x2, x3]), (by decide), (Or.inr (Or.inr (Or.inl ⟨(Or.inl rfl), E_x1, E_x2, E_x3, F_first_x1, F_last_x1, F_in_x2, F_before_x2, F_after_x2, F_in_x3, F_before_x3, F_after_x3⟩)))⟩
theorem d5_175 : decode method_3_code 175 = .ok (.iload 7, 2) := by decide +kernel
theorem d5_177 : decode method_3_code 177 = .ok (.ifCond .eq 17, 3) := by decide +kernel
theorem efS3 (m : MethodId) (x1 : Addr) (x2 : Addr) (x3 : Addr) (x5 : Int32) : entryFrame m #[(.ref x1), (.ref x2), (.ref x3), (.int (3 : Int32)), (.int x5)] 10 = mkF m 0 #[rv x1, rv x2, rv x3, iv (3 : Int32), iv x5, .unset, .unset, .unset, .unset, .unset] [] := by first | (simp [entryFrame, mkF, argsToLocals, Value.category]; done) | rfl
def QS3 (Z : State) (x1 : Addr) (x2 : Addr) (x3 : Addr) (x5 : Int32) (h0 : Heap) (n0 : Nat) (v : Option Value) (h : Heap) (L : List Loc) : Prop := ∃ (s : Int32), v = some (.int s) ∧ Fr n0 L ∧ Keep h0 h [x1, x2, x3] ∧ (¬ s < (0 : Int32)) ∧ (own_Sh Z h x1 x2 x3 s)
set_option maxRecDepth 65536 in
set_option maxHeartbeats 40000000 in
theorem rmS3 (l : Launch) (Z : State) (a0 : Array Value) (hw : ∀ d ∈ tables_1, d.before a0 Z = true) (ws : List Jvm.Cond) (x1 : Addr) (x2 : Addr) (x3 : Addr) (x5 : Int32) (h0 : Heap) (n0 : Nat) (Z0 : n0 ≤ h0.size) (E_x1 : Exa Z h0 x1 oz1) (E_x2 : Exa Z h0 x2 oz0) (E_x3 : Exa Z h0 x3 oz0) (g_x1 : n0 ≤ x1) (g_x2 : n0 ≤ x2) (g_x3 : n0 ≤ x3) (ne_x2_x3 : x2 ≠ x3) (F_first_x1 : Fld Z h0 x1 oz1 "first" oz2 (.ref x3)) (F_last_x1 : Fld Z h0 x1 oz1 "last" oz2 (.ref x2)) (F_in_x2 : Fld Z h0 x2 oz0 "in" oz3 (.ref x1)) (F_before_x2 : Fld Z h0 x2 oz0 "before" oz2 (.ref x3)) (F_after_x2 : Fld Z h0 x2 oz0 "after" oz2 .null) (F_in_x3 : Fld Z h0 x3 oz0 "in" oz3 (.ref x1)) (F_before_x3 : Fld Z h0 x3 oz0 "before" oz2 .null) (F_after_x3 : Fld Z h0 x3 oz0 "after" oz2 (.ref x2)) :
    MetFree l (⟨oz6, "step", oz4⟩ : MethodName) (head1 (Jvm.Cond.code (⟨oz6, "step", oz4⟩ : MethodName) method_3_code 10 (some .int) :: ws) ({ frames := 2, cells := 0, slots := 0, locals := 44 } : Room)) (fun a U => a = #[(.ref x1), (.ref x2), (.ref x3), (.int (3 : Int32)), (.int x5)] ∧ Z.Warmed39 U.vm ∧ U.heap = h0) (fun _ _ _ _ _ => True) (fun _ U oc U' => ∃ v L, oc = .returned v ∧ QS3 Z x1 x2 x3 x5 h0 n0 v U'.heap L ∧ FrameEnd U oc U' L ({ frames := 2, cells := 0, slots := 0, locals := 44 } : Room).cells ({ frames := 2, cells := 0, slots := 0, locals := 44 } : Room).slots) := by
  refine MetFree.of_bodySF (plainFor_of_name own_pn2) hisR ?_
  intro p e s m args below meth c s₁ Bd hml0 hP hK
  obtain ⟨rfl, hZ, hh⟩ := hP
  have hx := Bd.exec
  have hby := Bd.bytes
  have hml : c.maxLocals = 10 := hml0
  have hown : s.vm.findClass oz6 = some m.cls := findClass_of_methodNamed Bd.named
  have hnm := (name_of_methodNamed Bd.named Bd.method).1
  have X0 : Stand p l e ({ frames := 2, cells := 0, slots := 0, locals := 44 } : Room) s m #[(.ref x1), (.ref x2), (.ref x3), (.int (3 : Int32)), (.int x5)] below meth c s₁ [] 0 0 := Stand.of_body Bd
  have e0 : s₁.heap = h0 := by rw [← hh, Bd.state]; rfl
  have N0 := Fr.nil n0
  have pre0 : ∀ t, Steps p.tables e below (s₁.setTop (mkF m 0 #[rv x1, rv x2, rv x3, iv (3 : Int32), iv x5, .unset, .unset, .unset, .unset, .unset] [])) t → Steps p.tables e below (s₁.setTop (entryFrame m #[(.ref x1), (.ref x2), (.ref x3), (.int (3 : Int32)), (.int x5)] 10)) t := fun t k => castTop (efS3 m x1 x2 x3 x5) k
  have pre1 : ∀ tz, oS p e below s₁ m 47 #[rv x1, rv x2, rv x3, iv (3 : Int32), iv x5, iv (1 : Int32), iv (1 : Int32), iv (0 : Int32), iv (x5 &&& (3 : Int32)), .unset] [(.int (x5 &&& (3 : Int32)))] tz → oS p e below s₁ m 0 #[rv x1, rv x2, rv x3, iv (3 : Int32), iv x5, .unset, .unset, .unset, .unset, .unset] [] tz := fun tz kt => by
    show oS p e below s₁ m 0 #[rv x1, rv x2, rv x3, iv (3 : Int32), iv x5, .unset, .unset, .unset, .unset, .unset] [] _
    refine XS.iloadN X0.here hx rfl (hb hby d5_0) rfl ?_
    refine XS.iconst X0.here hx rfl (hb hby d5_1) ?_
    refine XS.iand X0.here hx rfl (hb hby d5_2) rfl ?_
    show oS p e below s₁ m 3 #[rv x1, rv x2, rv x3, iv (3 : Int32), iv x5, .unset, .unset, .unset, .unset, .unset] [(.int (1 : Int32))] _
    refine XS.ifNo X0.here hx rfl (hb hby d5_3) rfl ((if0 _ _).trans (feq (by decide : ¬ ((1 : Int32) = (0 : Int32)))).1) ?_
    refine XS.iconst X0.here hx rfl (hb hby d5_6) ?_
    refine XS.goto X0.here hx rfl (pc0 := 7) (pc' := 11) rfl (hb hby d5_7) (by decide) (by decide) ?_
    refine XS.istore X0.here hx rfl (hb hby d5_11) rfl (l' := #[rv x1, rv x2, rv x3, iv (3 : Int32), iv x5, iv (1 : Int32), .unset, .unset, .unset, .unset]) rfl ?_
    show oS p e below s₁ m 13 #[rv x1, rv x2, rv x3, iv (3 : Int32), iv x5, iv (1 : Int32), .unset, .unset, .unset, .unset] [] _
    refine XS.iloadN X0.here hx rfl (hb hby d5_13) rfl ?_
    refine XS.iconst X0.here hx rfl (hb hby d5_14) ?_
    refine XS.iand X0.here hx rfl (hb hby d5_15) rfl ?_
    show oS p e below s₁ m 16 #[rv x1, rv x2, rv x3, iv (3 : Int32), iv x5, iv (1 : Int32), .unset, .unset, .unset, .unset] [(.int (2 : Int32))] _
    refine XS.ifNo X0.here hx rfl (hb hby d5_16) rfl ((if0 _ _).trans (feq (by decide : ¬ ((2 : Int32) = (0 : Int32)))).1) ?_
    refine XS.iconst X0.here hx rfl (hb hby d5_19) ?_
    refine XS.goto X0.here hx rfl (pc0 := 20) (pc' := 24) rfl (hb hby d5_20) (by decide) (by decide) ?_
    refine XS.istore X0.here hx rfl (hb hby d5_24) rfl (l' := #[rv x1, rv x2, rv x3, iv (3 : Int32), iv x5, iv (1 : Int32), iv (1 : Int32), .unset, .unset, .unset]) rfl ?_
    show oS p e below s₁ m 26 #[rv x1, rv x2, rv x3, iv (3 : Int32), iv x5, iv (1 : Int32), iv (1 : Int32), .unset, .unset, .unset] [] _
    refine XS.iloadN X0.here hx rfl (hb hby d5_26) rfl ?_
    refine XS.iconst X0.here hx rfl (hb hby d5_27) ?_
    refine XS.iand X0.here hx rfl (hb hby d5_28) rfl ?_
    show oS p e below s₁ m 29 #[rv x1, rv x2, rv x3, iv (3 : Int32), iv x5, iv (1 : Int32), iv (1 : Int32), .unset, .unset, .unset] [(.int (0 : Int32))] _
    refine XS.ifYes X0.here hx rfl (pc0 := 29) (pc' := 36) rfl (hb hby d5_29) rfl ((if0 _ _).trans (teq (by decide : ((0 : Int32) = (0 : Int32)))).1) (by decide) (by decide) ?_
    refine XS.iconst X0.here hx rfl (hb hby d5_36) ?_
    refine XS.istore X0.here hx rfl (hb hby d5_37) rfl (l' := #[rv x1, rv x2, rv x3, iv (3 : Int32), iv x5, iv (1 : Int32), iv (1 : Int32), iv (0 : Int32), .unset, .unset]) rfl ?_
    refine XS.iload X0.here hx rfl (hb hby d5_39) rfl ?_
    show oS p e below s₁ m 41 #[rv x1, rv x2, rv x3, iv (3 : Int32), iv x5, iv (1 : Int32), iv (1 : Int32), iv (0 : Int32), .unset, .unset] [(.int x5)] _
    refine XS.iconst X0.here hx rfl (hb hby d5_41) ?_
    refine XS.iand X0.here hx rfl (hb hby d5_42) rfl ?_
    refine XS.istore X0.here hx rfl (hb hby d5_43) rfl (l' := #[rv x1, rv x2, rv x3, iv (3 : Int32), iv x5, iv (1 : Int32), iv (1 : Int32), iv (0 : Int32), iv (x5 &&& (3 : Int32)), .unset]) rfl ?_
    refine XS.iload X0.here hx rfl (hb hby d5_45) rfl ?_
    exact kt
  by_cases hc47 : (x5 &&& (3 : Int32)) = (0 : Int32)
  · obtain ⟨cq2, kq2, q2a, q2b, q2c⟩ := isOf hZ e0 E_x1
    obtain ⟨_, _, ⟨T2, Lw2, kw2, nw2⟩, -, X2, ⟨Lc2, hQ2, l2, y2, z2⟩, st2⟩ := X0.virtualBack hx (y := (⟨oz1, "remove", oz5⟩ : MethodName)) (z := (⟨oz1, "remove", oz5⟩ : MethodName)) hown (mvT hZ (own_w hw 46 rfl)) (mvT hZ (own_w hw 47 rfl)) (notFace_of_selects (args := #[]) (mvT hZ (own_w hw 49 rfl))) (mvT hZ (own_w hw 49 rfl)) (mvT hZ (own_w hw 48 rfl)) (by decide) (backOf (W := 0) (rmRt0 l Z a0 hw [] x1 x2 (.ref x3) (.ref x2) (.ref x1) .null (.ref x2) x3 h0 n0 Z0 E_x1 E_x2 E_x3 g_x1 g_x2 g_x3 ne_x2_x3 F_first_x1 F_last_x1 F_in_x2 F_before_x2 F_after_x2 F_in_x3 F_before_x3 F_after_x3) hZ (own_w hw 50 rfl) (own_w hw 2 rfl) (by decide) (by decide)) q2a q2c (g := (mkF m 57 #[rv x1, rv x2, rv x3, iv (3 : Int32), iv x5, iv (1 : Int32), iv (1 : Int32), iv (0 : Int32), iv (x5 &&& (3 : Int32)), .unset] [(.ref x2), (.ref x1)])) rfl (by rw [hml]; rfl) (Steps.refl _) (argsL := [(.ref x2)]) (rest := []) (lenOf own_pd2 rfl) rfl (by show 2 * 0 + _ ≤ _; exact Nat.le_of_eq rfl) (hb hby d5_57) (fun _ _ => ⟨rfl, e0, (by decide : 0 + 0 ≤ _), (by decide : 0 + 0 ≤ _)⟩)
    dsimp only [Pt.U, Pt.locs, Pt.cells, Pt.slots] at X2 l2 y2 z2 st2 hQ2
    subst l2 y2 z2
    obtain ⟨rfl, Nq2, K2, pf2_0, pf2_1, pf2_2, pf2_3, pf2_4, pf2_5, pf2_6, pf2_7⟩ := hQ2
    have N2 := Fr.app N0 Nq2
    have pre3 : ∀ tz, oS p e below T2 m 265 #[rv x1, rv x2, rv x3, iv (3 : Int32), iv x5, iv (0 : Int32), iv (1 : Int32), iv (0 : Int32), iv (x5 &&& (3 : Int32)), iv (2 : Int32)] [(.int (2 : Int32))] tz → oS p e below s₁ m 47 #[rv x1, rv x2, rv x3, iv (3 : Int32), iv x5, iv (1 : Int32), iv (1 : Int32), iv (0 : Int32), iv (x5 &&& (3 : Int32)), .unset] [(.int (x5 &&& (3 : Int32)))] tz := fun tz kt => by
      show oS p e below s₁ m 47 #[rv x1, rv x2, rv x3, iv (3 : Int32), iv x5, iv (1 : Int32), iv (1 : Int32), iv (0 : Int32), iv (x5 &&& (3 : Int32)), .unset] [(.int (x5 &&& (3 : Int32)))] _
      refine XS.ifNo X0.here hx rfl (hb hby d5_47) rfl ((if0 _ _).trans (teq hc47).2) ?_
      refine XS.iload X0.here hx rfl (hb hby d5_50) rfl ?_
      refine XS.ifNo X0.here hx rfl (hb hby d5_52) rfl ((if0 _ _).trans (feq (by decide : ¬ ((1 : Int32) = (0 : Int32)))).1) ?_
      refine XS.aloadN X0.here hx rfl (hb hby d5_55) rfl rfl ?_
      show oS p e below s₁ m 56 #[rv x1, rv x2, rv x3, iv (3 : Int32), iv x5, iv (1 : Int32), iv (1 : Int32), iv (0 : Int32), iv (x5 &&& (3 : Int32)), .unset] [(.ref x1)] _
      refine XS.aloadN X0.here hx rfl (hb hby d5_56) rfl rfl ?_
      show oS p e below s₁ m 57 #[rv x1, rv x2, rv x3, iv (3 : Int32), iv x5, iv (1 : Int32), iv (1 : Int32), iv (0 : Int32), iv (x5 &&& (3 : Int32)), .unset] [(.ref x2), (.ref x1)] _
      refine st2.trans ?_
      refine XS.ifYes X2.here hx rfl (pc0 := 60) (pc' := 65) rfl (hb hby d5_60) rfl ((if0 _ _).trans (feq (by decide : ¬ ((1 : Int32) = (0 : Int32)))).2) (by decide) (by decide) ?_
      refine XS.iconst X2.here hx rfl (hb hby d5_65) ?_
      refine XS.istore X2.here hx rfl (hb hby d5_66) rfl (l' := #[rv x1, rv x2, rv x3, iv (3 : Int32), iv x5, iv (0 : Int32), iv (1 : Int32), iv (0 : Int32), iv (x5 &&& (3 : Int32)), .unset]) rfl ?_
      show oS p e below T2 m 68 #[rv x1, rv x2, rv x3, iv (3 : Int32), iv x5, iv (0 : Int32), iv (1 : Int32), iv (0 : Int32), iv (x5 &&& (3 : Int32)), .unset] [] _
      refine XS.goto X2.here hx rfl (pc0 := 68) (pc' := 227) rfl (hb hby d5_68) (by decide) (by decide) ?_
      refine XS.iconst X2.here hx rfl (hb hby d5_227) ?_
      refine XS.istore X2.here hx rfl (hb hby d5_228) rfl (l' := #[rv x1, rv x2, rv x3, iv (3 : Int32), iv x5, iv (0 : Int32), iv (1 : Int32), iv (0 : Int32), iv (x5 &&& (3 : Int32)), iv (0 : Int32)]) rfl ?_
      refine XS.iload X2.here hx rfl (hb hby d5_230) rfl ?_
      show oS p e below T2 m 232 #[rv x1, rv x2, rv x3, iv (3 : Int32), iv x5, iv (0 : Int32), iv (1 : Int32), iv (0 : Int32), iv (x5 &&& (3 : Int32)), iv (0 : Int32)] [(.int (0 : Int32))] _
      refine XS.ifYes X2.here hx rfl (pc0 := 232) (pc' := 241) rfl (hb hby d5_232) rfl ((if0 _ _).trans (teq (by decide : ((0 : Int32) = (0 : Int32)))).1) (by decide) (by decide) ?_
      refine XS.iload X2.here hx rfl (hb hby d5_241) rfl ?_
      refine XS.ifNo X2.here hx rfl (hb hby d5_243) rfl ((if0 _ _).trans (feq (by decide : ¬ ((1 : Int32) = (0 : Int32)))).1) ?_
      refine XS.iload X2.here hx rfl (hb hby d5_246) rfl ?_
      show oS p e below T2 m 248 #[rv x1, rv x2, rv x3, iv (3 : Int32), iv x5, iv (0 : Int32), iv (1 : Int32), iv (0 : Int32), iv (x5 &&& (3 : Int32)), iv (0 : Int32)] [(.int (0 : Int32))] _
      refine XS.iconst X2.here hx rfl (hb hby d5_248) ?_
      refine XS.ior X2.here hx rfl (hb hby d5_249) rfl ?_
      show oS p e below T2 m 250 #[rv x1, rv x2, rv x3, iv (3 : Int32), iv x5, iv (0 : Int32), iv (1 : Int32), iv (0 : Int32), iv (x5 &&& (3 : Int32)), iv (0 : Int32)] [(.int (2 : Int32))] _
      refine XS.istore X2.here hx rfl (hb hby d5_250) rfl (l' := #[rv x1, rv x2, rv x3, iv (3 : Int32), iv x5, iv (0 : Int32), iv (1 : Int32), iv (0 : Int32), iv (x5 &&& (3 : Int32)), iv (2 : Int32)]) rfl ?_
      refine XS.iload X2.here hx rfl (hb hby d5_252) rfl ?_
      refine XS.ifYes X2.here hx rfl (pc0 := 254) (pc' := 263) rfl (hb hby d5_254) rfl ((if0 _ _).trans (teq (by decide : ((0 : Int32) = (0 : Int32)))).1) (by decide) (by decide) ?_
      refine XS.iload X2.here hx rfl (hb hby d5_263) rfl ?_
      exact kt
    have KP4 : Keep h0 T2.heap [x1, x2, x3] := ((Keep.refl h0 [x1, x2, x3]).trans K2 (allS (Or.inl (List.mem_of_getElem? (i := 0) rfl)) (allS (Or.inl (List.mem_of_getElem? (i := 1) rfl)) (allS (Or.inl (List.mem_of_getElem? (i := 2) rfl)) all0))))
    have Ec5 : Exa Z T2.heap x1 oz1 := (E_x1.keep K2)
    have Ec6 : Exa Z T2.heap x2 oz0 := (E_x2.keep K2)
    have Ec7 : Exa Z T2.heap x3 oz0 := (E_x3.keep K2)
    obtain ⟨fs, hr, hrun, hended, hW, hsame⟩ := X2.leave (v := some (.int (2 : Int32))) (fun h => by rw [Bd.returns] at h; cases h)
    refine ⟨_, _, pre0 _ (pre1 _ (pre3 _ ?_)), hrun, hended, _, _, rfl, ?_, ⟨_, rfl⟩, hW, hsame.mono (by decide) (by decide)⟩
    · show oS p e below T2 m 265 #[rv x1, rv x2, rv x3, iv (3 : Int32), iv x5, iv (0 : Int32), iv (1 : Int32), iv (0 : Int32), iv (x5 &&& (3 : Int32)), iv (2 : Int32)] [(.int (2 : Int32))] _
      exact retOut X2 hx Bd.returns rfl (Or.inl ⟨rfl, Or.inl rfl, _, rfl⟩) (hb hby d5_265) hr
    · show QS3 Z x1 x2 x3 x5 h0 n0 _ T2.heap _
      exact ⟨(2 : Int32), rfl, N2, KP4, (by decide), (Or.inr (Or.inr (Or.inl ⟨(Or.inl rfl), Ec5, Ec6, Ec7, pf2_0, pf2_1, pf2_2, pf2_3, pf2_4, pf2_5, pf2_6, pf2_7⟩)))⟩
  · have pre8 : ∀ tz, oS p e below s₁ m 97 #[rv x1, rv x2, rv x3, iv (3 : Int32), iv x5, iv (1 : Int32), iv (1 : Int32), iv (0 : Int32), iv (x5 &&& (3 : Int32)), .unset] [(.int (1 : Int32)), (.int (x5 &&& (3 : Int32)))] tz → oS p e below s₁ m 47 #[rv x1, rv x2, rv x3, iv (3 : Int32), iv x5, iv (1 : Int32), iv (1 : Int32), iv (0 : Int32), iv (x5 &&& (3 : Int32)), .unset] [(.int (x5 &&& (3 : Int32)))] tz := fun tz kt => by
      show oS p e below s₁ m 47 #[rv x1, rv x2, rv x3, iv (3 : Int32), iv x5, iv (1 : Int32), iv (1 : Int32), iv (0 : Int32), iv (x5 &&& (3 : Int32)), .unset] [(.int (x5 &&& (3 : Int32)))] _
      refine XS.ifYes X0.here hx rfl (pc0 := 47) (pc' := 94) rfl (hb hby d5_47) rfl ((if0 _ _).trans (feq hc47).2) (by decide) (by decide) ?_
      refine XS.iload X0.here hx rfl (hb hby d5_94) rfl ?_
      refine XS.iconst X0.here hx rfl (hb hby d5_96) ?_
      exact kt
    by_cases hc97 : (x5 &&& (3 : Int32)) = (1 : Int32)
    · obtain ⟨cq9, kq9, q9a, q9b, q9c⟩ := isOf hZ e0 E_x1
      obtain ⟨_, _, ⟨T9, Lw9, kw9, nw9⟩, -, X9, ⟨Lc9, hQ9, l9, y9, z9⟩, st9⟩ := X0.virtualBack hx (y := (⟨oz1, "remove", oz5⟩ : MethodName)) (z := (⟨oz1, "remove", oz5⟩ : MethodName)) hown (mvT hZ (own_w hw 46 rfl)) (mvT hZ (own_w hw 47 rfl)) (notFace_of_selects (args := #[]) (mvT hZ (own_w hw 49 rfl))) (mvT hZ (own_w hw 49 rfl)) (mvT hZ (own_w hw 48 rfl)) (by decide) (backOf (W := 0) (rmR0t l Z a0 hw [] x1 x3 (.ref x3) (.ref x2) (.ref x1) (.ref x3) .null x2 h0 n0 Z0 E_x1 E_x3 E_x2 g_x1 g_x3 g_x2 (Ne.symm ne_x2_x3) F_first_x1 F_last_x1 F_in_x3 F_before_x3 F_after_x3 F_in_x2 F_before_x2 F_after_x2) hZ (own_w hw 50 rfl) (own_w hw 2 rfl) (by decide) (by decide)) q9a q9c (g := (mkF m 107 #[rv x1, rv x2, rv x3, iv (3 : Int32), iv x5, iv (1 : Int32), iv (1 : Int32), iv (0 : Int32), iv (x5 &&& (3 : Int32)), .unset] [(.ref x3), (.ref x1)])) rfl (by rw [hml]; rfl) (Steps.refl _) (argsL := [(.ref x3)]) (rest := []) (lenOf own_pd2 rfl) rfl (by show 2 * 0 + _ ≤ _; exact Nat.le_of_eq rfl) (hb hby d5_107) (fun _ _ => ⟨rfl, e0, (by decide : 0 + 0 ≤ _), (by decide : 0 + 0 ≤ _)⟩)
      dsimp only [Pt.U, Pt.locs, Pt.cells, Pt.slots] at X9 l9 y9 z9 st9 hQ9
      subst l9 y9 z9
      obtain ⟨rfl, Nq9, K9, pf9_0, pf9_1, pf9_2, pf9_3, pf9_4, pf9_5, pf9_6, pf9_7⟩ := hQ9
      have N9 := Fr.app N0 Nq9
      have pre10 : ∀ tz, oS p e below T9 m 265 #[rv x1, rv x2, rv x3, iv (3 : Int32), iv x5, iv (1 : Int32), iv (0 : Int32), iv (0 : Int32), iv (x5 &&& (3 : Int32)), iv (1 : Int32)] [(.int (1 : Int32))] tz → oS p e below s₁ m 97 #[rv x1, rv x2, rv x3, iv (3 : Int32), iv x5, iv (1 : Int32), iv (1 : Int32), iv (0 : Int32), iv (x5 &&& (3 : Int32)), .unset] [(.int (1 : Int32)), (.int (x5 &&& (3 : Int32)))] tz := fun tz kt => by
        show oS p e below s₁ m 97 #[rv x1, rv x2, rv x3, iv (3 : Int32), iv x5, iv (1 : Int32), iv (1 : Int32), iv (0 : Int32), iv (x5 &&& (3 : Int32)), .unset] [(.int (1 : Int32)), (.int (x5 &&& (3 : Int32)))] _
        refine XS.icmpNo X0.here hx rfl (hb hby d5_97) rfl (teq hc97).2 ?_
        refine XS.iload X0.here hx rfl (hb hby d5_100) rfl ?_
        refine XS.ifNo X0.here hx rfl (hb hby d5_102) rfl ((if0 _ _).trans (feq (by decide : ¬ ((1 : Int32) = (0 : Int32)))).1) ?_
        refine XS.aloadN X0.here hx rfl (hb hby d5_105) rfl rfl ?_
        show oS p e below s₁ m 106 #[rv x1, rv x2, rv x3, iv (3 : Int32), iv x5, iv (1 : Int32), iv (1 : Int32), iv (0 : Int32), iv (x5 &&& (3 : Int32)), .unset] [(.ref x1)] _
        refine XS.aloadN X0.here hx rfl (hb hby d5_106) rfl rfl ?_
        show oS p e below s₁ m 107 #[rv x1, rv x2, rv x3, iv (3 : Int32), iv x5, iv (1 : Int32), iv (1 : Int32), iv (0 : Int32), iv (x5 &&& (3 : Int32)), .unset] [(.ref x3), (.ref x1)] _
        refine st9.trans ?_
        refine XS.ifYes X9.here hx rfl (pc0 := 110) (pc' := 115) rfl (hb hby d5_110) rfl ((if0 _ _).trans (feq (by decide : ¬ ((1 : Int32) = (0 : Int32)))).2) (by decide) (by decide) ?_
        refine XS.iconst X9.here hx rfl (hb hby d5_115) ?_
        refine XS.istore X9.here hx rfl (hb hby d5_116) rfl (l' := #[rv x1, rv x2, rv x3, iv (3 : Int32), iv x5, iv (1 : Int32), iv (0 : Int32), iv (0 : Int32), iv (x5 &&& (3 : Int32)), .unset]) rfl ?_
        show oS p e below T9 m 118 #[rv x1, rv x2, rv x3, iv (3 : Int32), iv x5, iv (1 : Int32), iv (0 : Int32), iv (0 : Int32), iv (x5 &&& (3 : Int32)), .unset] [] _
        refine XS.goto X9.here hx rfl (pc0 := 118) (pc' := 227) rfl (hb hby d5_118) (by decide) (by decide) ?_
        refine XS.iconst X9.here hx rfl (hb hby d5_227) ?_
        refine XS.istore X9.here hx rfl (hb hby d5_228) rfl (l' := #[rv x1, rv x2, rv x3, iv (3 : Int32), iv x5, iv (1 : Int32), iv (0 : Int32), iv (0 : Int32), iv (x5 &&& (3 : Int32)), iv (0 : Int32)]) rfl ?_
        refine XS.iload X9.here hx rfl (hb hby d5_230) rfl ?_
        show oS p e below T9 m 232 #[rv x1, rv x2, rv x3, iv (3 : Int32), iv x5, iv (1 : Int32), iv (0 : Int32), iv (0 : Int32), iv (x5 &&& (3 : Int32)), iv (0 : Int32)] [(.int (1 : Int32))] _
        refine XS.ifNo X9.here hx rfl (hb hby d5_232) rfl ((if0 _ _).trans (feq (by decide : ¬ ((1 : Int32) = (0 : Int32)))).1) ?_
        refine XS.iload X9.here hx rfl (hb hby d5_235) rfl ?_
        refine XS.iconst X9.here hx rfl (hb hby d5_237) ?_
        refine XS.ior X9.here hx rfl (hb hby d5_238) rfl ?_
        show oS p e below T9 m 239 #[rv x1, rv x2, rv x3, iv (3 : Int32), iv x5, iv (1 : Int32), iv (0 : Int32), iv (0 : Int32), iv (x5 &&& (3 : Int32)), iv (0 : Int32)] [(.int (1 : Int32))] _
        refine XS.istore X9.here hx rfl (hb hby d5_239) rfl (l' := #[rv x1, rv x2, rv x3, iv (3 : Int32), iv x5, iv (1 : Int32), iv (0 : Int32), iv (0 : Int32), iv (x5 &&& (3 : Int32)), iv (1 : Int32)]) rfl ?_
        refine XS.iload X9.here hx rfl (hb hby d5_241) rfl ?_
        refine XS.ifYes X9.here hx rfl (pc0 := 243) (pc' := 252) rfl (hb hby d5_243) rfl ((if0 _ _).trans (teq (by decide : ((0 : Int32) = (0 : Int32)))).1) (by decide) (by decide) ?_
        refine XS.iload X9.here hx rfl (hb hby d5_252) rfl ?_
        show oS p e below T9 m 254 #[rv x1, rv x2, rv x3, iv (3 : Int32), iv x5, iv (1 : Int32), iv (0 : Int32), iv (0 : Int32), iv (x5 &&& (3 : Int32)), iv (1 : Int32)] [(.int (0 : Int32))] _
        refine XS.ifYes X9.here hx rfl (pc0 := 254) (pc' := 263) rfl (hb hby d5_254) rfl ((if0 _ _).trans (teq (by decide : ((0 : Int32) = (0 : Int32)))).1) (by decide) (by decide) ?_
        refine XS.iload X9.here hx rfl (hb hby d5_263) rfl ?_
        exact kt
      have KP11 : Keep h0 T9.heap [x1, x2, x3] := ((Keep.refl h0 [x1, x2, x3]).trans K9 (allS (Or.inl (List.mem_of_getElem? (i := 0) rfl)) (allS (Or.inl (List.mem_of_getElem? (i := 2) rfl)) (allS (Or.inl (List.mem_of_getElem? (i := 1) rfl)) all0))))
      have Ec12 : Exa Z T9.heap x1 oz1 := (E_x1.keep K9)
      have Ec13 : Exa Z T9.heap x2 oz0 := (E_x2.keep K9)
      have Ec14 : Exa Z T9.heap x3 oz0 := (E_x3.keep K9)
      obtain ⟨fs, hr, hrun, hended, hW, hsame⟩ := X9.leave (v := some (.int (1 : Int32))) (fun h => by rw [Bd.returns] at h; cases h)
      refine ⟨_, _, pre0 _ (pre1 _ (pre8 _ (pre10 _ ?_))), hrun, hended, _, _, rfl, ?_, ⟨_, rfl⟩, hW, hsame.mono (by decide) (by decide)⟩
      · show oS p e below T9 m 265 #[rv x1, rv x2, rv x3, iv (3 : Int32), iv x5, iv (1 : Int32), iv (0 : Int32), iv (0 : Int32), iv (x5 &&& (3 : Int32)), iv (1 : Int32)] [(.int (1 : Int32))] _
        exact retOut X9 hx Bd.returns rfl (Or.inl ⟨rfl, Or.inl rfl, _, rfl⟩) (hb hby d5_265) hr
      · show QS3 Z x1 x2 x3 x5 h0 n0 _ T9.heap _
        exact ⟨(1 : Int32), rfl, N9, KP11, (by decide), (Or.inr (Or.inl ⟨(Or.inl rfl), Ec12, Ec13, Ec14, pf9_0, pf9_1, pf9_5, pf9_6, pf9_7, pf9_2, pf9_3, pf9_4⟩))⟩
    · have pre15 : ∀ tz, oS p e below s₁ m 139 #[rv x1, rv x2, rv x3, iv (3 : Int32), iv x5, iv (1 : Int32), iv (1 : Int32), iv (0 : Int32), iv (x5 &&& (3 : Int32)), .unset] [(.int (2 : Int32)), (.int (x5 &&& (3 : Int32)))] tz → oS p e below s₁ m 97 #[rv x1, rv x2, rv x3, iv (3 : Int32), iv x5, iv (1 : Int32), iv (1 : Int32), iv (0 : Int32), iv (x5 &&& (3 : Int32)), .unset] [(.int (1 : Int32)), (.int (x5 &&& (3 : Int32)))] tz := fun tz kt => by
        show oS p e below s₁ m 97 #[rv x1, rv x2, rv x3, iv (3 : Int32), iv x5, iv (1 : Int32), iv (1 : Int32), iv (0 : Int32), iv (x5 &&& (3 : Int32)), .unset] [(.int (1 : Int32)), (.int (x5 &&& (3 : Int32)))] _
        refine XS.icmpYes X0.here hx rfl (pc0 := 97) (pc' := 136) rfl (hb hby d5_97) rfl (feq hc97).2 (by decide) (by decide) ?_
        refine XS.iload X0.here hx rfl (hb hby d5_136) rfl ?_
        refine XS.iconst X0.here hx rfl (hb hby d5_138) ?_
        exact kt
      by_cases hc139 : (x5 &&& (3 : Int32)) = (2 : Int32)
      · obtain ⟨cq16, kq16, q16a, q16b, q16c⟩ := isOf hZ e0 E_x1
        obtain ⟨_, _, ⟨T16, Lw16, kw16, nw16⟩, -, X16, ⟨Lc16, hQ16, l16, y16, z16⟩, st16⟩ := X0.virtualBack hx (y := (⟨oz1, "poll", oz8⟩ : MethodName)) (z := (⟨oz1, "poll", oz8⟩ : MethodName)) hown (mvT hZ (own_w hw 57 rfl)) (mvT hZ (own_w hw 58 rfl)) (notFace_of_selects (args := #[]) (mvT hZ (own_w hw 60 rfl))) (mvT hZ (own_w hw 60 rfl)) (mvT hZ (own_w hw 59 rfl)) (by decide) (backOf (W := 0) (rmP0t l Z a0 hw [] x1 (.ref x2) (.ref x1) (.ref x1) (.ref x3) .null x3 x2 h0 n0 Z0 E_x1 E_x3 E_x2 g_x1 g_x3 g_x2 (Ne.symm ne_x2_x3) F_first_x1 F_last_x1 F_in_x3 F_before_x3 F_after_x3 F_in_x2 F_before_x2 F_after_x2) hZ (own_w hw 61 rfl) (own_w hw 2 rfl) (by decide) (by decide)) q16a q16c (g := (mkF m 143 #[rv x1, rv x2, rv x3, iv (3 : Int32), iv x5, iv (1 : Int32), iv (1 : Int32), iv (0 : Int32), iv (x5 &&& (3 : Int32)), .unset] [(.ref x1)])) rfl (by rw [hml]; rfl) (Steps.refl _) (argsL := []) (rest := []) (lenOf own_pd1 rfl) rfl (by show 2 * 0 + _ ≤ _; exact Nat.le_of_eq rfl) (hb hby d5_143) (fun _ _ => ⟨rfl, e0, (by decide : 0 + 0 ≤ _), (by decide : 0 + 0 ≤ _)⟩)
        dsimp only [Pt.U, Pt.locs, Pt.cells, Pt.slots] at X16 l16 y16 z16 st16 hQ16
        subst l16 y16 z16
        obtain ⟨rfl, Nq16, K16, pf16_0, pf16_1, pf16_2, pf16_3, pf16_4, pf16_5, pf16_6, pf16_7⟩ := hQ16
        have N16 := Fr.app N0 Nq16
        have pre17 : ∀ tz, oS p e below T16 m 265 #[rv x1, rv x2, rv x3, iv (3 : Int32), iv x5, iv (1 : Int32), iv (0 : Int32), iv (0 : Int32), iv (x5 &&& (3 : Int32)), iv (1 : Int32)] [(.int (1 : Int32))] tz → oS p e below s₁ m 139 #[rv x1, rv x2, rv x3, iv (3 : Int32), iv x5, iv (1 : Int32), iv (1 : Int32), iv (0 : Int32), iv (x5 &&& (3 : Int32)), .unset] [(.int (2 : Int32)), (.int (x5 &&& (3 : Int32)))] tz := fun tz kt => by
          show oS p e below s₁ m 139 #[rv x1, rv x2, rv x3, iv (3 : Int32), iv x5, iv (1 : Int32), iv (1 : Int32), iv (0 : Int32), iv (x5 &&& (3 : Int32)), .unset] [(.int (2 : Int32)), (.int (x5 &&& (3 : Int32)))] _
          refine XS.icmpNo X0.here hx rfl (hb hby d5_139) rfl (teq hc139).2 ?_
          refine XS.aloadN X0.here hx rfl (hb hby d5_142) rfl rfl ?_
          show oS p e below s₁ m 143 #[rv x1, rv x2, rv x3, iv (3 : Int32), iv x5, iv (1 : Int32), iv (1 : Int32), iv (0 : Int32), iv (x5 &&& (3 : Int32)), .unset] [(.ref x1)] _
          refine st16.trans ?_
          refine XS.astore X16.here hx rfl (hb hby d5_146) rfl rfl (l' := #[rv x1, rv x2, rv x3, iv (3 : Int32), iv x5, iv (1 : Int32), iv (1 : Int32), iv (0 : Int32), iv (x5 &&& (3 : Int32)), rv x3]) rfl ?_
          refine XS.iload X16.here hx rfl (hb hby d5_148) rfl ?_
          refine XS.ifYes X16.here hx rfl (pc0 := 150) (pc' := 165) rfl (hb hby d5_150) rfl ((if0 _ _).trans (feq (by decide : ¬ ((1 : Int32) = (0 : Int32)))).2) (by decide) (by decide) ?_
          show oS p e below T16 m 165 #[rv x1, rv x2, rv x3, iv (3 : Int32), iv x5, iv (1 : Int32), iv (1 : Int32), iv (0 : Int32), iv (x5 &&& (3 : Int32)), rv x3] [] _
          refine XS.iload X16.here hx rfl (hb hby d5_165) rfl ?_
          refine XS.ifNo X16.here hx rfl (hb hby d5_167) rfl ((if0 _ _).trans (feq (by decide : ¬ ((1 : Int32) = (0 : Int32)))).1) ?_
          refine XS.iload X16.here hx rfl (hb hby d5_170) rfl ?_
          refine XS.ifNo X16.here hx rfl (hb hby d5_172) rfl ((if0 _ _).trans (feq (by decide : ¬ ((1 : Int32) = (0 : Int32)))).1) ?_
          show oS p e below T16 m 175 #[rv x1, rv x2, rv x3, iv (3 : Int32), iv x5, iv (1 : Int32), iv (1 : Int32), iv (0 : Int32), iv (x5 &&& (3 : Int32)), rv x3] [] _
          refine XS.iload X16.here hx rfl (hb hby d5_175) rfl ?_
          refine XS.ifYes X16.here hx rfl (pc0 := 177) (pc' := 194) rfl (hb hby d5_177) rfl ((if0 _ _).trans (teq (by decide : ((0 : Int32) = (0 : Int32)))).1) (by decide) (by decide) ?_
          refine XS.aload X16.here hx rfl (hb hby d5_194) rfl rfl ?_
          refine XS.aloadN X16.here hx rfl (hb hby d5_196) rfl rfl ?_
          show oS p e below T16 m 197 #[rv x1, rv x2, rv x3, iv (3 : Int32), iv x5, iv (1 : Int32), iv (1 : Int32), iv (0 : Int32), iv (x5 &&& (3 : Int32)), rv x3] [(.ref x3), (.ref x3)] _
          refine Jvm.RoadKit.acmp (g := (mkF m 197 #[rv x1, rv x2, rv x3, iv (3 : Int32), iv x5, iv (1 : Int32), iv (1 : Int32), iv (0 : Int32), iv (x5 &&& (3 : Int32)), rv x3] [(.ref x3), (.ref x3)])) X16 hx rfl rfl rfl (pc0 := 197) (pc' := 202) (same := true) rfl (hb hby d5_197) rfl (decide_eq_true rfl) (by decide) (by decide) ?_
          refine XS.iconst X16.here hx rfl (hb hby d5_202) ?_
          refine XS.istore X16.here hx rfl (hb hby d5_203) rfl (l' := #[rv x1, rv x2, rv x3, iv (3 : Int32), iv x5, iv (1 : Int32), iv (0 : Int32), iv (0 : Int32), iv (x5 &&& (3 : Int32)), rv x3]) rfl ?_
          refine XS.goto X16.here hx rfl (pc0 := 205) (pc' := 227) rfl (hb hby d5_205) (by decide) (by decide) ?_
          show oS p e below T16 m 227 #[rv x1, rv x2, rv x3, iv (3 : Int32), iv x5, iv (1 : Int32), iv (0 : Int32), iv (0 : Int32), iv (x5 &&& (3 : Int32)), rv x3] [] _
          refine XS.iconst X16.here hx rfl (hb hby d5_227) ?_
          refine XS.istore X16.here hx rfl (hb hby d5_228) rfl (l' := #[rv x1, rv x2, rv x3, iv (3 : Int32), iv x5, iv (1 : Int32), iv (0 : Int32), iv (0 : Int32), iv (x5 &&& (3 : Int32)), iv (0 : Int32)]) rfl ?_
          refine XS.iload X16.here hx rfl (hb hby d5_230) rfl ?_
          refine XS.ifNo X16.here hx rfl (hb hby d5_232) rfl ((if0 _ _).trans (feq (by decide : ¬ ((1 : Int32) = (0 : Int32)))).1) ?_
          show oS p e below T16 m 235 #[rv x1, rv x2, rv x3, iv (3 : Int32), iv x5, iv (1 : Int32), iv (0 : Int32), iv (0 : Int32), iv (x5 &&& (3 : Int32)), iv (0 : Int32)] [] _
          refine XS.iload X16.here hx rfl (hb hby d5_235) rfl ?_
          refine XS.iconst X16.here hx rfl (hb hby d5_237) ?_
          refine XS.ior X16.here hx rfl (hb hby d5_238) rfl ?_
          show oS p e below T16 m 239 #[rv x1, rv x2, rv x3, iv (3 : Int32), iv x5, iv (1 : Int32), iv (0 : Int32), iv (0 : Int32), iv (x5 &&& (3 : Int32)), iv (0 : Int32)] [(.int (1 : Int32))] _
          refine XS.istore X16.here hx rfl (hb hby d5_239) rfl (l' := #[rv x1, rv x2, rv x3, iv (3 : Int32), iv x5, iv (1 : Int32), iv (0 : Int32), iv (0 : Int32), iv (x5 &&& (3 : Int32)), iv (1 : Int32)]) rfl ?_
          refine XS.iload X16.here hx rfl (hb hby d5_241) rfl ?_
          refine XS.ifYes X16.here hx rfl (pc0 := 243) (pc' := 252) rfl (hb hby d5_243) rfl ((if0 _ _).trans (teq (by decide : ((0 : Int32) = (0 : Int32)))).1) (by decide) (by decide) ?_
          refine XS.iload X16.here hx rfl (hb hby d5_252) rfl ?_
          show oS p e below T16 m 254 #[rv x1, rv x2, rv x3, iv (3 : Int32), iv x5, iv (1 : Int32), iv (0 : Int32), iv (0 : Int32), iv (x5 &&& (3 : Int32)), iv (1 : Int32)] [(.int (0 : Int32))] _
          refine XS.ifYes X16.here hx rfl (pc0 := 254) (pc' := 263) rfl (hb hby d5_254) rfl ((if0 _ _).trans (teq (by decide : ((0 : Int32) = (0 : Int32)))).1) (by decide) (by decide) ?_
          refine XS.iload X16.here hx rfl (hb hby d5_263) rfl ?_
          exact kt
        have KP18 : Keep h0 T16.heap [x1, x2, x3] := ((Keep.refl h0 [x1, x2, x3]).trans K16 (allS (Or.inl (List.mem_of_getElem? (i := 0) rfl)) (allS (Or.inl (List.mem_of_getElem? (i := 2) rfl)) (allS (Or.inl (List.mem_of_getElem? (i := 1) rfl)) all0))))
        have Ec19 : Exa Z T16.heap x1 oz1 := (E_x1.keep K16)
        have Ec20 : Exa Z T16.heap x2 oz0 := (E_x2.keep K16)
        have Ec21 : Exa Z T16.heap x3 oz0 := (E_x3.keep K16)
        obtain ⟨fs, hr, hrun, hended, hW, hsame⟩ := X16.leave (v := some (.int (1 : Int32))) (fun h => by rw [Bd.returns] at h; cases h)
        refine ⟨_, _, pre0 _ (pre1 _ (pre8 _ (pre15 _ (pre17 _ ?_)))), hrun, hended, _, _, rfl, ?_, ⟨_, rfl⟩, hW, hsame.mono (by decide) (by decide)⟩
        · show oS p e below T16 m 265 #[rv x1, rv x2, rv x3, iv (3 : Int32), iv x5, iv (1 : Int32), iv (0 : Int32), iv (0 : Int32), iv (x5 &&& (3 : Int32)), iv (1 : Int32)] [(.int (1 : Int32))] _
          exact retOut X16 hx Bd.returns rfl (Or.inl ⟨rfl, Or.inl rfl, _, rfl⟩) (hb hby d5_265) hr
        · show QS3 Z x1 x2 x3 x5 h0 n0 _ T16.heap _
          exact ⟨(1 : Int32), rfl, N16, KP18, (by decide), (Or.inr (Or.inl ⟨(Or.inl rfl), Ec19, Ec20, Ec21, pf16_0, pf16_1, pf16_5, pf16_6, pf16_7, pf16_2, pf16_3, pf16_4⟩))⟩
      · obtain ⟨cq22, kq22, q22a, q22b, q22c⟩ := isOf hZ e0 E_x1
        obtain ⟨_, _, ⟨T22, Lw22, kw22, nw22⟩, -, X22, ⟨Lc22, hQ22, l22, y22, z22⟩, st22⟩ := X0.virtualBack hx (y := (⟨oz1, "remove", oz5⟩ : MethodName)) (z := (⟨oz1, "remove", oz5⟩ : MethodName)) hown (mvT hZ (own_w hw 46 rfl)) (mvT hZ (own_w hw 47 rfl)) (notFace_of_selects (args := #[]) (mvT hZ (own_w hw 49 rfl))) (mvT hZ (own_w hw 49 rfl)) (mvT hZ (own_w hw 48 rfl)) (by decide) (backOf (W := 0) (rmRt0 l Z a0 hw [] x1 x2 (.ref x3) (.ref x2) (.ref x1) .null (.ref x2) x3 h0 n0 Z0 E_x1 E_x2 E_x3 g_x1 g_x2 g_x3 ne_x2_x3 F_first_x1 F_last_x1 F_in_x2 F_before_x2 F_after_x2 F_in_x3 F_before_x3 F_after_x3) hZ (own_w hw 50 rfl) (own_w hw 2 rfl) (by decide) (by decide)) q22a q22c (g := (mkF m 210 #[rv x1, rv x2, rv x3, iv (3 : Int32), iv x5, iv (1 : Int32), iv (1 : Int32), iv (0 : Int32), iv (x5 &&& (3 : Int32)), .unset] [(.ref x2), (.ref x1)])) rfl (by rw [hml]; rfl) (Steps.refl _) (argsL := [(.ref x2)]) (rest := []) (lenOf own_pd2 rfl) rfl (by show 2 * 0 + _ ≤ _; exact Nat.le_of_eq rfl) (hb hby d5_210) (fun _ _ => ⟨rfl, e0, (by decide : 0 + 0 ≤ _), (by decide : 0 + 0 ≤ _)⟩)
        dsimp only [Pt.U, Pt.locs, Pt.cells, Pt.slots] at X22 l22 y22 z22 st22 hQ22
        subst l22 y22 z22
        obtain ⟨rfl, Nq22, K22, pf22_0, pf22_1, pf22_2, pf22_3, pf22_4, pf22_5, pf22_6, pf22_7⟩ := hQ22
        have N22 := Fr.app N0 Nq22
        have pre23 : ∀ tz, oS p e below T22 m 265 #[rv x1, rv x2, rv x3, iv (3 : Int32), iv x5, iv (0 : Int32), iv (1 : Int32), iv (0 : Int32), iv (x5 &&& (3 : Int32)), iv (2 : Int32)] [(.int (2 : Int32))] tz → oS p e below s₁ m 139 #[rv x1, rv x2, rv x3, iv (3 : Int32), iv x5, iv (1 : Int32), iv (1 : Int32), iv (0 : Int32), iv (x5 &&& (3 : Int32)), .unset] [(.int (2 : Int32)), (.int (x5 &&& (3 : Int32)))] tz := fun tz kt => by
          show oS p e below s₁ m 139 #[rv x1, rv x2, rv x3, iv (3 : Int32), iv x5, iv (1 : Int32), iv (1 : Int32), iv (0 : Int32), iv (x5 &&& (3 : Int32)), .unset] [(.int (2 : Int32)), (.int (x5 &&& (3 : Int32)))] _
          refine XS.icmpYes X0.here hx rfl (pc0 := 139) (pc' := 208) rfl (hb hby d5_139) rfl (feq hc139).2 (by decide) (by decide) ?_
          refine XS.aloadN X0.here hx rfl (hb hby d5_208) rfl rfl ?_
          refine XS.aloadN X0.here hx rfl (hb hby d5_209) rfl rfl ?_
          show oS p e below s₁ m 210 #[rv x1, rv x2, rv x3, iv (3 : Int32), iv x5, iv (1 : Int32), iv (1 : Int32), iv (0 : Int32), iv (x5 &&& (3 : Int32)), .unset] [(.ref x2), (.ref x1)] _
          refine st22.trans ?_
          refine XS.istore X22.here hx rfl (hb hby d5_213) rfl (l' := #[rv x1, rv x2, rv x3, iv (3 : Int32), iv x5, iv (1 : Int32), iv (1 : Int32), iv (0 : Int32), iv (x5 &&& (3 : Int32)), iv (1 : Int32)]) rfl ?_
          refine XS.iload X22.here hx rfl (hb hby d5_215) rfl ?_
          refine XS.iload X22.here hx rfl (hb hby d5_217) rfl ?_
          show oS p e below T22 m 219 #[rv x1, rv x2, rv x3, iv (3 : Int32), iv x5, iv (1 : Int32), iv (1 : Int32), iv (0 : Int32), iv (x5 &&& (3 : Int32)), iv (1 : Int32)] [(.int (1 : Int32)), (.int (1 : Int32))] _
          refine XS.icmpYes X22.here hx rfl (pc0 := 219) (pc' := 224) rfl (hb hby d5_219) rfl (teq (by decide : ((1 : Int32) = (1 : Int32)))).1 (by decide) (by decide) ?_
          refine XS.iconst X22.here hx rfl (hb hby d5_224) ?_
          refine XS.istore X22.here hx rfl (hb hby d5_225) rfl (l' := #[rv x1, rv x2, rv x3, iv (3 : Int32), iv x5, iv (0 : Int32), iv (1 : Int32), iv (0 : Int32), iv (x5 &&& (3 : Int32)), iv (1 : Int32)]) rfl ?_
          refine XS.iconst X22.here hx rfl (hb hby d5_227) ?_
          show oS p e below T22 m 228 #[rv x1, rv x2, rv x3, iv (3 : Int32), iv x5, iv (0 : Int32), iv (1 : Int32), iv (0 : Int32), iv (x5 &&& (3 : Int32)), iv (1 : Int32)] [(.int (0 : Int32))] _
          refine XS.istore X22.here hx rfl (hb hby d5_228) rfl (l' := #[rv x1, rv x2, rv x3, iv (3 : Int32), iv x5, iv (0 : Int32), iv (1 : Int32), iv (0 : Int32), iv (x5 &&& (3 : Int32)), iv (0 : Int32)]) rfl ?_
          refine XS.iload X22.here hx rfl (hb hby d5_230) rfl ?_
          refine XS.ifYes X22.here hx rfl (pc0 := 232) (pc' := 241) rfl (hb hby d5_232) rfl ((if0 _ _).trans (teq (by decide : ((0 : Int32) = (0 : Int32)))).1) (by decide) (by decide) ?_
          refine XS.iload X22.here hx rfl (hb hby d5_241) rfl ?_
          show oS p e below T22 m 243 #[rv x1, rv x2, rv x3, iv (3 : Int32), iv x5, iv (0 : Int32), iv (1 : Int32), iv (0 : Int32), iv (x5 &&& (3 : Int32)), iv (0 : Int32)] [(.int (1 : Int32))] _
          refine XS.ifNo X22.here hx rfl (hb hby d5_243) rfl ((if0 _ _).trans (feq (by decide : ¬ ((1 : Int32) = (0 : Int32)))).1) ?_
          refine XS.iload X22.here hx rfl (hb hby d5_246) rfl ?_
          refine XS.iconst X22.here hx rfl (hb hby d5_248) ?_
          refine XS.ior X22.here hx rfl (hb hby d5_249) rfl ?_
          show oS p e below T22 m 250 #[rv x1, rv x2, rv x3, iv (3 : Int32), iv x5, iv (0 : Int32), iv (1 : Int32), iv (0 : Int32), iv (x5 &&& (3 : Int32)), iv (0 : Int32)] [(.int (2 : Int32))] _
          refine XS.istore X22.here hx rfl (hb hby d5_250) rfl (l' := #[rv x1, rv x2, rv x3, iv (3 : Int32), iv x5, iv (0 : Int32), iv (1 : Int32), iv (0 : Int32), iv (x5 &&& (3 : Int32)), iv (2 : Int32)]) rfl ?_
          refine XS.iload X22.here hx rfl (hb hby d5_252) rfl ?_
          refine XS.ifYes X22.here hx rfl (pc0 := 254) (pc' := 263) rfl (hb hby d5_254) rfl ((if0 _ _).trans (teq (by decide : ((0 : Int32) = (0 : Int32)))).1) (by decide) (by decide) ?_
          refine XS.iload X22.here hx rfl (hb hby d5_263) rfl ?_
          exact kt
        have KP24 : Keep h0 T22.heap [x1, x2, x3] := ((Keep.refl h0 [x1, x2, x3]).trans K22 (allS (Or.inl (List.mem_of_getElem? (i := 0) rfl)) (allS (Or.inl (List.mem_of_getElem? (i := 1) rfl)) (allS (Or.inl (List.mem_of_getElem? (i := 2) rfl)) all0))))
        have Ec25 : Exa Z T22.heap x1 oz1 := (E_x1.keep K22)
        have Ec26 : Exa Z T22.heap x2 oz0 := (E_x2.keep K22)
        have Ec27 : Exa Z T22.heap x3 oz0 := (E_x3.keep K22)
        obtain ⟨fs, hr, hrun, hended, hW, hsame⟩ := X22.leave (v := some (.int (2 : Int32))) (fun h => by rw [Bd.returns] at h; cases h)
        refine ⟨_, _, pre0 _ (pre1 _ (pre8 _ (pre15 _ (pre23 _ ?_)))), hrun, hended, _, _, rfl, ?_, ⟨_, rfl⟩, hW, hsame.mono (by decide) (by decide)⟩
        · show oS p e below T22 m 265 #[rv x1, rv x2, rv x3, iv (3 : Int32), iv x5, iv (0 : Int32), iv (1 : Int32), iv (0 : Int32), iv (x5 &&& (3 : Int32)), iv (2 : Int32)] [(.int (2 : Int32))] _
          exact retOut X22 hx Bd.returns rfl (Or.inl ⟨rfl, Or.inl rfl, _, rfl⟩) (hb hby d5_265) hr
        · show QS3 Z x1 x2 x3 x5 h0 n0 _ T22.heap _
          exact ⟨(2 : Int32), rfl, N22, KP24, (by decide), (Or.inr (Or.inr (Or.inl ⟨(Or.inl rfl), Ec25, Ec26, Ec27, pf22_0, pf22_1, pf22_2, pf22_3, pf22_4, pf22_5, pf22_6, pf22_7⟩)))⟩
theorem d5_32 : decode method_3_code 32 = .ok (.iconst 1, 1) := by decide +kernel
theorem d5_33 : decode method_3_code 33 = .ok (.goto 4, 3) := by decide +kernel
theorem efS4 (m : MethodId) (x1 : Addr) (x2 : Addr) (x3 : Addr) (x5 : Int32) : entryFrame m #[(.ref x1), (.ref x2), (.ref x3), (.int (4 : Int32)), (.int x5)] 10 = mkF m 0 #[rv x1, rv x2, rv x3, iv (4 : Int32), iv x5, .unset, .unset, .unset, .unset, .unset] [] := by first | (simp [entryFrame, mkF, argsToLocals, Value.category]; done) | rfl
def QS4 (Z : State) (x1 : Addr) (x2 : Addr) (x3 : Addr) (x5 : Int32) (h0 : Heap) (n0 : Nat) (v : Option Value) (h : Heap) (L : List Loc) : Prop := ∃ (s : Int32), v = some (.int s) ∧ Fr n0 L ∧ Keep h0 h [x1, x2, x3] ∧ (¬ s < (0 : Int32)) ∧ (own_Sh Z h x1 x2 x3 s)
set_option maxRecDepth 65536 in
set_option maxHeartbeats 40000000 in
theorem rmS4 (l : Launch) (Z : State) (a0 : Array Value) (hw : ∀ d ∈ tables_1, d.before a0 Z = true) (ws : List Jvm.Cond) (x1 : Addr) (x2 : Addr) (x3 : Addr) (x5 : Int32) (h0 : Heap) (n0 : Nat) (Z0 : n0 ≤ h0.size) (E_x1 : Exa Z h0 x1 oz1) (E_x2 : Exa Z h0 x2 oz0) (E_x3 : Exa Z h0 x3 oz0) (g_x1 : n0 ≤ x1) (g_x2 : n0 ≤ x2) (g_x3 : n0 ≤ x3) (ne_x2_x3 : x2 ≠ x3) (F_first_x1 : Fld Z h0 x1 oz1 "first" oz2 .null) (F_last_x1 : Fld Z h0 x1 oz1 "last" oz2 .null) (F_in_x2 : Fld Z h0 x2 oz0 "in" oz3 .null) (F_before_x2 : Fld Z h0 x2 oz0 "before" oz2 .null) (F_after_x2 : Fld Z h0 x2 oz0 "after" oz2 .null) (F_in_x3 : Fld Z h0 x3 oz0 "in" oz3 .null) (F_before_x3 : Fld Z h0 x3 oz0 "before" oz2 .null) (F_after_x3 : Fld Z h0 x3 oz0 "after" oz2 .null) :
    MetFree l (⟨oz6, "step", oz4⟩ : MethodName) (head1 (Jvm.Cond.code (⟨oz6, "step", oz4⟩ : MethodName) method_3_code 10 (some .int) :: ws) ({ frames := 2, cells := 0, slots := 0, locals := 44 } : Room)) (fun a U => a = #[(.ref x1), (.ref x2), (.ref x3), (.int (4 : Int32)), (.int x5)] ∧ Z.Warmed39 U.vm ∧ U.heap = h0) (fun _ _ _ _ _ => True) (fun _ U oc U' => ∃ v L, oc = .returned v ∧ QS4 Z x1 x2 x3 x5 h0 n0 v U'.heap L ∧ FrameEnd U oc U' L ({ frames := 2, cells := 0, slots := 0, locals := 44 } : Room).cells ({ frames := 2, cells := 0, slots := 0, locals := 44 } : Room).slots) := by
  refine MetFree.of_bodySF (plainFor_of_name own_pn2) hisR ?_
  intro p e s m args below meth c s₁ Bd hml0 hP hK
  obtain ⟨rfl, hZ, hh⟩ := hP
  have hx := Bd.exec
  have hby := Bd.bytes
  have hml : c.maxLocals = 10 := hml0
  have hown : s.vm.findClass oz6 = some m.cls := findClass_of_methodNamed Bd.named
  have hnm := (name_of_methodNamed Bd.named Bd.method).1
  have X0 : Stand p l e ({ frames := 2, cells := 0, slots := 0, locals := 44 } : Room) s m #[(.ref x1), (.ref x2), (.ref x3), (.int (4 : Int32)), (.int x5)] below meth c s₁ [] 0 0 := Stand.of_body Bd
  have e0 : s₁.heap = h0 := by rw [← hh, Bd.state]; rfl
  have N0 := Fr.nil n0
  have pre0 : ∀ t, Steps p.tables e below (s₁.setTop (mkF m 0 #[rv x1, rv x2, rv x3, iv (4 : Int32), iv x5, .unset, .unset, .unset, .unset, .unset] [])) t → Steps p.tables e below (s₁.setTop (entryFrame m #[(.ref x1), (.ref x2), (.ref x3), (.int (4 : Int32)), (.int x5)] 10)) t := fun t k => castTop (efS4 m x1 x2 x3 x5) k
  have pre1 : ∀ tz, oS p e below s₁ m 47 #[rv x1, rv x2, rv x3, iv (4 : Int32), iv x5, iv (0 : Int32), iv (0 : Int32), iv (1 : Int32), iv (x5 &&& (3 : Int32)), .unset] [(.int (x5 &&& (3 : Int32)))] tz → oS p e below s₁ m 0 #[rv x1, rv x2, rv x3, iv (4 : Int32), iv x5, .unset, .unset, .unset, .unset, .unset] [] tz := fun tz kt => by
    show oS p e below s₁ m 0 #[rv x1, rv x2, rv x3, iv (4 : Int32), iv x5, .unset, .unset, .unset, .unset, .unset] [] _
    refine XS.iloadN X0.here hx rfl (hb hby d5_0) rfl ?_
    refine XS.iconst X0.here hx rfl (hb hby d5_1) ?_
    refine XS.iand X0.here hx rfl (hb hby d5_2) rfl ?_
    show oS p e below s₁ m 3 #[rv x1, rv x2, rv x3, iv (4 : Int32), iv x5, .unset, .unset, .unset, .unset, .unset] [(.int (0 : Int32))] _
    refine XS.ifYes X0.here hx rfl (pc0 := 3) (pc' := 10) rfl (hb hby d5_3) rfl ((if0 _ _).trans (teq (by decide : ((0 : Int32) = (0 : Int32)))).1) (by decide) (by decide) ?_
    refine XS.iconst X0.here hx rfl (hb hby d5_10) ?_
    refine XS.istore X0.here hx rfl (hb hby d5_11) rfl (l' := #[rv x1, rv x2, rv x3, iv (4 : Int32), iv x5, iv (0 : Int32), .unset, .unset, .unset, .unset]) rfl ?_
    refine XS.iloadN X0.here hx rfl (hb hby d5_13) rfl ?_
    show oS p e below s₁ m 14 #[rv x1, rv x2, rv x3, iv (4 : Int32), iv x5, iv (0 : Int32), .unset, .unset, .unset, .unset] [(.int (4 : Int32))] _
    refine XS.iconst X0.here hx rfl (hb hby d5_14) ?_
    refine XS.iand X0.here hx rfl (hb hby d5_15) rfl ?_
    show oS p e below s₁ m 16 #[rv x1, rv x2, rv x3, iv (4 : Int32), iv x5, iv (0 : Int32), .unset, .unset, .unset, .unset] [(.int (0 : Int32))] _
    refine XS.ifYes X0.here hx rfl (pc0 := 16) (pc' := 23) rfl (hb hby d5_16) rfl ((if0 _ _).trans (teq (by decide : ((0 : Int32) = (0 : Int32)))).1) (by decide) (by decide) ?_
    refine XS.iconst X0.here hx rfl (hb hby d5_23) ?_
    refine XS.istore X0.here hx rfl (hb hby d5_24) rfl (l' := #[rv x1, rv x2, rv x3, iv (4 : Int32), iv x5, iv (0 : Int32), iv (0 : Int32), .unset, .unset, .unset]) rfl ?_
    refine XS.iloadN X0.here hx rfl (hb hby d5_26) rfl ?_
    show oS p e below s₁ m 27 #[rv x1, rv x2, rv x3, iv (4 : Int32), iv x5, iv (0 : Int32), iv (0 : Int32), .unset, .unset, .unset] [(.int (4 : Int32))] _
    refine XS.iconst X0.here hx rfl (hb hby d5_27) ?_
    refine XS.iand X0.here hx rfl (hb hby d5_28) rfl ?_
    show oS p e below s₁ m 29 #[rv x1, rv x2, rv x3, iv (4 : Int32), iv x5, iv (0 : Int32), iv (0 : Int32), .unset, .unset, .unset] [(.int (4 : Int32))] _
    refine XS.ifNo X0.here hx rfl (hb hby d5_29) rfl ((if0 _ _).trans (feq (by decide : ¬ ((4 : Int32) = (0 : Int32)))).1) ?_
    refine XS.iconst X0.here hx rfl (hb hby d5_32) ?_
    refine XS.goto X0.here hx rfl (pc0 := 33) (pc' := 37) rfl (hb hby d5_33) (by decide) (by decide) ?_
    refine XS.istore X0.here hx rfl (hb hby d5_37) rfl (l' := #[rv x1, rv x2, rv x3, iv (4 : Int32), iv x5, iv (0 : Int32), iv (0 : Int32), iv (1 : Int32), .unset, .unset]) rfl ?_
    show oS p e below s₁ m 39 #[rv x1, rv x2, rv x3, iv (4 : Int32), iv x5, iv (0 : Int32), iv (0 : Int32), iv (1 : Int32), .unset, .unset] [] _
    refine XS.iload X0.here hx rfl (hb hby d5_39) rfl ?_
    refine XS.iconst X0.here hx rfl (hb hby d5_41) ?_
    refine XS.iand X0.here hx rfl (hb hby d5_42) rfl ?_
    refine XS.istore X0.here hx rfl (hb hby d5_43) rfl (l' := #[rv x1, rv x2, rv x3, iv (4 : Int32), iv x5, iv (0 : Int32), iv (0 : Int32), iv (1 : Int32), iv (x5 &&& (3 : Int32)), .unset]) rfl ?_
    show oS p e below s₁ m 45 #[rv x1, rv x2, rv x3, iv (4 : Int32), iv x5, iv (0 : Int32), iv (0 : Int32), iv (1 : Int32), iv (x5 &&& (3 : Int32)), .unset] [] _
    refine XS.iload X0.here hx rfl (hb hby d5_45) rfl ?_
    exact kt
  by_cases hc47 : (x5 &&& (3 : Int32)) = (0 : Int32)
  · obtain ⟨cq2, kq2, q2a, q2b, q2c⟩ := isOf hZ e0 E_x1
    obtain ⟨_, _, ⟨T2, Lw2, kw2, nw2⟩, -, X2, ⟨Lc2, hQ2, l2, y2, z2⟩, st2⟩ := X0.virtualBack hx (y := (⟨oz1, "add", oz7⟩ : MethodName)) (z := (⟨oz1, "add", oz7⟩ : MethodName)) hown (mvT hZ (own_w hw 35 rfl)) (mvT hZ (own_w hw 36 rfl)) (notFace_of_selects (args := #[]) (mvT hZ (own_w hw 38 rfl))) (mvT hZ (own_w hw 38 rfl)) (mvT hZ (own_w hw 37 rfl)) (by decide) (backOf (W := 0) (rmA0 l Z a0 hw [] x1 x2 .null h0 n0 Z0 E_x1 E_x2 g_x1 g_x2 F_first_x1 F_last_x1 F_in_x2 F_before_x2 F_after_x2) hZ (own_w hw 39 rfl) (own_w hw 2 rfl) (by decide) (by decide)) q2a q2c (g := (mkF m 73 #[rv x1, rv x2, rv x3, iv (4 : Int32), iv x5, iv (0 : Int32), iv (0 : Int32), iv (1 : Int32), iv (x5 &&& (3 : Int32)), .unset] [(.ref x2), (.ref x1)])) rfl (by rw [hml]; rfl) (Steps.refl _) (argsL := [(.ref x2)]) (rest := []) (lenOf own_pd0 rfl) rfl (by show 2 * 0 + _ ≤ _; exact Nat.le_of_eq rfl) (hb hby d5_73) (fun _ _ => ⟨rfl, e0, (by decide : 0 + 0 ≤ _), (by decide : 0 + 0 ≤ _)⟩)
    dsimp only [Pt.U, Pt.locs, Pt.cells, Pt.slots] at X2 l2 y2 z2 st2 hQ2
    subst l2 y2 z2
    obtain ⟨rfl, Nq2, K2, pf2_0, pf2_1, pf2_2, pf2_3, pf2_4⟩ := hQ2
    have N2 := Fr.app N0 Nq2
    have pre3 : ∀ tz, oS p e below T2 m 265 #[rv x1, rv x2, rv x3, iv (4 : Int32), iv x5, iv (1 : Int32), iv (0 : Int32), iv (1 : Int32), iv (x5 &&& (3 : Int32)), iv (5 : Int32)] [(.int (5 : Int32))] tz → oS p e below s₁ m 47 #[rv x1, rv x2, rv x3, iv (4 : Int32), iv x5, iv (0 : Int32), iv (0 : Int32), iv (1 : Int32), iv (x5 &&& (3 : Int32)), .unset] [(.int (x5 &&& (3 : Int32)))] tz := fun tz kt => by
      show oS p e below s₁ m 47 #[rv x1, rv x2, rv x3, iv (4 : Int32), iv x5, iv (0 : Int32), iv (0 : Int32), iv (1 : Int32), iv (x5 &&& (3 : Int32)), .unset] [(.int (x5 &&& (3 : Int32)))] _
      refine XS.ifNo X0.here hx rfl (hb hby d5_47) rfl ((if0 _ _).trans (teq hc47).2) ?_
      refine XS.iload X0.here hx rfl (hb hby d5_50) rfl ?_
      refine XS.ifYes X0.here hx rfl (pc0 := 52) (pc' := 71) rfl (hb hby d5_52) rfl ((if0 _ _).trans (teq (by decide : ((0 : Int32) = (0 : Int32)))).1) (by decide) (by decide) ?_
      refine XS.aloadN X0.here hx rfl (hb hby d5_71) rfl rfl ?_
      show oS p e below s₁ m 72 #[rv x1, rv x2, rv x3, iv (4 : Int32), iv x5, iv (0 : Int32), iv (0 : Int32), iv (1 : Int32), iv (x5 &&& (3 : Int32)), .unset] [(.ref x1)] _
      refine XS.aloadN X0.here hx rfl (hb hby d5_72) rfl rfl ?_
      show oS p e below s₁ m 73 #[rv x1, rv x2, rv x3, iv (4 : Int32), iv x5, iv (0 : Int32), iv (0 : Int32), iv (1 : Int32), iv (x5 &&& (3 : Int32)), .unset] [(.ref x2), (.ref x1)] _
      refine st2.trans ?_
      refine XS.iconst X2.here hx rfl (hb hby d5_76) ?_
      refine XS.istore X2.here hx rfl (hb hby d5_77) rfl (l' := #[rv x1, rv x2, rv x3, iv (4 : Int32), iv x5, iv (1 : Int32), iv (0 : Int32), iv (1 : Int32), iv (x5 &&& (3 : Int32)), .unset]) rfl ?_
      refine XS.iload X2.here hx rfl (hb hby d5_79) rfl ?_
      show oS p e below T2 m 81 #[rv x1, rv x2, rv x3, iv (4 : Int32), iv x5, iv (1 : Int32), iv (0 : Int32), iv (1 : Int32), iv (x5 &&& (3 : Int32)), .unset] [(.int (0 : Int32))] _
      refine XS.ifNo X2.here hx rfl (hb hby d5_81) rfl ((if0 _ _).trans (teq (by decide : ((0 : Int32) = (0 : Int32)))).2) ?_
      refine XS.iconst X2.here hx rfl (hb hby d5_84) ?_
      refine XS.goto X2.here hx rfl (pc0 := 85) (pc' := 89) rfl (hb hby d5_85) (by decide) (by decide) ?_
      refine XS.istore X2.here hx rfl (hb hby d5_89) rfl (l' := #[rv x1, rv x2, rv x3, iv (4 : Int32), iv x5, iv (1 : Int32), iv (0 : Int32), iv (1 : Int32), iv (x5 &&& (3 : Int32)), .unset]) rfl ?_
      show oS p e below T2 m 91 #[rv x1, rv x2, rv x3, iv (4 : Int32), iv x5, iv (1 : Int32), iv (0 : Int32), iv (1 : Int32), iv (x5 &&& (3 : Int32)), .unset] [] _
      refine XS.goto X2.here hx rfl (pc0 := 91) (pc' := 227) rfl (hb hby d5_91) (by decide) (by decide) ?_
      refine XS.iconst X2.here hx rfl (hb hby d5_227) ?_
      refine XS.istore X2.here hx rfl (hb hby d5_228) rfl (l' := #[rv x1, rv x2, rv x3, iv (4 : Int32), iv x5, iv (1 : Int32), iv (0 : Int32), iv (1 : Int32), iv (x5 &&& (3 : Int32)), iv (0 : Int32)]) rfl ?_
      refine XS.iload X2.here hx rfl (hb hby d5_230) rfl ?_
      show oS p e below T2 m 232 #[rv x1, rv x2, rv x3, iv (4 : Int32), iv x5, iv (1 : Int32), iv (0 : Int32), iv (1 : Int32), iv (x5 &&& (3 : Int32)), iv (0 : Int32)] [(.int (1 : Int32))] _
      refine XS.ifNo X2.here hx rfl (hb hby d5_232) rfl ((if0 _ _).trans (feq (by decide : ¬ ((1 : Int32) = (0 : Int32)))).1) ?_
      refine XS.iload X2.here hx rfl (hb hby d5_235) rfl ?_
      refine XS.iconst X2.here hx rfl (hb hby d5_237) ?_
      refine XS.ior X2.here hx rfl (hb hby d5_238) rfl ?_
      show oS p e below T2 m 239 #[rv x1, rv x2, rv x3, iv (4 : Int32), iv x5, iv (1 : Int32), iv (0 : Int32), iv (1 : Int32), iv (x5 &&& (3 : Int32)), iv (0 : Int32)] [(.int (1 : Int32))] _
      refine XS.istore X2.here hx rfl (hb hby d5_239) rfl (l' := #[rv x1, rv x2, rv x3, iv (4 : Int32), iv x5, iv (1 : Int32), iv (0 : Int32), iv (1 : Int32), iv (x5 &&& (3 : Int32)), iv (1 : Int32)]) rfl ?_
      refine XS.iload X2.here hx rfl (hb hby d5_241) rfl ?_
      refine XS.ifYes X2.here hx rfl (pc0 := 243) (pc' := 252) rfl (hb hby d5_243) rfl ((if0 _ _).trans (teq (by decide : ((0 : Int32) = (0 : Int32)))).1) (by decide) (by decide) ?_
      refine XS.iload X2.here hx rfl (hb hby d5_252) rfl ?_
      show oS p e below T2 m 254 #[rv x1, rv x2, rv x3, iv (4 : Int32), iv x5, iv (1 : Int32), iv (0 : Int32), iv (1 : Int32), iv (x5 &&& (3 : Int32)), iv (1 : Int32)] [(.int (1 : Int32))] _
      refine XS.ifNo X2.here hx rfl (hb hby d5_254) rfl ((if0 _ _).trans (feq (by decide : ¬ ((1 : Int32) = (0 : Int32)))).1) ?_
      refine XS.iload X2.here hx rfl (hb hby d5_257) rfl ?_
      refine XS.iconst X2.here hx rfl (hb hby d5_259) ?_
      refine XS.ior X2.here hx rfl (hb hby d5_260) rfl ?_
      show oS p e below T2 m 261 #[rv x1, rv x2, rv x3, iv (4 : Int32), iv x5, iv (1 : Int32), iv (0 : Int32), iv (1 : Int32), iv (x5 &&& (3 : Int32)), iv (1 : Int32)] [(.int (5 : Int32))] _
      refine XS.istore X2.here hx rfl (hb hby d5_261) rfl (l' := #[rv x1, rv x2, rv x3, iv (4 : Int32), iv x5, iv (1 : Int32), iv (0 : Int32), iv (1 : Int32), iv (x5 &&& (3 : Int32)), iv (5 : Int32)]) rfl ?_
      refine XS.iload X2.here hx rfl (hb hby d5_263) rfl ?_
      exact kt
    have KP4 : Keep h0 T2.heap [x1, x2, x3] := ((Keep.refl h0 [x1, x2, x3]).trans K2 (allS (Or.inl (List.mem_of_getElem? (i := 0) rfl)) (allS (Or.inl (List.mem_of_getElem? (i := 1) rfl)) all0)))
    have Ec5 : Exa Z T2.heap x1 oz1 := (E_x1.keep K2)
    have Ec6 : Exa Z T2.heap x2 oz0 := (E_x2.keep K2)
    have Ec7 : Exa Z T2.heap x3 oz0 := (E_x3.keep K2)
    have ne8 : x3 ≠ x1 := ne_exa Ec7 Ec5 (by decide)
    have Fc9 : Fld Z T2.heap x3 oz0 "in" oz3 .null := (F_in_x3.keep K2 (ninS ne8 (ninS (Ne.symm ne_x2_x3) nin0)))
    have Fc10 : Fld Z T2.heap x3 oz0 "before" oz2 .null := (F_before_x3.keep K2 (ninS ne8 (ninS (Ne.symm ne_x2_x3) nin0)))
    have Fc11 : Fld Z T2.heap x3 oz0 "after" oz2 .null := (F_after_x3.keep K2 (ninS ne8 (ninS (Ne.symm ne_x2_x3) nin0)))
    obtain ⟨fs, hr, hrun, hended, hW, hsame⟩ := X2.leave (v := some (.int (5 : Int32))) (fun h => by rw [Bd.returns] at h; cases h)
    refine ⟨_, _, pre0 _ (pre1 _ (pre3 _ ?_)), hrun, hended, _, _, rfl, ?_, ⟨_, rfl⟩, hW, hsame.mono (by decide) (by decide)⟩
    · show oS p e below T2 m 265 #[rv x1, rv x2, rv x3, iv (4 : Int32), iv x5, iv (1 : Int32), iv (0 : Int32), iv (1 : Int32), iv (x5 &&& (3 : Int32)), iv (5 : Int32)] [(.int (5 : Int32))] _
      exact retOut X2 hx Bd.returns rfl (Or.inl ⟨rfl, Or.inl rfl, _, rfl⟩) (hb hby d5_265) hr
    · show QS4 Z x1 x2 x3 x5 h0 n0 _ T2.heap _
      exact ⟨(5 : Int32), rfl, N2, KP4, (by decide), (Or.inr (Or.inl ⟨(Or.inr rfl), Ec5, Ec6, Ec7, pf2_0, pf2_1, pf2_2, pf2_3, pf2_4, Fc9, Fc10, Fc11⟩))⟩
  · have pre12 : ∀ tz, oS p e below s₁ m 97 #[rv x1, rv x2, rv x3, iv (4 : Int32), iv x5, iv (0 : Int32), iv (0 : Int32), iv (1 : Int32), iv (x5 &&& (3 : Int32)), .unset] [(.int (1 : Int32)), (.int (x5 &&& (3 : Int32)))] tz → oS p e below s₁ m 47 #[rv x1, rv x2, rv x3, iv (4 : Int32), iv x5, iv (0 : Int32), iv (0 : Int32), iv (1 : Int32), iv (x5 &&& (3 : Int32)), .unset] [(.int (x5 &&& (3 : Int32)))] tz := fun tz kt => by
      show oS p e below s₁ m 47 #[rv x1, rv x2, rv x3, iv (4 : Int32), iv x5, iv (0 : Int32), iv (0 : Int32), iv (1 : Int32), iv (x5 &&& (3 : Int32)), .unset] [(.int (x5 &&& (3 : Int32)))] _
      refine XS.ifYes X0.here hx rfl (pc0 := 47) (pc' := 94) rfl (hb hby d5_47) rfl ((if0 _ _).trans (feq hc47).2) (by decide) (by decide) ?_
      refine XS.iload X0.here hx rfl (hb hby d5_94) rfl ?_
      refine XS.iconst X0.here hx rfl (hb hby d5_96) ?_
      exact kt
    by_cases hc97 : (x5 &&& (3 : Int32)) = (1 : Int32)
    · obtain ⟨cq13, kq13, q13a, q13b, q13c⟩ := isOf hZ e0 E_x1
      obtain ⟨_, _, ⟨T13, Lw13, kw13, nw13⟩, -, X13, ⟨Lc13, hQ13, l13, y13, z13⟩, st13⟩ := X0.virtualBack hx (y := (⟨oz1, "add", oz7⟩ : MethodName)) (z := (⟨oz1, "add", oz7⟩ : MethodName)) hown (mvT hZ (own_w hw 35 rfl)) (mvT hZ (own_w hw 36 rfl)) (notFace_of_selects (args := #[]) (mvT hZ (own_w hw 38 rfl))) (mvT hZ (own_w hw 38 rfl)) (mvT hZ (own_w hw 37 rfl)) (by decide) (backOf (W := 0) (rmA0 l Z a0 hw [] x1 x3 .null h0 n0 Z0 E_x1 E_x3 g_x1 g_x3 F_first_x1 F_last_x1 F_in_x3 F_before_x3 F_after_x3) hZ (own_w hw 39 rfl) (own_w hw 2 rfl) (by decide) (by decide)) q13a q13c (g := (mkF m 123 #[rv x1, rv x2, rv x3, iv (4 : Int32), iv x5, iv (0 : Int32), iv (0 : Int32), iv (1 : Int32), iv (x5 &&& (3 : Int32)), .unset] [(.ref x3), (.ref x1)])) rfl (by rw [hml]; rfl) (Steps.refl _) (argsL := [(.ref x3)]) (rest := []) (lenOf own_pd0 rfl) rfl (by show 2 * 0 + _ ≤ _; exact Nat.le_of_eq rfl) (hb hby d5_123) (fun _ _ => ⟨rfl, e0, (by decide : 0 + 0 ≤ _), (by decide : 0 + 0 ≤ _)⟩)
      dsimp only [Pt.U, Pt.locs, Pt.cells, Pt.slots] at X13 l13 y13 z13 st13 hQ13
      subst l13 y13 z13
      obtain ⟨rfl, Nq13, K13, pf13_0, pf13_1, pf13_2, pf13_3, pf13_4⟩ := hQ13
      have N13 := Fr.app N0 Nq13
      have pre14 : ∀ tz, oS p e below T13 m 265 #[rv x1, rv x2, rv x3, iv (4 : Int32), iv x5, iv (0 : Int32), iv (1 : Int32), iv (0 : Int32), iv (x5 &&& (3 : Int32)), iv (2 : Int32)] [(.int (2 : Int32))] tz → oS p e below s₁ m 97 #[rv x1, rv x2, rv x3, iv (4 : Int32), iv x5, iv (0 : Int32), iv (0 : Int32), iv (1 : Int32), iv (x5 &&& (3 : Int32)), .unset] [(.int (1 : Int32)), (.int (x5 &&& (3 : Int32)))] tz := fun tz kt => by
        show oS p e below s₁ m 97 #[rv x1, rv x2, rv x3, iv (4 : Int32), iv x5, iv (0 : Int32), iv (0 : Int32), iv (1 : Int32), iv (x5 &&& (3 : Int32)), .unset] [(.int (1 : Int32)), (.int (x5 &&& (3 : Int32)))] _
        refine XS.icmpNo X0.here hx rfl (hb hby d5_97) rfl (teq hc97).2 ?_
        refine XS.iload X0.here hx rfl (hb hby d5_100) rfl ?_
        refine XS.ifYes X0.here hx rfl (pc0 := 102) (pc' := 121) rfl (hb hby d5_102) rfl ((if0 _ _).trans (teq (by decide : ((0 : Int32) = (0 : Int32)))).1) (by decide) (by decide) ?_
        refine XS.aloadN X0.here hx rfl (hb hby d5_121) rfl rfl ?_
        show oS p e below s₁ m 122 #[rv x1, rv x2, rv x3, iv (4 : Int32), iv x5, iv (0 : Int32), iv (0 : Int32), iv (1 : Int32), iv (x5 &&& (3 : Int32)), .unset] [(.ref x1)] _
        refine XS.aloadN X0.here hx rfl (hb hby d5_122) rfl rfl ?_
        show oS p e below s₁ m 123 #[rv x1, rv x2, rv x3, iv (4 : Int32), iv x5, iv (0 : Int32), iv (0 : Int32), iv (1 : Int32), iv (x5 &&& (3 : Int32)), .unset] [(.ref x3), (.ref x1)] _
        refine st13.trans ?_
        refine XS.iconst X13.here hx rfl (hb hby d5_126) ?_
        refine XS.istore X13.here hx rfl (hb hby d5_127) rfl (l' := #[rv x1, rv x2, rv x3, iv (4 : Int32), iv x5, iv (0 : Int32), iv (1 : Int32), iv (1 : Int32), iv (x5 &&& (3 : Int32)), .unset]) rfl ?_
        refine XS.iload X13.here hx rfl (hb hby d5_129) rfl ?_
        show oS p e below T13 m 131 #[rv x1, rv x2, rv x3, iv (4 : Int32), iv x5, iv (0 : Int32), iv (1 : Int32), iv (1 : Int32), iv (x5 &&& (3 : Int32)), .unset] [(.int (0 : Int32))] _
        refine XS.istore X13.here hx rfl (hb hby d5_131) rfl (l' := #[rv x1, rv x2, rv x3, iv (4 : Int32), iv x5, iv (0 : Int32), iv (1 : Int32), iv (0 : Int32), iv (x5 &&& (3 : Int32)), .unset]) rfl ?_
        refine XS.goto X13.here hx rfl (pc0 := 133) (pc' := 227) rfl (hb hby d5_133) (by decide) (by decide) ?_
        refine XS.iconst X13.here hx rfl (hb hby d5_227) ?_
        refine XS.istore X13.here hx rfl (hb hby d5_228) rfl (l' := #[rv x1, rv x2, rv x3, iv (4 : Int32), iv x5, iv (0 : Int32), iv (1 : Int32), iv (0 : Int32), iv (x5 &&& (3 : Int32)), iv (0 : Int32)]) rfl ?_
        show oS p e below T13 m 230 #[rv x1, rv x2, rv x3, iv (4 : Int32), iv x5, iv (0 : Int32), iv (1 : Int32), iv (0 : Int32), iv (x5 &&& (3 : Int32)), iv (0 : Int32)] [] _
        refine XS.iload X13.here hx rfl (hb hby d5_230) rfl ?_
        refine XS.ifYes X13.here hx rfl (pc0 := 232) (pc' := 241) rfl (hb hby d5_232) rfl ((if0 _ _).trans (teq (by decide : ((0 : Int32) = (0 : Int32)))).1) (by decide) (by decide) ?_
        refine XS.iload X13.here hx rfl (hb hby d5_241) rfl ?_
        refine XS.ifNo X13.here hx rfl (hb hby d5_243) rfl ((if0 _ _).trans (feq (by decide : ¬ ((1 : Int32) = (0 : Int32)))).1) ?_
        show oS p e below T13 m 246 #[rv x1, rv x2, rv x3, iv (4 : Int32), iv x5, iv (0 : Int32), iv (1 : Int32), iv (0 : Int32), iv (x5 &&& (3 : Int32)), iv (0 : Int32)] [] _
        refine XS.iload X13.here hx rfl (hb hby d5_246) rfl ?_
        refine XS.iconst X13.here hx rfl (hb hby d5_248) ?_
        refine XS.ior X13.here hx rfl (hb hby d5_249) rfl ?_
        show oS p e below T13 m 250 #[rv x1, rv x2, rv x3, iv (4 : Int32), iv x5, iv (0 : Int32), iv (1 : Int32), iv (0 : Int32), iv (x5 &&& (3 : Int32)), iv (0 : Int32)] [(.int (2 : Int32))] _
        refine XS.istore X13.here hx rfl (hb hby d5_250) rfl (l' := #[rv x1, rv x2, rv x3, iv (4 : Int32), iv x5, iv (0 : Int32), iv (1 : Int32), iv (0 : Int32), iv (x5 &&& (3 : Int32)), iv (2 : Int32)]) rfl ?_
        refine XS.iload X13.here hx rfl (hb hby d5_252) rfl ?_
        refine XS.ifYes X13.here hx rfl (pc0 := 254) (pc' := 263) rfl (hb hby d5_254) rfl ((if0 _ _).trans (teq (by decide : ((0 : Int32) = (0 : Int32)))).1) (by decide) (by decide) ?_
        refine XS.iload X13.here hx rfl (hb hby d5_263) rfl ?_
        exact kt
      have KP15 : Keep h0 T13.heap [x1, x2, x3] := ((Keep.refl h0 [x1, x2, x3]).trans K13 (allS (Or.inl (List.mem_of_getElem? (i := 0) rfl)) (allS (Or.inl (List.mem_of_getElem? (i := 2) rfl)) all0)))
      have Ec16 : Exa Z T13.heap x1 oz1 := (E_x1.keep K13)
      have Ec17 : Exa Z T13.heap x2 oz0 := (E_x2.keep K13)
      have Ec18 : Exa Z T13.heap x3 oz0 := (E_x3.keep K13)
      have ne19 : x2 ≠ x1 := ne_exa Ec17 Ec16 (by decide)
      have Fc20 : Fld Z T13.heap x2 oz0 "in" oz3 .null := (F_in_x2.keep K13 (ninS ne19 (ninS ne_x2_x3 nin0)))
      have Fc21 : Fld Z T13.heap x2 oz0 "before" oz2 .null := (F_before_x2.keep K13 (ninS ne19 (ninS ne_x2_x3 nin0)))
      have Fc22 : Fld Z T13.heap x2 oz0 "after" oz2 .null := (F_after_x2.keep K13 (ninS ne19 (ninS ne_x2_x3 nin0)))
      obtain ⟨fs, hr, hrun, hended, hW, hsame⟩ := X13.leave (v := some (.int (2 : Int32))) (fun h => by rw [Bd.returns] at h; cases h)
      refine ⟨_, _, pre0 _ (pre1 _ (pre12 _ (pre14 _ ?_))), hrun, hended, _, _, rfl, ?_, ⟨_, rfl⟩, hW, hsame.mono (by decide) (by decide)⟩
      · show oS p e below T13 m 265 #[rv x1, rv x2, rv x3, iv (4 : Int32), iv x5, iv (0 : Int32), iv (1 : Int32), iv (0 : Int32), iv (x5 &&& (3 : Int32)), iv (2 : Int32)] [(.int (2 : Int32))] _
        exact retOut X13 hx Bd.returns rfl (Or.inl ⟨rfl, Or.inl rfl, _, rfl⟩) (hb hby d5_265) hr
      · show QS4 Z x1 x2 x3 x5 h0 n0 _ T13.heap _
        exact ⟨(2 : Int32), rfl, N13, KP15, (by decide), (Or.inr (Or.inr (Or.inl ⟨(Or.inl rfl), Ec16, Ec17, Ec18, pf13_0, pf13_1, Fc20, Fc21, Fc22, pf13_2, pf13_3, pf13_4⟩)))⟩
    · have pre23 : ∀ tz, oS p e below s₁ m 139 #[rv x1, rv x2, rv x3, iv (4 : Int32), iv x5, iv (0 : Int32), iv (0 : Int32), iv (1 : Int32), iv (x5 &&& (3 : Int32)), .unset] [(.int (2 : Int32)), (.int (x5 &&& (3 : Int32)))] tz → oS p e below s₁ m 97 #[rv x1, rv x2, rv x3, iv (4 : Int32), iv x5, iv (0 : Int32), iv (0 : Int32), iv (1 : Int32), iv (x5 &&& (3 : Int32)), .unset] [(.int (1 : Int32)), (.int (x5 &&& (3 : Int32)))] tz := fun tz kt => by
        show oS p e below s₁ m 97 #[rv x1, rv x2, rv x3, iv (4 : Int32), iv x5, iv (0 : Int32), iv (0 : Int32), iv (1 : Int32), iv (x5 &&& (3 : Int32)), .unset] [(.int (1 : Int32)), (.int (x5 &&& (3 : Int32)))] _
        refine XS.icmpYes X0.here hx rfl (pc0 := 97) (pc' := 136) rfl (hb hby d5_97) rfl (feq hc97).2 (by decide) (by decide) ?_
        refine XS.iload X0.here hx rfl (hb hby d5_136) rfl ?_
        refine XS.iconst X0.here hx rfl (hb hby d5_138) ?_
        exact kt
      by_cases hc139 : (x5 &&& (3 : Int32)) = (2 : Int32)
      · obtain ⟨cq24, kq24, q24a, q24b, q24c⟩ := isOf hZ e0 E_x1
        obtain ⟨_, _, ⟨T24, Lw24, kw24, nw24⟩, -, X24, ⟨Lc24, hQ24, l24, y24, z24⟩, st24⟩ := X0.virtualBack hx (y := (⟨oz1, "poll", oz8⟩ : MethodName)) (z := (⟨oz1, "poll", oz8⟩ : MethodName)) hown (mvT hZ (own_w hw 57 rfl)) (mvT hZ (own_w hw 58 rfl)) (notFace_of_selects (args := #[]) (mvT hZ (own_w hw 60 rfl))) (mvT hZ (own_w hw 60 rfl)) (mvT hZ (own_w hw 59 rfl)) (by decide) (backOf (W := 0) (rmP0 l Z a0 hw [] x1 h0 n0 Z0 E_x1 F_first_x1) hZ (own_w hw 61 rfl) (own_w hw 2 rfl) (by decide) (by decide)) q24a q24c (g := (mkF m 143 #[rv x1, rv x2, rv x3, iv (4 : Int32), iv x5, iv (0 : Int32), iv (0 : Int32), iv (1 : Int32), iv (x5 &&& (3 : Int32)), .unset] [(.ref x1)])) rfl (by rw [hml]; rfl) (Steps.refl _) (argsL := []) (rest := []) (lenOf own_pd1 rfl) rfl (by show 2 * 0 + _ ≤ _; exact Nat.le_of_eq rfl) (hb hby d5_143) (fun _ _ => ⟨rfl, e0, (by decide : 0 + 0 ≤ _), (by decide : 0 + 0 ≤ _)⟩)
        dsimp only [Pt.U, Pt.locs, Pt.cells, Pt.slots] at X24 l24 y24 z24 st24 hQ24
        subst l24 y24 z24
        obtain ⟨rfl, Nq24, eh24⟩ := hQ24
        have N24 := Fr.app N0 Nq24
        have pre25 : ∀ tz, oS p e below T24 m 265 #[rv x1, rv x2, rv x3, iv (4 : Int32), iv x5, iv (0 : Int32), iv (0 : Int32), iv (1 : Int32), iv (x5 &&& (3 : Int32)), iv (4 : Int32)] [(.int (4 : Int32))] tz → oS p e below s₁ m 139 #[rv x1, rv x2, rv x3, iv (4 : Int32), iv x5, iv (0 : Int32), iv (0 : Int32), iv (1 : Int32), iv (x5 &&& (3 : Int32)), .unset] [(.int (2 : Int32)), (.int (x5 &&& (3 : Int32)))] tz := fun tz kt => by
          show oS p e below s₁ m 139 #[rv x1, rv x2, rv x3, iv (4 : Int32), iv x5, iv (0 : Int32), iv (0 : Int32), iv (1 : Int32), iv (x5 &&& (3 : Int32)), .unset] [(.int (2 : Int32)), (.int (x5 &&& (3 : Int32)))] _
          refine XS.icmpNo X0.here hx rfl (hb hby d5_139) rfl (teq hc139).2 ?_
          refine XS.aloadN X0.here hx rfl (hb hby d5_142) rfl rfl ?_
          show oS p e below s₁ m 143 #[rv x1, rv x2, rv x3, iv (4 : Int32), iv x5, iv (0 : Int32), iv (0 : Int32), iv (1 : Int32), iv (x5 &&& (3 : Int32)), .unset] [(.ref x1)] _
          refine st24.trans ?_
          refine XS.astore X24.here hx rfl (hb hby d5_146) rfl rfl (l' := #[rv x1, rv x2, rv x3, iv (4 : Int32), iv x5, iv (0 : Int32), iv (0 : Int32), iv (1 : Int32), iv (x5 &&& (3 : Int32)), .val .null]) rfl ?_
          refine XS.iload X24.here hx rfl (hb hby d5_148) rfl ?_
          refine XS.ifNo X24.here hx rfl (hb hby d5_150) rfl ((if0 _ _).trans (teq (by decide : ((0 : Int32) = (0 : Int32)))).2) ?_
          show oS p e below T24 m 153 #[rv x1, rv x2, rv x3, iv (4 : Int32), iv x5, iv (0 : Int32), iv (0 : Int32), iv (1 : Int32), iv (x5 &&& (3 : Int32)), .val .null] [] _
          refine XS.iload X24.here hx rfl (hb hby d5_153) rfl ?_
          refine XS.ifNo X24.here hx rfl (hb hby d5_155) rfl ((if0 _ _).trans (teq (by decide : ((0 : Int32) = (0 : Int32)))).2) ?_
          refine XS.aload X24.here hx rfl (hb hby d5_158) rfl rfl ?_
          refine XS.ifnullYes X24.here hx rfl (pc0 := 160) (pc' := 205) rfl (hb hby d5_160) rfl (by decide) (by decide) ?_
          show oS p e below T24 m 205 #[rv x1, rv x2, rv x3, iv (4 : Int32), iv x5, iv (0 : Int32), iv (0 : Int32), iv (1 : Int32), iv (x5 &&& (3 : Int32)), .val .null] [] _
          refine XS.goto X24.here hx rfl (pc0 := 205) (pc' := 227) rfl (hb hby d5_205) (by decide) (by decide) ?_
          refine XS.iconst X24.here hx rfl (hb hby d5_227) ?_
          refine XS.istore X24.here hx rfl (hb hby d5_228) rfl (l' := #[rv x1, rv x2, rv x3, iv (4 : Int32), iv x5, iv (0 : Int32), iv (0 : Int32), iv (1 : Int32), iv (x5 &&& (3 : Int32)), iv (0 : Int32)]) rfl ?_
          refine XS.iload X24.here hx rfl (hb hby d5_230) rfl ?_
          show oS p e below T24 m 232 #[rv x1, rv x2, rv x3, iv (4 : Int32), iv x5, iv (0 : Int32), iv (0 : Int32), iv (1 : Int32), iv (x5 &&& (3 : Int32)), iv (0 : Int32)] [(.int (0 : Int32))] _
          refine XS.ifYes X24.here hx rfl (pc0 := 232) (pc' := 241) rfl (hb hby d5_232) rfl ((if0 _ _).trans (teq (by decide : ((0 : Int32) = (0 : Int32)))).1) (by decide) (by decide) ?_
          refine XS.iload X24.here hx rfl (hb hby d5_241) rfl ?_
          refine XS.ifYes X24.here hx rfl (pc0 := 243) (pc' := 252) rfl (hb hby d5_243) rfl ((if0 _ _).trans (teq (by decide : ((0 : Int32) = (0 : Int32)))).1) (by decide) (by decide) ?_
          refine XS.iload X24.here hx rfl (hb hby d5_252) rfl ?_
          show oS p e below T24 m 254 #[rv x1, rv x2, rv x3, iv (4 : Int32), iv x5, iv (0 : Int32), iv (0 : Int32), iv (1 : Int32), iv (x5 &&& (3 : Int32)), iv (0 : Int32)] [(.int (1 : Int32))] _
          refine XS.ifNo X24.here hx rfl (hb hby d5_254) rfl ((if0 _ _).trans (feq (by decide : ¬ ((1 : Int32) = (0 : Int32)))).1) ?_
          refine XS.iload X24.here hx rfl (hb hby d5_257) rfl ?_
          refine XS.iconst X24.here hx rfl (hb hby d5_259) ?_
          refine XS.ior X24.here hx rfl (hb hby d5_260) rfl ?_
          show oS p e below T24 m 261 #[rv x1, rv x2, rv x3, iv (4 : Int32), iv x5, iv (0 : Int32), iv (0 : Int32), iv (1 : Int32), iv (x5 &&& (3 : Int32)), iv (0 : Int32)] [(.int (4 : Int32))] _
          refine XS.istore X24.here hx rfl (hb hby d5_261) rfl (l' := #[rv x1, rv x2, rv x3, iv (4 : Int32), iv x5, iv (0 : Int32), iv (0 : Int32), iv (1 : Int32), iv (x5 &&& (3 : Int32)), iv (4 : Int32)]) rfl ?_
          refine XS.iload X24.here hx rfl (hb hby d5_263) rfl ?_
          exact kt
        obtain ⟨fs, hr, hrun, hended, hW, hsame⟩ := X24.leave (v := some (.int (4 : Int32))) (fun h => by rw [Bd.returns] at h; cases h)
        refine ⟨_, _, pre0 _ (pre1 _ (pre12 _ (pre23 _ (pre25 _ ?_)))), hrun, hended, _, _, rfl, ?_, ⟨_, rfl⟩, hW, hsame.mono (by decide) (by decide)⟩
        · show oS p e below T24 m 265 #[rv x1, rv x2, rv x3, iv (4 : Int32), iv x5, iv (0 : Int32), iv (0 : Int32), iv (1 : Int32), iv (x5 &&& (3 : Int32)), iv (4 : Int32)] [(.int (4 : Int32))] _
          exact retOut X24 hx Bd.returns rfl (Or.inl ⟨rfl, Or.inl rfl, _, rfl⟩) (hb hby d5_265) hr
        · show QS4 Z x1 x2 x3 x5 h0 n0 _ T24.heap _
          rw [eh24]
          exact ⟨(4 : Int32), rfl, N24, (Keep.refl h0 [x1, x2, x3]), (by decide), (Or.inl ⟨(Or.inr rfl), E_x1, E_x2, E_x3, F_first_x1, F_last_x1, F_in_x2, F_before_x2, F_after_x2, F_in_x3, F_before_x3, F_after_x3⟩)⟩
      · obtain ⟨cq26, kq26, q26a, q26b, q26c⟩ := isOf hZ e0 E_x1
        obtain ⟨_, _, ⟨T26, Lw26, kw26, nw26⟩, -, X26, ⟨Lc26, hQ26, l26, y26, z26⟩, st26⟩ := X0.virtualBack hx (y := (⟨oz1, "remove", oz5⟩ : MethodName)) (z := (⟨oz1, "remove", oz5⟩ : MethodName)) hown (mvT hZ (own_w hw 46 rfl)) (mvT hZ (own_w hw 47 rfl)) (notFace_of_selects (args := #[]) (mvT hZ (own_w hw 49 rfl))) (mvT hZ (own_w hw 49 rfl)) (mvT hZ (own_w hw 48 rfl)) (by decide) (backOf (W := 0) (rmR0 l Z a0 hw [] x1 x2 h0 n0 Z0 E_x1 E_x2 F_in_x2) hZ (own_w hw 50 rfl) (own_w hw 2 rfl) (by decide) (by decide)) q26a q26c (g := (mkF m 210 #[rv x1, rv x2, rv x3, iv (4 : Int32), iv x5, iv (0 : Int32), iv (0 : Int32), iv (1 : Int32), iv (x5 &&& (3 : Int32)), .unset] [(.ref x2), (.ref x1)])) rfl (by rw [hml]; rfl) (Steps.refl _) (argsL := [(.ref x2)]) (rest := []) (lenOf own_pd2 rfl) rfl (by show 2 * 0 + _ ≤ _; exact Nat.le_of_eq rfl) (hb hby d5_210) (fun _ _ => ⟨rfl, e0, (by decide : 0 + 0 ≤ _), (by decide : 0 + 0 ≤ _)⟩)
        dsimp only [Pt.U, Pt.locs, Pt.cells, Pt.slots] at X26 l26 y26 z26 st26 hQ26
        subst l26 y26 z26
        obtain ⟨rfl, Nq26, eh26⟩ := hQ26
        have N26 := Fr.app N0 Nq26
        have pre27 : ∀ tz, oS p e below T26 m 265 #[rv x1, rv x2, rv x3, iv (4 : Int32), iv x5, iv (0 : Int32), iv (0 : Int32), iv (1 : Int32), iv (x5 &&& (3 : Int32)), iv (4 : Int32)] [(.int (4 : Int32))] tz → oS p e below s₁ m 139 #[rv x1, rv x2, rv x3, iv (4 : Int32), iv x5, iv (0 : Int32), iv (0 : Int32), iv (1 : Int32), iv (x5 &&& (3 : Int32)), .unset] [(.int (2 : Int32)), (.int (x5 &&& (3 : Int32)))] tz := fun tz kt => by
          show oS p e below s₁ m 139 #[rv x1, rv x2, rv x3, iv (4 : Int32), iv x5, iv (0 : Int32), iv (0 : Int32), iv (1 : Int32), iv (x5 &&& (3 : Int32)), .unset] [(.int (2 : Int32)), (.int (x5 &&& (3 : Int32)))] _
          refine XS.icmpYes X0.here hx rfl (pc0 := 139) (pc' := 208) rfl (hb hby d5_139) rfl (feq hc139).2 (by decide) (by decide) ?_
          refine XS.aloadN X0.here hx rfl (hb hby d5_208) rfl rfl ?_
          refine XS.aloadN X0.here hx rfl (hb hby d5_209) rfl rfl ?_
          show oS p e below s₁ m 210 #[rv x1, rv x2, rv x3, iv (4 : Int32), iv x5, iv (0 : Int32), iv (0 : Int32), iv (1 : Int32), iv (x5 &&& (3 : Int32)), .unset] [(.ref x2), (.ref x1)] _
          refine st26.trans ?_
          refine XS.istore X26.here hx rfl (hb hby d5_213) rfl (l' := #[rv x1, rv x2, rv x3, iv (4 : Int32), iv x5, iv (0 : Int32), iv (0 : Int32), iv (1 : Int32), iv (x5 &&& (3 : Int32)), iv (0 : Int32)]) rfl ?_
          refine XS.iload X26.here hx rfl (hb hby d5_215) rfl ?_
          refine XS.iload X26.here hx rfl (hb hby d5_217) rfl ?_
          show oS p e below T26 m 219 #[rv x1, rv x2, rv x3, iv (4 : Int32), iv x5, iv (0 : Int32), iv (0 : Int32), iv (1 : Int32), iv (x5 &&& (3 : Int32)), iv (0 : Int32)] [(.int (0 : Int32)), (.int (0 : Int32))] _
          refine XS.icmpYes X26.here hx rfl (pc0 := 219) (pc' := 224) rfl (hb hby d5_219) rfl (teq (by decide : ((0 : Int32) = (0 : Int32)))).1 (by decide) (by decide) ?_
          refine XS.iconst X26.here hx rfl (hb hby d5_224) ?_
          refine XS.istore X26.here hx rfl (hb hby d5_225) rfl (l' := #[rv x1, rv x2, rv x3, iv (4 : Int32), iv x5, iv (0 : Int32), iv (0 : Int32), iv (1 : Int32), iv (x5 &&& (3 : Int32)), iv (0 : Int32)]) rfl ?_
          refine XS.iconst X26.here hx rfl (hb hby d5_227) ?_
          show oS p e below T26 m 228 #[rv x1, rv x2, rv x3, iv (4 : Int32), iv x5, iv (0 : Int32), iv (0 : Int32), iv (1 : Int32), iv (x5 &&& (3 : Int32)), iv (0 : Int32)] [(.int (0 : Int32))] _
          refine XS.istore X26.here hx rfl (hb hby d5_228) rfl (l' := #[rv x1, rv x2, rv x3, iv (4 : Int32), iv x5, iv (0 : Int32), iv (0 : Int32), iv (1 : Int32), iv (x5 &&& (3 : Int32)), iv (0 : Int32)]) rfl ?_
          refine XS.iload X26.here hx rfl (hb hby d5_230) rfl ?_
          refine XS.ifYes X26.here hx rfl (pc0 := 232) (pc' := 241) rfl (hb hby d5_232) rfl ((if0 _ _).trans (teq (by decide : ((0 : Int32) = (0 : Int32)))).1) (by decide) (by decide) ?_
          refine XS.iload X26.here hx rfl (hb hby d5_241) rfl ?_
          show oS p e below T26 m 243 #[rv x1, rv x2, rv x3, iv (4 : Int32), iv x5, iv (0 : Int32), iv (0 : Int32), iv (1 : Int32), iv (x5 &&& (3 : Int32)), iv (0 : Int32)] [(.int (0 : Int32))] _
          refine XS.ifYes X26.here hx rfl (pc0 := 243) (pc' := 252) rfl (hb hby d5_243) rfl ((if0 _ _).trans (teq (by decide : ((0 : Int32) = (0 : Int32)))).1) (by decide) (by decide) ?_
          refine XS.iload X26.here hx rfl (hb hby d5_252) rfl ?_
          refine XS.ifNo X26.here hx rfl (hb hby d5_254) rfl ((if0 _ _).trans (feq (by decide : ¬ ((1 : Int32) = (0 : Int32)))).1) ?_
          refine XS.iload X26.here hx rfl (hb hby d5_257) rfl ?_
          show oS p e below T26 m 259 #[rv x1, rv x2, rv x3, iv (4 : Int32), iv x5, iv (0 : Int32), iv (0 : Int32), iv (1 : Int32), iv (x5 &&& (3 : Int32)), iv (0 : Int32)] [(.int (0 : Int32))] _
          refine XS.iconst X26.here hx rfl (hb hby d5_259) ?_
          refine XS.ior X26.here hx rfl (hb hby d5_260) rfl ?_
          show oS p e below T26 m 261 #[rv x1, rv x2, rv x3, iv (4 : Int32), iv x5, iv (0 : Int32), iv (0 : Int32), iv (1 : Int32), iv (x5 &&& (3 : Int32)), iv (0 : Int32)] [(.int (4 : Int32))] _
          refine XS.istore X26.here hx rfl (hb hby d5_261) rfl (l' := #[rv x1, rv x2, rv x3, iv (4 : Int32), iv x5, iv (0 : Int32), iv (0 : Int32), iv (1 : Int32), iv (x5 &&& (3 : Int32)), iv (4 : Int32)]) rfl ?_
          refine XS.iload X26.here hx rfl (hb hby d5_263) rfl ?_
          exact kt
        obtain ⟨fs, hr, hrun, hended, hW, hsame⟩ := X26.leave (v := some (.int (4 : Int32))) (fun h => by rw [Bd.returns] at h; cases h)
        refine ⟨_, _, pre0 _ (pre1 _ (pre12 _ (pre23 _ (pre27 _ ?_)))), hrun, hended, _, _, rfl, ?_, ⟨_, rfl⟩, hW, hsame.mono (by decide) (by decide)⟩
        · show oS p e below T26 m 265 #[rv x1, rv x2, rv x3, iv (4 : Int32), iv x5, iv (0 : Int32), iv (0 : Int32), iv (1 : Int32), iv (x5 &&& (3 : Int32)), iv (4 : Int32)] [(.int (4 : Int32))] _
          exact retOut X26 hx Bd.returns rfl (Or.inl ⟨rfl, Or.inl rfl, _, rfl⟩) (hb hby d5_265) hr
        · show QS4 Z x1 x2 x3 x5 h0 n0 _ T26.heap _
          rw [eh26]
          exact ⟨(4 : Int32), rfl, N26, (Keep.refl h0 [x1, x2, x3]), (by decide), (Or.inl ⟨(Or.inr rfl), E_x1, E_x2, E_x3, F_first_x1, F_last_x1, F_in_x2, F_before_x2, F_after_x2, F_in_x3, F_before_x3, F_after_x3⟩)⟩
theorem efS5 (m : MethodId) (x1 : Addr) (x2 : Addr) (x3 : Addr) (x5 : Int32) : entryFrame m #[(.ref x1), (.ref x2), (.ref x3), (.int (5 : Int32)), (.int x5)] 10 = mkF m 0 #[rv x1, rv x2, rv x3, iv (5 : Int32), iv x5, .unset, .unset, .unset, .unset, .unset] [] := by first | (simp [entryFrame, mkF, argsToLocals, Value.category]; done) | rfl
def QS5 (Z : State) (x1 : Addr) (x2 : Addr) (x3 : Addr) (x5 : Int32) (h0 : Heap) (n0 : Nat) (v : Option Value) (h : Heap) (L : List Loc) : Prop := ∃ (s : Int32), v = some (.int s) ∧ Fr n0 L ∧ Keep h0 h [x1, x2, x3] ∧ (¬ s < (0 : Int32)) ∧ (own_Sh Z h x1 x2 x3 s)
set_option maxRecDepth 65536 in
set_option maxHeartbeats 40000000 in
theorem rmS5 (l : Launch) (Z : State) (a0 : Array Value) (hw : ∀ d ∈ tables_1, d.before a0 Z = true) (ws : List Jvm.Cond) (x1 : Addr) (x2 : Addr) (x3 : Addr) (x5 : Int32) (h0 : Heap) (n0 : Nat) (Z0 : n0 ≤ h0.size) (E_x1 : Exa Z h0 x1 oz1) (E_x2 : Exa Z h0 x2 oz0) (E_x3 : Exa Z h0 x3 oz0) (g_x1 : n0 ≤ x1) (g_x2 : n0 ≤ x2) (g_x3 : n0 ≤ x3) (ne_x2_x3 : x2 ≠ x3) (F_first_x1 : Fld Z h0 x1 oz1 "first" oz2 (.ref x2)) (F_last_x1 : Fld Z h0 x1 oz1 "last" oz2 (.ref x2)) (F_in_x2 : Fld Z h0 x2 oz0 "in" oz3 (.ref x1)) (F_before_x2 : Fld Z h0 x2 oz0 "before" oz2 .null) (F_after_x2 : Fld Z h0 x2 oz0 "after" oz2 .null) (F_in_x3 : Fld Z h0 x3 oz0 "in" oz3 .null) (F_before_x3 : Fld Z h0 x3 oz0 "before" oz2 .null) (F_after_x3 : Fld Z h0 x3 oz0 "after" oz2 .null) :
    MetFree l (⟨oz6, "step", oz4⟩ : MethodName) (head1 (Jvm.Cond.code (⟨oz6, "step", oz4⟩ : MethodName) method_3_code 10 (some .int) :: ws) ({ frames := 2, cells := 0, slots := 0, locals := 44 } : Room)) (fun a U => a = #[(.ref x1), (.ref x2), (.ref x3), (.int (5 : Int32)), (.int x5)] ∧ Z.Warmed39 U.vm ∧ U.heap = h0) (fun _ _ _ _ _ => True) (fun _ U oc U' => ∃ v L, oc = .returned v ∧ QS5 Z x1 x2 x3 x5 h0 n0 v U'.heap L ∧ FrameEnd U oc U' L ({ frames := 2, cells := 0, slots := 0, locals := 44 } : Room).cells ({ frames := 2, cells := 0, slots := 0, locals := 44 } : Room).slots) := by
  refine MetFree.of_bodySF (plainFor_of_name own_pn2) hisR ?_
  intro p e s m args below meth c s₁ Bd hml0 hP hK
  obtain ⟨rfl, hZ, hh⟩ := hP
  have hx := Bd.exec
  have hby := Bd.bytes
  have hml : c.maxLocals = 10 := hml0
  have hown : s.vm.findClass oz6 = some m.cls := findClass_of_methodNamed Bd.named
  have hnm := (name_of_methodNamed Bd.named Bd.method).1
  have X0 : Stand p l e ({ frames := 2, cells := 0, slots := 0, locals := 44 } : Room) s m #[(.ref x1), (.ref x2), (.ref x3), (.int (5 : Int32)), (.int x5)] below meth c s₁ [] 0 0 := Stand.of_body Bd
  have e0 : s₁.heap = h0 := by rw [← hh, Bd.state]; rfl
  have N0 := Fr.nil n0
  have pre0 : ∀ t, Steps p.tables e below (s₁.setTop (mkF m 0 #[rv x1, rv x2, rv x3, iv (5 : Int32), iv x5, .unset, .unset, .unset, .unset, .unset] [])) t → Steps p.tables e below (s₁.setTop (entryFrame m #[(.ref x1), (.ref x2), (.ref x3), (.int (5 : Int32)), (.int x5)] 10)) t := fun t k => castTop (efS5 m x1 x2 x3 x5) k
  have pre1 : ∀ tz, oS p e below s₁ m 47 #[rv x1, rv x2, rv x3, iv (5 : Int32), iv x5, iv (1 : Int32), iv (0 : Int32), iv (1 : Int32), iv (x5 &&& (3 : Int32)), .unset] [(.int (x5 &&& (3 : Int32)))] tz → oS p e below s₁ m 0 #[rv x1, rv x2, rv x3, iv (5 : Int32), iv x5, .unset, .unset, .unset, .unset, .unset] [] tz := fun tz kt => by
    show oS p e below s₁ m 0 #[rv x1, rv x2, rv x3, iv (5 : Int32), iv x5, .unset, .unset, .unset, .unset, .unset] [] _
    refine XS.iloadN X0.here hx rfl (hb hby d5_0) rfl ?_
    refine XS.iconst X0.here hx rfl (hb hby d5_1) ?_
    refine XS.iand X0.here hx rfl (hb hby d5_2) rfl ?_
    show oS p e below s₁ m 3 #[rv x1, rv x2, rv x3, iv (5 : Int32), iv x5, .unset, .unset, .unset, .unset, .unset] [(.int (1 : Int32))] _
    refine XS.ifNo X0.here hx rfl (hb hby d5_3) rfl ((if0 _ _).trans (feq (by decide : ¬ ((1 : Int32) = (0 : Int32)))).1) ?_
    refine XS.iconst X0.here hx rfl (hb hby d5_6) ?_
    refine XS.goto X0.here hx rfl (pc0 := 7) (pc' := 11) rfl (hb hby d5_7) (by decide) (by decide) ?_
    refine XS.istore X0.here hx rfl (hb hby d5_11) rfl (l' := #[rv x1, rv x2, rv x3, iv (5 : Int32), iv x5, iv (1 : Int32), .unset, .unset, .unset, .unset]) rfl ?_
    show oS p e below s₁ m 13 #[rv x1, rv x2, rv x3, iv (5 : Int32), iv x5, iv (1 : Int32), .unset, .unset, .unset, .unset] [] _
    refine XS.iloadN X0.here hx rfl (hb hby d5_13) rfl ?_
    refine XS.iconst X0.here hx rfl (hb hby d5_14) ?_
    refine XS.iand X0.here hx rfl (hb hby d5_15) rfl ?_
    show oS p e below s₁ m 16 #[rv x1, rv x2, rv x3, iv (5 : Int32), iv x5, iv (1 : Int32), .unset, .unset, .unset, .unset] [(.int (0 : Int32))] _
    refine XS.ifYes X0.here hx rfl (pc0 := 16) (pc' := 23) rfl (hb hby d5_16) rfl ((if0 _ _).trans (teq (by decide : ((0 : Int32) = (0 : Int32)))).1) (by decide) (by decide) ?_
    refine XS.iconst X0.here hx rfl (hb hby d5_23) ?_
    refine XS.istore X0.here hx rfl (hb hby d5_24) rfl (l' := #[rv x1, rv x2, rv x3, iv (5 : Int32), iv x5, iv (1 : Int32), iv (0 : Int32), .unset, .unset, .unset]) rfl ?_
    refine XS.iloadN X0.here hx rfl (hb hby d5_26) rfl ?_
    show oS p e below s₁ m 27 #[rv x1, rv x2, rv x3, iv (5 : Int32), iv x5, iv (1 : Int32), iv (0 : Int32), .unset, .unset, .unset] [(.int (5 : Int32))] _
    refine XS.iconst X0.here hx rfl (hb hby d5_27) ?_
    refine XS.iand X0.here hx rfl (hb hby d5_28) rfl ?_
    show oS p e below s₁ m 29 #[rv x1, rv x2, rv x3, iv (5 : Int32), iv x5, iv (1 : Int32), iv (0 : Int32), .unset, .unset, .unset] [(.int (4 : Int32))] _
    refine XS.ifNo X0.here hx rfl (hb hby d5_29) rfl ((if0 _ _).trans (feq (by decide : ¬ ((4 : Int32) = (0 : Int32)))).1) ?_
    refine XS.iconst X0.here hx rfl (hb hby d5_32) ?_
    refine XS.goto X0.here hx rfl (pc0 := 33) (pc' := 37) rfl (hb hby d5_33) (by decide) (by decide) ?_
    refine XS.istore X0.here hx rfl (hb hby d5_37) rfl (l' := #[rv x1, rv x2, rv x3, iv (5 : Int32), iv x5, iv (1 : Int32), iv (0 : Int32), iv (1 : Int32), .unset, .unset]) rfl ?_
    show oS p e below s₁ m 39 #[rv x1, rv x2, rv x3, iv (5 : Int32), iv x5, iv (1 : Int32), iv (0 : Int32), iv (1 : Int32), .unset, .unset] [] _
    refine XS.iload X0.here hx rfl (hb hby d5_39) rfl ?_
    refine XS.iconst X0.here hx rfl (hb hby d5_41) ?_
    refine XS.iand X0.here hx rfl (hb hby d5_42) rfl ?_
    refine XS.istore X0.here hx rfl (hb hby d5_43) rfl (l' := #[rv x1, rv x2, rv x3, iv (5 : Int32), iv x5, iv (1 : Int32), iv (0 : Int32), iv (1 : Int32), iv (x5 &&& (3 : Int32)), .unset]) rfl ?_
    show oS p e below s₁ m 45 #[rv x1, rv x2, rv x3, iv (5 : Int32), iv x5, iv (1 : Int32), iv (0 : Int32), iv (1 : Int32), iv (x5 &&& (3 : Int32)), .unset] [] _
    refine XS.iload X0.here hx rfl (hb hby d5_45) rfl ?_
    exact kt
  by_cases hc47 : (x5 &&& (3 : Int32)) = (0 : Int32)
  · obtain ⟨cq2, kq2, q2a, q2b, q2c⟩ := isOf hZ e0 E_x1
    obtain ⟨_, _, ⟨T2, Lw2, kw2, nw2⟩, -, X2, ⟨Lc2, hQ2, l2, y2, z2⟩, st2⟩ := X0.virtualBack hx (y := (⟨oz1, "remove", oz5⟩ : MethodName)) (z := (⟨oz1, "remove", oz5⟩ : MethodName)) hown (mvT hZ (own_w hw 46 rfl)) (mvT hZ (own_w hw 47 rfl)) (notFace_of_selects (args := #[]) (mvT hZ (own_w hw 49 rfl))) (mvT hZ (own_w hw 49 rfl)) (mvT hZ (own_w hw 48 rfl)) (by decide) (backOf (W := 0) (rmR00 l Z a0 hw [] x1 x2 (.ref x2) (.ref x2) h0 n0 Z0 E_x1 E_x2 g_x1 g_x2 F_first_x1 F_last_x1 F_in_x2 F_before_x2 F_after_x2) hZ (own_w hw 50 rfl) (own_w hw 2 rfl) (by decide) (by decide)) q2a q2c (g := (mkF m 57 #[rv x1, rv x2, rv x3, iv (5 : Int32), iv x5, iv (1 : Int32), iv (0 : Int32), iv (1 : Int32), iv (x5 &&& (3 : Int32)), .unset] [(.ref x2), (.ref x1)])) rfl (by rw [hml]; rfl) (Steps.refl _) (argsL := [(.ref x2)]) (rest := []) (lenOf own_pd2 rfl) rfl (by show 2 * 0 + _ ≤ _; exact Nat.le_of_eq rfl) (hb hby d5_57) (fun _ _ => ⟨rfl, e0, (by decide : 0 + 0 ≤ _), (by decide : 0 + 0 ≤ _)⟩)
    dsimp only [Pt.U, Pt.locs, Pt.cells, Pt.slots] at X2 l2 y2 z2 st2 hQ2
    subst l2 y2 z2
    obtain ⟨rfl, Nq2, K2, pf2_0, pf2_1, pf2_2, pf2_3, pf2_4⟩ := hQ2
    have N2 := Fr.app N0 Nq2
    have pre3 : ∀ tz, oS p e below T2 m 265 #[rv x1, rv x2, rv x3, iv (5 : Int32), iv x5, iv (0 : Int32), iv (0 : Int32), iv (1 : Int32), iv (x5 &&& (3 : Int32)), iv (4 : Int32)] [(.int (4 : Int32))] tz → oS p e below s₁ m 47 #[rv x1, rv x2, rv x3, iv (5 : Int32), iv x5, iv (1 : Int32), iv (0 : Int32), iv (1 : Int32), iv (x5 &&& (3 : Int32)), .unset] [(.int (x5 &&& (3 : Int32)))] tz := fun tz kt => by
      show oS p e below s₁ m 47 #[rv x1, rv x2, rv x3, iv (5 : Int32), iv x5, iv (1 : Int32), iv (0 : Int32), iv (1 : Int32), iv (x5 &&& (3 : Int32)), .unset] [(.int (x5 &&& (3 : Int32)))] _
      refine XS.ifNo X0.here hx rfl (hb hby d5_47) rfl ((if0 _ _).trans (teq hc47).2) ?_
      refine XS.iload X0.here hx rfl (hb hby d5_50) rfl ?_
      refine XS.ifNo X0.here hx rfl (hb hby d5_52) rfl ((if0 _ _).trans (feq (by decide : ¬ ((1 : Int32) = (0 : Int32)))).1) ?_
      refine XS.aloadN X0.here hx rfl (hb hby d5_55) rfl rfl ?_
      show oS p e below s₁ m 56 #[rv x1, rv x2, rv x3, iv (5 : Int32), iv x5, iv (1 : Int32), iv (0 : Int32), iv (1 : Int32), iv (x5 &&& (3 : Int32)), .unset] [(.ref x1)] _
      refine XS.aloadN X0.here hx rfl (hb hby d5_56) rfl rfl ?_
      show oS p e below s₁ m 57 #[rv x1, rv x2, rv x3, iv (5 : Int32), iv x5, iv (1 : Int32), iv (0 : Int32), iv (1 : Int32), iv (x5 &&& (3 : Int32)), .unset] [(.ref x2), (.ref x1)] _
      refine st2.trans ?_
      refine XS.ifYes X2.here hx rfl (pc0 := 60) (pc' := 65) rfl (hb hby d5_60) rfl ((if0 _ _).trans (feq (by decide : ¬ ((1 : Int32) = (0 : Int32)))).2) (by decide) (by decide) ?_
      refine XS.iconst X2.here hx rfl (hb hby d5_65) ?_
      refine XS.istore X2.here hx rfl (hb hby d5_66) rfl (l' := #[rv x1, rv x2, rv x3, iv (5 : Int32), iv x5, iv (0 : Int32), iv (0 : Int32), iv (1 : Int32), iv (x5 &&& (3 : Int32)), .unset]) rfl ?_
      show oS p e below T2 m 68 #[rv x1, rv x2, rv x3, iv (5 : Int32), iv x5, iv (0 : Int32), iv (0 : Int32), iv (1 : Int32), iv (x5 &&& (3 : Int32)), .unset] [] _
      refine XS.goto X2.here hx rfl (pc0 := 68) (pc' := 227) rfl (hb hby d5_68) (by decide) (by decide) ?_
      refine XS.iconst X2.here hx rfl (hb hby d5_227) ?_
      refine XS.istore X2.here hx rfl (hb hby d5_228) rfl (l' := #[rv x1, rv x2, rv x3, iv (5 : Int32), iv x5, iv (0 : Int32), iv (0 : Int32), iv (1 : Int32), iv (x5 &&& (3 : Int32)), iv (0 : Int32)]) rfl ?_
      refine XS.iload X2.here hx rfl (hb hby d5_230) rfl ?_
      show oS p e below T2 m 232 #[rv x1, rv x2, rv x3, iv (5 : Int32), iv x5, iv (0 : Int32), iv (0 : Int32), iv (1 : Int32), iv (x5 &&& (3 : Int32)), iv (0 : Int32)] [(.int (0 : Int32))] _
      refine XS.ifYes X2.here hx rfl (pc0 := 232) (pc' := 241) rfl (hb hby d5_232) rfl ((if0 _ _).trans (teq (by decide : ((0 : Int32) = (0 : Int32)))).1) (by decide) (by decide) ?_
      refine XS.iload X2.here hx rfl (hb hby d5_241) rfl ?_
      refine XS.ifYes X2.here hx rfl (pc0 := 243) (pc' := 252) rfl (hb hby d5_243) rfl ((if0 _ _).trans (teq (by decide : ((0 : Int32) = (0 : Int32)))).1) (by decide) (by decide) ?_
      refine XS.iload X2.here hx rfl (hb hby d5_252) rfl ?_
      show oS p e below T2 m 254 #[rv x1, rv x2, rv x3, iv (5 : Int32), iv x5, iv (0 : Int32), iv (0 : Int32), iv (1 : Int32), iv (x5 &&& (3 : Int32)), iv (0 : Int32)] [(.int (1 : Int32))] _
      refine XS.ifNo X2.here hx rfl (hb hby d5_254) rfl ((if0 _ _).trans (feq (by decide : ¬ ((1 : Int32) = (0 : Int32)))).1) ?_
      refine XS.iload X2.here hx rfl (hb hby d5_257) rfl ?_
      refine XS.iconst X2.here hx rfl (hb hby d5_259) ?_
      refine XS.ior X2.here hx rfl (hb hby d5_260) rfl ?_
      show oS p e below T2 m 261 #[rv x1, rv x2, rv x3, iv (5 : Int32), iv x5, iv (0 : Int32), iv (0 : Int32), iv (1 : Int32), iv (x5 &&& (3 : Int32)), iv (0 : Int32)] [(.int (4 : Int32))] _
      refine XS.istore X2.here hx rfl (hb hby d5_261) rfl (l' := #[rv x1, rv x2, rv x3, iv (5 : Int32), iv x5, iv (0 : Int32), iv (0 : Int32), iv (1 : Int32), iv (x5 &&& (3 : Int32)), iv (4 : Int32)]) rfl ?_
      refine XS.iload X2.here hx rfl (hb hby d5_263) rfl ?_
      exact kt
    have KP4 : Keep h0 T2.heap [x1, x2, x3] := ((Keep.refl h0 [x1, x2, x3]).trans K2 (allS (Or.inl (List.mem_of_getElem? (i := 0) rfl)) (allS (Or.inl (List.mem_of_getElem? (i := 1) rfl)) all0)))
    have Ec5 : Exa Z T2.heap x1 oz1 := (E_x1.keep K2)
    have Ec6 : Exa Z T2.heap x2 oz0 := (E_x2.keep K2)
    have Ec7 : Exa Z T2.heap x3 oz0 := (E_x3.keep K2)
    have ne8 : x3 ≠ x1 := ne_exa Ec7 Ec5 (by decide)
    have Fc9 : Fld Z T2.heap x3 oz0 "in" oz3 .null := (F_in_x3.keep K2 (ninS ne8 (ninS (Ne.symm ne_x2_x3) nin0)))
    have Fc10 : Fld Z T2.heap x3 oz0 "before" oz2 .null := (F_before_x3.keep K2 (ninS ne8 (ninS (Ne.symm ne_x2_x3) nin0)))
    have Fc11 : Fld Z T2.heap x3 oz0 "after" oz2 .null := (F_after_x3.keep K2 (ninS ne8 (ninS (Ne.symm ne_x2_x3) nin0)))
    obtain ⟨fs, hr, hrun, hended, hW, hsame⟩ := X2.leave (v := some (.int (4 : Int32))) (fun h => by rw [Bd.returns] at h; cases h)
    refine ⟨_, _, pre0 _ (pre1 _ (pre3 _ ?_)), hrun, hended, _, _, rfl, ?_, ⟨_, rfl⟩, hW, hsame.mono (by decide) (by decide)⟩
    · show oS p e below T2 m 265 #[rv x1, rv x2, rv x3, iv (5 : Int32), iv x5, iv (0 : Int32), iv (0 : Int32), iv (1 : Int32), iv (x5 &&& (3 : Int32)), iv (4 : Int32)] [(.int (4 : Int32))] _
      exact retOut X2 hx Bd.returns rfl (Or.inl ⟨rfl, Or.inl rfl, _, rfl⟩) (hb hby d5_265) hr
    · show QS5 Z x1 x2 x3 x5 h0 n0 _ T2.heap _
      exact ⟨(4 : Int32), rfl, N2, KP4, (by decide), (Or.inl ⟨(Or.inr rfl), Ec5, Ec6, Ec7, pf2_0, pf2_1, pf2_2, pf2_3, pf2_4, Fc9, Fc10, Fc11⟩)⟩
  · have pre12 : ∀ tz, oS p e below s₁ m 97 #[rv x1, rv x2, rv x3, iv (5 : Int32), iv x5, iv (1 : Int32), iv (0 : Int32), iv (1 : Int32), iv (x5 &&& (3 : Int32)), .unset] [(.int (1 : Int32)), (.int (x5 &&& (3 : Int32)))] tz → oS p e below s₁ m 47 #[rv x1, rv x2, rv x3, iv (5 : Int32), iv x5, iv (1 : Int32), iv (0 : Int32), iv (1 : Int32), iv (x5 &&& (3 : Int32)), .unset] [(.int (x5 &&& (3 : Int32)))] tz := fun tz kt => by
      show oS p e below s₁ m 47 #[rv x1, rv x2, rv x3, iv (5 : Int32), iv x5, iv (1 : Int32), iv (0 : Int32), iv (1 : Int32), iv (x5 &&& (3 : Int32)), .unset] [(.int (x5 &&& (3 : Int32)))] _
      refine XS.ifYes X0.here hx rfl (pc0 := 47) (pc' := 94) rfl (hb hby d5_47) rfl ((if0 _ _).trans (feq hc47).2) (by decide) (by decide) ?_
      refine XS.iload X0.here hx rfl (hb hby d5_94) rfl ?_
      refine XS.iconst X0.here hx rfl (hb hby d5_96) ?_
      exact kt
    by_cases hc97 : (x5 &&& (3 : Int32)) = (1 : Int32)
    · obtain ⟨cq13, kq13, q13a, q13b, q13c⟩ := isOf hZ e0 E_x1
      obtain ⟨_, _, ⟨T13, Lw13, kw13, nw13⟩, -, X13, ⟨Lc13, hQ13, l13, y13, z13⟩, st13⟩ := X0.virtualBack hx (y := (⟨oz1, "add", oz7⟩ : MethodName)) (z := (⟨oz1, "add", oz7⟩ : MethodName)) hown (mvT hZ (own_w hw 35 rfl)) (mvT hZ (own_w hw 36 rfl)) (notFace_of_selects (args := #[]) (mvT hZ (own_w hw 38 rfl))) (mvT hZ (own_w hw 38 rfl)) (mvT hZ (own_w hw 37 rfl)) (by decide) (backOf (W := 0) (rmA1 l Z a0 hw [] x1 x3 (.ref x2) (.ref x1) .null .null x2 h0 n0 Z0 E_x1 E_x3 E_x2 g_x1 g_x3 g_x2 (Ne.symm ne_x2_x3) F_first_x1 F_last_x1 F_in_x3 F_before_x3 F_after_x3 F_in_x2 F_before_x2 F_after_x2) hZ (own_w hw 39 rfl) (own_w hw 2 rfl) (by decide) (by decide)) q13a q13c (g := (mkF m 123 #[rv x1, rv x2, rv x3, iv (5 : Int32), iv x5, iv (1 : Int32), iv (0 : Int32), iv (1 : Int32), iv (x5 &&& (3 : Int32)), .unset] [(.ref x3), (.ref x1)])) rfl (by rw [hml]; rfl) (Steps.refl _) (argsL := [(.ref x3)]) (rest := []) (lenOf own_pd0 rfl) rfl (by show 2 * 0 + _ ≤ _; exact Nat.le_of_eq rfl) (hb hby d5_123) (fun _ _ => ⟨rfl, e0, (by decide : 0 + 0 ≤ _), (by decide : 0 + 0 ≤ _)⟩)
      dsimp only [Pt.U, Pt.locs, Pt.cells, Pt.slots] at X13 l13 y13 z13 st13 hQ13
      subst l13 y13 z13
      obtain ⟨rfl, Nq13, K13, pf13_0, pf13_1, pf13_2, pf13_3, pf13_4, pf13_5, pf13_6, pf13_7⟩ := hQ13
      have N13 := Fr.app N0 Nq13
      have pre14 : ∀ tz, oS p e below T13 m 265 #[rv x1, rv x2, rv x3, iv (5 : Int32), iv x5, iv (1 : Int32), iv (1 : Int32), iv (1 : Int32), iv (x5 &&& (3 : Int32)), iv (7 : Int32)] [(.int (7 : Int32))] tz → oS p e below s₁ m 97 #[rv x1, rv x2, rv x3, iv (5 : Int32), iv x5, iv (1 : Int32), iv (0 : Int32), iv (1 : Int32), iv (x5 &&& (3 : Int32)), .unset] [(.int (1 : Int32)), (.int (x5 &&& (3 : Int32)))] tz := fun tz kt => by
        show oS p e below s₁ m 97 #[rv x1, rv x2, rv x3, iv (5 : Int32), iv x5, iv (1 : Int32), iv (0 : Int32), iv (1 : Int32), iv (x5 &&& (3 : Int32)), .unset] [(.int (1 : Int32)), (.int (x5 &&& (3 : Int32)))] _
        refine XS.icmpNo X0.here hx rfl (hb hby d5_97) rfl (teq hc97).2 ?_
        refine XS.iload X0.here hx rfl (hb hby d5_100) rfl ?_
        refine XS.ifYes X0.here hx rfl (pc0 := 102) (pc' := 121) rfl (hb hby d5_102) rfl ((if0 _ _).trans (teq (by decide : ((0 : Int32) = (0 : Int32)))).1) (by decide) (by decide) ?_
        refine XS.aloadN X0.here hx rfl (hb hby d5_121) rfl rfl ?_
        show oS p e below s₁ m 122 #[rv x1, rv x2, rv x3, iv (5 : Int32), iv x5, iv (1 : Int32), iv (0 : Int32), iv (1 : Int32), iv (x5 &&& (3 : Int32)), .unset] [(.ref x1)] _
        refine XS.aloadN X0.here hx rfl (hb hby d5_122) rfl rfl ?_
        show oS p e below s₁ m 123 #[rv x1, rv x2, rv x3, iv (5 : Int32), iv x5, iv (1 : Int32), iv (0 : Int32), iv (1 : Int32), iv (x5 &&& (3 : Int32)), .unset] [(.ref x3), (.ref x1)] _
        refine st13.trans ?_
        refine XS.iconst X13.here hx rfl (hb hby d5_126) ?_
        refine XS.istore X13.here hx rfl (hb hby d5_127) rfl (l' := #[rv x1, rv x2, rv x3, iv (5 : Int32), iv x5, iv (1 : Int32), iv (1 : Int32), iv (1 : Int32), iv (x5 &&& (3 : Int32)), .unset]) rfl ?_
        refine XS.iload X13.here hx rfl (hb hby d5_129) rfl ?_
        show oS p e below T13 m 131 #[rv x1, rv x2, rv x3, iv (5 : Int32), iv x5, iv (1 : Int32), iv (1 : Int32), iv (1 : Int32), iv (x5 &&& (3 : Int32)), .unset] [(.int (1 : Int32))] _
        refine XS.istore X13.here hx rfl (hb hby d5_131) rfl (l' := #[rv x1, rv x2, rv x3, iv (5 : Int32), iv x5, iv (1 : Int32), iv (1 : Int32), iv (1 : Int32), iv (x5 &&& (3 : Int32)), .unset]) rfl ?_
        refine XS.goto X13.here hx rfl (pc0 := 133) (pc' := 227) rfl (hb hby d5_133) (by decide) (by decide) ?_
        refine XS.iconst X13.here hx rfl (hb hby d5_227) ?_
        refine XS.istore X13.here hx rfl (hb hby d5_228) rfl (l' := #[rv x1, rv x2, rv x3, iv (5 : Int32), iv x5, iv (1 : Int32), iv (1 : Int32), iv (1 : Int32), iv (x5 &&& (3 : Int32)), iv (0 : Int32)]) rfl ?_
        show oS p e below T13 m 230 #[rv x1, rv x2, rv x3, iv (5 : Int32), iv x5, iv (1 : Int32), iv (1 : Int32), iv (1 : Int32), iv (x5 &&& (3 : Int32)), iv (0 : Int32)] [] _
        refine XS.iload X13.here hx rfl (hb hby d5_230) rfl ?_
        refine XS.ifNo X13.here hx rfl (hb hby d5_232) rfl ((if0 _ _).trans (feq (by decide : ¬ ((1 : Int32) = (0 : Int32)))).1) ?_
        refine XS.iload X13.here hx rfl (hb hby d5_235) rfl ?_
        refine XS.iconst X13.here hx rfl (hb hby d5_237) ?_
        show oS p e below T13 m 238 #[rv x1, rv x2, rv x3, iv (5 : Int32), iv x5, iv (1 : Int32), iv (1 : Int32), iv (1 : Int32), iv (x5 &&& (3 : Int32)), iv (0 : Int32)] [(.int (1 : Int32)), (.int (0 : Int32))] _
        refine XS.ior X13.here hx rfl (hb hby d5_238) rfl ?_
        show oS p e below T13 m 239 #[rv x1, rv x2, rv x3, iv (5 : Int32), iv x5, iv (1 : Int32), iv (1 : Int32), iv (1 : Int32), iv (x5 &&& (3 : Int32)), iv (0 : Int32)] [(.int (1 : Int32))] _
        refine XS.istore X13.here hx rfl (hb hby d5_239) rfl (l' := #[rv x1, rv x2, rv x3, iv (5 : Int32), iv x5, iv (1 : Int32), iv (1 : Int32), iv (1 : Int32), iv (x5 &&& (3 : Int32)), iv (1 : Int32)]) rfl ?_
        refine XS.iload X13.here hx rfl (hb hby d5_241) rfl ?_
        refine XS.ifNo X13.here hx rfl (hb hby d5_243) rfl ((if0 _ _).trans (feq (by decide : ¬ ((1 : Int32) = (0 : Int32)))).1) ?_
        refine XS.iload X13.here hx rfl (hb hby d5_246) rfl ?_
        show oS p e below T13 m 248 #[rv x1, rv x2, rv x3, iv (5 : Int32), iv x5, iv (1 : Int32), iv (1 : Int32), iv (1 : Int32), iv (x5 &&& (3 : Int32)), iv (1 : Int32)] [(.int (1 : Int32))] _
        refine XS.iconst X13.here hx rfl (hb hby d5_248) ?_
        refine XS.ior X13.here hx rfl (hb hby d5_249) rfl ?_
        show oS p e below T13 m 250 #[rv x1, rv x2, rv x3, iv (5 : Int32), iv x5, iv (1 : Int32), iv (1 : Int32), iv (1 : Int32), iv (x5 &&& (3 : Int32)), iv (1 : Int32)] [(.int (3 : Int32))] _
        refine XS.istore X13.here hx rfl (hb hby d5_250) rfl (l' := #[rv x1, rv x2, rv x3, iv (5 : Int32), iv x5, iv (1 : Int32), iv (1 : Int32), iv (1 : Int32), iv (x5 &&& (3 : Int32)), iv (3 : Int32)]) rfl ?_
        refine XS.iload X13.here hx rfl (hb hby d5_252) rfl ?_
        refine XS.ifNo X13.here hx rfl (hb hby d5_254) rfl ((if0 _ _).trans (feq (by decide : ¬ ((1 : Int32) = (0 : Int32)))).1) ?_
        refine XS.iload X13.here hx rfl (hb hby d5_257) rfl ?_
        show oS p e below T13 m 259 #[rv x1, rv x2, rv x3, iv (5 : Int32), iv x5, iv (1 : Int32), iv (1 : Int32), iv (1 : Int32), iv (x5 &&& (3 : Int32)), iv (3 : Int32)] [(.int (3 : Int32))] _
        refine XS.iconst X13.here hx rfl (hb hby d5_259) ?_
        refine XS.ior X13.here hx rfl (hb hby d5_260) rfl ?_
        show oS p e below T13 m 261 #[rv x1, rv x2, rv x3, iv (5 : Int32), iv x5, iv (1 : Int32), iv (1 : Int32), iv (1 : Int32), iv (x5 &&& (3 : Int32)), iv (3 : Int32)] [(.int (7 : Int32))] _
        refine XS.istore X13.here hx rfl (hb hby d5_261) rfl (l' := #[rv x1, rv x2, rv x3, iv (5 : Int32), iv x5, iv (1 : Int32), iv (1 : Int32), iv (1 : Int32), iv (x5 &&& (3 : Int32)), iv (7 : Int32)]) rfl ?_
        refine XS.iload X13.here hx rfl (hb hby d5_263) rfl ?_
        exact kt
      have KP15 : Keep h0 T13.heap [x1, x2, x3] := ((Keep.refl h0 [x1, x2, x3]).trans K13 (allS (Or.inl (List.mem_of_getElem? (i := 0) rfl)) (allS (Or.inl (List.mem_of_getElem? (i := 2) rfl)) (allS (Or.inl (List.mem_of_getElem? (i := 1) rfl)) all0))))
      have Ec16 : Exa Z T13.heap x1 oz1 := (E_x1.keep K13)
      have Ec17 : Exa Z T13.heap x2 oz0 := (E_x2.keep K13)
      have Ec18 : Exa Z T13.heap x3 oz0 := (E_x3.keep K13)
      obtain ⟨fs, hr, hrun, hended, hW, hsame⟩ := X13.leave (v := some (.int (7 : Int32))) (fun h => by rw [Bd.returns] at h; cases h)
      refine ⟨_, _, pre0 _ (pre1 _ (pre12 _ (pre14 _ ?_))), hrun, hended, _, _, rfl, ?_, ⟨_, rfl⟩, hW, hsame.mono (by decide) (by decide)⟩
      · show oS p e below T13 m 265 #[rv x1, rv x2, rv x3, iv (5 : Int32), iv x5, iv (1 : Int32), iv (1 : Int32), iv (1 : Int32), iv (x5 &&& (3 : Int32)), iv (7 : Int32)] [(.int (7 : Int32))] _
        exact retOut X13 hx Bd.returns rfl (Or.inl ⟨rfl, Or.inl rfl, _, rfl⟩) (hb hby d5_265) hr
      · show QS5 Z x1 x2 x3 x5 h0 n0 _ T13.heap _
        exact ⟨(7 : Int32), rfl, N13, KP15, (by decide), (Or.inr (Or.inr (Or.inr (Or.inr ⟨rfl, Ec16, Ec17, Ec18, pf13_0, pf13_1, pf13_5, pf13_6, pf13_7, pf13_2, pf13_3, pf13_4⟩))))⟩
    · have pre19 : ∀ tz, oS p e below s₁ m 139 #[rv x1, rv x2, rv x3, iv (5 : Int32), iv x5, iv (1 : Int32), iv (0 : Int32), iv (1 : Int32), iv (x5 &&& (3 : Int32)), .unset] [(.int (2 : Int32)), (.int (x5 &&& (3 : Int32)))] tz → oS p e below s₁ m 97 #[rv x1, rv x2, rv x3, iv (5 : Int32), iv x5, iv (1 : Int32), iv (0 : Int32), iv (1 : Int32), iv (x5 &&& (3 : Int32)), .unset] [(.int (1 : Int32)), (.int (x5 &&& (3 : Int32)))] tz := fun tz kt => by
        show oS p e below s₁ m 97 #[rv x1, rv x2, rv x3, iv (5 : Int32), iv x5, iv (1 : Int32), iv (0 : Int32), iv (1 : Int32), iv (x5 &&& (3 : Int32)), .unset] [(.int (1 : Int32)), (.int (x5 &&& (3 : Int32)))] _
        refine XS.icmpYes X0.here hx rfl (pc0 := 97) (pc' := 136) rfl (hb hby d5_97) rfl (feq hc97).2 (by decide) (by decide) ?_
        refine XS.iload X0.here hx rfl (hb hby d5_136) rfl ?_
        refine XS.iconst X0.here hx rfl (hb hby d5_138) ?_
        exact kt
      by_cases hc139 : (x5 &&& (3 : Int32)) = (2 : Int32)
      · obtain ⟨cq20, kq20, q20a, q20b, q20c⟩ := isOf hZ e0 E_x1
        obtain ⟨_, _, ⟨T20, Lw20, kw20, nw20⟩, -, X20, ⟨Lc20, hQ20, l20, y20, z20⟩, st20⟩ := X0.virtualBack hx (y := (⟨oz1, "poll", oz8⟩ : MethodName)) (z := (⟨oz1, "poll", oz8⟩ : MethodName)) hown (mvT hZ (own_w hw 57 rfl)) (mvT hZ (own_w hw 58 rfl)) (notFace_of_selects (args := #[]) (mvT hZ (own_w hw 60 rfl))) (mvT hZ (own_w hw 60 rfl)) (mvT hZ (own_w hw 59 rfl)) (by decide) (backOf (W := 0) (rmP00 l Z a0 hw [] x1 (.ref x2) (.ref x1) x2 h0 n0 Z0 E_x1 E_x2 g_x1 g_x2 F_first_x1 F_last_x1 F_in_x2 F_before_x2 F_after_x2) hZ (own_w hw 61 rfl) (own_w hw 2 rfl) (by decide) (by decide)) q20a q20c (g := (mkF m 143 #[rv x1, rv x2, rv x3, iv (5 : Int32), iv x5, iv (1 : Int32), iv (0 : Int32), iv (1 : Int32), iv (x5 &&& (3 : Int32)), .unset] [(.ref x1)])) rfl (by rw [hml]; rfl) (Steps.refl _) (argsL := []) (rest := []) (lenOf own_pd1 rfl) rfl (by show 2 * 0 + _ ≤ _; exact Nat.le_of_eq rfl) (hb hby d5_143) (fun _ _ => ⟨rfl, e0, (by decide : 0 + 0 ≤ _), (by decide : 0 + 0 ≤ _)⟩)
        dsimp only [Pt.U, Pt.locs, Pt.cells, Pt.slots] at X20 l20 y20 z20 st20 hQ20
        subst l20 y20 z20
        obtain ⟨rfl, Nq20, K20, pf20_0, pf20_1, pf20_2, pf20_3, pf20_4⟩ := hQ20
        have N20 := Fr.app N0 Nq20
        have pre21 : ∀ tz, oS p e below T20 m 265 #[rv x1, rv x2, rv x3, iv (5 : Int32), iv x5, iv (0 : Int32), iv (0 : Int32), iv (1 : Int32), iv (x5 &&& (3 : Int32)), iv (4 : Int32)] [(.int (4 : Int32))] tz → oS p e below s₁ m 139 #[rv x1, rv x2, rv x3, iv (5 : Int32), iv x5, iv (1 : Int32), iv (0 : Int32), iv (1 : Int32), iv (x5 &&& (3 : Int32)), .unset] [(.int (2 : Int32)), (.int (x5 &&& (3 : Int32)))] tz := fun tz kt => by
          show oS p e below s₁ m 139 #[rv x1, rv x2, rv x3, iv (5 : Int32), iv x5, iv (1 : Int32), iv (0 : Int32), iv (1 : Int32), iv (x5 &&& (3 : Int32)), .unset] [(.int (2 : Int32)), (.int (x5 &&& (3 : Int32)))] _
          refine XS.icmpNo X0.here hx rfl (hb hby d5_139) rfl (teq hc139).2 ?_
          refine XS.aloadN X0.here hx rfl (hb hby d5_142) rfl rfl ?_
          show oS p e below s₁ m 143 #[rv x1, rv x2, rv x3, iv (5 : Int32), iv x5, iv (1 : Int32), iv (0 : Int32), iv (1 : Int32), iv (x5 &&& (3 : Int32)), .unset] [(.ref x1)] _
          refine st20.trans ?_
          refine XS.astore X20.here hx rfl (hb hby d5_146) rfl rfl (l' := #[rv x1, rv x2, rv x3, iv (5 : Int32), iv x5, iv (1 : Int32), iv (0 : Int32), iv (1 : Int32), iv (x5 &&& (3 : Int32)), rv x2]) rfl ?_
          refine XS.iload X20.here hx rfl (hb hby d5_148) rfl ?_
          refine XS.ifYes X20.here hx rfl (pc0 := 150) (pc' := 165) rfl (hb hby d5_150) rfl ((if0 _ _).trans (feq (by decide : ¬ ((1 : Int32) = (0 : Int32)))).2) (by decide) (by decide) ?_
          show oS p e below T20 m 165 #[rv x1, rv x2, rv x3, iv (5 : Int32), iv x5, iv (1 : Int32), iv (0 : Int32), iv (1 : Int32), iv (x5 &&& (3 : Int32)), rv x2] [] _
          refine XS.iload X20.here hx rfl (hb hby d5_165) rfl ?_
          refine XS.ifNo X20.here hx rfl (hb hby d5_167) rfl ((if0 _ _).trans (feq (by decide : ¬ ((1 : Int32) = (0 : Int32)))).1) ?_
          refine XS.iload X20.here hx rfl (hb hby d5_170) rfl ?_
          refine XS.ifYes X20.here hx rfl (pc0 := 172) (pc' := 180) rfl (hb hby d5_172) rfl ((if0 _ _).trans (teq (by decide : ((0 : Int32) = (0 : Int32)))).1) (by decide) (by decide) ?_
          show oS p e below T20 m 180 #[rv x1, rv x2, rv x3, iv (5 : Int32), iv x5, iv (1 : Int32), iv (0 : Int32), iv (1 : Int32), iv (x5 &&& (3 : Int32)), rv x2] [] _
          refine XS.aload X20.here hx rfl (hb hby d5_180) rfl rfl ?_
          refine XS.aloadN X20.here hx rfl (hb hby d5_182) rfl rfl ?_
          refine Jvm.RoadKit.acmp (g := (mkF m 183 #[rv x1, rv x2, rv x3, iv (5 : Int32), iv x5, iv (1 : Int32), iv (0 : Int32), iv (1 : Int32), iv (x5 &&& (3 : Int32)), rv x2] [(.ref x2), (.ref x2)])) X20 hx rfl rfl rfl (pc0 := 183) (pc' := 188) (same := true) rfl (hb hby d5_183) rfl (decide_eq_true rfl) (by decide) (by decide) ?_
          refine XS.iconst X20.here hx rfl (hb hby d5_188) ?_
          show oS p e below T20 m 189 #[rv x1, rv x2, rv x3, iv (5 : Int32), iv x5, iv (1 : Int32), iv (0 : Int32), iv (1 : Int32), iv (x5 &&& (3 : Int32)), rv x2] [(.int (0 : Int32))] _
          refine XS.istore X20.here hx rfl (hb hby d5_189) rfl (l' := #[rv x1, rv x2, rv x3, iv (5 : Int32), iv x5, iv (0 : Int32), iv (0 : Int32), iv (1 : Int32), iv (x5 &&& (3 : Int32)), rv x2]) rfl ?_
          refine XS.goto X20.here hx rfl (pc0 := 191) (pc' := 205) rfl (hb hby d5_191) (by decide) (by decide) ?_
          refine XS.goto X20.here hx rfl (pc0 := 205) (pc' := 227) rfl (hb hby d5_205) (by decide) (by decide) ?_
          refine XS.iconst X20.here hx rfl (hb hby d5_227) ?_
          show oS p e below T20 m 228 #[rv x1, rv x2, rv x3, iv (5 : Int32), iv x5, iv (0 : Int32), iv (0 : Int32), iv (1 : Int32), iv (x5 &&& (3 : Int32)), rv x2] [(.int (0 : Int32))] _
          refine XS.istore X20.here hx rfl (hb hby d5_228) rfl (l' := #[rv x1, rv x2, rv x3, iv (5 : Int32), iv x5, iv (0 : Int32), iv (0 : Int32), iv (1 : Int32), iv (x5 &&& (3 : Int32)), iv (0 : Int32)]) rfl ?_
          refine XS.iload X20.here hx rfl (hb hby d5_230) rfl ?_
          refine XS.ifYes X20.here hx rfl (pc0 := 232) (pc' := 241) rfl (hb hby d5_232) rfl ((if0 _ _).trans (teq (by decide : ((0 : Int32) = (0 : Int32)))).1) (by decide) (by decide) ?_
          refine XS.iload X20.here hx rfl (hb hby d5_241) rfl ?_
          show oS p e below T20 m 243 #[rv x1, rv x2, rv x3, iv (5 : Int32), iv x5, iv (0 : Int32), iv (0 : Int32), iv (1 : Int32), iv (x5 &&& (3 : Int32)), iv (0 : Int32)] [(.int (0 : Int32))] _
          refine XS.ifYes X20.here hx rfl (pc0 := 243) (pc' := 252) rfl (hb hby d5_243) rfl ((if0 _ _).trans (teq (by decide : ((0 : Int32) = (0 : Int32)))).1) (by decide) (by decide) ?_
          refine XS.iload X20.here hx rfl (hb hby d5_252) rfl ?_
          refine XS.ifNo X20.here hx rfl (hb hby d5_254) rfl ((if0 _ _).trans (feq (by decide : ¬ ((1 : Int32) = (0 : Int32)))).1) ?_
          refine XS.iload X20.here hx rfl (hb hby d5_257) rfl ?_
          show oS p e below T20 m 259 #[rv x1, rv x2, rv x3, iv (5 : Int32), iv x5, iv (0 : Int32), iv (0 : Int32), iv (1 : Int32), iv (x5 &&& (3 : Int32)), iv (0 : Int32)] [(.int (0 : Int32))] _
          refine XS.iconst X20.here hx rfl (hb hby d5_259) ?_
          refine XS.ior X20.here hx rfl (hb hby d5_260) rfl ?_
          show oS p e below T20 m 261 #[rv x1, rv x2, rv x3, iv (5 : Int32), iv x5, iv (0 : Int32), iv (0 : Int32), iv (1 : Int32), iv (x5 &&& (3 : Int32)), iv (0 : Int32)] [(.int (4 : Int32))] _
          refine XS.istore X20.here hx rfl (hb hby d5_261) rfl (l' := #[rv x1, rv x2, rv x3, iv (5 : Int32), iv x5, iv (0 : Int32), iv (0 : Int32), iv (1 : Int32), iv (x5 &&& (3 : Int32)), iv (4 : Int32)]) rfl ?_
          refine XS.iload X20.here hx rfl (hb hby d5_263) rfl ?_
          exact kt
        have KP22 : Keep h0 T20.heap [x1, x2, x3] := ((Keep.refl h0 [x1, x2, x3]).trans K20 (allS (Or.inl (List.mem_of_getElem? (i := 0) rfl)) (allS (Or.inl (List.mem_of_getElem? (i := 1) rfl)) all0)))
        have Ec23 : Exa Z T20.heap x1 oz1 := (E_x1.keep K20)
        have Ec24 : Exa Z T20.heap x2 oz0 := (E_x2.keep K20)
        have Ec25 : Exa Z T20.heap x3 oz0 := (E_x3.keep K20)
        have ne26 : x3 ≠ x1 := ne_exa Ec25 Ec23 (by decide)
        have Fc27 : Fld Z T20.heap x3 oz0 "in" oz3 .null := (F_in_x3.keep K20 (ninS ne26 (ninS (Ne.symm ne_x2_x3) nin0)))
        have Fc28 : Fld Z T20.heap x3 oz0 "before" oz2 .null := (F_before_x3.keep K20 (ninS ne26 (ninS (Ne.symm ne_x2_x3) nin0)))
        have Fc29 : Fld Z T20.heap x3 oz0 "after" oz2 .null := (F_after_x3.keep K20 (ninS ne26 (ninS (Ne.symm ne_x2_x3) nin0)))
        obtain ⟨fs, hr, hrun, hended, hW, hsame⟩ := X20.leave (v := some (.int (4 : Int32))) (fun h => by rw [Bd.returns] at h; cases h)
        refine ⟨_, _, pre0 _ (pre1 _ (pre12 _ (pre19 _ (pre21 _ ?_)))), hrun, hended, _, _, rfl, ?_, ⟨_, rfl⟩, hW, hsame.mono (by decide) (by decide)⟩
        · show oS p e below T20 m 265 #[rv x1, rv x2, rv x3, iv (5 : Int32), iv x5, iv (0 : Int32), iv (0 : Int32), iv (1 : Int32), iv (x5 &&& (3 : Int32)), iv (4 : Int32)] [(.int (4 : Int32))] _
          exact retOut X20 hx Bd.returns rfl (Or.inl ⟨rfl, Or.inl rfl, _, rfl⟩) (hb hby d5_265) hr
        · show QS5 Z x1 x2 x3 x5 h0 n0 _ T20.heap _
          exact ⟨(4 : Int32), rfl, N20, KP22, (by decide), (Or.inl ⟨(Or.inr rfl), Ec23, Ec24, Ec25, pf20_0, pf20_1, pf20_2, pf20_3, pf20_4, Fc27, Fc28, Fc29⟩)⟩
      · obtain ⟨cq30, kq30, q30a, q30b, q30c⟩ := isOf hZ e0 E_x1
        obtain ⟨_, _, ⟨T30, Lw30, kw30, nw30⟩, -, X30, ⟨Lc30, hQ30, l30, y30, z30⟩, st30⟩ := X0.virtualBack hx (y := (⟨oz1, "remove", oz5⟩ : MethodName)) (z := (⟨oz1, "remove", oz5⟩ : MethodName)) hown (mvT hZ (own_w hw 46 rfl)) (mvT hZ (own_w hw 47 rfl)) (notFace_of_selects (args := #[]) (mvT hZ (own_w hw 49 rfl))) (mvT hZ (own_w hw 49 rfl)) (mvT hZ (own_w hw 48 rfl)) (by decide) (backOf (W := 0) (rmR00 l Z a0 hw [] x1 x2 (.ref x2) (.ref x2) h0 n0 Z0 E_x1 E_x2 g_x1 g_x2 F_first_x1 F_last_x1 F_in_x2 F_before_x2 F_after_x2) hZ (own_w hw 50 rfl) (own_w hw 2 rfl) (by decide) (by decide)) q30a q30c (g := (mkF m 210 #[rv x1, rv x2, rv x3, iv (5 : Int32), iv x5, iv (1 : Int32), iv (0 : Int32), iv (1 : Int32), iv (x5 &&& (3 : Int32)), .unset] [(.ref x2), (.ref x1)])) rfl (by rw [hml]; rfl) (Steps.refl _) (argsL := [(.ref x2)]) (rest := []) (lenOf own_pd2 rfl) rfl (by show 2 * 0 + _ ≤ _; exact Nat.le_of_eq rfl) (hb hby d5_210) (fun _ _ => ⟨rfl, e0, (by decide : 0 + 0 ≤ _), (by decide : 0 + 0 ≤ _)⟩)
        dsimp only [Pt.U, Pt.locs, Pt.cells, Pt.slots] at X30 l30 y30 z30 st30 hQ30
        subst l30 y30 z30
        obtain ⟨rfl, Nq30, K30, pf30_0, pf30_1, pf30_2, pf30_3, pf30_4⟩ := hQ30
        have N30 := Fr.app N0 Nq30
        have pre31 : ∀ tz, oS p e below T30 m 265 #[rv x1, rv x2, rv x3, iv (5 : Int32), iv x5, iv (0 : Int32), iv (0 : Int32), iv (1 : Int32), iv (x5 &&& (3 : Int32)), iv (4 : Int32)] [(.int (4 : Int32))] tz → oS p e below s₁ m 139 #[rv x1, rv x2, rv x3, iv (5 : Int32), iv x5, iv (1 : Int32), iv (0 : Int32), iv (1 : Int32), iv (x5 &&& (3 : Int32)), .unset] [(.int (2 : Int32)), (.int (x5 &&& (3 : Int32)))] tz := fun tz kt => by
          show oS p e below s₁ m 139 #[rv x1, rv x2, rv x3, iv (5 : Int32), iv x5, iv (1 : Int32), iv (0 : Int32), iv (1 : Int32), iv (x5 &&& (3 : Int32)), .unset] [(.int (2 : Int32)), (.int (x5 &&& (3 : Int32)))] _
          refine XS.icmpYes X0.here hx rfl (pc0 := 139) (pc' := 208) rfl (hb hby d5_139) rfl (feq hc139).2 (by decide) (by decide) ?_
          refine XS.aloadN X0.here hx rfl (hb hby d5_208) rfl rfl ?_
          refine XS.aloadN X0.here hx rfl (hb hby d5_209) rfl rfl ?_
          show oS p e below s₁ m 210 #[rv x1, rv x2, rv x3, iv (5 : Int32), iv x5, iv (1 : Int32), iv (0 : Int32), iv (1 : Int32), iv (x5 &&& (3 : Int32)), .unset] [(.ref x2), (.ref x1)] _
          refine st30.trans ?_
          refine XS.istore X30.here hx rfl (hb hby d5_213) rfl (l' := #[rv x1, rv x2, rv x3, iv (5 : Int32), iv x5, iv (1 : Int32), iv (0 : Int32), iv (1 : Int32), iv (x5 &&& (3 : Int32)), iv (1 : Int32)]) rfl ?_
          refine XS.iload X30.here hx rfl (hb hby d5_215) rfl ?_
          refine XS.iload X30.here hx rfl (hb hby d5_217) rfl ?_
          show oS p e below T30 m 219 #[rv x1, rv x2, rv x3, iv (5 : Int32), iv x5, iv (1 : Int32), iv (0 : Int32), iv (1 : Int32), iv (x5 &&& (3 : Int32)), iv (1 : Int32)] [(.int (1 : Int32)), (.int (1 : Int32))] _
          refine XS.icmpYes X30.here hx rfl (pc0 := 219) (pc' := 224) rfl (hb hby d5_219) rfl (teq (by decide : ((1 : Int32) = (1 : Int32)))).1 (by decide) (by decide) ?_
          refine XS.iconst X30.here hx rfl (hb hby d5_224) ?_
          refine XS.istore X30.here hx rfl (hb hby d5_225) rfl (l' := #[rv x1, rv x2, rv x3, iv (5 : Int32), iv x5, iv (0 : Int32), iv (0 : Int32), iv (1 : Int32), iv (x5 &&& (3 : Int32)), iv (1 : Int32)]) rfl ?_
          refine XS.iconst X30.here hx rfl (hb hby d5_227) ?_
          show oS p e below T30 m 228 #[rv x1, rv x2, rv x3, iv (5 : Int32), iv x5, iv (0 : Int32), iv (0 : Int32), iv (1 : Int32), iv (x5 &&& (3 : Int32)), iv (1 : Int32)] [(.int (0 : Int32))] _
          refine XS.istore X30.here hx rfl (hb hby d5_228) rfl (l' := #[rv x1, rv x2, rv x3, iv (5 : Int32), iv x5, iv (0 : Int32), iv (0 : Int32), iv (1 : Int32), iv (x5 &&& (3 : Int32)), iv (0 : Int32)]) rfl ?_
          refine XS.iload X30.here hx rfl (hb hby d5_230) rfl ?_
          refine XS.ifYes X30.here hx rfl (pc0 := 232) (pc' := 241) rfl (hb hby d5_232) rfl ((if0 _ _).trans (teq (by decide : ((0 : Int32) = (0 : Int32)))).1) (by decide) (by decide) ?_
          refine XS.iload X30.here hx rfl (hb hby d5_241) rfl ?_
          show oS p e below T30 m 243 #[rv x1, rv x2, rv x3, iv (5 : Int32), iv x5, iv (0 : Int32), iv (0 : Int32), iv (1 : Int32), iv (x5 &&& (3 : Int32)), iv (0 : Int32)] [(.int (0 : Int32))] _
          refine XS.ifYes X30.here hx rfl (pc0 := 243) (pc' := 252) rfl (hb hby d5_243) rfl ((if0 _ _).trans (teq (by decide : ((0 : Int32) = (0 : Int32)))).1) (by decide) (by decide) ?_
          refine XS.iload X30.here hx rfl (hb hby d5_252) rfl ?_
          refine XS.ifNo X30.here hx rfl (hb hby d5_254) rfl ((if0 _ _).trans (feq (by decide : ¬ ((1 : Int32) = (0 : Int32)))).1) ?_
          refine XS.iload X30.here hx rfl (hb hby d5_257) rfl ?_
          show oS p e below T30 m 259 #[rv x1, rv x2, rv x3, iv (5 : Int32), iv x5, iv (0 : Int32), iv (0 : Int32), iv (1 : Int32), iv (x5 &&& (3 : Int32)), iv (0 : Int32)] [(.int (0 : Int32))] _
          refine XS.iconst X30.here hx rfl (hb hby d5_259) ?_
          refine XS.ior X30.here hx rfl (hb hby d5_260) rfl ?_
          show oS p e below T30 m 261 #[rv x1, rv x2, rv x3, iv (5 : Int32), iv x5, iv (0 : Int32), iv (0 : Int32), iv (1 : Int32), iv (x5 &&& (3 : Int32)), iv (0 : Int32)] [(.int (4 : Int32))] _
          refine XS.istore X30.here hx rfl (hb hby d5_261) rfl (l' := #[rv x1, rv x2, rv x3, iv (5 : Int32), iv x5, iv (0 : Int32), iv (0 : Int32), iv (1 : Int32), iv (x5 &&& (3 : Int32)), iv (4 : Int32)]) rfl ?_
          refine XS.iload X30.here hx rfl (hb hby d5_263) rfl ?_
          exact kt
        have KP32 : Keep h0 T30.heap [x1, x2, x3] := ((Keep.refl h0 [x1, x2, x3]).trans K30 (allS (Or.inl (List.mem_of_getElem? (i := 0) rfl)) (allS (Or.inl (List.mem_of_getElem? (i := 1) rfl)) all0)))
        have Ec33 : Exa Z T30.heap x1 oz1 := (E_x1.keep K30)
        have Ec34 : Exa Z T30.heap x2 oz0 := (E_x2.keep K30)
        have Ec35 : Exa Z T30.heap x3 oz0 := (E_x3.keep K30)
        have ne36 : x3 ≠ x1 := ne_exa Ec35 Ec33 (by decide)
        have Fc37 : Fld Z T30.heap x3 oz0 "in" oz3 .null := (F_in_x3.keep K30 (ninS ne36 (ninS (Ne.symm ne_x2_x3) nin0)))
        have Fc38 : Fld Z T30.heap x3 oz0 "before" oz2 .null := (F_before_x3.keep K30 (ninS ne36 (ninS (Ne.symm ne_x2_x3) nin0)))
        have Fc39 : Fld Z T30.heap x3 oz0 "after" oz2 .null := (F_after_x3.keep K30 (ninS ne36 (ninS (Ne.symm ne_x2_x3) nin0)))
        obtain ⟨fs, hr, hrun, hended, hW, hsame⟩ := X30.leave (v := some (.int (4 : Int32))) (fun h => by rw [Bd.returns] at h; cases h)
        refine ⟨_, _, pre0 _ (pre1 _ (pre12 _ (pre19 _ (pre31 _ ?_)))), hrun, hended, _, _, rfl, ?_, ⟨_, rfl⟩, hW, hsame.mono (by decide) (by decide)⟩
        · show oS p e below T30 m 265 #[rv x1, rv x2, rv x3, iv (5 : Int32), iv x5, iv (0 : Int32), iv (0 : Int32), iv (1 : Int32), iv (x5 &&& (3 : Int32)), iv (4 : Int32)] [(.int (4 : Int32))] _
          exact retOut X30 hx Bd.returns rfl (Or.inl ⟨rfl, Or.inl rfl, _, rfl⟩) (hb hby d5_265) hr
        · show QS5 Z x1 x2 x3 x5 h0 n0 _ T30.heap _
          exact ⟨(4 : Int32), rfl, N30, KP32, (by decide), (Or.inl ⟨(Or.inr rfl), Ec33, Ec34, Ec35, pf30_0, pf30_1, pf30_2, pf30_3, pf30_4, Fc37, Fc38, Fc39⟩)⟩
theorem efS6 (m : MethodId) (x1 : Addr) (x2 : Addr) (x3 : Addr) (x5 : Int32) : entryFrame m #[(.ref x1), (.ref x2), (.ref x3), (.int (6 : Int32)), (.int x5)] 10 = mkF m 0 #[rv x1, rv x2, rv x3, iv (6 : Int32), iv x5, .unset, .unset, .unset, .unset, .unset] [] := by first | (simp [entryFrame, mkF, argsToLocals, Value.category]; done) | rfl
def QS6 (Z : State) (x1 : Addr) (x2 : Addr) (x3 : Addr) (x5 : Int32) (h0 : Heap) (n0 : Nat) (v : Option Value) (h : Heap) (L : List Loc) : Prop := ∃ (s : Int32), v = some (.int s) ∧ Fr n0 L ∧ Keep h0 h [x1, x2, x3] ∧ (¬ s < (0 : Int32)) ∧ (own_Sh Z h x1 x2 x3 s)
set_option maxRecDepth 65536 in
set_option maxHeartbeats 40000000 in
theorem rmS6 (l : Launch) (Z : State) (a0 : Array Value) (hw : ∀ d ∈ tables_1, d.before a0 Z = true) (ws : List Jvm.Cond) (x1 : Addr) (x2 : Addr) (x3 : Addr) (x5 : Int32) (h0 : Heap) (n0 : Nat) (Z0 : n0 ≤ h0.size) (E_x1 : Exa Z h0 x1 oz1) (E_x2 : Exa Z h0 x2 oz0) (E_x3 : Exa Z h0 x3 oz0) (g_x1 : n0 ≤ x1) (g_x2 : n0 ≤ x2) (g_x3 : n0 ≤ x3) (ne_x2_x3 : x2 ≠ x3) (F_first_x1 : Fld Z h0 x1 oz1 "first" oz2 (.ref x3)) (F_last_x1 : Fld Z h0 x1 oz1 "last" oz2 (.ref x3)) (F_in_x2 : Fld Z h0 x2 oz0 "in" oz3 .null) (F_before_x2 : Fld Z h0 x2 oz0 "before" oz2 .null) (F_after_x2 : Fld Z h0 x2 oz0 "after" oz2 .null) (F_in_x3 : Fld Z h0 x3 oz0 "in" oz3 (.ref x1)) (F_before_x3 : Fld Z h0 x3 oz0 "before" oz2 .null) (F_after_x3 : Fld Z h0 x3 oz0 "after" oz2 .null) :
    MetFree l (⟨oz6, "step", oz4⟩ : MethodName) (head1 (Jvm.Cond.code (⟨oz6, "step", oz4⟩ : MethodName) method_3_code 10 (some .int) :: ws) ({ frames := 2, cells := 0, slots := 0, locals := 44 } : Room)) (fun a U => a = #[(.ref x1), (.ref x2), (.ref x3), (.int (6 : Int32)), (.int x5)] ∧ Z.Warmed39 U.vm ∧ U.heap = h0) (fun _ _ _ _ _ => True) (fun _ U oc U' => ∃ v L, oc = .returned v ∧ QS6 Z x1 x2 x3 x5 h0 n0 v U'.heap L ∧ FrameEnd U oc U' L ({ frames := 2, cells := 0, slots := 0, locals := 44 } : Room).cells ({ frames := 2, cells := 0, slots := 0, locals := 44 } : Room).slots) := by
  refine MetFree.of_bodySF (plainFor_of_name own_pn2) hisR ?_
  intro p e s m args below meth c s₁ Bd hml0 hP hK
  obtain ⟨rfl, hZ, hh⟩ := hP
  have hx := Bd.exec
  have hby := Bd.bytes
  have hml : c.maxLocals = 10 := hml0
  have hown : s.vm.findClass oz6 = some m.cls := findClass_of_methodNamed Bd.named
  have hnm := (name_of_methodNamed Bd.named Bd.method).1
  have X0 : Stand p l e ({ frames := 2, cells := 0, slots := 0, locals := 44 } : Room) s m #[(.ref x1), (.ref x2), (.ref x3), (.int (6 : Int32)), (.int x5)] below meth c s₁ [] 0 0 := Stand.of_body Bd
  have e0 : s₁.heap = h0 := by rw [← hh, Bd.state]; rfl
  have N0 := Fr.nil n0
  have pre0 : ∀ t, Steps p.tables e below (s₁.setTop (mkF m 0 #[rv x1, rv x2, rv x3, iv (6 : Int32), iv x5, .unset, .unset, .unset, .unset, .unset] [])) t → Steps p.tables e below (s₁.setTop (entryFrame m #[(.ref x1), (.ref x2), (.ref x3), (.int (6 : Int32)), (.int x5)] 10)) t := fun t k => castTop (efS6 m x1 x2 x3 x5) k
  have pre1 : ∀ tz, oS p e below s₁ m 47 #[rv x1, rv x2, rv x3, iv (6 : Int32), iv x5, iv (0 : Int32), iv (1 : Int32), iv (1 : Int32), iv (x5 &&& (3 : Int32)), .unset] [(.int (x5 &&& (3 : Int32)))] tz → oS p e below s₁ m 0 #[rv x1, rv x2, rv x3, iv (6 : Int32), iv x5, .unset, .unset, .unset, .unset, .unset] [] tz := fun tz kt => by
    show oS p e below s₁ m 0 #[rv x1, rv x2, rv x3, iv (6 : Int32), iv x5, .unset, .unset, .unset, .unset, .unset] [] _
    refine XS.iloadN X0.here hx rfl (hb hby d5_0) rfl ?_
    refine XS.iconst X0.here hx rfl (hb hby d5_1) ?_
    refine XS.iand X0.here hx rfl (hb hby d5_2) rfl ?_
    show oS p e below s₁ m 3 #[rv x1, rv x2, rv x3, iv (6 : Int32), iv x5, .unset, .unset, .unset, .unset, .unset] [(.int (0 : Int32))] _
    refine XS.ifYes X0.here hx rfl (pc0 := 3) (pc' := 10) rfl (hb hby d5_3) rfl ((if0 _ _).trans (teq (by decide : ((0 : Int32) = (0 : Int32)))).1) (by decide) (by decide) ?_
    refine XS.iconst X0.here hx rfl (hb hby d5_10) ?_
    refine XS.istore X0.here hx rfl (hb hby d5_11) rfl (l' := #[rv x1, rv x2, rv x3, iv (6 : Int32), iv x5, iv (0 : Int32), .unset, .unset, .unset, .unset]) rfl ?_
    refine XS.iloadN X0.here hx rfl (hb hby d5_13) rfl ?_
    show oS p e below s₁ m 14 #[rv x1, rv x2, rv x3, iv (6 : Int32), iv x5, iv (0 : Int32), .unset, .unset, .unset, .unset] [(.int (6 : Int32))] _
    refine XS.iconst X0.here hx rfl (hb hby d5_14) ?_
    refine XS.iand X0.here hx rfl (hb hby d5_15) rfl ?_
    show oS p e below s₁ m 16 #[rv x1, rv x2, rv x3, iv (6 : Int32), iv x5, iv (0 : Int32), .unset, .unset, .unset, .unset] [(.int (2 : Int32))] _
    refine XS.ifNo X0.here hx rfl (hb hby d5_16) rfl ((if0 _ _).trans (feq (by decide : ¬ ((2 : Int32) = (0 : Int32)))).1) ?_
    refine XS.iconst X0.here hx rfl (hb hby d5_19) ?_
    refine XS.goto X0.here hx rfl (pc0 := 20) (pc' := 24) rfl (hb hby d5_20) (by decide) (by decide) ?_
    refine XS.istore X0.here hx rfl (hb hby d5_24) rfl (l' := #[rv x1, rv x2, rv x3, iv (6 : Int32), iv x5, iv (0 : Int32), iv (1 : Int32), .unset, .unset, .unset]) rfl ?_
    show oS p e below s₁ m 26 #[rv x1, rv x2, rv x3, iv (6 : Int32), iv x5, iv (0 : Int32), iv (1 : Int32), .unset, .unset, .unset] [] _
    refine XS.iloadN X0.here hx rfl (hb hby d5_26) rfl ?_
    refine XS.iconst X0.here hx rfl (hb hby d5_27) ?_
    refine XS.iand X0.here hx rfl (hb hby d5_28) rfl ?_
    show oS p e below s₁ m 29 #[rv x1, rv x2, rv x3, iv (6 : Int32), iv x5, iv (0 : Int32), iv (1 : Int32), .unset, .unset, .unset] [(.int (4 : Int32))] _
    refine XS.ifNo X0.here hx rfl (hb hby d5_29) rfl ((if0 _ _).trans (feq (by decide : ¬ ((4 : Int32) = (0 : Int32)))).1) ?_
    refine XS.iconst X0.here hx rfl (hb hby d5_32) ?_
    refine XS.goto X0.here hx rfl (pc0 := 33) (pc' := 37) rfl (hb hby d5_33) (by decide) (by decide) ?_
    refine XS.istore X0.here hx rfl (hb hby d5_37) rfl (l' := #[rv x1, rv x2, rv x3, iv (6 : Int32), iv x5, iv (0 : Int32), iv (1 : Int32), iv (1 : Int32), .unset, .unset]) rfl ?_
    show oS p e below s₁ m 39 #[rv x1, rv x2, rv x3, iv (6 : Int32), iv x5, iv (0 : Int32), iv (1 : Int32), iv (1 : Int32), .unset, .unset] [] _
    refine XS.iload X0.here hx rfl (hb hby d5_39) rfl ?_
    refine XS.iconst X0.here hx rfl (hb hby d5_41) ?_
    refine XS.iand X0.here hx rfl (hb hby d5_42) rfl ?_
    refine XS.istore X0.here hx rfl (hb hby d5_43) rfl (l' := #[rv x1, rv x2, rv x3, iv (6 : Int32), iv x5, iv (0 : Int32), iv (1 : Int32), iv (1 : Int32), iv (x5 &&& (3 : Int32)), .unset]) rfl ?_
    show oS p e below s₁ m 45 #[rv x1, rv x2, rv x3, iv (6 : Int32), iv x5, iv (0 : Int32), iv (1 : Int32), iv (1 : Int32), iv (x5 &&& (3 : Int32)), .unset] [] _
    refine XS.iload X0.here hx rfl (hb hby d5_45) rfl ?_
    exact kt
  by_cases hc47 : (x5 &&& (3 : Int32)) = (0 : Int32)
  · obtain ⟨cq2, kq2, q2a, q2b, q2c⟩ := isOf hZ e0 E_x1
    obtain ⟨_, _, ⟨T2, Lw2, kw2, nw2⟩, -, X2, ⟨Lc2, hQ2, l2, y2, z2⟩, st2⟩ := X0.virtualBack hx (y := (⟨oz1, "add", oz7⟩ : MethodName)) (z := (⟨oz1, "add", oz7⟩ : MethodName)) hown (mvT hZ (own_w hw 35 rfl)) (mvT hZ (own_w hw 36 rfl)) (notFace_of_selects (args := #[]) (mvT hZ (own_w hw 38 rfl))) (mvT hZ (own_w hw 38 rfl)) (mvT hZ (own_w hw 37 rfl)) (by decide) (backOf (W := 0) (rmA1 l Z a0 hw [] x1 x2 (.ref x3) (.ref x1) .null .null x3 h0 n0 Z0 E_x1 E_x2 E_x3 g_x1 g_x2 g_x3 ne_x2_x3 F_first_x1 F_last_x1 F_in_x2 F_before_x2 F_after_x2 F_in_x3 F_before_x3 F_after_x3) hZ (own_w hw 39 rfl) (own_w hw 2 rfl) (by decide) (by decide)) q2a q2c (g := (mkF m 73 #[rv x1, rv x2, rv x3, iv (6 : Int32), iv x5, iv (0 : Int32), iv (1 : Int32), iv (1 : Int32), iv (x5 &&& (3 : Int32)), .unset] [(.ref x2), (.ref x1)])) rfl (by rw [hml]; rfl) (Steps.refl _) (argsL := [(.ref x2)]) (rest := []) (lenOf own_pd0 rfl) rfl (by show 2 * 0 + _ ≤ _; exact Nat.le_of_eq rfl) (hb hby d5_73) (fun _ _ => ⟨rfl, e0, (by decide : 0 + 0 ≤ _), (by decide : 0 + 0 ≤ _)⟩)
    dsimp only [Pt.U, Pt.locs, Pt.cells, Pt.slots] at X2 l2 y2 z2 st2 hQ2
    subst l2 y2 z2
    obtain ⟨rfl, Nq2, K2, pf2_0, pf2_1, pf2_2, pf2_3, pf2_4, pf2_5, pf2_6, pf2_7⟩ := hQ2
    have N2 := Fr.app N0 Nq2
    have pre3 : ∀ tz, oS p e below T2 m 265 #[rv x1, rv x2, rv x3, iv (6 : Int32), iv x5, iv (1 : Int32), iv (1 : Int32), iv (0 : Int32), iv (x5 &&& (3 : Int32)), iv (3 : Int32)] [(.int (3 : Int32))] tz → oS p e below s₁ m 47 #[rv x1, rv x2, rv x3, iv (6 : Int32), iv x5, iv (0 : Int32), iv (1 : Int32), iv (1 : Int32), iv (x5 &&& (3 : Int32)), .unset] [(.int (x5 &&& (3 : Int32)))] tz := fun tz kt => by
      show oS p e below s₁ m 47 #[rv x1, rv x2, rv x3, iv (6 : Int32), iv x5, iv (0 : Int32), iv (1 : Int32), iv (1 : Int32), iv (x5 &&& (3 : Int32)), .unset] [(.int (x5 &&& (3 : Int32)))] _
      refine XS.ifNo X0.here hx rfl (hb hby d5_47) rfl ((if0 _ _).trans (teq hc47).2) ?_
      refine XS.iload X0.here hx rfl (hb hby d5_50) rfl ?_
      refine XS.ifYes X0.here hx rfl (pc0 := 52) (pc' := 71) rfl (hb hby d5_52) rfl ((if0 _ _).trans (teq (by decide : ((0 : Int32) = (0 : Int32)))).1) (by decide) (by decide) ?_
      refine XS.aloadN X0.here hx rfl (hb hby d5_71) rfl rfl ?_
      show oS p e below s₁ m 72 #[rv x1, rv x2, rv x3, iv (6 : Int32), iv x5, iv (0 : Int32), iv (1 : Int32), iv (1 : Int32), iv (x5 &&& (3 : Int32)), .unset] [(.ref x1)] _
      refine XS.aloadN X0.here hx rfl (hb hby d5_72) rfl rfl ?_
      show oS p e below s₁ m 73 #[rv x1, rv x2, rv x3, iv (6 : Int32), iv x5, iv (0 : Int32), iv (1 : Int32), iv (1 : Int32), iv (x5 &&& (3 : Int32)), .unset] [(.ref x2), (.ref x1)] _
      refine st2.trans ?_
      refine XS.iconst X2.here hx rfl (hb hby d5_76) ?_
      refine XS.istore X2.here hx rfl (hb hby d5_77) rfl (l' := #[rv x1, rv x2, rv x3, iv (6 : Int32), iv x5, iv (1 : Int32), iv (1 : Int32), iv (1 : Int32), iv (x5 &&& (3 : Int32)), .unset]) rfl ?_
      refine XS.iload X2.here hx rfl (hb hby d5_79) rfl ?_
      show oS p e below T2 m 81 #[rv x1, rv x2, rv x3, iv (6 : Int32), iv x5, iv (1 : Int32), iv (1 : Int32), iv (1 : Int32), iv (x5 &&& (3 : Int32)), .unset] [(.int (1 : Int32))] _
      refine XS.ifYes X2.here hx rfl (pc0 := 81) (pc' := 88) rfl (hb hby d5_81) rfl ((if0 _ _).trans (feq (by decide : ¬ ((1 : Int32) = (0 : Int32)))).2) (by decide) (by decide) ?_
      refine XS.iconst X2.here hx rfl (hb hby d5_88) ?_
      refine XS.istore X2.here hx rfl (hb hby d5_89) rfl (l' := #[rv x1, rv x2, rv x3, iv (6 : Int32), iv x5, iv (1 : Int32), iv (1 : Int32), iv (0 : Int32), iv (x5 &&& (3 : Int32)), .unset]) rfl ?_
      refine XS.goto X2.here hx rfl (pc0 := 91) (pc' := 227) rfl (hb hby d5_91) (by decide) (by decide) ?_
      show oS p e below T2 m 227 #[rv x1, rv x2, rv x3, iv (6 : Int32), iv x5, iv (1 : Int32), iv (1 : Int32), iv (0 : Int32), iv (x5 &&& (3 : Int32)), .unset] [] _
      refine XS.iconst X2.here hx rfl (hb hby d5_227) ?_
      refine XS.istore X2.here hx rfl (hb hby d5_228) rfl (l' := #[rv x1, rv x2, rv x3, iv (6 : Int32), iv x5, iv (1 : Int32), iv (1 : Int32), iv (0 : Int32), iv (x5 &&& (3 : Int32)), iv (0 : Int32)]) rfl ?_
      refine XS.iload X2.here hx rfl (hb hby d5_230) rfl ?_
      refine XS.ifNo X2.here hx rfl (hb hby d5_232) rfl ((if0 _ _).trans (feq (by decide : ¬ ((1 : Int32) = (0 : Int32)))).1) ?_
      show oS p e below T2 m 235 #[rv x1, rv x2, rv x3, iv (6 : Int32), iv x5, iv (1 : Int32), iv (1 : Int32), iv (0 : Int32), iv (x5 &&& (3 : Int32)), iv (0 : Int32)] [] _
      refine XS.iload X2.here hx rfl (hb hby d5_235) rfl ?_
      refine XS.iconst X2.here hx rfl (hb hby d5_237) ?_
      refine XS.ior X2.here hx rfl (hb hby d5_238) rfl ?_
      show oS p e below T2 m 239 #[rv x1, rv x2, rv x3, iv (6 : Int32), iv x5, iv (1 : Int32), iv (1 : Int32), iv (0 : Int32), iv (x5 &&& (3 : Int32)), iv (0 : Int32)] [(.int (1 : Int32))] _
      refine XS.istore X2.here hx rfl (hb hby d5_239) rfl (l' := #[rv x1, rv x2, rv x3, iv (6 : Int32), iv x5, iv (1 : Int32), iv (1 : Int32), iv (0 : Int32), iv (x5 &&& (3 : Int32)), iv (1 : Int32)]) rfl ?_
      refine XS.iload X2.here hx rfl (hb hby d5_241) rfl ?_
      refine XS.ifNo X2.here hx rfl (hb hby d5_243) rfl ((if0 _ _).trans (feq (by decide : ¬ ((1 : Int32) = (0 : Int32)))).1) ?_
      refine XS.iload X2.here hx rfl (hb hby d5_246) rfl ?_
      show oS p e below T2 m 248 #[rv x1, rv x2, rv x3, iv (6 : Int32), iv x5, iv (1 : Int32), iv (1 : Int32), iv (0 : Int32), iv (x5 &&& (3 : Int32)), iv (1 : Int32)] [(.int (1 : Int32))] _
      refine XS.iconst X2.here hx rfl (hb hby d5_248) ?_
      refine XS.ior X2.here hx rfl (hb hby d5_249) rfl ?_
      show oS p e below T2 m 250 #[rv x1, rv x2, rv x3, iv (6 : Int32), iv x5, iv (1 : Int32), iv (1 : Int32), iv (0 : Int32), iv (x5 &&& (3 : Int32)), iv (1 : Int32)] [(.int (3 : Int32))] _
      refine XS.istore X2.here hx rfl (hb hby d5_250) rfl (l' := #[rv x1, rv x2, rv x3, iv (6 : Int32), iv x5, iv (1 : Int32), iv (1 : Int32), iv (0 : Int32), iv (x5 &&& (3 : Int32)), iv (3 : Int32)]) rfl ?_
      refine XS.iload X2.here hx rfl (hb hby d5_252) rfl ?_
      refine XS.ifYes X2.here hx rfl (pc0 := 254) (pc' := 263) rfl (hb hby d5_254) rfl ((if0 _ _).trans (teq (by decide : ((0 : Int32) = (0 : Int32)))).1) (by decide) (by decide) ?_
      refine XS.iload X2.here hx rfl (hb hby d5_263) rfl ?_
      exact kt
    have KP4 : Keep h0 T2.heap [x1, x2, x3] := ((Keep.refl h0 [x1, x2, x3]).trans K2 (allS (Or.inl (List.mem_of_getElem? (i := 0) rfl)) (allS (Or.inl (List.mem_of_getElem? (i := 1) rfl)) (allS (Or.inl (List.mem_of_getElem? (i := 2) rfl)) all0))))
    have Ec5 : Exa Z T2.heap x1 oz1 := (E_x1.keep K2)
    have Ec6 : Exa Z T2.heap x2 oz0 := (E_x2.keep K2)
    have Ec7 : Exa Z T2.heap x3 oz0 := (E_x3.keep K2)
    obtain ⟨fs, hr, hrun, hended, hW, hsame⟩ := X2.leave (v := some (.int (3 : Int32))) (fun h => by rw [Bd.returns] at h; cases h)
    refine ⟨_, _, pre0 _ (pre1 _ (pre3 _ ?_)), hrun, hended, _, _, rfl, ?_, ⟨_, rfl⟩, hW, hsame.mono (by decide) (by decide)⟩
    · show oS p e below T2 m 265 #[rv x1, rv x2, rv x3, iv (6 : Int32), iv x5, iv (1 : Int32), iv (1 : Int32), iv (0 : Int32), iv (x5 &&& (3 : Int32)), iv (3 : Int32)] [(.int (3 : Int32))] _
      exact retOut X2 hx Bd.returns rfl (Or.inl ⟨rfl, Or.inl rfl, _, rfl⟩) (hb hby d5_265) hr
    · show QS6 Z x1 x2 x3 x5 h0 n0 _ T2.heap _
      exact ⟨(3 : Int32), rfl, N2, KP4, (by decide), (Or.inr (Or.inr (Or.inr (Or.inl ⟨rfl, Ec5, Ec6, Ec7, pf2_0, pf2_1, pf2_2, pf2_3, pf2_4, pf2_5, pf2_6, pf2_7⟩))))⟩
  · have pre8 : ∀ tz, oS p e below s₁ m 97 #[rv x1, rv x2, rv x3, iv (6 : Int32), iv x5, iv (0 : Int32), iv (1 : Int32), iv (1 : Int32), iv (x5 &&& (3 : Int32)), .unset] [(.int (1 : Int32)), (.int (x5 &&& (3 : Int32)))] tz → oS p e below s₁ m 47 #[rv x1, rv x2, rv x3, iv (6 : Int32), iv x5, iv (0 : Int32), iv (1 : Int32), iv (1 : Int32), iv (x5 &&& (3 : Int32)), .unset] [(.int (x5 &&& (3 : Int32)))] tz := fun tz kt => by
      show oS p e below s₁ m 47 #[rv x1, rv x2, rv x3, iv (6 : Int32), iv x5, iv (0 : Int32), iv (1 : Int32), iv (1 : Int32), iv (x5 &&& (3 : Int32)), .unset] [(.int (x5 &&& (3 : Int32)))] _
      refine XS.ifYes X0.here hx rfl (pc0 := 47) (pc' := 94) rfl (hb hby d5_47) rfl ((if0 _ _).trans (feq hc47).2) (by decide) (by decide) ?_
      refine XS.iload X0.here hx rfl (hb hby d5_94) rfl ?_
      refine XS.iconst X0.here hx rfl (hb hby d5_96) ?_
      exact kt
    by_cases hc97 : (x5 &&& (3 : Int32)) = (1 : Int32)
    · obtain ⟨cq9, kq9, q9a, q9b, q9c⟩ := isOf hZ e0 E_x1
      obtain ⟨_, _, ⟨T9, Lw9, kw9, nw9⟩, -, X9, ⟨Lc9, hQ9, l9, y9, z9⟩, st9⟩ := X0.virtualBack hx (y := (⟨oz1, "remove", oz5⟩ : MethodName)) (z := (⟨oz1, "remove", oz5⟩ : MethodName)) hown (mvT hZ (own_w hw 46 rfl)) (mvT hZ (own_w hw 47 rfl)) (notFace_of_selects (args := #[]) (mvT hZ (own_w hw 49 rfl))) (mvT hZ (own_w hw 49 rfl)) (mvT hZ (own_w hw 48 rfl)) (by decide) (backOf (W := 0) (rmR00 l Z a0 hw [] x1 x3 (.ref x3) (.ref x3) h0 n0 Z0 E_x1 E_x3 g_x1 g_x3 F_first_x1 F_last_x1 F_in_x3 F_before_x3 F_after_x3) hZ (own_w hw 50 rfl) (own_w hw 2 rfl) (by decide) (by decide)) q9a q9c (g := (mkF m 107 #[rv x1, rv x2, rv x3, iv (6 : Int32), iv x5, iv (0 : Int32), iv (1 : Int32), iv (1 : Int32), iv (x5 &&& (3 : Int32)), .unset] [(.ref x3), (.ref x1)])) rfl (by rw [hml]; rfl) (Steps.refl _) (argsL := [(.ref x3)]) (rest := []) (lenOf own_pd2 rfl) rfl (by show 2 * 0 + _ ≤ _; exact Nat.le_of_eq rfl) (hb hby d5_107) (fun _ _ => ⟨rfl, e0, (by decide : 0 + 0 ≤ _), (by decide : 0 + 0 ≤ _)⟩)
      dsimp only [Pt.U, Pt.locs, Pt.cells, Pt.slots] at X9 l9 y9 z9 st9 hQ9
      subst l9 y9 z9
      obtain ⟨rfl, Nq9, K9, pf9_0, pf9_1, pf9_2, pf9_3, pf9_4⟩ := hQ9
      have N9 := Fr.app N0 Nq9
      have pre10 : ∀ tz, oS p e below T9 m 265 #[rv x1, rv x2, rv x3, iv (6 : Int32), iv x5, iv (0 : Int32), iv (0 : Int32), iv (1 : Int32), iv (x5 &&& (3 : Int32)), iv (4 : Int32)] [(.int (4 : Int32))] tz → oS p e below s₁ m 97 #[rv x1, rv x2, rv x3, iv (6 : Int32), iv x5, iv (0 : Int32), iv (1 : Int32), iv (1 : Int32), iv (x5 &&& (3 : Int32)), .unset] [(.int (1 : Int32)), (.int (x5 &&& (3 : Int32)))] tz := fun tz kt => by
        show oS p e below s₁ m 97 #[rv x1, rv x2, rv x3, iv (6 : Int32), iv x5, iv (0 : Int32), iv (1 : Int32), iv (1 : Int32), iv (x5 &&& (3 : Int32)), .unset] [(.int (1 : Int32)), (.int (x5 &&& (3 : Int32)))] _
        refine XS.icmpNo X0.here hx rfl (hb hby d5_97) rfl (teq hc97).2 ?_
        refine XS.iload X0.here hx rfl (hb hby d5_100) rfl ?_
        refine XS.ifNo X0.here hx rfl (hb hby d5_102) rfl ((if0 _ _).trans (feq (by decide : ¬ ((1 : Int32) = (0 : Int32)))).1) ?_
        refine XS.aloadN X0.here hx rfl (hb hby d5_105) rfl rfl ?_
        show oS p e below s₁ m 106 #[rv x1, rv x2, rv x3, iv (6 : Int32), iv x5, iv (0 : Int32), iv (1 : Int32), iv (1 : Int32), iv (x5 &&& (3 : Int32)), .unset] [(.ref x1)] _
        refine XS.aloadN X0.here hx rfl (hb hby d5_106) rfl rfl ?_
        show oS p e below s₁ m 107 #[rv x1, rv x2, rv x3, iv (6 : Int32), iv x5, iv (0 : Int32), iv (1 : Int32), iv (1 : Int32), iv (x5 &&& (3 : Int32)), .unset] [(.ref x3), (.ref x1)] _
        refine st9.trans ?_
        refine XS.ifYes X9.here hx rfl (pc0 := 110) (pc' := 115) rfl (hb hby d5_110) rfl ((if0 _ _).trans (feq (by decide : ¬ ((1 : Int32) = (0 : Int32)))).2) (by decide) (by decide) ?_
        refine XS.iconst X9.here hx rfl (hb hby d5_115) ?_
        refine XS.istore X9.here hx rfl (hb hby d5_116) rfl (l' := #[rv x1, rv x2, rv x3, iv (6 : Int32), iv x5, iv (0 : Int32), iv (0 : Int32), iv (1 : Int32), iv (x5 &&& (3 : Int32)), .unset]) rfl ?_
        show oS p e below T9 m 118 #[rv x1, rv x2, rv x3, iv (6 : Int32), iv x5, iv (0 : Int32), iv (0 : Int32), iv (1 : Int32), iv (x5 &&& (3 : Int32)), .unset] [] _
        refine XS.goto X9.here hx rfl (pc0 := 118) (pc' := 227) rfl (hb hby d5_118) (by decide) (by decide) ?_
        refine XS.iconst X9.here hx rfl (hb hby d5_227) ?_
        refine XS.istore X9.here hx rfl (hb hby d5_228) rfl (l' := #[rv x1, rv x2, rv x3, iv (6 : Int32), iv x5, iv (0 : Int32), iv (0 : Int32), iv (1 : Int32), iv (x5 &&& (3 : Int32)), iv (0 : Int32)]) rfl ?_
        refine XS.iload X9.here hx rfl (hb hby d5_230) rfl ?_
        show oS p e below T9 m 232 #[rv x1, rv x2, rv x3, iv (6 : Int32), iv x5, iv (0 : Int32), iv (0 : Int32), iv (1 : Int32), iv (x5 &&& (3 : Int32)), iv (0 : Int32)] [(.int (0 : Int32))] _
        refine XS.ifYes X9.here hx rfl (pc0 := 232) (pc' := 241) rfl (hb hby d5_232) rfl ((if0 _ _).trans (teq (by decide : ((0 : Int32) = (0 : Int32)))).1) (by decide) (by decide) ?_
        refine XS.iload X9.here hx rfl (hb hby d5_241) rfl ?_
        refine XS.ifYes X9.here hx rfl (pc0 := 243) (pc' := 252) rfl (hb hby d5_243) rfl ((if0 _ _).trans (teq (by decide : ((0 : Int32) = (0 : Int32)))).1) (by decide) (by decide) ?_
        refine XS.iload X9.here hx rfl (hb hby d5_252) rfl ?_
        show oS p e below T9 m 254 #[rv x1, rv x2, rv x3, iv (6 : Int32), iv x5, iv (0 : Int32), iv (0 : Int32), iv (1 : Int32), iv (x5 &&& (3 : Int32)), iv (0 : Int32)] [(.int (1 : Int32))] _
        refine XS.ifNo X9.here hx rfl (hb hby d5_254) rfl ((if0 _ _).trans (feq (by decide : ¬ ((1 : Int32) = (0 : Int32)))).1) ?_
        refine XS.iload X9.here hx rfl (hb hby d5_257) rfl ?_
        refine XS.iconst X9.here hx rfl (hb hby d5_259) ?_
        refine XS.ior X9.here hx rfl (hb hby d5_260) rfl ?_
        show oS p e below T9 m 261 #[rv x1, rv x2, rv x3, iv (6 : Int32), iv x5, iv (0 : Int32), iv (0 : Int32), iv (1 : Int32), iv (x5 &&& (3 : Int32)), iv (0 : Int32)] [(.int (4 : Int32))] _
        refine XS.istore X9.here hx rfl (hb hby d5_261) rfl (l' := #[rv x1, rv x2, rv x3, iv (6 : Int32), iv x5, iv (0 : Int32), iv (0 : Int32), iv (1 : Int32), iv (x5 &&& (3 : Int32)), iv (4 : Int32)]) rfl ?_
        refine XS.iload X9.here hx rfl (hb hby d5_263) rfl ?_
        exact kt
      have KP11 : Keep h0 T9.heap [x1, x2, x3] := ((Keep.refl h0 [x1, x2, x3]).trans K9 (allS (Or.inl (List.mem_of_getElem? (i := 0) rfl)) (allS (Or.inl (List.mem_of_getElem? (i := 2) rfl)) all0)))
      have Ec12 : Exa Z T9.heap x1 oz1 := (E_x1.keep K9)
      have Ec13 : Exa Z T9.heap x2 oz0 := (E_x2.keep K9)
      have Ec14 : Exa Z T9.heap x3 oz0 := (E_x3.keep K9)
      have ne15 : x2 ≠ x1 := ne_exa Ec13 Ec12 (by decide)
      have Fc16 : Fld Z T9.heap x2 oz0 "in" oz3 .null := (F_in_x2.keep K9 (ninS ne15 (ninS ne_x2_x3 nin0)))
      have Fc17 : Fld Z T9.heap x2 oz0 "before" oz2 .null := (F_before_x2.keep K9 (ninS ne15 (ninS ne_x2_x3 nin0)))
      have Fc18 : Fld Z T9.heap x2 oz0 "after" oz2 .null := (F_after_x2.keep K9 (ninS ne15 (ninS ne_x2_x3 nin0)))
      obtain ⟨fs, hr, hrun, hended, hW, hsame⟩ := X9.leave (v := some (.int (4 : Int32))) (fun h => by rw [Bd.returns] at h; cases h)
      refine ⟨_, _, pre0 _ (pre1 _ (pre8 _ (pre10 _ ?_))), hrun, hended, _, _, rfl, ?_, ⟨_, rfl⟩, hW, hsame.mono (by decide) (by decide)⟩
      · show oS p e below T9 m 265 #[rv x1, rv x2, rv x3, iv (6 : Int32), iv x5, iv (0 : Int32), iv (0 : Int32), iv (1 : Int32), iv (x5 &&& (3 : Int32)), iv (4 : Int32)] [(.int (4 : Int32))] _
        exact retOut X9 hx Bd.returns rfl (Or.inl ⟨rfl, Or.inl rfl, _, rfl⟩) (hb hby d5_265) hr
      · show QS6 Z x1 x2 x3 x5 h0 n0 _ T9.heap _
        exact ⟨(4 : Int32), rfl, N9, KP11, (by decide), (Or.inl ⟨(Or.inr rfl), Ec12, Ec13, Ec14, pf9_0, pf9_1, Fc16, Fc17, Fc18, pf9_2, pf9_3, pf9_4⟩)⟩
    · have pre19 : ∀ tz, oS p e below s₁ m 139 #[rv x1, rv x2, rv x3, iv (6 : Int32), iv x5, iv (0 : Int32), iv (1 : Int32), iv (1 : Int32), iv (x5 &&& (3 : Int32)), .unset] [(.int (2 : Int32)), (.int (x5 &&& (3 : Int32)))] tz → oS p e below s₁ m 97 #[rv x1, rv x2, rv x3, iv (6 : Int32), iv x5, iv (0 : Int32), iv (1 : Int32), iv (1 : Int32), iv (x5 &&& (3 : Int32)), .unset] [(.int (1 : Int32)), (.int (x5 &&& (3 : Int32)))] tz := fun tz kt => by
        show oS p e below s₁ m 97 #[rv x1, rv x2, rv x3, iv (6 : Int32), iv x5, iv (0 : Int32), iv (1 : Int32), iv (1 : Int32), iv (x5 &&& (3 : Int32)), .unset] [(.int (1 : Int32)), (.int (x5 &&& (3 : Int32)))] _
        refine XS.icmpYes X0.here hx rfl (pc0 := 97) (pc' := 136) rfl (hb hby d5_97) rfl (feq hc97).2 (by decide) (by decide) ?_
        refine XS.iload X0.here hx rfl (hb hby d5_136) rfl ?_
        refine XS.iconst X0.here hx rfl (hb hby d5_138) ?_
        exact kt
      by_cases hc139 : (x5 &&& (3 : Int32)) = (2 : Int32)
      · obtain ⟨cq20, kq20, q20a, q20b, q20c⟩ := isOf hZ e0 E_x1
        obtain ⟨_, _, ⟨T20, Lw20, kw20, nw20⟩, -, X20, ⟨Lc20, hQ20, l20, y20, z20⟩, st20⟩ := X0.virtualBack hx (y := (⟨oz1, "poll", oz8⟩ : MethodName)) (z := (⟨oz1, "poll", oz8⟩ : MethodName)) hown (mvT hZ (own_w hw 57 rfl)) (mvT hZ (own_w hw 58 rfl)) (notFace_of_selects (args := #[]) (mvT hZ (own_w hw 60 rfl))) (mvT hZ (own_w hw 60 rfl)) (mvT hZ (own_w hw 59 rfl)) (by decide) (backOf (W := 0) (rmP00 l Z a0 hw [] x1 (.ref x3) (.ref x1) x3 h0 n0 Z0 E_x1 E_x3 g_x1 g_x3 F_first_x1 F_last_x1 F_in_x3 F_before_x3 F_after_x3) hZ (own_w hw 61 rfl) (own_w hw 2 rfl) (by decide) (by decide)) q20a q20c (g := (mkF m 143 #[rv x1, rv x2, rv x3, iv (6 : Int32), iv x5, iv (0 : Int32), iv (1 : Int32), iv (1 : Int32), iv (x5 &&& (3 : Int32)), .unset] [(.ref x1)])) rfl (by rw [hml]; rfl) (Steps.refl _) (argsL := []) (rest := []) (lenOf own_pd1 rfl) rfl (by show 2 * 0 + _ ≤ _; exact Nat.le_of_eq rfl) (hb hby d5_143) (fun _ _ => ⟨rfl, e0, (by decide : 0 + 0 ≤ _), (by decide : 0 + 0 ≤ _)⟩)
        dsimp only [Pt.U, Pt.locs, Pt.cells, Pt.slots] at X20 l20 y20 z20 st20 hQ20
        subst l20 y20 z20
        obtain ⟨rfl, Nq20, K20, pf20_0, pf20_1, pf20_2, pf20_3, pf20_4⟩ := hQ20
        have N20 := Fr.app N0 Nq20
        have pre21 : ∀ tz, oS p e below T20 m 265 #[rv x1, rv x2, rv x3, iv (6 : Int32), iv x5, iv (0 : Int32), iv (0 : Int32), iv (1 : Int32), iv (x5 &&& (3 : Int32)), iv (4 : Int32)] [(.int (4 : Int32))] tz → oS p e below s₁ m 139 #[rv x1, rv x2, rv x3, iv (6 : Int32), iv x5, iv (0 : Int32), iv (1 : Int32), iv (1 : Int32), iv (x5 &&& (3 : Int32)), .unset] [(.int (2 : Int32)), (.int (x5 &&& (3 : Int32)))] tz := fun tz kt => by
          show oS p e below s₁ m 139 #[rv x1, rv x2, rv x3, iv (6 : Int32), iv x5, iv (0 : Int32), iv (1 : Int32), iv (1 : Int32), iv (x5 &&& (3 : Int32)), .unset] [(.int (2 : Int32)), (.int (x5 &&& (3 : Int32)))] _
          refine XS.icmpNo X0.here hx rfl (hb hby d5_139) rfl (teq hc139).2 ?_
          refine XS.aloadN X0.here hx rfl (hb hby d5_142) rfl rfl ?_
          show oS p e below s₁ m 143 #[rv x1, rv x2, rv x3, iv (6 : Int32), iv x5, iv (0 : Int32), iv (1 : Int32), iv (1 : Int32), iv (x5 &&& (3 : Int32)), .unset] [(.ref x1)] _
          refine st20.trans ?_
          refine XS.astore X20.here hx rfl (hb hby d5_146) rfl rfl (l' := #[rv x1, rv x2, rv x3, iv (6 : Int32), iv x5, iv (0 : Int32), iv (1 : Int32), iv (1 : Int32), iv (x5 &&& (3 : Int32)), rv x3]) rfl ?_
          refine XS.iload X20.here hx rfl (hb hby d5_148) rfl ?_
          refine XS.ifNo X20.here hx rfl (hb hby d5_150) rfl ((if0 _ _).trans (teq (by decide : ((0 : Int32) = (0 : Int32)))).2) ?_
          show oS p e below T20 m 153 #[rv x1, rv x2, rv x3, iv (6 : Int32), iv x5, iv (0 : Int32), iv (1 : Int32), iv (1 : Int32), iv (x5 &&& (3 : Int32)), rv x3] [] _
          refine XS.iload X20.here hx rfl (hb hby d5_153) rfl ?_
          refine XS.ifYes X20.here hx rfl (pc0 := 155) (pc' := 165) rfl (hb hby d5_155) rfl ((if0 _ _).trans (feq (by decide : ¬ ((1 : Int32) = (0 : Int32)))).2) (by decide) (by decide) ?_
          refine XS.iload X20.here hx rfl (hb hby d5_165) rfl ?_
          refine XS.ifYes X20.here hx rfl (pc0 := 167) (pc' := 194) rfl (hb hby d5_167) rfl ((if0 _ _).trans (teq (by decide : ((0 : Int32) = (0 : Int32)))).1) (by decide) (by decide) ?_
          show oS p e below T20 m 194 #[rv x1, rv x2, rv x3, iv (6 : Int32), iv x5, iv (0 : Int32), iv (1 : Int32), iv (1 : Int32), iv (x5 &&& (3 : Int32)), rv x3] [] _
          refine XS.aload X20.here hx rfl (hb hby d5_194) rfl rfl ?_
          refine XS.aloadN X20.here hx rfl (hb hby d5_196) rfl rfl ?_
          refine Jvm.RoadKit.acmp (g := (mkF m 197 #[rv x1, rv x2, rv x3, iv (6 : Int32), iv x5, iv (0 : Int32), iv (1 : Int32), iv (1 : Int32), iv (x5 &&& (3 : Int32)), rv x3] [(.ref x3), (.ref x3)])) X20 hx rfl rfl rfl (pc0 := 197) (pc' := 202) (same := true) rfl (hb hby d5_197) rfl (decide_eq_true rfl) (by decide) (by decide) ?_
          refine XS.iconst X20.here hx rfl (hb hby d5_202) ?_
          show oS p e below T20 m 203 #[rv x1, rv x2, rv x3, iv (6 : Int32), iv x5, iv (0 : Int32), iv (1 : Int32), iv (1 : Int32), iv (x5 &&& (3 : Int32)), rv x3] [(.int (0 : Int32))] _
          refine XS.istore X20.here hx rfl (hb hby d5_203) rfl (l' := #[rv x1, rv x2, rv x3, iv (6 : Int32), iv x5, iv (0 : Int32), iv (0 : Int32), iv (1 : Int32), iv (x5 &&& (3 : Int32)), rv x3]) rfl ?_
          refine XS.goto X20.here hx rfl (pc0 := 205) (pc' := 227) rfl (hb hby d5_205) (by decide) (by decide) ?_
          refine XS.iconst X20.here hx rfl (hb hby d5_227) ?_
          refine XS.istore X20.here hx rfl (hb hby d5_228) rfl (l' := #[rv x1, rv x2, rv x3, iv (6 : Int32), iv x5, iv (0 : Int32), iv (0 : Int32), iv (1 : Int32), iv (x5 &&& (3 : Int32)), iv (0 : Int32)]) rfl ?_
          show oS p e below T20 m 230 #[rv x1, rv x2, rv x3, iv (6 : Int32), iv x5, iv (0 : Int32), iv (0 : Int32), iv (1 : Int32), iv (x5 &&& (3 : Int32)), iv (0 : Int32)] [] _
          refine XS.iload X20.here hx rfl (hb hby d5_230) rfl ?_
          refine XS.ifYes X20.here hx rfl (pc0 := 232) (pc' := 241) rfl (hb hby d5_232) rfl ((if0 _ _).trans (teq (by decide : ((0 : Int32) = (0 : Int32)))).1) (by decide) (by decide) ?_
          refine XS.iload X20.here hx rfl (hb hby d5_241) rfl ?_
          refine XS.ifYes X20.here hx rfl (pc0 := 243) (pc' := 252) rfl (hb hby d5_243) rfl ((if0 _ _).trans (teq (by decide : ((0 : Int32) = (0 : Int32)))).1) (by decide) (by decide) ?_
          show oS p e below T20 m 252 #[rv x1, rv x2, rv x3, iv (6 : Int32), iv x5, iv (0 : Int32), iv (0 : Int32), iv (1 : Int32), iv (x5 &&& (3 : Int32)), iv (0 : Int32)] [] _
          refine XS.iload X20.here hx rfl (hb hby d5_252) rfl ?_
          refine XS.ifNo X20.here hx rfl (hb hby d5_254) rfl ((if0 _ _).trans (feq (by decide : ¬ ((1 : Int32) = (0 : Int32)))).1) ?_
          refine XS.iload X20.here hx rfl (hb hby d5_257) rfl ?_
          refine XS.iconst X20.here hx rfl (hb hby d5_259) ?_
          show oS p e below T20 m 260 #[rv x1, rv x2, rv x3, iv (6 : Int32), iv x5, iv (0 : Int32), iv (0 : Int32), iv (1 : Int32), iv (x5 &&& (3 : Int32)), iv (0 : Int32)] [(.int (4 : Int32)), (.int (0 : Int32))] _
          refine XS.ior X20.here hx rfl (hb hby d5_260) rfl ?_
          show oS p e below T20 m 261 #[rv x1, rv x2, rv x3, iv (6 : Int32), iv x5, iv (0 : Int32), iv (0 : Int32), iv (1 : Int32), iv (x5 &&& (3 : Int32)), iv (0 : Int32)] [(.int (4 : Int32))] _
          refine XS.istore X20.here hx rfl (hb hby d5_261) rfl (l' := #[rv x1, rv x2, rv x3, iv (6 : Int32), iv x5, iv (0 : Int32), iv (0 : Int32), iv (1 : Int32), iv (x5 &&& (3 : Int32)), iv (4 : Int32)]) rfl ?_
          refine XS.iload X20.here hx rfl (hb hby d5_263) rfl ?_
          exact kt
        have KP22 : Keep h0 T20.heap [x1, x2, x3] := ((Keep.refl h0 [x1, x2, x3]).trans K20 (allS (Or.inl (List.mem_of_getElem? (i := 0) rfl)) (allS (Or.inl (List.mem_of_getElem? (i := 2) rfl)) all0)))
        have Ec23 : Exa Z T20.heap x1 oz1 := (E_x1.keep K20)
        have Ec24 : Exa Z T20.heap x2 oz0 := (E_x2.keep K20)
        have Ec25 : Exa Z T20.heap x3 oz0 := (E_x3.keep K20)
        have ne26 : x2 ≠ x1 := ne_exa Ec24 Ec23 (by decide)
        have Fc27 : Fld Z T20.heap x2 oz0 "in" oz3 .null := (F_in_x2.keep K20 (ninS ne26 (ninS ne_x2_x3 nin0)))
        have Fc28 : Fld Z T20.heap x2 oz0 "before" oz2 .null := (F_before_x2.keep K20 (ninS ne26 (ninS ne_x2_x3 nin0)))
        have Fc29 : Fld Z T20.heap x2 oz0 "after" oz2 .null := (F_after_x2.keep K20 (ninS ne26 (ninS ne_x2_x3 nin0)))
        obtain ⟨fs, hr, hrun, hended, hW, hsame⟩ := X20.leave (v := some (.int (4 : Int32))) (fun h => by rw [Bd.returns] at h; cases h)
        refine ⟨_, _, pre0 _ (pre1 _ (pre8 _ (pre19 _ (pre21 _ ?_)))), hrun, hended, _, _, rfl, ?_, ⟨_, rfl⟩, hW, hsame.mono (by decide) (by decide)⟩
        · show oS p e below T20 m 265 #[rv x1, rv x2, rv x3, iv (6 : Int32), iv x5, iv (0 : Int32), iv (0 : Int32), iv (1 : Int32), iv (x5 &&& (3 : Int32)), iv (4 : Int32)] [(.int (4 : Int32))] _
          exact retOut X20 hx Bd.returns rfl (Or.inl ⟨rfl, Or.inl rfl, _, rfl⟩) (hb hby d5_265) hr
        · show QS6 Z x1 x2 x3 x5 h0 n0 _ T20.heap _
          exact ⟨(4 : Int32), rfl, N20, KP22, (by decide), (Or.inl ⟨(Or.inr rfl), Ec23, Ec24, Ec25, pf20_0, pf20_1, Fc27, Fc28, Fc29, pf20_2, pf20_3, pf20_4⟩)⟩
      · obtain ⟨cq30, kq30, q30a, q30b, q30c⟩ := isOf hZ e0 E_x1
        obtain ⟨_, _, ⟨T30, Lw30, kw30, nw30⟩, -, X30, ⟨Lc30, hQ30, l30, y30, z30⟩, st30⟩ := X0.virtualBack hx (y := (⟨oz1, "remove", oz5⟩ : MethodName)) (z := (⟨oz1, "remove", oz5⟩ : MethodName)) hown (mvT hZ (own_w hw 46 rfl)) (mvT hZ (own_w hw 47 rfl)) (notFace_of_selects (args := #[]) (mvT hZ (own_w hw 49 rfl))) (mvT hZ (own_w hw 49 rfl)) (mvT hZ (own_w hw 48 rfl)) (by decide) (backOf (W := 0) (rmR0 l Z a0 hw [] x1 x2 h0 n0 Z0 E_x1 E_x2 F_in_x2) hZ (own_w hw 50 rfl) (own_w hw 2 rfl) (by decide) (by decide)) q30a q30c (g := (mkF m 210 #[rv x1, rv x2, rv x3, iv (6 : Int32), iv x5, iv (0 : Int32), iv (1 : Int32), iv (1 : Int32), iv (x5 &&& (3 : Int32)), .unset] [(.ref x2), (.ref x1)])) rfl (by rw [hml]; rfl) (Steps.refl _) (argsL := [(.ref x2)]) (rest := []) (lenOf own_pd2 rfl) rfl (by show 2 * 0 + _ ≤ _; exact Nat.le_of_eq rfl) (hb hby d5_210) (fun _ _ => ⟨rfl, e0, (by decide : 0 + 0 ≤ _), (by decide : 0 + 0 ≤ _)⟩)
        dsimp only [Pt.U, Pt.locs, Pt.cells, Pt.slots] at X30 l30 y30 z30 st30 hQ30
        subst l30 y30 z30
        obtain ⟨rfl, Nq30, eh30⟩ := hQ30
        have N30 := Fr.app N0 Nq30
        have pre31 : ∀ tz, oS p e below T30 m 265 #[rv x1, rv x2, rv x3, iv (6 : Int32), iv x5, iv (0 : Int32), iv (1 : Int32), iv (1 : Int32), iv (x5 &&& (3 : Int32)), iv (6 : Int32)] [(.int (6 : Int32))] tz → oS p e below s₁ m 139 #[rv x1, rv x2, rv x3, iv (6 : Int32), iv x5, iv (0 : Int32), iv (1 : Int32), iv (1 : Int32), iv (x5 &&& (3 : Int32)), .unset] [(.int (2 : Int32)), (.int (x5 &&& (3 : Int32)))] tz := fun tz kt => by
          show oS p e below s₁ m 139 #[rv x1, rv x2, rv x3, iv (6 : Int32), iv x5, iv (0 : Int32), iv (1 : Int32), iv (1 : Int32), iv (x5 &&& (3 : Int32)), .unset] [(.int (2 : Int32)), (.int (x5 &&& (3 : Int32)))] _
          refine XS.icmpYes X0.here hx rfl (pc0 := 139) (pc' := 208) rfl (hb hby d5_139) rfl (feq hc139).2 (by decide) (by decide) ?_
          refine XS.aloadN X0.here hx rfl (hb hby d5_208) rfl rfl ?_
          refine XS.aloadN X0.here hx rfl (hb hby d5_209) rfl rfl ?_
          show oS p e below s₁ m 210 #[rv x1, rv x2, rv x3, iv (6 : Int32), iv x5, iv (0 : Int32), iv (1 : Int32), iv (1 : Int32), iv (x5 &&& (3 : Int32)), .unset] [(.ref x2), (.ref x1)] _
          refine st30.trans ?_
          refine XS.istore X30.here hx rfl (hb hby d5_213) rfl (l' := #[rv x1, rv x2, rv x3, iv (6 : Int32), iv x5, iv (0 : Int32), iv (1 : Int32), iv (1 : Int32), iv (x5 &&& (3 : Int32)), iv (0 : Int32)]) rfl ?_
          refine XS.iload X30.here hx rfl (hb hby d5_215) rfl ?_
          refine XS.iload X30.here hx rfl (hb hby d5_217) rfl ?_
          show oS p e below T30 m 219 #[rv x1, rv x2, rv x3, iv (6 : Int32), iv x5, iv (0 : Int32), iv (1 : Int32), iv (1 : Int32), iv (x5 &&& (3 : Int32)), iv (0 : Int32)] [(.int (0 : Int32)), (.int (0 : Int32))] _
          refine XS.icmpYes X30.here hx rfl (pc0 := 219) (pc' := 224) rfl (hb hby d5_219) rfl (teq (by decide : ((0 : Int32) = (0 : Int32)))).1 (by decide) (by decide) ?_
          refine XS.iconst X30.here hx rfl (hb hby d5_224) ?_
          refine XS.istore X30.here hx rfl (hb hby d5_225) rfl (l' := #[rv x1, rv x2, rv x3, iv (6 : Int32), iv x5, iv (0 : Int32), iv (1 : Int32), iv (1 : Int32), iv (x5 &&& (3 : Int32)), iv (0 : Int32)]) rfl ?_
          refine XS.iconst X30.here hx rfl (hb hby d5_227) ?_
          show oS p e below T30 m 228 #[rv x1, rv x2, rv x3, iv (6 : Int32), iv x5, iv (0 : Int32), iv (1 : Int32), iv (1 : Int32), iv (x5 &&& (3 : Int32)), iv (0 : Int32)] [(.int (0 : Int32))] _
          refine XS.istore X30.here hx rfl (hb hby d5_228) rfl (l' := #[rv x1, rv x2, rv x3, iv (6 : Int32), iv x5, iv (0 : Int32), iv (1 : Int32), iv (1 : Int32), iv (x5 &&& (3 : Int32)), iv (0 : Int32)]) rfl ?_
          refine XS.iload X30.here hx rfl (hb hby d5_230) rfl ?_
          refine XS.ifYes X30.here hx rfl (pc0 := 232) (pc' := 241) rfl (hb hby d5_232) rfl ((if0 _ _).trans (teq (by decide : ((0 : Int32) = (0 : Int32)))).1) (by decide) (by decide) ?_
          refine XS.iload X30.here hx rfl (hb hby d5_241) rfl ?_
          show oS p e below T30 m 243 #[rv x1, rv x2, rv x3, iv (6 : Int32), iv x5, iv (0 : Int32), iv (1 : Int32), iv (1 : Int32), iv (x5 &&& (3 : Int32)), iv (0 : Int32)] [(.int (1 : Int32))] _
          refine XS.ifNo X30.here hx rfl (hb hby d5_243) rfl ((if0 _ _).trans (feq (by decide : ¬ ((1 : Int32) = (0 : Int32)))).1) ?_
          refine XS.iload X30.here hx rfl (hb hby d5_246) rfl ?_
          refine XS.iconst X30.here hx rfl (hb hby d5_248) ?_
          refine XS.ior X30.here hx rfl (hb hby d5_249) rfl ?_
          show oS p e below T30 m 250 #[rv x1, rv x2, rv x3, iv (6 : Int32), iv x5, iv (0 : Int32), iv (1 : Int32), iv (1 : Int32), iv (x5 &&& (3 : Int32)), iv (0 : Int32)] [(.int (2 : Int32))] _
          refine XS.istore X30.here hx rfl (hb hby d5_250) rfl (l' := #[rv x1, rv x2, rv x3, iv (6 : Int32), iv x5, iv (0 : Int32), iv (1 : Int32), iv (1 : Int32), iv (x5 &&& (3 : Int32)), iv (2 : Int32)]) rfl ?_
          refine XS.iload X30.here hx rfl (hb hby d5_252) rfl ?_
          refine XS.ifNo X30.here hx rfl (hb hby d5_254) rfl ((if0 _ _).trans (feq (by decide : ¬ ((1 : Int32) = (0 : Int32)))).1) ?_
          refine XS.iload X30.here hx rfl (hb hby d5_257) rfl ?_
          show oS p e below T30 m 259 #[rv x1, rv x2, rv x3, iv (6 : Int32), iv x5, iv (0 : Int32), iv (1 : Int32), iv (1 : Int32), iv (x5 &&& (3 : Int32)), iv (2 : Int32)] [(.int (2 : Int32))] _
          refine XS.iconst X30.here hx rfl (hb hby d5_259) ?_
          refine XS.ior X30.here hx rfl (hb hby d5_260) rfl ?_
          show oS p e below T30 m 261 #[rv x1, rv x2, rv x3, iv (6 : Int32), iv x5, iv (0 : Int32), iv (1 : Int32), iv (1 : Int32), iv (x5 &&& (3 : Int32)), iv (2 : Int32)] [(.int (6 : Int32))] _
          refine XS.istore X30.here hx rfl (hb hby d5_261) rfl (l' := #[rv x1, rv x2, rv x3, iv (6 : Int32), iv x5, iv (0 : Int32), iv (1 : Int32), iv (1 : Int32), iv (x5 &&& (3 : Int32)), iv (6 : Int32)]) rfl ?_
          refine XS.iload X30.here hx rfl (hb hby d5_263) rfl ?_
          exact kt
        obtain ⟨fs, hr, hrun, hended, hW, hsame⟩ := X30.leave (v := some (.int (6 : Int32))) (fun h => by rw [Bd.returns] at h; cases h)
        refine ⟨_, _, pre0 _ (pre1 _ (pre8 _ (pre19 _ (pre31 _ ?_)))), hrun, hended, _, _, rfl, ?_, ⟨_, rfl⟩, hW, hsame.mono (by decide) (by decide)⟩
        · show oS p e below T30 m 265 #[rv x1, rv x2, rv x3, iv (6 : Int32), iv x5, iv (0 : Int32), iv (1 : Int32), iv (1 : Int32), iv (x5 &&& (3 : Int32)), iv (6 : Int32)] [(.int (6 : Int32))] _
          exact retOut X30 hx Bd.returns rfl (Or.inl ⟨rfl, Or.inl rfl, _, rfl⟩) (hb hby d5_265) hr
        · show QS6 Z x1 x2 x3 x5 h0 n0 _ T30.heap _
          rw [eh30]
          exact ⟨(6 : Int32), rfl, N30, (Keep.refl h0 [x1, x2, x3]), (by decide), (Or.inr (Or.inr (Or.inl ⟨(Or.inr rfl), E_x1, E_x2, E_x3, F_first_x1, F_last_x1, F_in_x2, F_before_x2, F_after_x2, F_in_x3, F_before_x3, F_after_x3⟩)))⟩
theorem efS7 (m : MethodId) (x1 : Addr) (x2 : Addr) (x3 : Addr) (x5 : Int32) : entryFrame m #[(.ref x1), (.ref x2), (.ref x3), (.int (7 : Int32)), (.int x5)] 10 = mkF m 0 #[rv x1, rv x2, rv x3, iv (7 : Int32), iv x5, .unset, .unset, .unset, .unset, .unset] [] := by first | (simp [entryFrame, mkF, argsToLocals, Value.category]; done) | rfl
def QS7 (Z : State) (x1 : Addr) (x2 : Addr) (x3 : Addr) (x5 : Int32) (h0 : Heap) (n0 : Nat) (v : Option Value) (h : Heap) (L : List Loc) : Prop := ∃ (s : Int32), v = some (.int s) ∧ Fr n0 L ∧ Keep h0 h [x1, x2, x3] ∧ (¬ s < (0 : Int32)) ∧ (own_Sh Z h x1 x2 x3 s)
set_option maxRecDepth 65536 in
set_option maxHeartbeats 40000000 in
theorem rmS7 (l : Launch) (Z : State) (a0 : Array Value) (hw : ∀ d ∈ tables_1, d.before a0 Z = true) (ws : List Jvm.Cond) (x1 : Addr) (x2 : Addr) (x3 : Addr) (x5 : Int32) (h0 : Heap) (n0 : Nat) (Z0 : n0 ≤ h0.size) (E_x1 : Exa Z h0 x1 oz1) (E_x2 : Exa Z h0 x2 oz0) (E_x3 : Exa Z h0 x3 oz0) (g_x1 : n0 ≤ x1) (g_x2 : n0 ≤ x2) (g_x3 : n0 ≤ x3) (ne_x2_x3 : x2 ≠ x3) (F_first_x1 : Fld Z h0 x1 oz1 "first" oz2 (.ref x2)) (F_last_x1 : Fld Z h0 x1 oz1 "last" oz2 (.ref x3)) (F_in_x2 : Fld Z h0 x2 oz0 "in" oz3 (.ref x1)) (F_before_x2 : Fld Z h0 x2 oz0 "before" oz2 .null) (F_after_x2 : Fld Z h0 x2 oz0 "after" oz2 (.ref x3)) (F_in_x3 : Fld Z h0 x3 oz0 "in" oz3 (.ref x1)) (F_before_x3 : Fld Z h0 x3 oz0 "before" oz2 (.ref x2)) (F_after_x3 : Fld Z h0 x3 oz0 "after" oz2 .null) :
    MetFree l (⟨oz6, "step", oz4⟩ : MethodName) (head1 (Jvm.Cond.code (⟨oz6, "step", oz4⟩ : MethodName) method_3_code 10 (some .int) :: ws) ({ frames := 2, cells := 0, slots := 0, locals := 44 } : Room)) (fun a U => a = #[(.ref x1), (.ref x2), (.ref x3), (.int (7 : Int32)), (.int x5)] ∧ Z.Warmed39 U.vm ∧ U.heap = h0) (fun _ _ _ _ _ => True) (fun _ U oc U' => ∃ v L, oc = .returned v ∧ QS7 Z x1 x2 x3 x5 h0 n0 v U'.heap L ∧ FrameEnd U oc U' L ({ frames := 2, cells := 0, slots := 0, locals := 44 } : Room).cells ({ frames := 2, cells := 0, slots := 0, locals := 44 } : Room).slots) := by
  refine MetFree.of_bodySF (plainFor_of_name own_pn2) hisR ?_
  intro p e s m args below meth c s₁ Bd hml0 hP hK
  obtain ⟨rfl, hZ, hh⟩ := hP
  have hx := Bd.exec
  have hby := Bd.bytes
  have hml : c.maxLocals = 10 := hml0
  have hown : s.vm.findClass oz6 = some m.cls := findClass_of_methodNamed Bd.named
  have hnm := (name_of_methodNamed Bd.named Bd.method).1
  have X0 : Stand p l e ({ frames := 2, cells := 0, slots := 0, locals := 44 } : Room) s m #[(.ref x1), (.ref x2), (.ref x3), (.int (7 : Int32)), (.int x5)] below meth c s₁ [] 0 0 := Stand.of_body Bd
  have e0 : s₁.heap = h0 := by rw [← hh, Bd.state]; rfl
  have N0 := Fr.nil n0
  have pre0 : ∀ t, Steps p.tables e below (s₁.setTop (mkF m 0 #[rv x1, rv x2, rv x3, iv (7 : Int32), iv x5, .unset, .unset, .unset, .unset, .unset] [])) t → Steps p.tables e below (s₁.setTop (entryFrame m #[(.ref x1), (.ref x2), (.ref x3), (.int (7 : Int32)), (.int x5)] 10)) t := fun t k => castTop (efS7 m x1 x2 x3 x5) k
  have pre1 : ∀ tz, oS p e below s₁ m 47 #[rv x1, rv x2, rv x3, iv (7 : Int32), iv x5, iv (1 : Int32), iv (1 : Int32), iv (1 : Int32), iv (x5 &&& (3 : Int32)), .unset] [(.int (x5 &&& (3 : Int32)))] tz → oS p e below s₁ m 0 #[rv x1, rv x2, rv x3, iv (7 : Int32), iv x5, .unset, .unset, .unset, .unset, .unset] [] tz := fun tz kt => by
    show oS p e below s₁ m 0 #[rv x1, rv x2, rv x3, iv (7 : Int32), iv x5, .unset, .unset, .unset, .unset, .unset] [] _
    refine XS.iloadN X0.here hx rfl (hb hby d5_0) rfl ?_
    refine XS.iconst X0.here hx rfl (hb hby d5_1) ?_
    refine XS.iand X0.here hx rfl (hb hby d5_2) rfl ?_
    show oS p e below s₁ m 3 #[rv x1, rv x2, rv x3, iv (7 : Int32), iv x5, .unset, .unset, .unset, .unset, .unset] [(.int (1 : Int32))] _
    refine XS.ifNo X0.here hx rfl (hb hby d5_3) rfl ((if0 _ _).trans (feq (by decide : ¬ ((1 : Int32) = (0 : Int32)))).1) ?_
    refine XS.iconst X0.here hx rfl (hb hby d5_6) ?_
    refine XS.goto X0.here hx rfl (pc0 := 7) (pc' := 11) rfl (hb hby d5_7) (by decide) (by decide) ?_
    refine XS.istore X0.here hx rfl (hb hby d5_11) rfl (l' := #[rv x1, rv x2, rv x3, iv (7 : Int32), iv x5, iv (1 : Int32), .unset, .unset, .unset, .unset]) rfl ?_
    show oS p e below s₁ m 13 #[rv x1, rv x2, rv x3, iv (7 : Int32), iv x5, iv (1 : Int32), .unset, .unset, .unset, .unset] [] _
    refine XS.iloadN X0.here hx rfl (hb hby d5_13) rfl ?_
    refine XS.iconst X0.here hx rfl (hb hby d5_14) ?_
    refine XS.iand X0.here hx rfl (hb hby d5_15) rfl ?_
    show oS p e below s₁ m 16 #[rv x1, rv x2, rv x3, iv (7 : Int32), iv x5, iv (1 : Int32), .unset, .unset, .unset, .unset] [(.int (2 : Int32))] _
    refine XS.ifNo X0.here hx rfl (hb hby d5_16) rfl ((if0 _ _).trans (feq (by decide : ¬ ((2 : Int32) = (0 : Int32)))).1) ?_
    refine XS.iconst X0.here hx rfl (hb hby d5_19) ?_
    refine XS.goto X0.here hx rfl (pc0 := 20) (pc' := 24) rfl (hb hby d5_20) (by decide) (by decide) ?_
    refine XS.istore X0.here hx rfl (hb hby d5_24) rfl (l' := #[rv x1, rv x2, rv x3, iv (7 : Int32), iv x5, iv (1 : Int32), iv (1 : Int32), .unset, .unset, .unset]) rfl ?_
    show oS p e below s₁ m 26 #[rv x1, rv x2, rv x3, iv (7 : Int32), iv x5, iv (1 : Int32), iv (1 : Int32), .unset, .unset, .unset] [] _
    refine XS.iloadN X0.here hx rfl (hb hby d5_26) rfl ?_
    refine XS.iconst X0.here hx rfl (hb hby d5_27) ?_
    refine XS.iand X0.here hx rfl (hb hby d5_28) rfl ?_
    show oS p e below s₁ m 29 #[rv x1, rv x2, rv x3, iv (7 : Int32), iv x5, iv (1 : Int32), iv (1 : Int32), .unset, .unset, .unset] [(.int (4 : Int32))] _
    refine XS.ifNo X0.here hx rfl (hb hby d5_29) rfl ((if0 _ _).trans (feq (by decide : ¬ ((4 : Int32) = (0 : Int32)))).1) ?_
    refine XS.iconst X0.here hx rfl (hb hby d5_32) ?_
    refine XS.goto X0.here hx rfl (pc0 := 33) (pc' := 37) rfl (hb hby d5_33) (by decide) (by decide) ?_
    refine XS.istore X0.here hx rfl (hb hby d5_37) rfl (l' := #[rv x1, rv x2, rv x3, iv (7 : Int32), iv x5, iv (1 : Int32), iv (1 : Int32), iv (1 : Int32), .unset, .unset]) rfl ?_
    show oS p e below s₁ m 39 #[rv x1, rv x2, rv x3, iv (7 : Int32), iv x5, iv (1 : Int32), iv (1 : Int32), iv (1 : Int32), .unset, .unset] [] _
    refine XS.iload X0.here hx rfl (hb hby d5_39) rfl ?_
    refine XS.iconst X0.here hx rfl (hb hby d5_41) ?_
    refine XS.iand X0.here hx rfl (hb hby d5_42) rfl ?_
    refine XS.istore X0.here hx rfl (hb hby d5_43) rfl (l' := #[rv x1, rv x2, rv x3, iv (7 : Int32), iv x5, iv (1 : Int32), iv (1 : Int32), iv (1 : Int32), iv (x5 &&& (3 : Int32)), .unset]) rfl ?_
    show oS p e below s₁ m 45 #[rv x1, rv x2, rv x3, iv (7 : Int32), iv x5, iv (1 : Int32), iv (1 : Int32), iv (1 : Int32), iv (x5 &&& (3 : Int32)), .unset] [] _
    refine XS.iload X0.here hx rfl (hb hby d5_45) rfl ?_
    exact kt
  by_cases hc47 : (x5 &&& (3 : Int32)) = (0 : Int32)
  · obtain ⟨cq2, kq2, q2a, q2b, q2c⟩ := isOf hZ e0 E_x1
    obtain ⟨_, _, ⟨T2, Lw2, kw2, nw2⟩, -, X2, ⟨Lc2, hQ2, l2, y2, z2⟩, st2⟩ := X0.virtualBack hx (y := (⟨oz1, "remove", oz5⟩ : MethodName)) (z := (⟨oz1, "remove", oz5⟩ : MethodName)) hown (mvT hZ (own_w hw 46 rfl)) (mvT hZ (own_w hw 47 rfl)) (notFace_of_selects (args := #[]) (mvT hZ (own_w hw 49 rfl))) (mvT hZ (own_w hw 49 rfl)) (mvT hZ (own_w hw 48 rfl)) (by decide) (backOf (W := 0) (rmR0t l Z a0 hw [] x1 x2 (.ref x2) (.ref x3) (.ref x1) (.ref x2) .null x3 h0 n0 Z0 E_x1 E_x2 E_x3 g_x1 g_x2 g_x3 ne_x2_x3 F_first_x1 F_last_x1 F_in_x2 F_before_x2 F_after_x2 F_in_x3 F_before_x3 F_after_x3) hZ (own_w hw 50 rfl) (own_w hw 2 rfl) (by decide) (by decide)) q2a q2c (g := (mkF m 57 #[rv x1, rv x2, rv x3, iv (7 : Int32), iv x5, iv (1 : Int32), iv (1 : Int32), iv (1 : Int32), iv (x5 &&& (3 : Int32)), .unset] [(.ref x2), (.ref x1)])) rfl (by rw [hml]; rfl) (Steps.refl _) (argsL := [(.ref x2)]) (rest := []) (lenOf own_pd2 rfl) rfl (by show 2 * 0 + _ ≤ _; exact Nat.le_of_eq rfl) (hb hby d5_57) (fun _ _ => ⟨rfl, e0, (by decide : 0 + 0 ≤ _), (by decide : 0 + 0 ≤ _)⟩)
    dsimp only [Pt.U, Pt.locs, Pt.cells, Pt.slots] at X2 l2 y2 z2 st2 hQ2
    subst l2 y2 z2
    obtain ⟨rfl, Nq2, K2, pf2_0, pf2_1, pf2_2, pf2_3, pf2_4, pf2_5, pf2_6, pf2_7⟩ := hQ2
    have N2 := Fr.app N0 Nq2
    have pre3 : ∀ tz, oS p e below T2 m 265 #[rv x1, rv x2, rv x3, iv (7 : Int32), iv x5, iv (0 : Int32), iv (1 : Int32), iv (1 : Int32), iv (x5 &&& (3 : Int32)), iv (6 : Int32)] [(.int (6 : Int32))] tz → oS p e below s₁ m 47 #[rv x1, rv x2, rv x3, iv (7 : Int32), iv x5, iv (1 : Int32), iv (1 : Int32), iv (1 : Int32), iv (x5 &&& (3 : Int32)), .unset] [(.int (x5 &&& (3 : Int32)))] tz := fun tz kt => by
      show oS p e below s₁ m 47 #[rv x1, rv x2, rv x3, iv (7 : Int32), iv x5, iv (1 : Int32), iv (1 : Int32), iv (1 : Int32), iv (x5 &&& (3 : Int32)), .unset] [(.int (x5 &&& (3 : Int32)))] _
      refine XS.ifNo X0.here hx rfl (hb hby d5_47) rfl ((if0 _ _).trans (teq hc47).2) ?_
      refine XS.iload X0.here hx rfl (hb hby d5_50) rfl ?_
      refine XS.ifNo X0.here hx rfl (hb hby d5_52) rfl ((if0 _ _).trans (feq (by decide : ¬ ((1 : Int32) = (0 : Int32)))).1) ?_
      refine XS.aloadN X0.here hx rfl (hb hby d5_55) rfl rfl ?_
      show oS p e below s₁ m 56 #[rv x1, rv x2, rv x3, iv (7 : Int32), iv x5, iv (1 : Int32), iv (1 : Int32), iv (1 : Int32), iv (x5 &&& (3 : Int32)), .unset] [(.ref x1)] _
      refine XS.aloadN X0.here hx rfl (hb hby d5_56) rfl rfl ?_
      show oS p e below s₁ m 57 #[rv x1, rv x2, rv x3, iv (7 : Int32), iv x5, iv (1 : Int32), iv (1 : Int32), iv (1 : Int32), iv (x5 &&& (3 : Int32)), .unset] [(.ref x2), (.ref x1)] _
      refine st2.trans ?_
      refine XS.ifYes X2.here hx rfl (pc0 := 60) (pc' := 65) rfl (hb hby d5_60) rfl ((if0 _ _).trans (feq (by decide : ¬ ((1 : Int32) = (0 : Int32)))).2) (by decide) (by decide) ?_
      refine XS.iconst X2.here hx rfl (hb hby d5_65) ?_
      refine XS.istore X2.here hx rfl (hb hby d5_66) rfl (l' := #[rv x1, rv x2, rv x3, iv (7 : Int32), iv x5, iv (0 : Int32), iv (1 : Int32), iv (1 : Int32), iv (x5 &&& (3 : Int32)), .unset]) rfl ?_
      show oS p e below T2 m 68 #[rv x1, rv x2, rv x3, iv (7 : Int32), iv x5, iv (0 : Int32), iv (1 : Int32), iv (1 : Int32), iv (x5 &&& (3 : Int32)), .unset] [] _
      refine XS.goto X2.here hx rfl (pc0 := 68) (pc' := 227) rfl (hb hby d5_68) (by decide) (by decide) ?_
      refine XS.iconst X2.here hx rfl (hb hby d5_227) ?_
      refine XS.istore X2.here hx rfl (hb hby d5_228) rfl (l' := #[rv x1, rv x2, rv x3, iv (7 : Int32), iv x5, iv (0 : Int32), iv (1 : Int32), iv (1 : Int32), iv (x5 &&& (3 : Int32)), iv (0 : Int32)]) rfl ?_
      refine XS.iload X2.here hx rfl (hb hby d5_230) rfl ?_
      show oS p e below T2 m 232 #[rv x1, rv x2, rv x3, iv (7 : Int32), iv x5, iv (0 : Int32), iv (1 : Int32), iv (1 : Int32), iv (x5 &&& (3 : Int32)), iv (0 : Int32)] [(.int (0 : Int32))] _
      refine XS.ifYes X2.here hx rfl (pc0 := 232) (pc' := 241) rfl (hb hby d5_232) rfl ((if0 _ _).trans (teq (by decide : ((0 : Int32) = (0 : Int32)))).1) (by decide) (by decide) ?_
      refine XS.iload X2.here hx rfl (hb hby d5_241) rfl ?_
      refine XS.ifNo X2.here hx rfl (hb hby d5_243) rfl ((if0 _ _).trans (feq (by decide : ¬ ((1 : Int32) = (0 : Int32)))).1) ?_
      refine XS.iload X2.here hx rfl (hb hby d5_246) rfl ?_
      show oS p e below T2 m 248 #[rv x1, rv x2, rv x3, iv (7 : Int32), iv x5, iv (0 : Int32), iv (1 : Int32), iv (1 : Int32), iv (x5 &&& (3 : Int32)), iv (0 : Int32)] [(.int (0 : Int32))] _
      refine XS.iconst X2.here hx rfl (hb hby d5_248) ?_
      refine XS.ior X2.here hx rfl (hb hby d5_249) rfl ?_
      show oS p e below T2 m 250 #[rv x1, rv x2, rv x3, iv (7 : Int32), iv x5, iv (0 : Int32), iv (1 : Int32), iv (1 : Int32), iv (x5 &&& (3 : Int32)), iv (0 : Int32)] [(.int (2 : Int32))] _
      refine XS.istore X2.here hx rfl (hb hby d5_250) rfl (l' := #[rv x1, rv x2, rv x3, iv (7 : Int32), iv x5, iv (0 : Int32), iv (1 : Int32), iv (1 : Int32), iv (x5 &&& (3 : Int32)), iv (2 : Int32)]) rfl ?_
      refine XS.iload X2.here hx rfl (hb hby d5_252) rfl ?_
      refine XS.ifNo X2.here hx rfl (hb hby d5_254) rfl ((if0 _ _).trans (feq (by decide : ¬ ((1 : Int32) = (0 : Int32)))).1) ?_
      refine XS.iload X2.here hx rfl (hb hby d5_257) rfl ?_
      show oS p e below T2 m 259 #[rv x1, rv x2, rv x3, iv (7 : Int32), iv x5, iv (0 : Int32), iv (1 : Int32), iv (1 : Int32), iv (x5 &&& (3 : Int32)), iv (2 : Int32)] [(.int (2 : Int32))] _
      refine XS.iconst X2.here hx rfl (hb hby d5_259) ?_
      refine XS.ior X2.here hx rfl (hb hby d5_260) rfl ?_
      show oS p e below T2 m 261 #[rv x1, rv x2, rv x3, iv (7 : Int32), iv x5, iv (0 : Int32), iv (1 : Int32), iv (1 : Int32), iv (x5 &&& (3 : Int32)), iv (2 : Int32)] [(.int (6 : Int32))] _
      refine XS.istore X2.here hx rfl (hb hby d5_261) rfl (l' := #[rv x1, rv x2, rv x3, iv (7 : Int32), iv x5, iv (0 : Int32), iv (1 : Int32), iv (1 : Int32), iv (x5 &&& (3 : Int32)), iv (6 : Int32)]) rfl ?_
      refine XS.iload X2.here hx rfl (hb hby d5_263) rfl ?_
      exact kt
    have KP4 : Keep h0 T2.heap [x1, x2, x3] := ((Keep.refl h0 [x1, x2, x3]).trans K2 (allS (Or.inl (List.mem_of_getElem? (i := 0) rfl)) (allS (Or.inl (List.mem_of_getElem? (i := 1) rfl)) (allS (Or.inl (List.mem_of_getElem? (i := 2) rfl)) all0))))
    have Ec5 : Exa Z T2.heap x1 oz1 := (E_x1.keep K2)
    have Ec6 : Exa Z T2.heap x2 oz0 := (E_x2.keep K2)
    have Ec7 : Exa Z T2.heap x3 oz0 := (E_x3.keep K2)
    obtain ⟨fs, hr, hrun, hended, hW, hsame⟩ := X2.leave (v := some (.int (6 : Int32))) (fun h => by rw [Bd.returns] at h; cases h)
    refine ⟨_, _, pre0 _ (pre1 _ (pre3 _ ?_)), hrun, hended, _, _, rfl, ?_, ⟨_, rfl⟩, hW, hsame.mono (by decide) (by decide)⟩
    · show oS p e below T2 m 265 #[rv x1, rv x2, rv x3, iv (7 : Int32), iv x5, iv (0 : Int32), iv (1 : Int32), iv (1 : Int32), iv (x5 &&& (3 : Int32)), iv (6 : Int32)] [(.int (6 : Int32))] _
      exact retOut X2 hx Bd.returns rfl (Or.inl ⟨rfl, Or.inl rfl, _, rfl⟩) (hb hby d5_265) hr
    · show QS7 Z x1 x2 x3 x5 h0 n0 _ T2.heap _
      exact ⟨(6 : Int32), rfl, N2, KP4, (by decide), (Or.inr (Or.inr (Or.inl ⟨(Or.inr rfl), Ec5, Ec6, Ec7, pf2_0, pf2_1, pf2_2, pf2_3, pf2_4, pf2_5, pf2_6, pf2_7⟩)))⟩
  · have pre8 : ∀ tz, oS p e below s₁ m 97 #[rv x1, rv x2, rv x3, iv (7 : Int32), iv x5, iv (1 : Int32), iv (1 : Int32), iv (1 : Int32), iv (x5 &&& (3 : Int32)), .unset] [(.int (1 : Int32)), (.int (x5 &&& (3 : Int32)))] tz → oS p e below s₁ m 47 #[rv x1, rv x2, rv x3, iv (7 : Int32), iv x5, iv (1 : Int32), iv (1 : Int32), iv (1 : Int32), iv (x5 &&& (3 : Int32)), .unset] [(.int (x5 &&& (3 : Int32)))] tz := fun tz kt => by
      show oS p e below s₁ m 47 #[rv x1, rv x2, rv x3, iv (7 : Int32), iv x5, iv (1 : Int32), iv (1 : Int32), iv (1 : Int32), iv (x5 &&& (3 : Int32)), .unset] [(.int (x5 &&& (3 : Int32)))] _
      refine XS.ifYes X0.here hx rfl (pc0 := 47) (pc' := 94) rfl (hb hby d5_47) rfl ((if0 _ _).trans (feq hc47).2) (by decide) (by decide) ?_
      refine XS.iload X0.here hx rfl (hb hby d5_94) rfl ?_
      refine XS.iconst X0.here hx rfl (hb hby d5_96) ?_
      exact kt
    by_cases hc97 : (x5 &&& (3 : Int32)) = (1 : Int32)
    · obtain ⟨cq9, kq9, q9a, q9b, q9c⟩ := isOf hZ e0 E_x1
      obtain ⟨_, _, ⟨T9, Lw9, kw9, nw9⟩, -, X9, ⟨Lc9, hQ9, l9, y9, z9⟩, st9⟩ := X0.virtualBack hx (y := (⟨oz1, "remove", oz5⟩ : MethodName)) (z := (⟨oz1, "remove", oz5⟩ : MethodName)) hown (mvT hZ (own_w hw 46 rfl)) (mvT hZ (own_w hw 47 rfl)) (notFace_of_selects (args := #[]) (mvT hZ (own_w hw 49 rfl))) (mvT hZ (own_w hw 49 rfl)) (mvT hZ (own_w hw 48 rfl)) (by decide) (backOf (W := 0) (rmRt0 l Z a0 hw [] x1 x3 (.ref x2) (.ref x3) (.ref x1) .null (.ref x3) x2 h0 n0 Z0 E_x1 E_x3 E_x2 g_x1 g_x3 g_x2 (Ne.symm ne_x2_x3) F_first_x1 F_last_x1 F_in_x3 F_before_x3 F_after_x3 F_in_x2 F_before_x2 F_after_x2) hZ (own_w hw 50 rfl) (own_w hw 2 rfl) (by decide) (by decide)) q9a q9c (g := (mkF m 107 #[rv x1, rv x2, rv x3, iv (7 : Int32), iv x5, iv (1 : Int32), iv (1 : Int32), iv (1 : Int32), iv (x5 &&& (3 : Int32)), .unset] [(.ref x3), (.ref x1)])) rfl (by rw [hml]; rfl) (Steps.refl _) (argsL := [(.ref x3)]) (rest := []) (lenOf own_pd2 rfl) rfl (by show 2 * 0 + _ ≤ _; exact Nat.le_of_eq rfl) (hb hby d5_107) (fun _ _ => ⟨rfl, e0, (by decide : 0 + 0 ≤ _), (by decide : 0 + 0 ≤ _)⟩)
      dsimp only [Pt.U, Pt.locs, Pt.cells, Pt.slots] at X9 l9 y9 z9 st9 hQ9
      subst l9 y9 z9
      obtain ⟨rfl, Nq9, K9, pf9_0, pf9_1, pf9_2, pf9_3, pf9_4, pf9_5, pf9_6, pf9_7⟩ := hQ9
      have N9 := Fr.app N0 Nq9
      have pre10 : ∀ tz, oS p e below T9 m 265 #[rv x1, rv x2, rv x3, iv (7 : Int32), iv x5, iv (1 : Int32), iv (0 : Int32), iv (1 : Int32), iv (x5 &&& (3 : Int32)), iv (5 : Int32)] [(.int (5 : Int32))] tz → oS p e below s₁ m 97 #[rv x1, rv x2, rv x3, iv (7 : Int32), iv x5, iv (1 : Int32), iv (1 : Int32), iv (1 : Int32), iv (x5 &&& (3 : Int32)), .unset] [(.int (1 : Int32)), (.int (x5 &&& (3 : Int32)))] tz := fun tz kt => by
        show oS p e below s₁ m 97 #[rv x1, rv x2, rv x3, iv (7 : Int32), iv x5, iv (1 : Int32), iv (1 : Int32), iv (1 : Int32), iv (x5 &&& (3 : Int32)), .unset] [(.int (1 : Int32)), (.int (x5 &&& (3 : Int32)))] _
        refine XS.icmpNo X0.here hx rfl (hb hby d5_97) rfl (teq hc97).2 ?_
        refine XS.iload X0.here hx rfl (hb hby d5_100) rfl ?_
        refine XS.ifNo X0.here hx rfl (hb hby d5_102) rfl ((if0 _ _).trans (feq (by decide : ¬ ((1 : Int32) = (0 : Int32)))).1) ?_
        refine XS.aloadN X0.here hx rfl (hb hby d5_105) rfl rfl ?_
        show oS p e below s₁ m 106 #[rv x1, rv x2, rv x3, iv (7 : Int32), iv x5, iv (1 : Int32), iv (1 : Int32), iv (1 : Int32), iv (x5 &&& (3 : Int32)), .unset] [(.ref x1)] _
        refine XS.aloadN X0.here hx rfl (hb hby d5_106) rfl rfl ?_
        show oS p e below s₁ m 107 #[rv x1, rv x2, rv x3, iv (7 : Int32), iv x5, iv (1 : Int32), iv (1 : Int32), iv (1 : Int32), iv (x5 &&& (3 : Int32)), .unset] [(.ref x3), (.ref x1)] _
        refine st9.trans ?_
        refine XS.ifYes X9.here hx rfl (pc0 := 110) (pc' := 115) rfl (hb hby d5_110) rfl ((if0 _ _).trans (feq (by decide : ¬ ((1 : Int32) = (0 : Int32)))).2) (by decide) (by decide) ?_
        refine XS.iconst X9.here hx rfl (hb hby d5_115) ?_
        refine XS.istore X9.here hx rfl (hb hby d5_116) rfl (l' := #[rv x1, rv x2, rv x3, iv (7 : Int32), iv x5, iv (1 : Int32), iv (0 : Int32), iv (1 : Int32), iv (x5 &&& (3 : Int32)), .unset]) rfl ?_
        show oS p e below T9 m 118 #[rv x1, rv x2, rv x3, iv (7 : Int32), iv x5, iv (1 : Int32), iv (0 : Int32), iv (1 : Int32), iv (x5 &&& (3 : Int32)), .unset] [] _
        refine XS.goto X9.here hx rfl (pc0 := 118) (pc' := 227) rfl (hb hby d5_118) (by decide) (by decide) ?_
        refine XS.iconst X9.here hx rfl (hb hby d5_227) ?_
        refine XS.istore X9.here hx rfl (hb hby d5_228) rfl (l' := #[rv x1, rv x2, rv x3, iv (7 : Int32), iv x5, iv (1 : Int32), iv (0 : Int32), iv (1 : Int32), iv (x5 &&& (3 : Int32)), iv (0 : Int32)]) rfl ?_
        refine XS.iload X9.here hx rfl (hb hby d5_230) rfl ?_
        show oS p e below T9 m 232 #[rv x1, rv x2, rv x3, iv (7 : Int32), iv x5, iv (1 : Int32), iv (0 : Int32), iv (1 : Int32), iv (x5 &&& (3 : Int32)), iv (0 : Int32)] [(.int (1 : Int32))] _
        refine XS.ifNo X9.here hx rfl (hb hby d5_232) rfl ((if0 _ _).trans (feq (by decide : ¬ ((1 : Int32) = (0 : Int32)))).1) ?_
        refine XS.iload X9.here hx rfl (hb hby d5_235) rfl ?_
        refine XS.iconst X9.here hx rfl (hb hby d5_237) ?_
        refine XS.ior X9.here hx rfl (hb hby d5_238) rfl ?_
        show oS p e below T9 m 239 #[rv x1, rv x2, rv x3, iv (7 : Int32), iv x5, iv (1 : Int32), iv (0 : Int32), iv (1 : Int32), iv (x5 &&& (3 : Int32)), iv (0 : Int32)] [(.int (1 : Int32))] _
        refine XS.istore X9.here hx rfl (hb hby d5_239) rfl (l' := #[rv x1, rv x2, rv x3, iv (7 : Int32), iv x5, iv (1 : Int32), iv (0 : Int32), iv (1 : Int32), iv (x5 &&& (3 : Int32)), iv (1 : Int32)]) rfl ?_
        refine XS.iload X9.here hx rfl (hb hby d5_241) rfl ?_
        refine XS.ifYes X9.here hx rfl (pc0 := 243) (pc' := 252) rfl (hb hby d5_243) rfl ((if0 _ _).trans (teq (by decide : ((0 : Int32) = (0 : Int32)))).1) (by decide) (by decide) ?_
        refine XS.iload X9.here hx rfl (hb hby d5_252) rfl ?_
        show oS p e below T9 m 254 #[rv x1, rv x2, rv x3, iv (7 : Int32), iv x5, iv (1 : Int32), iv (0 : Int32), iv (1 : Int32), iv (x5 &&& (3 : Int32)), iv (1 : Int32)] [(.int (1 : Int32))] _
        refine XS.ifNo X9.here hx rfl (hb hby d5_254) rfl ((if0 _ _).trans (feq (by decide : ¬ ((1 : Int32) = (0 : Int32)))).1) ?_
        refine XS.iload X9.here hx rfl (hb hby d5_257) rfl ?_
        refine XS.iconst X9.here hx rfl (hb hby d5_259) ?_
        refine XS.ior X9.here hx rfl (hb hby d5_260) rfl ?_
        show oS p e below T9 m 261 #[rv x1, rv x2, rv x3, iv (7 : Int32), iv x5, iv (1 : Int32), iv (0 : Int32), iv (1 : Int32), iv (x5 &&& (3 : Int32)), iv (1 : Int32)] [(.int (5 : Int32))] _
        refine XS.istore X9.here hx rfl (hb hby d5_261) rfl (l' := #[rv x1, rv x2, rv x3, iv (7 : Int32), iv x5, iv (1 : Int32), iv (0 : Int32), iv (1 : Int32), iv (x5 &&& (3 : Int32)), iv (5 : Int32)]) rfl ?_
        refine XS.iload X9.here hx rfl (hb hby d5_263) rfl ?_
        exact kt
      have KP11 : Keep h0 T9.heap [x1, x2, x3] := ((Keep.refl h0 [x1, x2, x3]).trans K9 (allS (Or.inl (List.mem_of_getElem? (i := 0) rfl)) (allS (Or.inl (List.mem_of_getElem? (i := 2) rfl)) (allS (Or.inl (List.mem_of_getElem? (i := 1) rfl)) all0))))
      have Ec12 : Exa Z T9.heap x1 oz1 := (E_x1.keep K9)
      have Ec13 : Exa Z T9.heap x2 oz0 := (E_x2.keep K9)
      have Ec14 : Exa Z T9.heap x3 oz0 := (E_x3.keep K9)
      obtain ⟨fs, hr, hrun, hended, hW, hsame⟩ := X9.leave (v := some (.int (5 : Int32))) (fun h => by rw [Bd.returns] at h; cases h)
      refine ⟨_, _, pre0 _ (pre1 _ (pre8 _ (pre10 _ ?_))), hrun, hended, _, _, rfl, ?_, ⟨_, rfl⟩, hW, hsame.mono (by decide) (by decide)⟩
      · show oS p e below T9 m 265 #[rv x1, rv x2, rv x3, iv (7 : Int32), iv x5, iv (1 : Int32), iv (0 : Int32), iv (1 : Int32), iv (x5 &&& (3 : Int32)), iv (5 : Int32)] [(.int (5 : Int32))] _
        exact retOut X9 hx Bd.returns rfl (Or.inl ⟨rfl, Or.inl rfl, _, rfl⟩) (hb hby d5_265) hr
      · show QS7 Z x1 x2 x3 x5 h0 n0 _ T9.heap _
        exact ⟨(5 : Int32), rfl, N9, KP11, (by decide), (Or.inr (Or.inl ⟨(Or.inr rfl), Ec12, Ec13, Ec14, pf9_0, pf9_1, pf9_5, pf9_6, pf9_7, pf9_2, pf9_3, pf9_4⟩))⟩
    · have pre15 : ∀ tz, oS p e below s₁ m 139 #[rv x1, rv x2, rv x3, iv (7 : Int32), iv x5, iv (1 : Int32), iv (1 : Int32), iv (1 : Int32), iv (x5 &&& (3 : Int32)), .unset] [(.int (2 : Int32)), (.int (x5 &&& (3 : Int32)))] tz → oS p e below s₁ m 97 #[rv x1, rv x2, rv x3, iv (7 : Int32), iv x5, iv (1 : Int32), iv (1 : Int32), iv (1 : Int32), iv (x5 &&& (3 : Int32)), .unset] [(.int (1 : Int32)), (.int (x5 &&& (3 : Int32)))] tz := fun tz kt => by
        show oS p e below s₁ m 97 #[rv x1, rv x2, rv x3, iv (7 : Int32), iv x5, iv (1 : Int32), iv (1 : Int32), iv (1 : Int32), iv (x5 &&& (3 : Int32)), .unset] [(.int (1 : Int32)), (.int (x5 &&& (3 : Int32)))] _
        refine XS.icmpYes X0.here hx rfl (pc0 := 97) (pc' := 136) rfl (hb hby d5_97) rfl (feq hc97).2 (by decide) (by decide) ?_
        refine XS.iload X0.here hx rfl (hb hby d5_136) rfl ?_
        refine XS.iconst X0.here hx rfl (hb hby d5_138) ?_
        exact kt
      by_cases hc139 : (x5 &&& (3 : Int32)) = (2 : Int32)
      · obtain ⟨cq16, kq16, q16a, q16b, q16c⟩ := isOf hZ e0 E_x1
        obtain ⟨_, _, ⟨T16, Lw16, kw16, nw16⟩, -, X16, ⟨Lc16, hQ16, l16, y16, z16⟩, st16⟩ := X0.virtualBack hx (y := (⟨oz1, "poll", oz8⟩ : MethodName)) (z := (⟨oz1, "poll", oz8⟩ : MethodName)) hown (mvT hZ (own_w hw 57 rfl)) (mvT hZ (own_w hw 58 rfl)) (notFace_of_selects (args := #[]) (mvT hZ (own_w hw 60 rfl))) (mvT hZ (own_w hw 60 rfl)) (mvT hZ (own_w hw 59 rfl)) (by decide) (backOf (W := 0) (rmP0t l Z a0 hw [] x1 (.ref x3) (.ref x1) (.ref x1) (.ref x2) .null x2 x3 h0 n0 Z0 E_x1 E_x2 E_x3 g_x1 g_x2 g_x3 ne_x2_x3 F_first_x1 F_last_x1 F_in_x2 F_before_x2 F_after_x2 F_in_x3 F_before_x3 F_after_x3) hZ (own_w hw 61 rfl) (own_w hw 2 rfl) (by decide) (by decide)) q16a q16c (g := (mkF m 143 #[rv x1, rv x2, rv x3, iv (7 : Int32), iv x5, iv (1 : Int32), iv (1 : Int32), iv (1 : Int32), iv (x5 &&& (3 : Int32)), .unset] [(.ref x1)])) rfl (by rw [hml]; rfl) (Steps.refl _) (argsL := []) (rest := []) (lenOf own_pd1 rfl) rfl (by show 2 * 0 + _ ≤ _; exact Nat.le_of_eq rfl) (hb hby d5_143) (fun _ _ => ⟨rfl, e0, (by decide : 0 + 0 ≤ _), (by decide : 0 + 0 ≤ _)⟩)
        dsimp only [Pt.U, Pt.locs, Pt.cells, Pt.slots] at X16 l16 y16 z16 st16 hQ16
        subst l16 y16 z16
        obtain ⟨rfl, Nq16, K16, pf16_0, pf16_1, pf16_2, pf16_3, pf16_4, pf16_5, pf16_6, pf16_7⟩ := hQ16
        have N16 := Fr.app N0 Nq16
        have pre17 : ∀ tz, oS p e below T16 m 265 #[rv x1, rv x2, rv x3, iv (7 : Int32), iv x5, iv (0 : Int32), iv (1 : Int32), iv (1 : Int32), iv (x5 &&& (3 : Int32)), iv (6 : Int32)] [(.int (6 : Int32))] tz → oS p e below s₁ m 139 #[rv x1, rv x2, rv x3, iv (7 : Int32), iv x5, iv (1 : Int32), iv (1 : Int32), iv (1 : Int32), iv (x5 &&& (3 : Int32)), .unset] [(.int (2 : Int32)), (.int (x5 &&& (3 : Int32)))] tz := fun tz kt => by
          show oS p e below s₁ m 139 #[rv x1, rv x2, rv x3, iv (7 : Int32), iv x5, iv (1 : Int32), iv (1 : Int32), iv (1 : Int32), iv (x5 &&& (3 : Int32)), .unset] [(.int (2 : Int32)), (.int (x5 &&& (3 : Int32)))] _
          refine XS.icmpNo X0.here hx rfl (hb hby d5_139) rfl (teq hc139).2 ?_
          refine XS.aloadN X0.here hx rfl (hb hby d5_142) rfl rfl ?_
          show oS p e below s₁ m 143 #[rv x1, rv x2, rv x3, iv (7 : Int32), iv x5, iv (1 : Int32), iv (1 : Int32), iv (1 : Int32), iv (x5 &&& (3 : Int32)), .unset] [(.ref x1)] _
          refine st16.trans ?_
          refine XS.astore X16.here hx rfl (hb hby d5_146) rfl rfl (l' := #[rv x1, rv x2, rv x3, iv (7 : Int32), iv x5, iv (1 : Int32), iv (1 : Int32), iv (1 : Int32), iv (x5 &&& (3 : Int32)), rv x2]) rfl ?_
          refine XS.iload X16.here hx rfl (hb hby d5_148) rfl ?_
          refine XS.ifYes X16.here hx rfl (pc0 := 150) (pc' := 165) rfl (hb hby d5_150) rfl ((if0 _ _).trans (feq (by decide : ¬ ((1 : Int32) = (0 : Int32)))).2) (by decide) (by decide) ?_
          show oS p e below T16 m 165 #[rv x1, rv x2, rv x3, iv (7 : Int32), iv x5, iv (1 : Int32), iv (1 : Int32), iv (1 : Int32), iv (x5 &&& (3 : Int32)), rv x2] [] _
          refine XS.iload X16.here hx rfl (hb hby d5_165) rfl ?_
          refine XS.ifNo X16.here hx rfl (hb hby d5_167) rfl ((if0 _ _).trans (feq (by decide : ¬ ((1 : Int32) = (0 : Int32)))).1) ?_
          refine XS.iload X16.here hx rfl (hb hby d5_170) rfl ?_
          refine XS.ifNo X16.here hx rfl (hb hby d5_172) rfl ((if0 _ _).trans (feq (by decide : ¬ ((1 : Int32) = (0 : Int32)))).1) ?_
          show oS p e below T16 m 175 #[rv x1, rv x2, rv x3, iv (7 : Int32), iv x5, iv (1 : Int32), iv (1 : Int32), iv (1 : Int32), iv (x5 &&& (3 : Int32)), rv x2] [] _
          refine XS.iload X16.here hx rfl (hb hby d5_175) rfl ?_
          refine XS.ifNo X16.here hx rfl (hb hby d5_177) rfl ((if0 _ _).trans (feq (by decide : ¬ ((1 : Int32) = (0 : Int32)))).1) ?_
          refine XS.aload X16.here hx rfl (hb hby d5_180) rfl rfl ?_
          refine XS.aloadN X16.here hx rfl (hb hby d5_182) rfl rfl ?_
          show oS p e below T16 m 183 #[rv x1, rv x2, rv x3, iv (7 : Int32), iv x5, iv (1 : Int32), iv (1 : Int32), iv (1 : Int32), iv (x5 &&& (3 : Int32)), rv x2] [(.ref x2), (.ref x2)] _
          refine Jvm.RoadKit.acmp (g := (mkF m 183 #[rv x1, rv x2, rv x3, iv (7 : Int32), iv x5, iv (1 : Int32), iv (1 : Int32), iv (1 : Int32), iv (x5 &&& (3 : Int32)), rv x2] [(.ref x2), (.ref x2)])) X16 hx rfl rfl rfl (pc0 := 183) (pc' := 188) (same := true) rfl (hb hby d5_183) rfl (decide_eq_true rfl) (by decide) (by decide) ?_
          refine XS.iconst X16.here hx rfl (hb hby d5_188) ?_
          refine XS.istore X16.here hx rfl (hb hby d5_189) rfl (l' := #[rv x1, rv x2, rv x3, iv (7 : Int32), iv x5, iv (0 : Int32), iv (1 : Int32), iv (1 : Int32), iv (x5 &&& (3 : Int32)), rv x2]) rfl ?_
          refine XS.goto X16.here hx rfl (pc0 := 191) (pc' := 205) rfl (hb hby d5_191) (by decide) (by decide) ?_
          show oS p e below T16 m 205 #[rv x1, rv x2, rv x3, iv (7 : Int32), iv x5, iv (0 : Int32), iv (1 : Int32), iv (1 : Int32), iv (x5 &&& (3 : Int32)), rv x2] [] _
          refine XS.goto X16.here hx rfl (pc0 := 205) (pc' := 227) rfl (hb hby d5_205) (by decide) (by decide) ?_
          refine XS.iconst X16.here hx rfl (hb hby d5_227) ?_
          refine XS.istore X16.here hx rfl (hb hby d5_228) rfl (l' := #[rv x1, rv x2, rv x3, iv (7 : Int32), iv x5, iv (0 : Int32), iv (1 : Int32), iv (1 : Int32), iv (x5 &&& (3 : Int32)), iv (0 : Int32)]) rfl ?_
          refine XS.iload X16.here hx rfl (hb hby d5_230) rfl ?_
          show oS p e below T16 m 232 #[rv x1, rv x2, rv x3, iv (7 : Int32), iv x5, iv (0 : Int32), iv (1 : Int32), iv (1 : Int32), iv (x5 &&& (3 : Int32)), iv (0 : Int32)] [(.int (0 : Int32))] _
          refine XS.ifYes X16.here hx rfl (pc0 := 232) (pc' := 241) rfl (hb hby d5_232) rfl ((if0 _ _).trans (teq (by decide : ((0 : Int32) = (0 : Int32)))).1) (by decide) (by decide) ?_
          refine XS.iload X16.here hx rfl (hb hby d5_241) rfl ?_
          refine XS.ifNo X16.here hx rfl (hb hby d5_243) rfl ((if0 _ _).trans (feq (by decide : ¬ ((1 : Int32) = (0 : Int32)))).1) ?_
          refine XS.iload X16.here hx rfl (hb hby d5_246) rfl ?_
          show oS p e below T16 m 248 #[rv x1, rv x2, rv x3, iv (7 : Int32), iv x5, iv (0 : Int32), iv (1 : Int32), iv (1 : Int32), iv (x5 &&& (3 : Int32)), iv (0 : Int32)] [(.int (0 : Int32))] _
          refine XS.iconst X16.here hx rfl (hb hby d5_248) ?_
          refine XS.ior X16.here hx rfl (hb hby d5_249) rfl ?_
          show oS p e below T16 m 250 #[rv x1, rv x2, rv x3, iv (7 : Int32), iv x5, iv (0 : Int32), iv (1 : Int32), iv (1 : Int32), iv (x5 &&& (3 : Int32)), iv (0 : Int32)] [(.int (2 : Int32))] _
          refine XS.istore X16.here hx rfl (hb hby d5_250) rfl (l' := #[rv x1, rv x2, rv x3, iv (7 : Int32), iv x5, iv (0 : Int32), iv (1 : Int32), iv (1 : Int32), iv (x5 &&& (3 : Int32)), iv (2 : Int32)]) rfl ?_
          refine XS.iload X16.here hx rfl (hb hby d5_252) rfl ?_
          refine XS.ifNo X16.here hx rfl (hb hby d5_254) rfl ((if0 _ _).trans (feq (by decide : ¬ ((1 : Int32) = (0 : Int32)))).1) ?_
          refine XS.iload X16.here hx rfl (hb hby d5_257) rfl ?_
          show oS p e below T16 m 259 #[rv x1, rv x2, rv x3, iv (7 : Int32), iv x5, iv (0 : Int32), iv (1 : Int32), iv (1 : Int32), iv (x5 &&& (3 : Int32)), iv (2 : Int32)] [(.int (2 : Int32))] _
          refine XS.iconst X16.here hx rfl (hb hby d5_259) ?_
          refine XS.ior X16.here hx rfl (hb hby d5_260) rfl ?_
          show oS p e below T16 m 261 #[rv x1, rv x2, rv x3, iv (7 : Int32), iv x5, iv (0 : Int32), iv (1 : Int32), iv (1 : Int32), iv (x5 &&& (3 : Int32)), iv (2 : Int32)] [(.int (6 : Int32))] _
          refine XS.istore X16.here hx rfl (hb hby d5_261) rfl (l' := #[rv x1, rv x2, rv x3, iv (7 : Int32), iv x5, iv (0 : Int32), iv (1 : Int32), iv (1 : Int32), iv (x5 &&& (3 : Int32)), iv (6 : Int32)]) rfl ?_
          refine XS.iload X16.here hx rfl (hb hby d5_263) rfl ?_
          exact kt
        have KP18 : Keep h0 T16.heap [x1, x2, x3] := ((Keep.refl h0 [x1, x2, x3]).trans K16 (allS (Or.inl (List.mem_of_getElem? (i := 0) rfl)) (allS (Or.inl (List.mem_of_getElem? (i := 1) rfl)) (allS (Or.inl (List.mem_of_getElem? (i := 2) rfl)) all0))))
        have Ec19 : Exa Z T16.heap x1 oz1 := (E_x1.keep K16)
        have Ec20 : Exa Z T16.heap x2 oz0 := (E_x2.keep K16)
        have Ec21 : Exa Z T16.heap x3 oz0 := (E_x3.keep K16)
        obtain ⟨fs, hr, hrun, hended, hW, hsame⟩ := X16.leave (v := some (.int (6 : Int32))) (fun h => by rw [Bd.returns] at h; cases h)
        refine ⟨_, _, pre0 _ (pre1 _ (pre8 _ (pre15 _ (pre17 _ ?_)))), hrun, hended, _, _, rfl, ?_, ⟨_, rfl⟩, hW, hsame.mono (by decide) (by decide)⟩
        · show oS p e below T16 m 265 #[rv x1, rv x2, rv x3, iv (7 : Int32), iv x5, iv (0 : Int32), iv (1 : Int32), iv (1 : Int32), iv (x5 &&& (3 : Int32)), iv (6 : Int32)] [(.int (6 : Int32))] _
          exact retOut X16 hx Bd.returns rfl (Or.inl ⟨rfl, Or.inl rfl, _, rfl⟩) (hb hby d5_265) hr
        · show QS7 Z x1 x2 x3 x5 h0 n0 _ T16.heap _
          exact ⟨(6 : Int32), rfl, N16, KP18, (by decide), (Or.inr (Or.inr (Or.inl ⟨(Or.inr rfl), Ec19, Ec20, Ec21, pf16_0, pf16_1, pf16_2, pf16_3, pf16_4, pf16_5, pf16_6, pf16_7⟩)))⟩
      · obtain ⟨cq22, kq22, q22a, q22b, q22c⟩ := isOf hZ e0 E_x1
        obtain ⟨_, _, ⟨T22, Lw22, kw22, nw22⟩, -, X22, ⟨Lc22, hQ22, l22, y22, z22⟩, st22⟩ := X0.virtualBack hx (y := (⟨oz1, "remove", oz5⟩ : MethodName)) (z := (⟨oz1, "remove", oz5⟩ : MethodName)) hown (mvT hZ (own_w hw 46 rfl)) (mvT hZ (own_w hw 47 rfl)) (notFace_of_selects (args := #[]) (mvT hZ (own_w hw 49 rfl))) (mvT hZ (own_w hw 49 rfl)) (mvT hZ (own_w hw 48 rfl)) (by decide) (backOf (W := 0) (rmR0t l Z a0 hw [] x1 x2 (.ref x2) (.ref x3) (.ref x1) (.ref x2) .null x3 h0 n0 Z0 E_x1 E_x2 E_x3 g_x1 g_x2 g_x3 ne_x2_x3 F_first_x1 F_last_x1 F_in_x2 F_before_x2 F_after_x2 F_in_x3 F_before_x3 F_after_x3) hZ (own_w hw 50 rfl) (own_w hw 2 rfl) (by decide) (by decide)) q22a q22c (g := (mkF m 210 #[rv x1, rv x2, rv x3, iv (7 : Int32), iv x5, iv (1 : Int32), iv (1 : Int32), iv (1 : Int32), iv (x5 &&& (3 : Int32)), .unset] [(.ref x2), (.ref x1)])) rfl (by rw [hml]; rfl) (Steps.refl _) (argsL := [(.ref x2)]) (rest := []) (lenOf own_pd2 rfl) rfl (by show 2 * 0 + _ ≤ _; exact Nat.le_of_eq rfl) (hb hby d5_210) (fun _ _ => ⟨rfl, e0, (by decide : 0 + 0 ≤ _), (by decide : 0 + 0 ≤ _)⟩)
        dsimp only [Pt.U, Pt.locs, Pt.cells, Pt.slots] at X22 l22 y22 z22 st22 hQ22
        subst l22 y22 z22
        obtain ⟨rfl, Nq22, K22, pf22_0, pf22_1, pf22_2, pf22_3, pf22_4, pf22_5, pf22_6, pf22_7⟩ := hQ22
        have N22 := Fr.app N0 Nq22
        have pre23 : ∀ tz, oS p e below T22 m 265 #[rv x1, rv x2, rv x3, iv (7 : Int32), iv x5, iv (0 : Int32), iv (1 : Int32), iv (1 : Int32), iv (x5 &&& (3 : Int32)), iv (6 : Int32)] [(.int (6 : Int32))] tz → oS p e below s₁ m 139 #[rv x1, rv x2, rv x3, iv (7 : Int32), iv x5, iv (1 : Int32), iv (1 : Int32), iv (1 : Int32), iv (x5 &&& (3 : Int32)), .unset] [(.int (2 : Int32)), (.int (x5 &&& (3 : Int32)))] tz := fun tz kt => by
          show oS p e below s₁ m 139 #[rv x1, rv x2, rv x3, iv (7 : Int32), iv x5, iv (1 : Int32), iv (1 : Int32), iv (1 : Int32), iv (x5 &&& (3 : Int32)), .unset] [(.int (2 : Int32)), (.int (x5 &&& (3 : Int32)))] _
          refine XS.icmpYes X0.here hx rfl (pc0 := 139) (pc' := 208) rfl (hb hby d5_139) rfl (feq hc139).2 (by decide) (by decide) ?_
          refine XS.aloadN X0.here hx rfl (hb hby d5_208) rfl rfl ?_
          refine XS.aloadN X0.here hx rfl (hb hby d5_209) rfl rfl ?_
          show oS p e below s₁ m 210 #[rv x1, rv x2, rv x3, iv (7 : Int32), iv x5, iv (1 : Int32), iv (1 : Int32), iv (1 : Int32), iv (x5 &&& (3 : Int32)), .unset] [(.ref x2), (.ref x1)] _
          refine st22.trans ?_
          refine XS.istore X22.here hx rfl (hb hby d5_213) rfl (l' := #[rv x1, rv x2, rv x3, iv (7 : Int32), iv x5, iv (1 : Int32), iv (1 : Int32), iv (1 : Int32), iv (x5 &&& (3 : Int32)), iv (1 : Int32)]) rfl ?_
          refine XS.iload X22.here hx rfl (hb hby d5_215) rfl ?_
          refine XS.iload X22.here hx rfl (hb hby d5_217) rfl ?_
          show oS p e below T22 m 219 #[rv x1, rv x2, rv x3, iv (7 : Int32), iv x5, iv (1 : Int32), iv (1 : Int32), iv (1 : Int32), iv (x5 &&& (3 : Int32)), iv (1 : Int32)] [(.int (1 : Int32)), (.int (1 : Int32))] _
          refine XS.icmpYes X22.here hx rfl (pc0 := 219) (pc' := 224) rfl (hb hby d5_219) rfl (teq (by decide : ((1 : Int32) = (1 : Int32)))).1 (by decide) (by decide) ?_
          refine XS.iconst X22.here hx rfl (hb hby d5_224) ?_
          refine XS.istore X22.here hx rfl (hb hby d5_225) rfl (l' := #[rv x1, rv x2, rv x3, iv (7 : Int32), iv x5, iv (0 : Int32), iv (1 : Int32), iv (1 : Int32), iv (x5 &&& (3 : Int32)), iv (1 : Int32)]) rfl ?_
          refine XS.iconst X22.here hx rfl (hb hby d5_227) ?_
          show oS p e below T22 m 228 #[rv x1, rv x2, rv x3, iv (7 : Int32), iv x5, iv (0 : Int32), iv (1 : Int32), iv (1 : Int32), iv (x5 &&& (3 : Int32)), iv (1 : Int32)] [(.int (0 : Int32))] _
          refine XS.istore X22.here hx rfl (hb hby d5_228) rfl (l' := #[rv x1, rv x2, rv x3, iv (7 : Int32), iv x5, iv (0 : Int32), iv (1 : Int32), iv (1 : Int32), iv (x5 &&& (3 : Int32)), iv (0 : Int32)]) rfl ?_
          refine XS.iload X22.here hx rfl (hb hby d5_230) rfl ?_
          refine XS.ifYes X22.here hx rfl (pc0 := 232) (pc' := 241) rfl (hb hby d5_232) rfl ((if0 _ _).trans (teq (by decide : ((0 : Int32) = (0 : Int32)))).1) (by decide) (by decide) ?_
          refine XS.iload X22.here hx rfl (hb hby d5_241) rfl ?_
          show oS p e below T22 m 243 #[rv x1, rv x2, rv x3, iv (7 : Int32), iv x5, iv (0 : Int32), iv (1 : Int32), iv (1 : Int32), iv (x5 &&& (3 : Int32)), iv (0 : Int32)] [(.int (1 : Int32))] _
          refine XS.ifNo X22.here hx rfl (hb hby d5_243) rfl ((if0 _ _).trans (feq (by decide : ¬ ((1 : Int32) = (0 : Int32)))).1) ?_
          refine XS.iload X22.here hx rfl (hb hby d5_246) rfl ?_
          refine XS.iconst X22.here hx rfl (hb hby d5_248) ?_
          refine XS.ior X22.here hx rfl (hb hby d5_249) rfl ?_
          show oS p e below T22 m 250 #[rv x1, rv x2, rv x3, iv (7 : Int32), iv x5, iv (0 : Int32), iv (1 : Int32), iv (1 : Int32), iv (x5 &&& (3 : Int32)), iv (0 : Int32)] [(.int (2 : Int32))] _
          refine XS.istore X22.here hx rfl (hb hby d5_250) rfl (l' := #[rv x1, rv x2, rv x3, iv (7 : Int32), iv x5, iv (0 : Int32), iv (1 : Int32), iv (1 : Int32), iv (x5 &&& (3 : Int32)), iv (2 : Int32)]) rfl ?_
          refine XS.iload X22.here hx rfl (hb hby d5_252) rfl ?_
          refine XS.ifNo X22.here hx rfl (hb hby d5_254) rfl ((if0 _ _).trans (feq (by decide : ¬ ((1 : Int32) = (0 : Int32)))).1) ?_
          refine XS.iload X22.here hx rfl (hb hby d5_257) rfl ?_
          show oS p e below T22 m 259 #[rv x1, rv x2, rv x3, iv (7 : Int32), iv x5, iv (0 : Int32), iv (1 : Int32), iv (1 : Int32), iv (x5 &&& (3 : Int32)), iv (2 : Int32)] [(.int (2 : Int32))] _
          refine XS.iconst X22.here hx rfl (hb hby d5_259) ?_
          refine XS.ior X22.here hx rfl (hb hby d5_260) rfl ?_
          show oS p e below T22 m 261 #[rv x1, rv x2, rv x3, iv (7 : Int32), iv x5, iv (0 : Int32), iv (1 : Int32), iv (1 : Int32), iv (x5 &&& (3 : Int32)), iv (2 : Int32)] [(.int (6 : Int32))] _
          refine XS.istore X22.here hx rfl (hb hby d5_261) rfl (l' := #[rv x1, rv x2, rv x3, iv (7 : Int32), iv x5, iv (0 : Int32), iv (1 : Int32), iv (1 : Int32), iv (x5 &&& (3 : Int32)), iv (6 : Int32)]) rfl ?_
          refine XS.iload X22.here hx rfl (hb hby d5_263) rfl ?_
          exact kt
        have KP24 : Keep h0 T22.heap [x1, x2, x3] := ((Keep.refl h0 [x1, x2, x3]).trans K22 (allS (Or.inl (List.mem_of_getElem? (i := 0) rfl)) (allS (Or.inl (List.mem_of_getElem? (i := 1) rfl)) (allS (Or.inl (List.mem_of_getElem? (i := 2) rfl)) all0))))
        have Ec25 : Exa Z T22.heap x1 oz1 := (E_x1.keep K22)
        have Ec26 : Exa Z T22.heap x2 oz0 := (E_x2.keep K22)
        have Ec27 : Exa Z T22.heap x3 oz0 := (E_x3.keep K22)
        obtain ⟨fs, hr, hrun, hended, hW, hsame⟩ := X22.leave (v := some (.int (6 : Int32))) (fun h => by rw [Bd.returns] at h; cases h)
        refine ⟨_, _, pre0 _ (pre1 _ (pre8 _ (pre15 _ (pre23 _ ?_)))), hrun, hended, _, _, rfl, ?_, ⟨_, rfl⟩, hW, hsame.mono (by decide) (by decide)⟩
        · show oS p e below T22 m 265 #[rv x1, rv x2, rv x3, iv (7 : Int32), iv x5, iv (0 : Int32), iv (1 : Int32), iv (1 : Int32), iv (x5 &&& (3 : Int32)), iv (6 : Int32)] [(.int (6 : Int32))] _
          exact retOut X22 hx Bd.returns rfl (Or.inl ⟨rfl, Or.inl rfl, _, rfl⟩) (hb hby d5_265) hr
        · show QS7 Z x1 x2 x3 x5 h0 n0 _ T22.heap _
          exact ⟨(6 : Int32), rfl, N22, KP24, (by decide), (Or.inr (Or.inr (Or.inl ⟨(Or.inr rfl), Ec25, Ec26, Ec27, pf22_0, pf22_1, pf22_2, pf22_3, pf22_4, pf22_5, pf22_6, pf22_7⟩)))⟩
def QS (Z : State) (x1 x2 x3 : Addr) (x4 x5 : Int32) (h0 : Heap) (n0 : Nat) (v : Option Value) (h : Heap) (L : List Loc) : Prop := ∃ (s : Int32), v = some (.int s) ∧ Fr n0 L ∧ Keep h0 h [x1, x2, x3] ∧ (¬ s < (0 : Int32)) ∧ (own_Sh Z h x1 x2 x3 s)
theorem rmS (l : Launch) (Z : State) (a0 : Array Value) (hw : ∀ d ∈ tables_1, d.before a0 Z = true) (ws : List Jvm.Cond) (x1 x2 x3 : Addr) (x4 x5 : Int32) (h0 : Heap) (n0 : Nat) (Z0 : n0 ≤ h0.size) (g_x1 : n0 ≤ x1) (g_x2 : n0 ≤ x2) (g_x3 : n0 ≤ x3) (ne_x2_x3 : x2 ≠ x3) (hS : own_Sh Z h0 x1 x2 x3 x4) :
    MetFree l (⟨oz6, "step", oz4⟩ : MethodName) (head1 (Jvm.Cond.code (⟨oz6, "step", oz4⟩ : MethodName) method_3_code 10 (some .int) :: ws) ({ frames := 2, cells := 0, slots := 0, locals := 44 } : Room)) (fun a U => a = #[(.ref x1), (.ref x2), (.ref x3), (.int x4), (.int x5)] ∧ Z.Warmed39 U.vm ∧ U.heap = h0) (fun _ _ _ _ _ => True) (fun _ U o U' => ∃ v L, o = .returned v ∧ QS Z x1 x2 x3 x4 x5 h0 n0 v U'.heap L ∧ FrameEnd U o U' L ({ frames := 2, cells := 0, slots := 0, locals := 44 } : Room).cells ({ frames := 2, cells := 0, slots := 0, locals := 44 } : Room).slots) := by
  rcases hS with ⟨hs, E1, E2, E3, F1, F2, F3, F4, F5, F6, F7, F8⟩ | ⟨hs, E1, E2, E3, F1, F2, F3, F4, F5, F6, F7, F8⟩ | ⟨hs, E1, E2, E3, F1, F2, F3, F4, F5, F6, F7, F8⟩ | ⟨rfl, E1, E2, E3, F1, F2, F3, F4, F5, F6, F7, F8⟩ | ⟨rfl, E1, E2, E3, F1, F2, F3, F4, F5, F6, F7, F8⟩
  · rcases hs with rfl | rfl
    · exact rmS0 l Z a0 hw ws x1 x2 x3 x5 h0 n0 Z0 E1 E2 E3 g_x1 g_x2 g_x3 ne_x2_x3 F1 F2 F3 F4 F5 F6 F7 F8
    · exact rmS4 l Z a0 hw ws x1 x2 x3 x5 h0 n0 Z0 E1 E2 E3 g_x1 g_x2 g_x3 ne_x2_x3 F1 F2 F3 F4 F5 F6 F7 F8
  · rcases hs with rfl | rfl
    · exact rmS1 l Z a0 hw ws x1 x2 x3 x5 h0 n0 Z0 E1 E2 E3 g_x1 g_x2 g_x3 ne_x2_x3 F1 F2 F3 F4 F5 F6 F7 F8
    · exact rmS5 l Z a0 hw ws x1 x2 x3 x5 h0 n0 Z0 E1 E2 E3 g_x1 g_x2 g_x3 ne_x2_x3 F1 F2 F3 F4 F5 F6 F7 F8
  · rcases hs with rfl | rfl
    · exact rmS2 l Z a0 hw ws x1 x2 x3 x5 h0 n0 Z0 E1 E2 E3 g_x1 g_x2 g_x3 ne_x2_x3 F1 F2 F3 F4 F5 F6 F7 F8
    · exact rmS6 l Z a0 hw ws x1 x2 x3 x5 h0 n0 Z0 E1 E2 E3 g_x1 g_x2 g_x3 ne_x2_x3 F1 F2 F3 F4 F5 F6 F7 F8
  · exact rmS3 l Z a0 hw ws x1 x2 x3 x5 h0 n0 Z0 E1 E2 E3 g_x1 g_x2 g_x3 ne_x2_x3 F1 F2 F3 F4 F5 F6 F7 F8
  · exact rmS7 l Z a0 hw ws x1 x2 x3 x5 h0 n0 Z0 E1 E2 E3 g_x1 g_x2 g_x3 ne_x2_x3 F1 F2 F3 F4 F5 F6 F7 F8
def QE (Z : State) (o p q : Addr) (s : Int32) (h0 : Heap) (n0 : Nat) (v : Option Value) (h : Heap) (L : List Loc) : Prop := v = some (.int (if (s &&& (3 : Int32)) = (0 : Int32) then (1 : Int32) else (0 : Int32))) ∧ Fr n0 L ∧ h = h0
theorem rmE (l : Launch) (Z : State) (a0 : Array Value) (hw : ∀ d ∈ tables_1, d.before a0 Z = true) (ws : List Jvm.Cond) (o p q : Addr) (s : Int32) (h0 : Heap) (n0 : Nat) (Z0 : n0 ≤ h0.size) (hS : own_Sh Z h0 o p q s) :
    MetFree l (⟨oz1, "isEmpty", "()Z"⟩ : MethodName) (head1 (Jvm.Cond.code (⟨oz1, "isEmpty", "()Z"⟩ : MethodName) prog_10_method_2_code 1 (some .boolean) :: ws) ({ frames := 0, cells := 0, slots := 0, locals := 0 } : Room)) (fun a U => a = #[(.ref o)] ∧ Z.Warmed39 U.vm ∧ U.heap = h0) (fun _ _ _ _ _ => True) (fun _ U o' U' => ∃ v L, o' = .returned v ∧ QE Z o p q s h0 n0 v U'.heap L ∧ FrameEnd U o' U' L ({ frames := 0, cells := 0, slots := 0, locals := 0 } : Room).cells ({ frames := 0, cells := 0, slots := 0, locals := 0 } : Room).slots) := by
  unfold QE
  rcases hS with ⟨hs, E1, E2, E3, F1, F2, F3, F4, F5, F6, F7, F8⟩ | ⟨hs, E1, E2, E3, F1, F2, F3, F4, F5, F6, F7, F8⟩ | ⟨hs, E1, E2, E3, F1, F2, F3, F4, F5, F6, F7, F8⟩ | ⟨hs, E1, E2, E3, F1, F2, F3, F4, F5, F6, F7, F8⟩ | ⟨hs, E1, E2, E3, F1, F2, F3, F4, F5, F6, F7, F8⟩
  · have hv : (if (s &&& (3 : Int32)) = (0 : Int32) then (1 : Int32) else (0 : Int32)) = (1 : Int32) := by rcases hs with rfl | rfl <;> decide
    rw [hv]
    exact rmE0 l Z a0 hw ws o h0 n0 Z0 E1 F1
  · have hv : (if (s &&& (3 : Int32)) = (0 : Int32) then (1 : Int32) else (0 : Int32)) = (0 : Int32) := by rcases hs with rfl | rfl <;> decide
    rw [hv]
    exact rmE1 l Z a0 hw ws o _ h0 n0 Z0 E1 F1
  · have hv : (if (s &&& (3 : Int32)) = (0 : Int32) then (1 : Int32) else (0 : Int32)) = (0 : Int32) := by rcases hs with rfl | rfl <;> decide
    rw [hv]
    exact rmE1 l Z a0 hw ws o _ h0 n0 Z0 E1 F1
  · have hv : (if (s &&& (3 : Int32)) = (0 : Int32) then (1 : Int32) else (0 : Int32)) = (0 : Int32) := by subst hs; decide
    rw [hv]
    exact rmE1 l Z a0 hw ws o _ h0 n0 Z0 E1 F1
  · have hv : (if (s &&& (3 : Int32)) = (0 : Int32) then (1 : Int32) else (0 : Int32)) = (0 : Int32) := by subst hs; decide
    rw [hv]
    exact rmE1 l Z a0 hw ws o _ h0 n0 Z0 E1 F1
theorem own_pd3 : parseMethodDescriptor "()V" = some ⟨[], none⟩ := by decide +kernel
theorem own_pd4 : parseMethodDescriptor "(Lcom/example/ordered_scheduler/orderedscheduler/sequencing/Sequencer;Ljava/lang/Object;Ljava/lang/Runnable;Lcom/example/ordered_scheduler/orderedscheduler/sequencing/Tally;)V" = some ⟨[(.object "com/example/ordered_scheduler/orderedscheduler/sequencing/Sequencer"), (.object "java/lang/Object"), (.object "java/lang/Runnable"), (.object "com/example/ordered_scheduler/orderedscheduler/sequencing/Tally")], none⟩ := by decide +kernel
theorem own_pd5 : parseMethodDescriptor "()Z" = some ⟨[], some .boolean⟩ := by decide +kernel
theorem own_pd6 : parseMethodDescriptor "(Lcom/example/ordered_scheduler/orderedscheduler/sequencing/Backlog;Lcom/example/ordered_scheduler/orderedscheduler/sequencing/Place;Lcom/example/ordered_scheduler/orderedscheduler/sequencing/Place;II)I" = some ⟨[(.object "com/example/ordered_scheduler/orderedscheduler/sequencing/Backlog"), (.object "com/example/ordered_scheduler/orderedscheduler/sequencing/Place"), (.object "com/example/ordered_scheduler/orderedscheduler/sequencing/Place"), .int, .int], some .int⟩ := by decide +kernel
theorem ef0 (m : MethodId) (x1 : Int32) (x2 : Int32) (x3 : Int32) : entryFrame m #[(.int x1), (.int x2), (.int x3)] maxLocals = mkF m 0 #[iv x1, iv x2, iv x3, .unset, .unset, .unset, .unset] [] := by first | (simp [entryFrame, mkF, argsToLocals, Value.category, maxLocals]; done) | rfl
def Q0 (Z : State) (x1 : Int32) (x2 : Int32) (x3 : Int32) (h0 : Heap) (n0 : Nat) (v : Option Value) (h : Heap) (L : List Loc) : Prop := v = some (.int (1 : Int32)) ∧ Fr n0 L
set_option maxRecDepth 65536 in
set_option maxHeartbeats 40000000 in
theorem rm0 (l : Launch) (Z : State) (a0 : Array Value) (hw : ∀ d ∈ tables_1, d.before a0 Z = true) (ws : List Jvm.Cond) (x1 : Int32) (x2 : Int32) (x3 : Int32) (h0 : Heap) (n0 : Nat) (Z0 : n0 ≤ h0.size) :
    MetFree l x (head1 (Jvm.Cond.code x code maxLocals ret :: ws) room_1) (fun a U => a = #[(.int x1), (.int x2), (.int x3)] ∧ Z.Warmed39 U.vm ∧ U.heap = h0) (fun _ _ _ _ _ => True) (fun _ U oc U' => ∃ v L, oc = .returned v ∧ Q0 Z x1 x2 x3 h0 n0 v U'.heap L ∧ FrameEnd U oc U' L room_1.cells room_1.slots) := by
  refine MetFree.of_bodySF (plainFor_of_name own_pn2) hisR ?_
  intro p e s m args below meth c s₁ Bd hml0 hP hK
  obtain ⟨rfl, hZ, hh⟩ := hP
  have hx := Bd.exec
  have hby := Bd.bytes
  have hml : c.maxLocals = 7 := hml0
  have hown : s.vm.findClass oz6 = some m.cls := findClass_of_methodNamed Bd.named
  have hnm := (name_of_methodNamed Bd.named Bd.method).1
  have X0 : Stand p l e room_1 s m #[(.int x1), (.int x2), (.int x3)] below meth c s₁ [] 0 0 := Stand.of_body Bd
  have e0 : s₁.heap = h0 := by rw [← hh, Bd.state]; rfl
  have N0 := Fr.nil n0
  have pre0 : ∀ t, Steps p.tables e below (s₁.setTop (mkF m 0 #[iv x1, iv x2, iv x3, .unset, .unset, .unset, .unset] [])) t → Steps p.tables e below (s₁.setTop (entryFrame m #[(.int x1), (.int x2), (.int x3)] maxLocals)) t := fun t k => castTop (ef0 m x1 x2 x3) k
  obtain ⟨T1, h1, X1, e1, E1, A1, D1, -, st1⟩ := newO X0 hx hZ hown (own_w hw 0 rfl) (own_w hw 1 rfl) (own_w hw 2 rfl) e0 (g := (mkF m 0 #[iv x1, iv x2, iv x3, .unset, .unset, .unset, .unset] [])) rfl (hb hby at_0) (by decide) (by decide)
  obtain ⟨b1, g1⟩ : ∃ z, z = h0.size := ⟨_, rfl⟩
  rw [← g1] at A1 D1 st1
  have g_b1 : n0 ≤ b1 := Nat.le_trans Z0 (Nat.le_of_eq g1.symm)
  have F_first_b1 : Fld Z h1 b1 oz1 "first" oz2 .null := D1 (Or.inl (own_w hw 30 rfl)) (ty := (.object oz0)) (by decide)
  have F_last_b1 : Fld Z h1 b1 oz1 "last" oz2 .null := D1 (Or.inl (own_w hw 43 rfl)) (ty := (.object oz0)) (by decide)
  have Zc3 : n0 ≤ h1.size := (Nat.le_trans Z0 E1.1)
  obtain ⟨_, _, ⟨T2, Lw2, kw2, nw2⟩, -, X2, ⟨Lc2, hQ2, l2, y2, z2⟩, st2⟩ := X1.specialBack hx (y := (⟨oz1, "<init>", "()V"⟩ : MethodName)) rfl hown (mvT hZ (own_w hw 3 rfl)) (mvT hZ (own_w hw 4 rfl)) (mvT hZ (own_w hw 5 rfl)) (by decide) (backOf (W := 1) (rm1 l Z a0 hw [] b1 h1 n0 Zc3 ) hZ (own_w hw 5 rfl) (own_w hw 2 rfl) (by decide) (by decide)) (g := (mkF m 4 #[iv x1, iv x2, iv x3, .unset, .unset, .unset, .unset] [(.ref b1), (.ref b1)])) rfl (by rw [hml]; rfl) (Steps.refl _) (a := b1) (argsL := []) (rest := [(.ref b1)]) (lenOf own_pd3 rfl) rfl (by show 2 * 0 + _ ≤ _; exact Nat.le_of_eq rfl) (hb hby at_4) (fun _ _ => ⟨rfl, e1, (by decide : 1 + 0 ≤ _), (by decide : 2 + 0 ≤ _)⟩)
  dsimp only [Pt.U, Pt.locs, Pt.cells, Pt.slots] at X2 l2 y2 z2 st2 hQ2
  subst l2 y2 z2
  obtain ⟨rfl, Nq2, eh2⟩ := hQ2
  have N2 := Fr.app N0 Nq2
  obtain ⟨T4, h4, X4, e4, E4, A4, D4, -, st4⟩ := newO X2 hx hZ hown (own_w hw 9 rfl) (own_w hw 10 rfl) (own_w hw 11 rfl) eh2 (g := (mkF m 8 #[iv x1, iv x2, iv x3, rv b1, .unset, .unset, .unset] [])) rfl (hb hby at_8) (by decide) (by decide)
  obtain ⟨b4, g4⟩ : ∃ z, z = h1.size := ⟨_, rfl⟩
  rw [← g4] at A4 D4 st4
  have g_b4 : n0 ≤ b4 := Nat.le_trans Zc3 (Nat.le_of_eq g4.symm)
  have ne_b1_b4 : b1 ≠ b4 := Nat.ne_of_lt (Nat.lt_of_lt_of_le A1.lt (Nat.le_of_eq g4.symm))
  have F_sequencer_b4 : Fld Z h4 b4 oz0 "sequencer" "Lcom/example/ordered_scheduler/orderedscheduler/sequencing/Sequencer;" .null := D4 (Or.inr (own_w hw 17 rfl)) (ty := (.object "com/example/ordered_scheduler/orderedscheduler/sequencing/Sequencer")) (by decide)
  have F_key_b4 : Fld Z h4 b4 oz0 "key" "Ljava/lang/Object;" .null := D4 (Or.inr (own_w hw 19 rfl)) (ty := (.object "java/lang/Object")) (by decide)
  have F_task_b4 : Fld Z h4 b4 oz0 "task" "Ljava/lang/Runnable;" .null := D4 (Or.inl (own_w hw 21 rfl)) (ty := (.object "java/lang/Runnable")) (by decide)
  have F_tally_b4 : Fld Z h4 b4 oz0 "tally" "Lcom/example/ordered_scheduler/orderedscheduler/sequencing/Tally;" .null := D4 (Or.inr (own_w hw 23 rfl)) (ty := (.object "com/example/ordered_scheduler/orderedscheduler/sequencing/Tally")) (by decide)
  have F_in_b4 : Fld Z h4 b4 oz0 "in" oz3 .null := D4 (Or.inl (own_w hw 41 rfl)) (ty := (.object oz1)) (by decide)
  have F_before_b4 : Fld Z h4 b4 oz0 "before" oz2 .null := D4 (Or.inl (own_w hw 45 rfl)) (ty := (.object oz0)) (by decide)
  have F_after_b4 : Fld Z h4 b4 oz0 "after" oz2 .null := D4 (Or.inl (own_w hw 56 rfl)) (ty := (.object oz0)) (by decide)
  have Zc6 : n0 ≤ h4.size := (Nat.le_trans Zc3 E4.1)
  obtain ⟨_, _, ⟨T5, Lw5, kw5, nw5⟩, -, X5, ⟨Lc5, hQ5, l5, y5, z5⟩, st5⟩ := X4.specialBack hx (y := (⟨oz0, "<init>", "(Lcom/example/ordered_scheduler/orderedscheduler/sequencing/Sequencer;Ljava/lang/Object;Ljava/lang/Runnable;Lcom/example/ordered_scheduler/orderedscheduler/sequencing/Tally;)V"⟩ : MethodName)) rfl hown (mvT hZ (own_w hw 12 rfl)) (mvT hZ (own_w hw 13 rfl)) (mvT hZ (own_w hw 14 rfl)) (by decide) (backOf (W := 1) (rm3 l Z a0 hw [] b4 .null .null .null .null h4 n0 Zc6 A4 g_b4 F_in_b4 F_before_b4 F_after_b4 F_sequencer_b4 F_key_b4 F_task_b4 F_tally_b4) hZ (own_w hw 14 rfl) (own_w hw 11 rfl) (by decide) (by decide)) (g := (mkF m 16 #[iv x1, iv x2, iv x3, rv b1, .unset, .unset, .unset] [.null, .null, .null, .null, (.ref b4), (.ref b4)])) rfl (by rw [hml]; rfl) (Steps.refl _) (a := b4) (argsL := [.null, .null, .null, .null]) (rest := [(.ref b4)]) (lenOf own_pd4 rfl) rfl (by show 2 * 0 + _ ≤ _; exact Nat.le_of_eq rfl) (hb hby at_16) (fun _ _ => ⟨rfl, e4, (by decide : 2 + 0 ≤ _), (by decide : 12 + 0 ≤ _)⟩)
  dsimp only [Pt.U, Pt.locs, Pt.cells, Pt.slots] at X5 l5 y5 z5 st5 hQ5
  subst l5 y5 z5
  obtain ⟨rfl, Nq5, K5, pf5_0, pf5_1, pf5_2⟩ := hQ5
  have N5 := Fr.app N2 Nq5
  have Zc8 : n0 ≤ T5.heap.size := (Nat.le_trans Zc6 K5.1)
  have Ec9 : Exa Z T5.heap b1 oz1 := ((A1.ext E4).keep K5)
  have Ec10 : Exa Z T5.heap b4 oz0 := (A4.keep K5)
  obtain ⟨T7, h7, X7, e7, E7, A7, D7, -, st7⟩ := newO X5 hx hZ hown (own_w hw 9 rfl) (own_w hw 10 rfl) (own_w hw 11 rfl) rfl (g := (mkF m 21 #[iv x1, iv x2, iv x3, rv b1, rv b4, .unset, .unset] [])) rfl (hb hby at_21) (by decide) (by decide)
  obtain ⟨b7, g7⟩ : ∃ z, z = T5.heap.size := ⟨_, rfl⟩
  rw [← g7] at A7 D7 st7
  have g_b7 : n0 ≤ b7 := Nat.le_trans Zc8 (Nat.le_of_eq g7.symm)
  have ne_b1_b7 : b1 ≠ b7 := Nat.ne_of_lt (Nat.lt_of_lt_of_le Ec9.lt (Nat.le_of_eq g7.symm))
  have ne_b4_b7 : b4 ≠ b7 := Nat.ne_of_lt (Nat.lt_of_lt_of_le Ec10.lt (Nat.le_of_eq g7.symm))
  have F_sequencer_b7 : Fld Z h7 b7 oz0 "sequencer" "Lcom/example/ordered_scheduler/orderedscheduler/sequencing/Sequencer;" .null := D7 (Or.inr (own_w hw 17 rfl)) (ty := (.object "com/example/ordered_scheduler/orderedscheduler/sequencing/Sequencer")) (by decide)
  have F_key_b7 : Fld Z h7 b7 oz0 "key" "Ljava/lang/Object;" .null := D7 (Or.inr (own_w hw 19 rfl)) (ty := (.object "java/lang/Object")) (by decide)
  have F_task_b7 : Fld Z h7 b7 oz0 "task" "Ljava/lang/Runnable;" .null := D7 (Or.inl (own_w hw 21 rfl)) (ty := (.object "java/lang/Runnable")) (by decide)
  have F_tally_b7 : Fld Z h7 b7 oz0 "tally" "Lcom/example/ordered_scheduler/orderedscheduler/sequencing/Tally;" .null := D7 (Or.inr (own_w hw 23 rfl)) (ty := (.object "com/example/ordered_scheduler/orderedscheduler/sequencing/Tally")) (by decide)
  have F_in_b7 : Fld Z h7 b7 oz0 "in" oz3 .null := D7 (Or.inl (own_w hw 41 rfl)) (ty := (.object oz1)) (by decide)
  have F_before_b7 : Fld Z h7 b7 oz0 "before" oz2 .null := D7 (Or.inl (own_w hw 45 rfl)) (ty := (.object oz0)) (by decide)
  have F_after_b7 : Fld Z h7 b7 oz0 "after" oz2 .null := D7 (Or.inl (own_w hw 56 rfl)) (ty := (.object oz0)) (by decide)
  have Zc12 : n0 ≤ h7.size := (Nat.le_trans Zc8 E7.1)
  obtain ⟨_, _, ⟨T11, Lw11, kw11, nw11⟩, -, X11, ⟨Lc11, hQ11, l11, y11, z11⟩, st11⟩ := X7.specialBack hx (y := (⟨oz0, "<init>", "(Lcom/example/ordered_scheduler/orderedscheduler/sequencing/Sequencer;Ljava/lang/Object;Ljava/lang/Runnable;Lcom/example/ordered_scheduler/orderedscheduler/sequencing/Tally;)V"⟩ : MethodName)) rfl hown (mvT hZ (own_w hw 12 rfl)) (mvT hZ (own_w hw 13 rfl)) (mvT hZ (own_w hw 14 rfl)) (by decide) (backOf (W := 1) (rm3 l Z a0 hw [] b7 .null .null .null .null h7 n0 Zc12 A7 g_b7 F_in_b7 F_before_b7 F_after_b7 F_sequencer_b7 F_key_b7 F_task_b7 F_tally_b7) hZ (own_w hw 14 rfl) (own_w hw 11 rfl) (by decide) (by decide)) (g := (mkF m 29 #[iv x1, iv x2, iv x3, rv b1, rv b4, .unset, .unset] [.null, .null, .null, .null, (.ref b7), (.ref b7)])) rfl (by rw [hml]; rfl) (Steps.refl _) (a := b7) (argsL := [.null, .null, .null, .null]) (rest := [(.ref b7)]) (lenOf own_pd4 rfl) rfl (by show 2 * 0 + _ ≤ _; exact Nat.le_of_eq rfl) (hb hby at_29) (fun _ _ => ⟨rfl, e7, (by decide : 3 + 0 ≤ _), (by decide : 22 + 0 ≤ _)⟩)
  dsimp only [Pt.U, Pt.locs, Pt.cells, Pt.slots] at X11 l11 y11 z11 st11 hQ11
  subst l11 y11 z11
  obtain ⟨rfl, Nq11, K11, pf11_0, pf11_1, pf11_2⟩ := hQ11
  have N11 := Fr.app N5 Nq11
  have Ec14 : Exa Z T11.heap b1 oz1 := ((Ec9.ext E7).keep K11)
  have Fc15 : Fld Z T11.heap b1 oz1 "first" oz2 .null := ((((F_first_b1.ext E4).keep K5 (ninS ne_b1_b4 nin0)).ext E7).keep K11 (ninS ne_b1_b7 nin0))
  have Zc16 : n0 ≤ T11.heap.size := (Nat.le_trans Zc12 K11.1)
  obtain ⟨cq13, kq13, q13a, q13b, q13c⟩ := isOf hZ rfl Ec14
  obtain ⟨_, _, ⟨T13, Lw13, kw13, nw13⟩, -, X13, ⟨Lc13, hQ13, l13, y13, z13⟩, st13⟩ := X11.virtualBack hx (y := (⟨oz1, "isEmpty", "()Z"⟩ : MethodName)) (z := (⟨oz1, "isEmpty", "()Z"⟩ : MethodName)) hown (mvT hZ (own_w hw 24 rfl)) (mvT hZ (own_w hw 25 rfl)) (notFace_of_selects (args := #[]) (mvT hZ (own_w hw 27 rfl))) (mvT hZ (own_w hw 27 rfl)) (mvT hZ (own_w hw 26 rfl)) (by decide) (backOf (W := 0) (rmE0 l Z a0 hw [] b1 T11.heap n0 Zc16 Ec14 Fc15) hZ (own_w hw 28 rfl) (own_w hw 2 rfl) (by decide) (by decide)) q13a q13c (g := (mkF m 35 #[iv x1, iv x2, iv x3, rv b1, rv b4, rv b7, .unset] [(.ref b1)])) rfl (by rw [hml]; rfl) (Steps.refl _) (argsL := []) (rest := []) (lenOf own_pd5 rfl) rfl (by show 2 * 0 + _ ≤ _; exact Nat.le_of_eq rfl) (hb hby at_35) (fun _ _ => ⟨rfl, rfl, (by decide : 3 + 0 ≤ _), (by decide : 22 + 0 ≤ _)⟩)
  dsimp only [Pt.U, Pt.locs, Pt.cells, Pt.slots] at X13 l13 y13 z13 st13 hQ13
  subst l13 y13 z13
  obtain ⟨rfl, Nq13, eh13⟩ := hQ13
  have N13 := Fr.app N11 Nq13
  have Ec17 : Exa Z T11.heap b4 oz0 := ((Ec10.ext E7).keep K11)
  have Ec18 : Exa Z T11.heap b7 oz0 := (A7.keep K11)
  have Fc19 : Fld Z T11.heap b1 oz1 "last" oz2 .null := ((((F_last_b1.ext E4).keep K5 (ninS ne_b1_b4 nin0)).ext E7).keep K11 (ninS ne_b1_b7 nin0))
  have Fc20 : Fld Z T11.heap b4 oz0 "in" oz3 .null := ((pf5_0.ext E7).keep K11 (ninS ne_b4_b7 nin0))
  have Fc21 : Fld Z T11.heap b4 oz0 "before" oz2 .null := ((pf5_1.ext E7).keep K11 (ninS ne_b4_b7 nin0))
  have Fc22 : Fld Z T11.heap b4 oz0 "after" oz2 .null := ((pf5_2.ext E7).keep K11 (ninS ne_b4_b7 nin0))
  have hS0 : own_Sh Z T11.heap b1 b4 b7 0 := (Or.inl ⟨(Or.inl rfl), Ec14, Ec17, Ec18, Fc15, Fc19, Fc20, Fc21, Fc22, pf11_0, pf11_1, pf11_2⟩)
  obtain ⟨_, _, ⟨T23, Lw23, kw23, nw23⟩, -, X23, ⟨Lc23, hQ23, l23, y23, z23⟩, st23⟩ := Jvm.LawKit.callS X13 hx (y := (⟨oz6, "step", oz4⟩ : MethodName)) hown (mvT hZ (own_w hw 31 rfl)) (mvT hZ (own_w hw 32 rfl)) (mvT hZ (own_w hw 33 rfl)) (mvT hZ (own_w hw 34 rfl)) (by decide) (backOf (W := 0) (rmS l Z a0 hw [] b1 b4 b7 (0 : Int32) x1 T11.heap n0 Zc16 g_b1 g_b4 g_b7 ne_b4_b7 hS0) hZ (own_w hw 34 rfl) (own_w hw 33 rfl) (by decide) (by decide)) (g := (mkF m 50 #[iv x1, iv x2, iv x3, rv b1, rv b4, rv b7, .unset] [(.int x1), (.int (0 : Int32)), (.ref b7), (.ref b4), (.ref b1)])) rfl (by rw [hml]; rfl) (argsL := [(.ref b1), (.ref b4), (.ref b7), (.int (0 : Int32)), (.int x1)]) (rest := []) (lenOf own_pd6 rfl) rfl (by show 2 * 0 + _ ≤ _; exact Nat.le_of_eq rfl) (hb hby at_50) (fun _ _ => ⟨rfl, eh13, (by decide : 3 + 0 ≤ _), (by decide : 22 + 0 ≤ _)⟩)
  dsimp only [Pt.U, Pt.locs, Pt.cells, Pt.slots] at X23 l23 y23 z23 st23 hQ23
  subst l23 y23 z23
  obtain ⟨s23, rfl, Nq23, K23, pf23_0, pf23_1⟩ := hQ23
  have N23 := Fr.app N13 Nq23
  have hc57 : ¬ (s23 < (0 : Int32)) := id fun hc57 => by
    exact pf23_0 hc57
  have Zc25 : n0 ≤ T23.heap.size := (Nat.le_trans Zc16 K23.1)
  have Ec26 : Exa Z T23.heap b1 oz1 := (Ec14.keep K23)
  obtain ⟨cq24, kq24, q24a, q24b, q24c⟩ := isOf hZ rfl Ec26
  obtain ⟨_, _, ⟨T24, Lw24, kw24, nw24⟩, -, X24, ⟨Lc24, hQ24, l24, y24, z24⟩, st24⟩ := X23.virtualBack hx (y := (⟨oz1, "isEmpty", "()Z"⟩ : MethodName)) (z := (⟨oz1, "isEmpty", "()Z"⟩ : MethodName)) hown (mvT hZ (own_w hw 24 rfl)) (mvT hZ (own_w hw 25 rfl)) (notFace_of_selects (args := #[]) (mvT hZ (own_w hw 27 rfl))) (mvT hZ (own_w hw 27 rfl)) (mvT hZ (own_w hw 26 rfl)) (by decide) (backOf (W := 0) (rmE l Z a0 hw [] b1 b4 b7 s23 T23.heap n0 Zc25 pf23_1) hZ (own_w hw 28 rfl) (own_w hw 2 rfl) (by decide) (by decide)) q24a q24c (g := (mkF m 61 #[iv x1, iv x2, iv x3, rv b1, rv b4, rv b7, iv s23] [(.ref b1)])) rfl (by rw [hml]; rfl) (Steps.refl _) (argsL := []) (rest := []) (lenOf own_pd5 rfl) rfl (by show 2 * 0 + _ ≤ _; exact Nat.le_of_eq rfl) (hb hby at_61) (fun _ _ => ⟨rfl, rfl, (by decide : 3 + 0 ≤ _), (by decide : 22 + 0 ≤ _)⟩)
  dsimp only [Pt.U, Pt.locs, Pt.cells, Pt.slots] at X24 l24 y24 z24 st24 hQ24
  subst l24 y24 z24
  obtain ⟨rfl, Nq24, eh24⟩ := hQ24
  have N24 := Fr.app N23 Nq24
  have pre27 : ∀ tz, oS p e below T24 m 68 #[iv x1, iv x2, iv x3, rv b1, rv b4, rv b7, iv s23] [(.int (s23 &&& (3 : Int32))), (.int (if (s23 &&& (3 : Int32)) = (0 : Int32) then (1 : Int32) else (0 : Int32)))] tz → oS p e below s₁ m 0 #[iv x1, iv x2, iv x3, .unset, .unset, .unset, .unset] [] tz := fun tz kt => by
    show oS p e below s₁ m 0 #[iv x1, iv x2, iv x3, .unset, .unset, .unset, .unset] [] _
    refine st1 _ ?_
    refine XS.dup X1.here hx rfl (hb hby at_3) rfl rfl ?_
    show oS p e below T1 m 4 #[iv x1, iv x2, iv x3, .unset, .unset, .unset, .unset] [(.ref b1), (.ref b1)] _
    refine st2.trans ?_
    refine XS.astoreN X2.here hx rfl (hb hby at_7) rfl rfl (l' := #[iv x1, iv x2, iv x3, rv b1, .unset, .unset, .unset]) rfl ?_
    show oS p e below T2 m 8 #[iv x1, iv x2, iv x3, rv b1, .unset, .unset, .unset] [] _
    refine st4 _ ?_
    refine XS.dup X4.here hx rfl (hb hby at_11) rfl rfl ?_
    refine XS.aconstNull X4.here hx rfl (hb hby at_12) ?_
    refine XS.aconstNull X4.here hx rfl (hb hby at_13) ?_
    show oS p e below T4 m 14 #[iv x1, iv x2, iv x3, rv b1, .unset, .unset, .unset] [.null, .null, (.ref b4), (.ref b4)] _
    refine XS.aconstNull X4.here hx rfl (hb hby at_14) ?_
    refine XS.aconstNull X4.here hx rfl (hb hby at_15) ?_
    show oS p e below T4 m 16 #[iv x1, iv x2, iv x3, rv b1, .unset, .unset, .unset] [.null, .null, .null, .null, (.ref b4), (.ref b4)] _
    refine st5.trans ?_
    refine XS.astore X5.here hx rfl (hb hby at_19) rfl rfl (l' := #[iv x1, iv x2, iv x3, rv b1, rv b4, .unset, .unset]) rfl ?_
    show oS p e below T5 m 21 #[iv x1, iv x2, iv x3, rv b1, rv b4, .unset, .unset] [] _
    refine st7 _ ?_
    refine XS.dup X7.here hx rfl (hb hby at_24) rfl rfl ?_
    refine XS.aconstNull X7.here hx rfl (hb hby at_25) ?_
    refine XS.aconstNull X7.here hx rfl (hb hby at_26) ?_
    show oS p e below T7 m 27 #[iv x1, iv x2, iv x3, rv b1, rv b4, .unset, .unset] [.null, .null, (.ref b7), (.ref b7)] _
    refine XS.aconstNull X7.here hx rfl (hb hby at_27) ?_
    refine XS.aconstNull X7.here hx rfl (hb hby at_28) ?_
    show oS p e below T7 m 29 #[iv x1, iv x2, iv x3, rv b1, rv b4, .unset, .unset] [.null, .null, .null, .null, (.ref b7), (.ref b7)] _
    refine st11.trans ?_
    refine XS.astore X11.here hx rfl (hb hby at_32) rfl rfl (l' := #[iv x1, iv x2, iv x3, rv b1, rv b4, rv b7, .unset]) rfl ?_
    refine XS.aloadN X11.here hx rfl (hb hby at_34) rfl rfl ?_
    show oS p e below T11 m 35 #[iv x1, iv x2, iv x3, rv b1, rv b4, rv b7, .unset] [(.ref b1)] _
    refine st13.trans ?_
    refine XS.ifYes X13.here hx rfl (pc0 := 38) (pc' := 43) rfl (hb hby at_38) rfl ((if0 _ _).trans (feq (by decide : ¬ ((1 : Int32) = (0 : Int32)))).2) (by decide) (by decide) ?_
    refine XS.aloadN X13.here hx rfl (hb hby at_43) rfl rfl ?_
    refine XS.aload X13.here hx rfl (hb hby at_44) rfl rfl ?_
    show oS p e below T13 m 46 #[iv x1, iv x2, iv x3, rv b1, rv b4, rv b7, .unset] [(.ref b4), (.ref b1)] _
    refine XS.aload X13.here hx rfl (hb hby at_46) rfl rfl ?_
    refine XS.iconst X13.here hx rfl (hb hby at_48) ?_
    refine XS.iloadN X13.here hx rfl (hb hby at_49) rfl ?_
    show oS p e below T13 m 50 #[iv x1, iv x2, iv x3, rv b1, rv b4, rv b7, .unset] [(.int x1), (.int (0 : Int32)), (.ref b7), (.ref b4), (.ref b1)] _
    refine st23 _ ?_
    refine XS.istore X23.here hx rfl (hb hby at_53) rfl (l' := #[iv x1, iv x2, iv x3, rv b1, rv b4, rv b7, iv s23]) rfl ?_
    refine XS.iload X23.here hx rfl (hb hby at_55) rfl ?_
    refine XS.ifNo X23.here hx rfl (hb hby at_57) rfl ((if0 _ _).trans (flt hc57).1) ?_
    show oS p e below T23 m 60 #[iv x1, iv x2, iv x3, rv b1, rv b4, rv b7, iv s23] [] _
    refine XS.aloadN X23.here hx rfl (hb hby at_60) rfl rfl ?_
    show oS p e below T23 m 61 #[iv x1, iv x2, iv x3, rv b1, rv b4, rv b7, iv s23] [(.ref b1)] _
    refine st24.trans ?_
    refine XS.iload X24.here hx rfl (hb hby at_64) rfl ?_
    refine XS.iconst X24.here hx rfl (hb hby at_66) ?_
    refine XS.iand X24.here hx rfl (hb hby at_67) rfl ?_
    exact kt
  obtain ⟨v76, T30, Lj30, jv30, N30, X30, e30, st30⟩ := own_join (α := Int32) X24 N24 eh24 (mkF m 68 #[iv x1, iv x2, iv x3, rv b1, rv b4, rv b7, iv s23] [(.int (s23 &&& (3 : Int32))), (.int (if (s23 &&& (3 : Int32)) = (0 : Int32) then (1 : Int32) else (0 : Int32)))]) (fun v => (mkF m 76 #[iv x1, iv x2, iv x3, rv b1, rv b4, rv b7, iv s23] [(.int v), (.int (if (s23 &&& (3 : Int32)) = (0 : Int32) then (1 : Int32) else (0 : Int32)))])) (fun v => v = (if (s23 &&& (3 : Int32)) = (0 : Int32) then (1 : Int32) else (0 : Int32))) (by
      by_cases hc68 : (s23 &&& (3 : Int32)) = (0 : Int32)
      · have pre28 : ∀ tz, oS p e below T24 m 76 #[iv x1, iv x2, iv x3, rv b1, rv b4, rv b7, iv s23] [(.int (1 : Int32)), (.int (if (s23 &&& (3 : Int32)) = (0 : Int32) then (1 : Int32) else (0 : Int32)))] tz → oS p e below T24 m 68 #[iv x1, iv x2, iv x3, rv b1, rv b4, rv b7, iv s23] [(.int (s23 &&& (3 : Int32))), (.int (if (s23 &&& (3 : Int32)) = (0 : Int32) then (1 : Int32) else (0 : Int32)))] tz := fun tz kt => by
          show oS p e below T24 m 68 #[iv x1, iv x2, iv x3, rv b1, rv b4, rv b7, iv s23] [(.int (s23 &&& (3 : Int32))), (.int (if (s23 &&& (3 : Int32)) = (0 : Int32) then (1 : Int32) else (0 : Int32)))] _
          refine XS.ifNo X24.here hx rfl (hb hby at_68) rfl ((if0 _ _).trans (teq hc68).2) ?_
          refine XS.iconst X24.here hx rfl (hb hby at_71) ?_
          refine XS.goto X24.here hx rfl (pc0 := 72) (pc' := 76) rfl (hb hby at_72) (by decide) (by decide) ?_
          exact kt
        exact ⟨(1 : Int32), T24, _, (by rw [if_pos hc68]), N24, X24, eh24, fun tz kt => (pre28 _ kt)⟩
      · have pre29 : ∀ tz, oS p e below T24 m 76 #[iv x1, iv x2, iv x3, rv b1, rv b4, rv b7, iv s23] [(.int (0 : Int32)), (.int (if (s23 &&& (3 : Int32)) = (0 : Int32) then (1 : Int32) else (0 : Int32)))] tz → oS p e below T24 m 68 #[iv x1, iv x2, iv x3, rv b1, rv b4, rv b7, iv s23] [(.int (s23 &&& (3 : Int32))), (.int (if (s23 &&& (3 : Int32)) = (0 : Int32) then (1 : Int32) else (0 : Int32)))] tz := fun tz kt => by
          show oS p e below T24 m 68 #[iv x1, iv x2, iv x3, rv b1, rv b4, rv b7, iv s23] [(.int (s23 &&& (3 : Int32))), (.int (if (s23 &&& (3 : Int32)) = (0 : Int32) then (1 : Int32) else (0 : Int32)))] _
          refine XS.ifYes X24.here hx rfl (pc0 := 68) (pc' := 75) rfl (hb hby at_68) rfl ((if0 _ _).trans (feq hc68).2) (by decide) (by decide) ?_
          refine XS.iconst X24.here hx rfl (hb hby at_75) ?_
          exact kt
        exact ⟨(0 : Int32), T24, _, (by rw [if_neg hc68]), N24, X24, eh24, fun tz kt => (pre29 _ kt)⟩)
  have hv76 : v76 = (if (s23 &&& (3 : Int32)) = (0 : Int32) then (1 : Int32) else (0 : Int32)) := jv30
  have hc76 : (if (s23 &&& (3 : Int32)) = (0 : Int32) then (1 : Int32) else (0 : Int32)) = v76 := Classical.byContradiction fun hc76 => by
    exact hc76 hv76.symm
  obtain ⟨_, _, ⟨T31, Lw31, kw31, nw31⟩, -, X31, ⟨Lc31, hQ31, l31, y31, z31⟩, st31⟩ := Jvm.LawKit.callS X30 hx (y := (⟨oz6, "step", oz4⟩ : MethodName)) hown (mvT hZ (own_w hw 31 rfl)) (mvT hZ (own_w hw 32 rfl)) (mvT hZ (own_w hw 33 rfl)) (mvT hZ (own_w hw 34 rfl)) (by decide) (backOf (W := 0) (rmS l Z a0 hw [] b1 b4 b7 s23 x2 T23.heap n0 Zc25 g_b1 g_b4 g_b7 ne_b4_b7 pf23_1) hZ (own_w hw 34 rfl) (own_w hw 33 rfl) (by decide) (by decide)) (g := (mkF m 89 #[iv x1, iv x2, iv x3, rv b1, rv b4, rv b7, iv s23] [(.int x2), (.int s23), (.ref b7), (.ref b4), (.ref b1)])) rfl (by rw [hml]; rfl) (argsL := [(.ref b1), (.ref b4), (.ref b7), (.int s23), (.int x2)]) (rest := []) (lenOf own_pd6 rfl) rfl (by show 2 * 0 + _ ≤ _; exact Nat.le_of_eq rfl) (hb hby at_89) (fun _ _ => ⟨rfl, e30, (by decide : 3 + 0 ≤ _), (by decide : 22 + 0 ≤ _)⟩)
  dsimp only [Pt.U, Pt.locs, Pt.cells, Pt.slots] at X31 l31 y31 z31 st31 hQ31
  subst l31 y31 z31
  obtain ⟨s31, rfl, Nq31, K31, pf31_0, pf31_1⟩ := hQ31
  have N31 := Fr.app N30 Nq31
  have hc96 : ¬ (s31 < (0 : Int32)) := id fun hc96 => by
    exact pf31_0 hc96
  have Zc33 : n0 ≤ T31.heap.size := (Nat.le_trans Zc25 K31.1)
  have Ec34 : Exa Z T31.heap b1 oz1 := (Ec26.keep K31)
  obtain ⟨cq32, kq32, q32a, q32b, q32c⟩ := isOf hZ rfl Ec34
  obtain ⟨_, _, ⟨T32, Lw32, kw32, nw32⟩, -, X32, ⟨Lc32, hQ32, l32, y32, z32⟩, st32⟩ := X31.virtualBack hx (y := (⟨oz1, "isEmpty", "()Z"⟩ : MethodName)) (z := (⟨oz1, "isEmpty", "()Z"⟩ : MethodName)) hown (mvT hZ (own_w hw 24 rfl)) (mvT hZ (own_w hw 25 rfl)) (notFace_of_selects (args := #[]) (mvT hZ (own_w hw 27 rfl))) (mvT hZ (own_w hw 27 rfl)) (mvT hZ (own_w hw 26 rfl)) (by decide) (backOf (W := 0) (rmE l Z a0 hw [] b1 b4 b7 s31 T31.heap n0 Zc33 pf31_1) hZ (own_w hw 28 rfl) (own_w hw 2 rfl) (by decide) (by decide)) q32a q32c (g := (mkF m 100 #[iv x1, iv x2, iv x3, rv b1, rv b4, rv b7, iv s31] [(.ref b1)])) rfl (by rw [hml]; rfl) (Steps.refl _) (argsL := []) (rest := []) (lenOf own_pd5 rfl) rfl (by show 2 * 0 + _ ≤ _; exact Nat.le_of_eq rfl) (hb hby at_100) (fun _ _ => ⟨rfl, rfl, (by decide : 3 + 0 ≤ _), (by decide : 22 + 0 ≤ _)⟩)
  dsimp only [Pt.U, Pt.locs, Pt.cells, Pt.slots] at X32 l32 y32 z32 st32 hQ32
  subst l32 y32 z32
  obtain ⟨rfl, Nq32, eh32⟩ := hQ32
  have N32 := Fr.app N31 Nq32
  have pre35 : ∀ tz, oS p e below T32 m 107 #[iv x1, iv x2, iv x3, rv b1, rv b4, rv b7, iv s31] [(.int (s31 &&& (3 : Int32))), (.int (if (s31 &&& (3 : Int32)) = (0 : Int32) then (1 : Int32) else (0 : Int32)))] tz → oS p e below T24 m 68 #[iv x1, iv x2, iv x3, rv b1, rv b4, rv b7, iv s23] [(.int (s23 &&& (3 : Int32))), (.int (if (s23 &&& (3 : Int32)) = (0 : Int32) then (1 : Int32) else (0 : Int32)))] tz := fun tz kt => by
    show oS p e below T24 m 68 #[iv x1, iv x2, iv x3, rv b1, rv b4, rv b7, iv s23] [(.int (s23 &&& (3 : Int32))), (.int (if (s23 &&& (3 : Int32)) = (0 : Int32) then (1 : Int32) else (0 : Int32)))] _
    refine st30 _ ?_
    refine XS.icmpYes X30.here hx rfl (pc0 := 76) (pc' := 81) rfl (hb hby at_76) rfl (teq hc76).1 (by decide) (by decide) ?_
    refine XS.aloadN X30.here hx rfl (hb hby at_81) rfl rfl ?_
    refine XS.aload X30.here hx rfl (hb hby at_82) rfl rfl ?_
    show oS p e below T30 m 84 #[iv x1, iv x2, iv x3, rv b1, rv b4, rv b7, iv s23] [(.ref b4), (.ref b1)] _
    refine XS.aload X30.here hx rfl (hb hby at_84) rfl rfl ?_
    refine XS.iload X30.here hx rfl (hb hby at_86) rfl ?_
    refine XS.iloadN X30.here hx rfl (hb hby at_88) rfl ?_
    show oS p e below T30 m 89 #[iv x1, iv x2, iv x3, rv b1, rv b4, rv b7, iv s23] [(.int x2), (.int s23), (.ref b7), (.ref b4), (.ref b1)] _
    refine st31 _ ?_
    refine XS.istore X31.here hx rfl (hb hby at_92) rfl (l' := #[iv x1, iv x2, iv x3, rv b1, rv b4, rv b7, iv s31]) rfl ?_
    refine XS.iload X31.here hx rfl (hb hby at_94) rfl ?_
    refine XS.ifNo X31.here hx rfl (hb hby at_96) rfl ((if0 _ _).trans (flt hc96).1) ?_
    show oS p e below T31 m 99 #[iv x1, iv x2, iv x3, rv b1, rv b4, rv b7, iv s31] [] _
    refine XS.aloadN X31.here hx rfl (hb hby at_99) rfl rfl ?_
    show oS p e below T31 m 100 #[iv x1, iv x2, iv x3, rv b1, rv b4, rv b7, iv s31] [(.ref b1)] _
    refine st32.trans ?_
    refine XS.iload X32.here hx rfl (hb hby at_103) rfl ?_
    refine XS.iconst X32.here hx rfl (hb hby at_105) ?_
    refine XS.iand X32.here hx rfl (hb hby at_106) rfl ?_
    exact kt
  obtain ⟨v115, T38, Lj38, jv38, N38, X38, e38, st38⟩ := own_join (α := Int32) X32 N32 eh32 (mkF m 107 #[iv x1, iv x2, iv x3, rv b1, rv b4, rv b7, iv s31] [(.int (s31 &&& (3 : Int32))), (.int (if (s31 &&& (3 : Int32)) = (0 : Int32) then (1 : Int32) else (0 : Int32)))]) (fun v => (mkF m 115 #[iv x1, iv x2, iv x3, rv b1, rv b4, rv b7, iv s31] [(.int v), (.int (if (s31 &&& (3 : Int32)) = (0 : Int32) then (1 : Int32) else (0 : Int32)))])) (fun v => v = (if (s31 &&& (3 : Int32)) = (0 : Int32) then (1 : Int32) else (0 : Int32))) (by
      by_cases hc107 : (s31 &&& (3 : Int32)) = (0 : Int32)
      · have pre36 : ∀ tz, oS p e below T32 m 115 #[iv x1, iv x2, iv x3, rv b1, rv b4, rv b7, iv s31] [(.int (1 : Int32)), (.int (if (s31 &&& (3 : Int32)) = (0 : Int32) then (1 : Int32) else (0 : Int32)))] tz → oS p e below T32 m 107 #[iv x1, iv x2, iv x3, rv b1, rv b4, rv b7, iv s31] [(.int (s31 &&& (3 : Int32))), (.int (if (s31 &&& (3 : Int32)) = (0 : Int32) then (1 : Int32) else (0 : Int32)))] tz := fun tz kt => by
          show oS p e below T32 m 107 #[iv x1, iv x2, iv x3, rv b1, rv b4, rv b7, iv s31] [(.int (s31 &&& (3 : Int32))), (.int (if (s31 &&& (3 : Int32)) = (0 : Int32) then (1 : Int32) else (0 : Int32)))] _
          refine XS.ifNo X32.here hx rfl (hb hby at_107) rfl ((if0 _ _).trans (teq hc107).2) ?_
          refine XS.iconst X32.here hx rfl (hb hby at_110) ?_
          refine XS.goto X32.here hx rfl (pc0 := 111) (pc' := 115) rfl (hb hby at_111) (by decide) (by decide) ?_
          exact kt
        exact ⟨(1 : Int32), T32, _, (by rw [if_pos hc107]), N32, X32, eh32, fun tz kt => (pre36 _ kt)⟩
      · have pre37 : ∀ tz, oS p e below T32 m 115 #[iv x1, iv x2, iv x3, rv b1, rv b4, rv b7, iv s31] [(.int (0 : Int32)), (.int (if (s31 &&& (3 : Int32)) = (0 : Int32) then (1 : Int32) else (0 : Int32)))] tz → oS p e below T32 m 107 #[iv x1, iv x2, iv x3, rv b1, rv b4, rv b7, iv s31] [(.int (s31 &&& (3 : Int32))), (.int (if (s31 &&& (3 : Int32)) = (0 : Int32) then (1 : Int32) else (0 : Int32)))] tz := fun tz kt => by
          show oS p e below T32 m 107 #[iv x1, iv x2, iv x3, rv b1, rv b4, rv b7, iv s31] [(.int (s31 &&& (3 : Int32))), (.int (if (s31 &&& (3 : Int32)) = (0 : Int32) then (1 : Int32) else (0 : Int32)))] _
          refine XS.ifYes X32.here hx rfl (pc0 := 107) (pc' := 114) rfl (hb hby at_107) rfl ((if0 _ _).trans (feq hc107).2) (by decide) (by decide) ?_
          refine XS.iconst X32.here hx rfl (hb hby at_114) ?_
          exact kt
        exact ⟨(0 : Int32), T32, _, (by rw [if_neg hc107]), N32, X32, eh32, fun tz kt => (pre37 _ kt)⟩)
  have hv115 : v115 = (if (s31 &&& (3 : Int32)) = (0 : Int32) then (1 : Int32) else (0 : Int32)) := jv38
  have hc115 : (if (s31 &&& (3 : Int32)) = (0 : Int32) then (1 : Int32) else (0 : Int32)) = v115 := Classical.byContradiction fun hc115 => by
    exact hc115 hv115.symm
  obtain ⟨_, _, ⟨T39, Lw39, kw39, nw39⟩, -, X39, ⟨Lc39, hQ39, l39, y39, z39⟩, st39⟩ := Jvm.LawKit.callS X38 hx (y := (⟨oz6, "step", oz4⟩ : MethodName)) hown (mvT hZ (own_w hw 31 rfl)) (mvT hZ (own_w hw 32 rfl)) (mvT hZ (own_w hw 33 rfl)) (mvT hZ (own_w hw 34 rfl)) (by decide) (backOf (W := 0) (rmS l Z a0 hw [] b1 b4 b7 s31 x3 T31.heap n0 Zc33 g_b1 g_b4 g_b7 ne_b4_b7 pf31_1) hZ (own_w hw 34 rfl) (own_w hw 33 rfl) (by decide) (by decide)) (g := (mkF m 128 #[iv x1, iv x2, iv x3, rv b1, rv b4, rv b7, iv s31] [(.int x3), (.int s31), (.ref b7), (.ref b4), (.ref b1)])) rfl (by rw [hml]; rfl) (argsL := [(.ref b1), (.ref b4), (.ref b7), (.int s31), (.int x3)]) (rest := []) (lenOf own_pd6 rfl) rfl (by show 2 * 0 + _ ≤ _; exact Nat.le_of_eq rfl) (hb hby at_128) (fun _ _ => ⟨rfl, e38, (by decide : 3 + 0 ≤ _), (by decide : 22 + 0 ≤ _)⟩)
  dsimp only [Pt.U, Pt.locs, Pt.cells, Pt.slots] at X39 l39 y39 z39 st39 hQ39
  subst l39 y39 z39
  obtain ⟨s39, rfl, Nq39, K39, pf39_0, pf39_1⟩ := hQ39
  have N39 := Fr.app N38 Nq39
  have hc135 : ¬ (s39 < (0 : Int32)) := id fun hc135 => by
    exact pf39_0 hc135
  have Zc41 : n0 ≤ T39.heap.size := (Nat.le_trans Zc33 K39.1)
  have Ec42 : Exa Z T39.heap b1 oz1 := (Ec34.keep K39)
  obtain ⟨cq40, kq40, q40a, q40b, q40c⟩ := isOf hZ rfl Ec42
  obtain ⟨_, _, ⟨T40, Lw40, kw40, nw40⟩, -, X40, ⟨Lc40, hQ40, l40, y40, z40⟩, st40⟩ := X39.virtualBack hx (y := (⟨oz1, "isEmpty", "()Z"⟩ : MethodName)) (z := (⟨oz1, "isEmpty", "()Z"⟩ : MethodName)) hown (mvT hZ (own_w hw 24 rfl)) (mvT hZ (own_w hw 25 rfl)) (notFace_of_selects (args := #[]) (mvT hZ (own_w hw 27 rfl))) (mvT hZ (own_w hw 27 rfl)) (mvT hZ (own_w hw 26 rfl)) (by decide) (backOf (W := 0) (rmE l Z a0 hw [] b1 b4 b7 s39 T39.heap n0 Zc41 pf39_1) hZ (own_w hw 28 rfl) (own_w hw 2 rfl) (by decide) (by decide)) q40a q40c (g := (mkF m 139 #[iv x1, iv x2, iv x3, rv b1, rv b4, rv b7, iv s39] [(.ref b1)])) rfl (by rw [hml]; rfl) (Steps.refl _) (argsL := []) (rest := []) (lenOf own_pd5 rfl) rfl (by show 2 * 0 + _ ≤ _; exact Nat.le_of_eq rfl) (hb hby at_139) (fun _ _ => ⟨rfl, rfl, (by decide : 3 + 0 ≤ _), (by decide : 22 + 0 ≤ _)⟩)
  dsimp only [Pt.U, Pt.locs, Pt.cells, Pt.slots] at X40 l40 y40 z40 st40 hQ40
  subst l40 y40 z40
  obtain ⟨rfl, Nq40, eh40⟩ := hQ40
  have N40 := Fr.app N39 Nq40
  have pre43 : ∀ tz, oS p e below T40 m 146 #[iv x1, iv x2, iv x3, rv b1, rv b4, rv b7, iv s39] [(.int (s39 &&& (3 : Int32))), (.int (if (s39 &&& (3 : Int32)) = (0 : Int32) then (1 : Int32) else (0 : Int32)))] tz → oS p e below T32 m 107 #[iv x1, iv x2, iv x3, rv b1, rv b4, rv b7, iv s31] [(.int (s31 &&& (3 : Int32))), (.int (if (s31 &&& (3 : Int32)) = (0 : Int32) then (1 : Int32) else (0 : Int32)))] tz := fun tz kt => by
    show oS p e below T32 m 107 #[iv x1, iv x2, iv x3, rv b1, rv b4, rv b7, iv s31] [(.int (s31 &&& (3 : Int32))), (.int (if (s31 &&& (3 : Int32)) = (0 : Int32) then (1 : Int32) else (0 : Int32)))] _
    refine st38 _ ?_
    refine XS.icmpYes X38.here hx rfl (pc0 := 115) (pc' := 120) rfl (hb hby at_115) rfl (teq hc115).1 (by decide) (by decide) ?_
    refine XS.aloadN X38.here hx rfl (hb hby at_120) rfl rfl ?_
    refine XS.aload X38.here hx rfl (hb hby at_121) rfl rfl ?_
    show oS p e below T38 m 123 #[iv x1, iv x2, iv x3, rv b1, rv b4, rv b7, iv s31] [(.ref b4), (.ref b1)] _
    refine XS.aload X38.here hx rfl (hb hby at_123) rfl rfl ?_
    refine XS.iload X38.here hx rfl (hb hby at_125) rfl ?_
    refine XS.iloadN X38.here hx rfl (hb hby at_127) rfl ?_
    show oS p e below T38 m 128 #[iv x1, iv x2, iv x3, rv b1, rv b4, rv b7, iv s31] [(.int x3), (.int s31), (.ref b7), (.ref b4), (.ref b1)] _
    refine st39 _ ?_
    refine XS.istore X39.here hx rfl (hb hby at_131) rfl (l' := #[iv x1, iv x2, iv x3, rv b1, rv b4, rv b7, iv s39]) rfl ?_
    refine XS.iload X39.here hx rfl (hb hby at_133) rfl ?_
    refine XS.ifNo X39.here hx rfl (hb hby at_135) rfl ((if0 _ _).trans (flt hc135).1) ?_
    show oS p e below T39 m 138 #[iv x1, iv x2, iv x3, rv b1, rv b4, rv b7, iv s39] [] _
    refine XS.aloadN X39.here hx rfl (hb hby at_138) rfl rfl ?_
    show oS p e below T39 m 139 #[iv x1, iv x2, iv x3, rv b1, rv b4, rv b7, iv s39] [(.ref b1)] _
    refine st40.trans ?_
    refine XS.iload X40.here hx rfl (hb hby at_142) rfl ?_
    refine XS.iconst X40.here hx rfl (hb hby at_144) ?_
    refine XS.iand X40.here hx rfl (hb hby at_145) rfl ?_
    exact kt
  obtain ⟨v154, T46, Lj46, jv46, N46, X46, e46, st46⟩ := own_join (α := Int32) X40 N40 eh40 (mkF m 146 #[iv x1, iv x2, iv x3, rv b1, rv b4, rv b7, iv s39] [(.int (s39 &&& (3 : Int32))), (.int (if (s39 &&& (3 : Int32)) = (0 : Int32) then (1 : Int32) else (0 : Int32)))]) (fun v => (mkF m 154 #[iv x1, iv x2, iv x3, rv b1, rv b4, rv b7, iv s39] [(.int v), (.int (if (s39 &&& (3 : Int32)) = (0 : Int32) then (1 : Int32) else (0 : Int32)))])) (fun v => v = (if (s39 &&& (3 : Int32)) = (0 : Int32) then (1 : Int32) else (0 : Int32))) (by
      by_cases hc146 : (s39 &&& (3 : Int32)) = (0 : Int32)
      · have pre44 : ∀ tz, oS p e below T40 m 154 #[iv x1, iv x2, iv x3, rv b1, rv b4, rv b7, iv s39] [(.int (1 : Int32)), (.int (if (s39 &&& (3 : Int32)) = (0 : Int32) then (1 : Int32) else (0 : Int32)))] tz → oS p e below T40 m 146 #[iv x1, iv x2, iv x3, rv b1, rv b4, rv b7, iv s39] [(.int (s39 &&& (3 : Int32))), (.int (if (s39 &&& (3 : Int32)) = (0 : Int32) then (1 : Int32) else (0 : Int32)))] tz := fun tz kt => by
          show oS p e below T40 m 146 #[iv x1, iv x2, iv x3, rv b1, rv b4, rv b7, iv s39] [(.int (s39 &&& (3 : Int32))), (.int (if (s39 &&& (3 : Int32)) = (0 : Int32) then (1 : Int32) else (0 : Int32)))] _
          refine XS.ifNo X40.here hx rfl (hb hby at_146) rfl ((if0 _ _).trans (teq hc146).2) ?_
          refine XS.iconst X40.here hx rfl (hb hby at_149) ?_
          refine XS.goto X40.here hx rfl (pc0 := 150) (pc' := 154) rfl (hb hby at_150) (by decide) (by decide) ?_
          exact kt
        exact ⟨(1 : Int32), T40, _, (by rw [if_pos hc146]), N40, X40, eh40, fun tz kt => (pre44 _ kt)⟩
      · have pre45 : ∀ tz, oS p e below T40 m 154 #[iv x1, iv x2, iv x3, rv b1, rv b4, rv b7, iv s39] [(.int (0 : Int32)), (.int (if (s39 &&& (3 : Int32)) = (0 : Int32) then (1 : Int32) else (0 : Int32)))] tz → oS p e below T40 m 146 #[iv x1, iv x2, iv x3, rv b1, rv b4, rv b7, iv s39] [(.int (s39 &&& (3 : Int32))), (.int (if (s39 &&& (3 : Int32)) = (0 : Int32) then (1 : Int32) else (0 : Int32)))] tz := fun tz kt => by
          show oS p e below T40 m 146 #[iv x1, iv x2, iv x3, rv b1, rv b4, rv b7, iv s39] [(.int (s39 &&& (3 : Int32))), (.int (if (s39 &&& (3 : Int32)) = (0 : Int32) then (1 : Int32) else (0 : Int32)))] _
          refine XS.ifYes X40.here hx rfl (pc0 := 146) (pc' := 153) rfl (hb hby at_146) rfl ((if0 _ _).trans (feq hc146).2) (by decide) (by decide) ?_
          refine XS.iconst X40.here hx rfl (hb hby at_153) ?_
          exact kt
        exact ⟨(0 : Int32), T40, _, (by rw [if_neg hc146]), N40, X40, eh40, fun tz kt => (pre45 _ kt)⟩)
  have hv154 : v154 = (if (s39 &&& (3 : Int32)) = (0 : Int32) then (1 : Int32) else (0 : Int32)) := jv46
  have hc154 : (if (s39 &&& (3 : Int32)) = (0 : Int32) then (1 : Int32) else (0 : Int32)) = v154 := Classical.byContradiction fun hc154 => by
    exact hc154 hv154.symm
  have pre47 : ∀ tz, oS p e below T46 m 160 #[iv x1, iv x2, iv x3, rv b1, rv b4, rv b7, iv s39] [(.int (1 : Int32))] tz → oS p e below T40 m 146 #[iv x1, iv x2, iv x3, rv b1, rv b4, rv b7, iv s39] [(.int (s39 &&& (3 : Int32))), (.int (if (s39 &&& (3 : Int32)) = (0 : Int32) then (1 : Int32) else (0 : Int32)))] tz := fun tz kt => by
    show oS p e below T40 m 146 #[iv x1, iv x2, iv x3, rv b1, rv b4, rv b7, iv s39] [(.int (s39 &&& (3 : Int32))), (.int (if (s39 &&& (3 : Int32)) = (0 : Int32) then (1 : Int32) else (0 : Int32)))] _
    refine st46 _ ?_
    refine XS.icmpYes X46.here hx rfl (pc0 := 154) (pc' := 159) rfl (hb hby at_154) rfl (teq hc154).1 (by decide) (by decide) ?_
    refine XS.iconst X46.here hx rfl (hb hby at_159) ?_
    exact kt
  obtain ⟨fs, hr, hrun, hended, hW, hsame⟩ := X46.leave (v := some (.int (1 : Int32))) (fun h => by rw [Bd.returns] at h; cases h)
  refine ⟨_, _, pre0 _ (pre27 _ (pre35 _ (pre43 _ (pre47 _ ?_)))), hrun, hended, _, _, rfl, ?_, ⟨_, rfl⟩, hW, hsame.mono (by decide) (by decide)⟩
  · show oS p e below T46 m 160 #[iv x1, iv x2, iv x3, rv b1, rv b4, rv b7, iv s39] [(.int (1 : Int32))] _
    exact retN X46 hx (t := .boolean) Bd.returns (by simp) (hb hby at_160) hr
  · show Q0 Z x1 x2 x3 h0 n0 _ T46.heap _
    rw [e46]
    exact ⟨rfl, N46⟩
set_option maxRecDepth 65536 in
set_option maxHeartbeats 40000000 in
theorem comes_1 {Post : Tables → Env → Array Value → State → Outcome → State → Prop} (hpost : ∀ tb e args s v u, (limb_1_1.after args s (.returned v) u = true ∧ limb_1_2.after args s (.returned v) u = true ∧ True) → FrameEnd s (.returned v) u (Jvm.fieldLocs frame_1_writes args s ++ Jvm.arrayLocs frame_1_arrays args s ++ Jvm.staticLocs frame_1_statics s) 16 128 → Post tb e args s (.returned v) u) :
    ArmFor flags0 classFile x code maxLocals ret World_1 tables_1 room_1 Calls_1 rest_1 Pre_1 Post := by
  intro l hfl _ _ p e ha hc hk s m args below hf hA hF happ hP
  obtain ⟨hcalls, hrest, hpre⟩ := hP
  obtain ⟨-, -, -, hnamed, -, -, -, hat⟩ := (Spec.applies_iff hf).mp happ
  obtain ⟨hg, hn⟩ := and_e (Cond.before_iff.mp (show (Jvm.Cond.and given_1 narrow_1).before args s = true from hpre))
  obtain ⟨gc, gr0⟩ := and_e hg
  obtain ⟨ga0, gr1⟩ := and_e gr0
  obtain ⟨ga1, gr2⟩ := and_e gr1
  have ga2 := gr2
  obtain ⟨w0, w1, w2, rfl⟩ : ∃ w0 w1 w2 : Value, args = #[w0, w1, w2] := by
    have hs : args.size = 3 := by simpa [Cond.value, given_1] using gc
    obtain ⟨L⟩ := args
    match L, hs with
    | [w0, w1, w2], _ => exact ⟨w0, w1, w2, rfl⟩
  have hw := fun d (hd : d ∈ tables_1) => atoms_spec (ws := Jvm.Cond.code x code maxLocals ret :: tables_1) hat d (List.mem_cons_of_mem _ hd)
  obtain ⟨i0, ei0⟩ := is_v ga0
  obtain rfl : w0 = (.int i0) := Option.some.inj ei0
  obtain ⟨i1, ei1⟩ := is_v ga1
  obtain rfl : w1 = (.int i1) := Option.some.inj ei1
  obtain ⟨i2, ei2⟩ := is_v ga2
  obtain rfl : w2 = (.int i2) := Option.some.inj ei2
  obtain ⟨n, o, h1, h2, h3, _, L, rfl, ⟨rfl, N⟩, hq⟩ := rm0 l s _ hw tables_1 i0 i1 i2 s.heap s.heap.size (Nat.le_refl _)  p e ha hc hk s m _ below hf ((Spec.applies_iff_loose hf).mp happ).1 ⟨rfl, State.Warmed39.refl s, rfl⟩ trivial
  refine ⟨n, _, h1, h2, h3, hpost _ _ _ _ _ _ ⟨Cond.after_iff.mpr rfl, Cond.after_iff.mpr (eq_i res_at (Term.int_eval (1)) rfl), trivial⟩ ⟨hq.1, hq.2.1, (hq.2.2.sift fun y hy => Or.inr (N y hy)).mono (by decide) (by decide)⟩⟩
theorem main_1_1 : Claimed_1_1 := comes_1 fun _ _ _ _ _ _ h hF => ⟨h.1, hF⟩
theorem main_1_2 : Claimed_1_2 := comes_1 fun _ _ _ _ _ _ h hF => ⟨h.2.1, hF⟩
end Jvm.Pilot.@@N@@
namespace Jvm.Pilot.@@N@@
open Jvm Jvm.ClassFile Sem Op Lib Jvm.Free Jvm.Stand Jvm.Pilot.@@N@@.Jvm.D
/-! MADE BY PROGRAM (witnessworld.py) out of the Statement's table words and the real class files: 10 classes; the members and pool entries that the words name. The judged class is class 1, her method 1. -/
namespace start1
open Jvm.ClassFile
def u (s : String) : CpInfo := .utf8 (stringToUtf16 s)
/-- a pool by its gaps: so many unusable entries, then the entry; so many at the end -/
def gap : Nat → List CpInfo → List CpInfo
  | 0, r => r
  | n + 1, r => .unusable :: gap n r
def poolList (es : List (Nat × CpInfo)) (last : Nat) : List CpInfo := es.foldr (fun e r => gap e.1 (e.2 :: r)) (gap last [])
def pool (es : List (Nat × CpInfo)) (last : Nat) : Array CpInfo := ⟨poolList es last⟩
def fileOf (pool : Array CpInfo) (this : Nat) (attrs : Array Attribute := #[]) (ms : Array MethodInfo := #[]) (fl : Nat := 33) (sup : Nat := 0) (ifs : Array Nat := #[]) (fds : Array FieldInfo := #[]) : ClassFile where
  minorVersion := 0
  majorVersion := 65
  constantPool := pool
  accessFlags := fl
  thisClass := this
  superClass := sup
  interfaces := ifs
  fields := fds
  methods := ms
  attributes := attrs
def plain (name : String) (sup : Option ClassId) : Class where
  name := name
  kind := .ordinary
  loader := none
  accessFlags := 33
  super := sup
  interfaces := #[]
  cf := none
  fields := #[]
  methods := #[]
  instanceTypes := #[]
  staticTypes := #[]
  resolved := #[]
  callSites := []
  init := .initialized
  statics := none
  mirror := none

def pool0 : Array CpInfo := pool [(5, u "<init>"), (0, u "()V"), (1, .class_ 10), (1, u "java/lang/Object")] 113

def k0c0 : Code := { maxStack := 0, maxLocals := 1, code := object_method_1_code, exceptionTable := #[], attributes := #[] }
def k0m0 : Method := { name := "<init>", desc := "()V", sig := { parameters := [], returnType := none }, accessFlags := 1, code := some k0c0 }
/-- java/lang/Object -/
def k0 : Class := { plain "java/lang/Object" none with
  accessFlags := 33
  interfaces := #[]
  cf := some (fileOf pool0 8 #[] #[{ accessFlags := 1, nameIndex := 5, descriptorIndex := 6, attributes := #[] }] 33 0 #[] #[])
  fields := #[]
  methods := #[k0m0]
  instanceTypes := #[]
  staticTypes := #[]
  resolved := Array.replicate 124 none
  statics := none }

def pool1 : Array CpInfo := pool [(2, .class_ 4), (0, .nameAndType 5 6), (0, u "java/lang/Object"), (0, u "<init>"), (0, u "()V"), (0, .class_ 8), (0, u "com/example/ordered_scheduler/orderedscheduler/sequencing/Backlog"), (0, .methodref 7 3), (0, .class_ 11), (0, u "com/example/ordered_scheduler/orderedscheduler/sequencing/Place"), (0, .methodref 10 13), (0, .nameAndType 5 14), (0, u "(Lcom/example/ordered_scheduler/orderedscheduler/sequencing/Sequencer;Ljava/lang/Object;Ljava/lang/Runnable;Lcom/example/ordered_scheduler/orderedscheduler/sequencing/Tally;)V"), (0, .methodref 7 16), (0, .nameAndType 17 18), (0, u "isEmpty"), (0, u "()Z"), (0, .methodref 20 21), (0, .class_ 22), (0, .nameAndType 23 24), (0, u "com/example/ordered_scheduler/orderedscheduler/sequencing/BacklogIsEmptyPinLaw"), (0, u "step"), (0, u "(Lcom/example/ordered_scheduler/orderedscheduler/sequencing/Backlog;Lcom/example/ordered_scheduler/orderedscheduler/sequencing/Place;Lcom/example/ordered_scheduler/orderedscheduler/sequencing/Place;II)I"), (0, .methodref 7 26), (0, .nameAndType 27 28), (0, u "remove"), (0, u "(Lcom/example/ordered_scheduler/orderedscheduler/sequencing/Place;)Z"), (0, .methodref 7 30), (0, .nameAndType 31 32), (0, u "add"), (0, u "(Lcom/example/ordered_scheduler/orderedscheduler/sequencing/Place;)V"), (0, .methodref 7 34), (0, .nameAndType 35 36), (0, u "poll"), (0, u "()Lcom/example/ordered_scheduler/orderedscheduler/sequencing/Place;"), (2, u "law"), (0, u "(III)Z")] 3

def k1m0 : Method := { name := "<init>", desc := "()V", sig := { parameters := [], returnType := none }, accessFlags := 1, code := none }
def k1c1 : Code := { maxStack := 6, maxLocals := 7, code := code, exceptionTable := #[], attributes := #[] }
def k1m1 : Method := { name := "law", desc := "(III)Z", sig := { parameters := [.int, .int, .int], returnType := some .boolean }, accessFlags := 9, code := some k1c1 }
def k1c2 : Code := { maxStack := 2, maxLocals := 10, code := method_3_code, exceptionTable := #[], attributes := #[] }
def k1m2 : Method := { name := "step", desc := "(Lcom/example/ordered_scheduler/orderedscheduler/sequencing/Backlog;Lcom/example/ordered_scheduler/orderedscheduler/sequencing/Place;Lcom/example/ordered_scheduler/orderedscheduler/sequencing/Place;II)I", sig := { parameters := [(.object "com/example/ordered_scheduler/orderedscheduler/sequencing/Backlog"), (.object "com/example/ordered_scheduler/orderedscheduler/sequencing/Place"), (.object "com/example/ordered_scheduler/orderedscheduler/sequencing/Place"), .int, .int], returnType := some .int }, accessFlags := 10, code := some k1c2 }
/-- com/example/ordered_scheduler/orderedscheduler/sequencing/BacklogIsEmptyPinLaw -/
def k1 : Class := { plain "com/example/ordered_scheduler/orderedscheduler/sequencing/BacklogIsEmptyPinLaw" (some 0) with
  accessFlags := 49
  interfaces := #[]
  cf := some (fileOf pool1 20 #[] #[{ accessFlags := 1, nameIndex := 5, descriptorIndex := 6, attributes := #[] }, { accessFlags := 9, nameIndex := 39, descriptorIndex := 40, attributes := #[] }, { accessFlags := 10, nameIndex := 23, descriptorIndex := 24, attributes := #[] }] 49 2 #[] #[])
  fields := #[]
  methods := #[k1m0, k1m1, k1m2]
  instanceTypes := #[]
  staticTypes := #[]
  resolved := Array.replicate 44 none
  statics := none }

def pool2 : Array CpInfo := pool [(1, .methodref 2 3), (0, .class_ 4), (0, .nameAndType 5 6), (0, u "java/lang/Object"), (0, u "<init>"), (0, u "()V"), (0, .fieldref 8 9), (0, .class_ 10), (0, .nameAndType 11 12), (0, u "com/example/ordered_scheduler/orderedscheduler/sequencing/Backlog"), (0, u "first"), (0, u "Lcom/example/ordered_scheduler/orderedscheduler/sequencing/Place;"), (0, .fieldref 8 14), (0, .nameAndType 15 12), (0, u "last"), (0, .fieldref 17 18), (0, .class_ 19), (0, .nameAndType 20 21), (0, u "com/example/ordered_scheduler/orderedscheduler/sequencing/Place"), (0, u "in"), (0, u "Lcom/example/ordered_scheduler/orderedscheduler/sequencing/Backlog;"), (0, .fieldref 17 23), (0, .nameAndType 24 12), (0, u "before"), (0, .fieldref 17 26), (0, .nameAndType 27 12), (0, u "after"), (0, .methodref 8 29), (0, .nameAndType 30 31), (0, u "unlink"), (0, u "(Lcom/example/ordered_scheduler/orderedscheduler/sequencing/Place;)V"), (11, u "add"), (3, u "isEmpty"), (0, u "()Z"), (1, u "()Lcom/example/ordered_scheduler/orderedscheduler/sequencing/Place;"), (0, u "poll"), (4, u "remove"), (0, u "(Lcom/example/ordered_scheduler/orderedscheduler/sequencing/Place;)Z")] 2

def k2c0 : Code := { maxStack := 1, maxLocals := 1, code := prog_10_method_1_code, exceptionTable := #[], attributes := #[] }
def k2m0 : Method := { name := "<init>", desc := "()V", sig := { parameters := [], returnType := none }, accessFlags := 0, code := some k2c0 }
def k2c1 : Code := { maxStack := 1, maxLocals := 1, code := prog_10_method_2_code, exceptionTable := #[], attributes := #[] }
def k2m1 : Method := { name := "isEmpty", desc := "()Z", sig := { parameters := [], returnType := some .boolean }, accessFlags := 0, code := some k2c1 }
def k2c2 : Code := { maxStack := 2, maxLocals := 2, code := prog_10_method_5_code, exceptionTable := #[], attributes := #[] }
def k2m2 : Method := { name := "add", desc := "(Lcom/example/ordered_scheduler/orderedscheduler/sequencing/Place;)V", sig := { parameters := [(.object "com/example/ordered_scheduler/orderedscheduler/sequencing/Place")], returnType := none }, accessFlags := 0, code := some k2c2 }
def k2c3 : Code := { maxStack := 2, maxLocals := 2, code := prog_10_method_6_code, exceptionTable := #[], attributes := #[] }
def k2m3 : Method := { name := "poll", desc := "()Lcom/example/ordered_scheduler/orderedscheduler/sequencing/Place;", sig := { parameters := [], returnType := some (.object "com/example/ordered_scheduler/orderedscheduler/sequencing/Place") }, accessFlags := 0, code := some k2c3 }
def k2c4 : Code := { maxStack := 2, maxLocals := 3, code := prog_10_method_8_code, exceptionTable := #[], attributes := #[] }
def k2m4 : Method := { name := "remove", desc := "(Lcom/example/ordered_scheduler/orderedscheduler/sequencing/Place;)Z", sig := { parameters := [(.object "com/example/ordered_scheduler/orderedscheduler/sequencing/Place")], returnType := some .boolean }, accessFlags := 0, code := some k2c4 }
def k2c5 : Code := { maxStack := 2, maxLocals := 2, code := prog_10_method_9_code, exceptionTable := #[], attributes := #[] }
def k2m5 : Method := { name := "unlink", desc := "(Lcom/example/ordered_scheduler/orderedscheduler/sequencing/Place;)V", sig := { parameters := [(.object "com/example/ordered_scheduler/orderedscheduler/sequencing/Place")], returnType := none }, accessFlags := 2, code := some k2c5 }
/-- com/example/ordered_scheduler/orderedscheduler/sequencing/Backlog -/
def k2 : Class := { plain "com/example/ordered_scheduler/orderedscheduler/sequencing/Backlog" (some 0) with
  accessFlags := 48
  interfaces := #[]
  cf := some (fileOf pool2 8 #[] #[{ accessFlags := 0, nameIndex := 5, descriptorIndex := 6, attributes := #[] }, { accessFlags := 0, nameIndex := 47, descriptorIndex := 48, attributes := #[] }, { accessFlags := 0, nameIndex := 43, descriptorIndex := 31, attributes := #[] }, { accessFlags := 0, nameIndex := 51, descriptorIndex := 50, attributes := #[] }, { accessFlags := 0, nameIndex := 56, descriptorIndex := 57, attributes := #[] }, { accessFlags := 2, nameIndex := 30, descriptorIndex := 31, attributes := #[] }] 48 2 #[] #[{ accessFlags := 2, nameIndex := 11, descriptorIndex := 12, attributes := #[] }, { accessFlags := 2, nameIndex := 15, descriptorIndex := 12, attributes := #[] }])
  fields := #[{ name := "first", type := (.object "com/example/ordered_scheduler/orderedscheduler/sequencing/Place"), accessFlags := 2, slot := 0, constantValue := 0 }, { name := "last", type := (.object "com/example/ordered_scheduler/orderedscheduler/sequencing/Place"), accessFlags := 2, slot := 1, constantValue := 0 }]
  methods := #[k2m0, k2m1, k2m2, k2m3, k2m4, k2m5]
  instanceTypes := #[(.object "com/example/ordered_scheduler/orderedscheduler/sequencing/Place"), (.object "com/example/ordered_scheduler/orderedscheduler/sequencing/Place")]
  staticTypes := #[]
  resolved := Array.replicate 60 none
  statics := none }

def pool3 : Array CpInfo := pool [(1, .methodref 2 3), (0, .class_ 4), (0, .nameAndType 5 6), (0, u "java/lang/Object"), (0, u "<init>"), (0, u "()V"), (0, .fieldref 8 9), (0, .class_ 10), (0, .nameAndType 11 12), (0, u "com/example/ordered_scheduler/orderedscheduler/sequencing/Place"), (0, u "sequencer"), (0, u "Lcom/example/ordered_scheduler/orderedscheduler/sequencing/Sequencer;"), (0, .fieldref 8 14), (0, .nameAndType 15 16), (0, u "key"), (0, u "Ljava/lang/Object;"), (0, .fieldref 8 18), (0, .nameAndType 19 20), (0, u "task"), (0, u "Ljava/lang/Runnable;"), (0, .fieldref 8 22), (0, .nameAndType 23 24), (0, u "tally"), (0, u "Lcom/example/ordered_scheduler/orderedscheduler/sequencing/Tally;"), (8, u "state"), (0, u "I"), (2, u "STATE"), (0, u "Ljava/lang/invoke/VarHandle;"), (40, u "QUEUED"), (2, u "STARTED"), (1, u "TAKEN_OUT"), (1, u "alarm"), (0, u "Lcom/example/ordered_scheduler/orderedscheduler/timing/Alarm;"), (0, u "queue"), (0, u "Lcom/example/ordered_scheduler/orderedscheduler/sequencing/Sequencer$KeyQueue;"), (0, u "in"), (0, u "Lcom/example/ordered_scheduler/orderedscheduler/sequencing/Backlog;"), (0, u "before"), (0, u "Lcom/example/ordered_scheduler/orderedscheduler/sequencing/Place;"), (0, u "after"), (0, u "(Lcom/example/ordered_scheduler/orderedscheduler/sequencing/Sequencer;Ljava/lang/Object;Ljava/lang/Runnable;Lcom/example/ordered_scheduler/orderedscheduler/sequencing/Tally;)V")] 17

def k3c0 : Code := { maxStack := 2, maxLocals := 5, code := prog_13_method_1_code, exceptionTable := #[], attributes := #[] }
def k3m0 : Method := { name := "<init>", desc := "(Lcom/example/ordered_scheduler/orderedscheduler/sequencing/Sequencer;Ljava/lang/Object;Ljava/lang/Runnable;Lcom/example/ordered_scheduler/orderedscheduler/sequencing/Tally;)V", sig := { parameters := [(.object "com/example/ordered_scheduler/orderedscheduler/sequencing/Sequencer"), (.object "java/lang/Object"), (.object "java/lang/Runnable"), (.object "com/example/ordered_scheduler/orderedscheduler/sequencing/Tally")], returnType := none }, accessFlags := 0, code := some k3c0 }
/-- com/example/ordered_scheduler/orderedscheduler/sequencing/Place -/
def k3 : Class := { plain "com/example/ordered_scheduler/orderedscheduler/sequencing/Place" (some 0) with
  accessFlags := 49
  interfaces := #[]
  cf := some (fileOf pool3 8 #[] #[{ accessFlags := 0, nameIndex := 5, descriptorIndex := 95, attributes := #[] }] 49 2 #[] #[{ accessFlags := 24, nameIndex := 79, descriptorIndex := 34, attributes := #[] }, { accessFlags := 24, nameIndex := 82, descriptorIndex := 34, attributes := #[] }, { accessFlags := 24, nameIndex := 84, descriptorIndex := 34, attributes := #[] }, { accessFlags := 26, nameIndex := 37, descriptorIndex := 38, attributes := #[] }, { accessFlags := 18, nameIndex := 11, descriptorIndex := 12, attributes := #[] }, { accessFlags := 16, nameIndex := 15, descriptorIndex := 16, attributes := #[] }, { accessFlags := 0, nameIndex := 19, descriptorIndex := 20, attributes := #[] }, { accessFlags := 16, nameIndex := 23, descriptorIndex := 24, attributes := #[] }, { accessFlags := 0, nameIndex := 86, descriptorIndex := 87, attributes := #[] }, { accessFlags := 0, nameIndex := 88, descriptorIndex := 89, attributes := #[] }, { accessFlags := 0, nameIndex := 90, descriptorIndex := 91, attributes := #[] }, { accessFlags := 0, nameIndex := 92, descriptorIndex := 93, attributes := #[] }, { accessFlags := 0, nameIndex := 94, descriptorIndex := 93, attributes := #[] }, { accessFlags := 66, nameIndex := 33, descriptorIndex := 34, attributes := #[] }])
  fields := #[{ name := "QUEUED", type := .int, accessFlags := 24, slot := 0, constantValue := 0 }, { name := "STARTED", type := .int, accessFlags := 24, slot := 1, constantValue := 0 }, { name := "TAKEN_OUT", type := .int, accessFlags := 24, slot := 2, constantValue := 0 }, { name := "STATE", type := (.object "java/lang/invoke/VarHandle"), accessFlags := 26, slot := 3, constantValue := 0 }, { name := "sequencer", type := (.object "com/example/ordered_scheduler/orderedscheduler/sequencing/Sequencer"), accessFlags := 18, slot := 0, constantValue := 0 }, { name := "key", type := (.object "java/lang/Object"), accessFlags := 16, slot := 1, constantValue := 0 }, { name := "task", type := (.object "java/lang/Runnable"), accessFlags := 0, slot := 2, constantValue := 0 }, { name := "tally", type := (.object "com/example/ordered_scheduler/orderedscheduler/sequencing/Tally"), accessFlags := 16, slot := 3, constantValue := 0 }, { name := "alarm", type := (.object "com/example/ordered_scheduler/orderedscheduler/timing/Alarm"), accessFlags := 0, slot := 4, constantValue := 0 }, { name := "queue", type := (.object "com/example/ordered_scheduler/orderedscheduler/sequencing/Sequencer$KeyQueue"), accessFlags := 0, slot := 5, constantValue := 0 }, { name := "in", type := (.object "com/example/ordered_scheduler/orderedscheduler/sequencing/Backlog"), accessFlags := 0, slot := 6, constantValue := 0 }, { name := "before", type := (.object "com/example/ordered_scheduler/orderedscheduler/sequencing/Place"), accessFlags := 0, slot := 7, constantValue := 0 }, { name := "after", type := (.object "com/example/ordered_scheduler/orderedscheduler/sequencing/Place"), accessFlags := 0, slot := 8, constantValue := 0 }, { name := "state", type := .int, accessFlags := 66, slot := 9, constantValue := 0 }]
  methods := #[k3m0]
  instanceTypes := #[(.object "com/example/ordered_scheduler/orderedscheduler/sequencing/Sequencer"), (.object "java/lang/Object"), (.object "java/lang/Runnable"), (.object "com/example/ordered_scheduler/orderedscheduler/sequencing/Tally"), (.object "com/example/ordered_scheduler/orderedscheduler/timing/Alarm"), (.object "com/example/ordered_scheduler/orderedscheduler/sequencing/Sequencer$KeyQueue"), (.object "com/example/ordered_scheduler/orderedscheduler/sequencing/Backlog"), (.object "com/example/ordered_scheduler/orderedscheduler/sequencing/Place"), (.object "com/example/ordered_scheduler/orderedscheduler/sequencing/Place"), .int]
  staticTypes := #[.int, .int, .int, (.object "java/lang/invoke/VarHandle")]
  resolved := Array.replicate 113 none
  statics := none }

def pool4 : Array CpInfo := pool [(1, u "java/lang/Cloneable"), (0, .class_ 1), (0, u "java/lang/Object"), (0, .class_ 3)] 3

/-- java/lang/Cloneable -/
def k4 : Class := { plain "java/lang/Cloneable" (some 0) with
  accessFlags := 1537
  interfaces := #[]
  cf := some (fileOf pool4 2 #[] #[] 1537 4 #[] #[])
  fields := #[]
  methods := #[]
  instanceTypes := #[]
  staticTypes := #[]
  resolved := Array.replicate 8 none
  statics := none }

def pool5 : Array CpInfo := pool [(1, u "java/io/Serializable"), (0, .class_ 1), (0, u "java/lang/Object"), (0, .class_ 3)] 3

/-- java/io/Serializable -/
def k5 : Class := { plain "java/io/Serializable" (some 0) with
  accessFlags := 1537
  interfaces := #[]
  cf := some (fileOf pool5 2 #[] #[] 1537 4 #[] #[])
  fields := #[]
  methods := #[]
  instanceTypes := #[]
  staticTypes := #[]
  resolved := Array.replicate 8 none
  statics := none }

/-- the primitive byte -/
def k6 : Class := { plain "byte" none with kind := .primitive 'B', accessFlags := 0x411 }
/-- [B -/
def k7 : Class := { plain "[B" (some 0) with kind := .array 6 .byte, interfaces := #[4, 5], accessFlags := 1041 }

/-- the primitive int -/
def k8 : Class := { plain "int" none with kind := .primitive 'I', accessFlags := 0x411 }
/-- [I -/
def k9 : Class := { plain "[I" (some 0) with kind := .array 8 .int, interfaces := #[4, 5], accessFlags := 1041 }

def heap : Heap := #[]
def classes : Array Class := #[k0, k1, k2, k3, k4, k5, k6, k7, k8, k9]
def interned : List (Array UInt16 × Addr) := []
def slotsUsed : Nat := 0
def theMethod : MethodId := ⟨1, 1⟩
def args0 : Array Value := #[.int 5, .int 6, .int 7]
def aboutOver (below : List Frame) : State where
  vm := { classes := classes, interned := interned.toArray }
  heap := heap
  slotsUsed := slotsUsed
  threads := #[{ frames := .invoking theMethod args0 :: below }]
def below0 : List Frame := [.native { method := ⟨0, 0⟩, args := #[] }]
def about1 : State := aboutOver below0
def p0 : Program := .bare "" "" ""
def e0 : Env := launch0.env 0 0 0
theorem w_frames : about1.frames = Frame.invoking theMethod args0 :: below0 := rfl
set_option maxRecDepth 65536 in
theorem w_args : argsFit about1.vm theMethod args0 = true := by decide +kernel
set_option maxRecDepth 65536 in
theorem w_heap : heapFits about1 = true := by decide +kernel
set_option maxRecDepth 65536 in
theorem w_runnable : about1.curStatus? = some .runnable := by decide +kernel
set_option maxRecDepth 65536 in
theorem w_alone : about1.alone = true := by decide +kernel
set_option maxRecDepth 65536 in
theorem w_named : about1.methodNamed? x = some theMethod := by decide +kernel
set_option maxRecDepth 65536 in
theorem w_hears : about1.hears theMethod below0 = true := by decide +kernel
set_option maxRecDepth 65536 in
theorem w_ripe : about1.ripe theMethod args0 below0 = true := by decide +kernel
theorem w_running : about1.status = .running := rfl
set_option maxRecDepth 65536 in
theorem w_room : about1.hasRoom e0.platform room_1 = true :=
  launch0.hasRoom_least _ room_1 (by decide +kernel) (by decide +kernel) (by decide +kernel) (by decide +kernel) (by decide +kernel) (by decide +kernel)
theorem allAtoms_all (ts : List Jvm.Cond) (a : Array Jvm.Value) (st : Jvm.State) : (allAtoms ts).before a st = ts.all (fun c => c.before a st) := by
  induction ts with
  | nil => rfl
  | cons c t ih =>
    show (Jvm.Cond.and c (allAtoms t)).before a st = _
    rw [Jvm.Cond.before_and, ih, List.all_cons]
def words1 : List Jvm.Cond := Jvm.Cond.code x code maxLocals ret :: tables_1
/-- a 'code' word, met by the world's own term for the bytes: nothing is compared byte by byte -/
theorem code_word {y : MethodName} {bytes : ByteArray} {mx : Nat} {rt : Option FieldType} {a : Array Value} {s : State} {m : MethodId} {meth : Method} {c : Code} (h1 : s.methodNamed? y = some m) (h2 : s.vm.method? m = some meth) (h3 : meth.code = some c) (h4 : c.code = bytes)
    (h5 : (c.maxLocals == mx && c.exceptionTable.isEmpty && decide (c.maxStack ≤ mostOperands) && decide (meth.sig.returnType = rt) && !meth.locks && decide (parseMethodDescriptor y.desc = some meth.sig)) = true) : (Jvm.Cond.code y bytes mx rt).before a s = true := by
  simp only [Bool.and_eq_true, beq_iff_eq, Bool.not_eq_true', decide_eq_true_eq] at h5
  obtain ⟨⟨⟨⟨⟨g1, g2⟩, g3⟩, g4⟩, g5⟩, g6⟩ := h5
  simp [Cond.before, Cond.holds, Cond.value, h1, h2, h3, h4, g1, g2, g3, g4, g5, g6]
def isCode : Jvm.Cond → Bool
  | .code _ _ _ _ => true
  | _ => false
theorem all_split {L : List Jvm.Cond} {P : Jvm.Cond → Bool} (h1 : L.all (fun c => isCode c || P c) = true) (h2 : ∀ c ∈ L.filter isCode, P c = true) : L.all P = true := by
  refine List.all_eq_true.mpr fun c hc => ?_
  have h := List.all_eq_true.mp h1 c hc
  rcases Bool.eq_false_or_eq_true (isCode c) with hi | hi
  · exact h2 c (List.mem_filter.mpr ⟨hc, hi⟩)
  · simpa [hi] using h
set_option maxRecDepth 65536 in
theorem w_c0 : (Jvm.Cond.code x code maxLocals ret).before args0 about1 = true := code_word (m := ⟨1, 1⟩) (meth := k1m1) (c := k1c1) (by decide +kernel) rfl rfl rfl (by decide +kernel)
set_option maxRecDepth 65536 in
theorem w_c1 : (Jvm.Cond.code ({ cls := "com/example/ordered_scheduler/orderedscheduler/sequencing/Backlog", name := "<init>", desc := "()V" } : Jvm.MethodName) prog_10_method_1_code (1 : Nat) (Option.none : Option Jvm.ClassFile.FieldType)).before args0 about1 = true := code_word (m := ⟨2, 0⟩) (meth := k2m0) (c := k2c0) (by decide +kernel) rfl rfl rfl (by decide +kernel)
set_option maxRecDepth 65536 in
theorem w_c2 : (Jvm.Cond.code ({ cls := "java/lang/Object", name := "<init>", desc := "()V" } : Jvm.MethodName) object_method_1_code (1 : Nat) (Option.none : Option Jvm.ClassFile.FieldType)).before args0 about1 = true := code_word (m := ⟨0, 0⟩) (meth := k0m0) (c := k0c0) (by decide +kernel) rfl rfl rfl (by decide +kernel)
set_option maxRecDepth 65536 in
theorem w_c3 : (Jvm.Cond.code ({ cls := "com/example/ordered_scheduler/orderedscheduler/sequencing/Place", name := "<init>", desc := "(Lcom/example/ordered_scheduler/orderedscheduler/sequencing/Sequencer;Ljava/lang/Object;Ljava/lang/Runnable;Lcom/example/ordered_scheduler/orderedscheduler/sequencing/Tally;)V" } : Jvm.MethodName) prog_13_method_1_code (5 : Nat) (Option.none : Option Jvm.ClassFile.FieldType)).before args0 about1 = true := code_word (m := ⟨3, 0⟩) (meth := k3m0) (c := k3c0) (by decide +kernel) rfl rfl rfl (by decide +kernel)
set_option maxRecDepth 65536 in
theorem w_c4 : (Jvm.Cond.code ({ cls := "com/example/ordered_scheduler/orderedscheduler/sequencing/Backlog", name := "isEmpty", desc := "()Z" } : Jvm.MethodName) prog_10_method_2_code (1 : Nat) (Option.some Jvm.ClassFile.FieldType.boolean)).before args0 about1 = true := code_word (m := ⟨2, 1⟩) (meth := k2m1) (c := k2c1) (by decide +kernel) rfl rfl rfl (by decide +kernel)
set_option maxRecDepth 65536 in
theorem w_c5 : (Jvm.Cond.code ({ cls := "com/example/ordered_scheduler/orderedscheduler/sequencing/BacklogIsEmptyPinLaw", name := "step", desc := "(Lcom/example/ordered_scheduler/orderedscheduler/sequencing/Backlog;Lcom/example/ordered_scheduler/orderedscheduler/sequencing/Place;Lcom/example/ordered_scheduler/orderedscheduler/sequencing/Place;II)I" } : Jvm.MethodName) method_3_code (10 : Nat) (Option.some Jvm.ClassFile.FieldType.int)).before args0 about1 = true := code_word (m := ⟨1, 2⟩) (meth := k1m2) (c := k1c2) (by decide +kernel) rfl rfl rfl (by decide +kernel)
set_option maxRecDepth 65536 in
theorem w_c6 : (Jvm.Cond.code ({ cls := "com/example/ordered_scheduler/orderedscheduler/sequencing/Backlog", name := "add", desc := "(Lcom/example/ordered_scheduler/orderedscheduler/sequencing/Place;)V" } : Jvm.MethodName) prog_10_method_5_code (2 : Nat) (Option.none : Option Jvm.ClassFile.FieldType)).before args0 about1 = true := code_word (m := ⟨2, 2⟩) (meth := k2m2) (c := k2c2) (by decide +kernel) rfl rfl rfl (by decide +kernel)
set_option maxRecDepth 65536 in
theorem w_c7 : (Jvm.Cond.code ({ cls := "com/example/ordered_scheduler/orderedscheduler/sequencing/Backlog", name := "remove", desc := "(Lcom/example/ordered_scheduler/orderedscheduler/sequencing/Place;)Z" } : Jvm.MethodName) prog_10_method_8_code (3 : Nat) (Option.some Jvm.ClassFile.FieldType.boolean)).before args0 about1 = true := code_word (m := ⟨2, 4⟩) (meth := k2m4) (c := k2c4) (by decide +kernel) rfl rfl rfl (by decide +kernel)
set_option maxRecDepth 65536 in
theorem w_c8 : (Jvm.Cond.code ({ cls := "com/example/ordered_scheduler/orderedscheduler/sequencing/Backlog", name := "unlink", desc := "(Lcom/example/ordered_scheduler/orderedscheduler/sequencing/Place;)V" } : Jvm.MethodName) prog_10_method_9_code (2 : Nat) (Option.none : Option Jvm.ClassFile.FieldType)).before args0 about1 = true := code_word (m := ⟨2, 5⟩) (meth := k2m5) (c := k2c5) (by decide +kernel) rfl rfl rfl (by decide +kernel)
set_option maxRecDepth 65536 in
theorem w_c9 : (Jvm.Cond.code ({ cls := "com/example/ordered_scheduler/orderedscheduler/sequencing/Backlog", name := "poll", desc := "()Lcom/example/ordered_scheduler/orderedscheduler/sequencing/Place;" } : Jvm.MethodName) prog_10_method_6_code (2 : Nat) (Option.some (Jvm.ClassFile.FieldType.object "com/example/ordered_scheduler/orderedscheduler/sequencing/Place"))).before args0 about1 = true := code_word (m := ⟨2, 3⟩) (meth := k2m3) (c := k2c3) (by decide +kernel) rfl rfl rfl (by decide +kernel)
def codes1 : List Jvm.Cond := [Jvm.Cond.code x code maxLocals ret, Jvm.Cond.code ({ cls := "com/example/ordered_scheduler/orderedscheduler/sequencing/Backlog", name := "<init>", desc := "()V" } : Jvm.MethodName) prog_10_method_1_code (1 : Nat) (Option.none : Option Jvm.ClassFile.FieldType), Jvm.Cond.code ({ cls := "java/lang/Object", name := "<init>", desc := "()V" } : Jvm.MethodName) object_method_1_code (1 : Nat) (Option.none : Option Jvm.ClassFile.FieldType), Jvm.Cond.code ({ cls := "com/example/ordered_scheduler/orderedscheduler/sequencing/Place", name := "<init>", desc := "(Lcom/example/ordered_scheduler/orderedscheduler/sequencing/Sequencer;Ljava/lang/Object;Ljava/lang/Runnable;Lcom/example/ordered_scheduler/orderedscheduler/sequencing/Tally;)V" } : Jvm.MethodName) prog_13_method_1_code (5 : Nat) (Option.none : Option Jvm.ClassFile.FieldType), Jvm.Cond.code ({ cls := "com/example/ordered_scheduler/orderedscheduler/sequencing/Backlog", name := "isEmpty", desc := "()Z" } : Jvm.MethodName) prog_10_method_2_code (1 : Nat) (Option.some Jvm.ClassFile.FieldType.boolean), Jvm.Cond.code ({ cls := "com/example/ordered_scheduler/orderedscheduler/sequencing/BacklogIsEmptyPinLaw", name := "step", desc := "(Lcom/example/ordered_scheduler/orderedscheduler/sequencing/Backlog;Lcom/example/ordered_scheduler/orderedscheduler/sequencing/Place;Lcom/example/ordered_scheduler/orderedscheduler/sequencing/Place;II)I" } : Jvm.MethodName) method_3_code (10 : Nat) (Option.some Jvm.ClassFile.FieldType.int), Jvm.Cond.code ({ cls := "com/example/ordered_scheduler/orderedscheduler/sequencing/Backlog", name := "add", desc := "(Lcom/example/ordered_scheduler/orderedscheduler/sequencing/Place;)V" } : Jvm.MethodName) prog_10_method_5_code (2 : Nat) (Option.none : Option Jvm.ClassFile.FieldType), Jvm.Cond.code ({ cls := "com/example/ordered_scheduler/orderedscheduler/sequencing/Backlog", name := "remove", desc := "(Lcom/example/ordered_scheduler/orderedscheduler/sequencing/Place;)Z" } : Jvm.MethodName) prog_10_method_8_code (3 : Nat) (Option.some Jvm.ClassFile.FieldType.boolean), Jvm.Cond.code ({ cls := "com/example/ordered_scheduler/orderedscheduler/sequencing/Backlog", name := "unlink", desc := "(Lcom/example/ordered_scheduler/orderedscheduler/sequencing/Place;)V" } : Jvm.MethodName) prog_10_method_9_code (2 : Nat) (Option.none : Option Jvm.ClassFile.FieldType), Jvm.Cond.code ({ cls := "com/example/ordered_scheduler/orderedscheduler/sequencing/Backlog", name := "poll", desc := "()Lcom/example/ordered_scheduler/orderedscheduler/sequencing/Place;" } : Jvm.MethodName) prog_10_method_6_code (2 : Nat) (Option.some (Jvm.ClassFile.FieldType.object "com/example/ordered_scheduler/orderedscheduler/sequencing/Place"))]
set_option maxRecDepth 65536 in
theorem codes_eq : words1.filter isCode = codes1 := rfl
theorem w_codes : ∀ c ∈ words1.filter isCode, c.before args0 about1 = true := by
  rw [codes_eq]
  intro c hc
  simp only [codes1, List.mem_cons, List.not_mem_nil, or_false] at hc
  rcases hc with rfl | rfl | rfl | rfl | rfl | rfl | rfl | rfl | rfl | rfl
  · exact w_c0
  · exact w_c1
  · exact w_c2
  · exact w_c3
  · exact w_c4
  · exact w_c5
  · exact w_c6
  · exact w_c7
  · exact w_c8
  · exact w_c9
set_option maxRecDepth 65536 in
theorem w_t1 : (words1.take 24).all (fun c => isCode c || c.before args0 about1) = true := by decide +kernel
set_option maxRecDepth 65536 in
theorem w_t2 : ((words1.drop 24).take 24).all (fun c => isCode c || c.before args0 about1) = true := by decide +kernel
set_option maxRecDepth 65536 in
theorem w_t3 : ((words1.drop 24).drop 24).all (fun c => isCode c || c.before args0 about1) = true := by decide +kernel
theorem w_tables : (allAtoms (Jvm.Cond.code x code maxLocals ret :: tables_1)).before args0 about1 = true := by
  rw [allAtoms_all]
  show words1.all (fun c => c.before args0 about1) = true
  refine all_split ?_ w_codes
  rw [← List.take_append_drop 24 words1, List.all_append, w_t1, ← List.take_append_drop 24 (words1.drop 24), List.all_append, w_t2, w_t3]
  rfl
set_option maxRecDepth 65536 in
theorem w_case : (Jvm.Cond.and given_1 narrow_1).before args0 about1 = true := by decide +kernel
theorem w_applies : (headSpec (Jvm.Cond.code x code maxLocals ret :: tables_1) room_1).applies x e0.platform about1 = true :=
  (Spec.applies_iff w_frames).mpr ⟨w_running, w_runnable, w_alone, w_named, w_hears, w_ripe, w_room, w_tables⟩
theorem atStart : AtStart classFile x code maxLocals ret World_1 tables_1 room_1 Calls_1 rest_1 Pre_1 launch0 p0 e0 about1 theMethod args0 below0 :=
  ⟨lists_1, trivial, launch0.admits_env _ _ _, launch0.least_env, fairChoices_fair.cas, fairChoices_fair.clock, w_frames, w_args, w_heap, w_applies, trivial, trivial, w_case⟩
end start1
theorem witness_1 : WitnessClaimed_1 := ⟨start1.p0, start1.e0, start1.about1, start1.theMethod, start1.args0, start1.below0, start1.atStart⟩
end Jvm.Pilot.@@N@@
