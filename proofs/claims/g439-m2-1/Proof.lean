import JvmDerived
import JvmDerived.Pilot.@@N@@Statement
import JvmDerived.Pilot.@@N@@Code
set_option linter.unusedVariables false
set_option linter.unusedSimpArgs false
namespace Jvm.Pilot.@@N@@
open Jvm Jvm.ClassFile Sem Op Lib Jvm.Free Jvm.Stand Jvm.LawKit Jvm.RoadKit Bundle Jvm.Pilot.@@N@@.Jvm.D
theorem own_w {a0 : Array Value} {Z : State} (hw : ∀ d ∈ tables_1, d.before a0 Z = true) (i : Nat) {d : Jvm.Cond} (h : tables_1[i]? = some d) : d.before a0 Z = true := hw _ (List.mem_of_getElem? h)
abbrev oS (p : Program) (e : Env) (b : List Frame) (T : State) (m : MethodId) (pc : Nat) (L : Array Slot) (S : List Value) (t : State) : Prop := Steps p.tables e b (T.setTop (mkF m pc L S)) t
abbrev lv (x : Int64) : Slot := .val (.long x)
theorem own_join {α : Type} {p : Program} {l : Launch} {e : Env} {R : Room} {s : State} {m : MethodId} {args : Array Value} {below : List Frame} {meth : Method} {c : Code} {T : State} {locs : List Loc} {cells slots n0 : Nat} {h : Heap}
    (_ : Stand p l e R s m args below meth c T locs cells slots) (_ : Fr n0 locs) (_ : T.heap = h) (A : JFrame) (B : α → JFrame) (P : α → Prop)
    (k : ∃ (v : α) (T' : State) (locs' : List Loc), P v ∧ Fr n0 locs' ∧ Stand p l e R s m args below meth c T' locs' cells slots ∧ T'.heap = h ∧ ∀ t, Steps p.tables e below (T'.setTop (B v)) t → Steps p.tables e below (T.setTop A) t) :
    ∃ (v : α) (T' : State) (locs' : List Loc), P v ∧ Fr n0 locs' ∧ Stand p l e R s m args below meth c T' locs' cells slots ∧ T'.heap = h ∧ ∀ t, Steps p.tables e below (T'.setTop (B v)) t → Steps p.tables e below (T.setTop A) t := k
theorem own_joinH {α : Type} {p : Program} {l : Launch} {e : Env} {R : Room} {s : State} {m : MethodId} {args : Array Value} {below : List Frame} {meth : Method} {c : Code} {T : State} {locs : List Loc} {cells slots n0 : Nat} {h : Heap}
    (_ : Stand p l e R s m args below meth c T locs cells slots) (_ : Fr n0 locs) (_ : T.heap = h) (A : JFrame) (B : α → JFrame) (P : α → Heap → Prop)
    (k : ∃ (v : α) (T' : State) (h' : Heap) (locs' : List Loc), P v h' ∧ Fr n0 locs' ∧ Stand p l e R s m args below meth c T' locs' cells slots ∧ T'.heap = h' ∧ ∀ t, Steps p.tables e below (T'.setTop (B v)) t → Steps p.tables e below (T.setTop A) t) :
    ∃ (v : α) (T' : State) (h' : Heap) (locs' : List Loc), P v h' ∧ Fr n0 locs' ∧ Stand p l e R s m args below meth c T' locs' cells slots ∧ T'.heap = h' ∧ ∀ t, Steps p.tables e below (T'.setTop (B v)) t → Steps p.tables e below (T.setTop A) t := k
theorem own_selp {s Z : State} {a0 args : Array Value} {y : MethodName} {n : Nat} (hZ : Z.Warmed39 s.vm) (wi : (Cond.instantiable y.cls n).before a0 Z = true) (wp : (Cond.privateMethod y).before a0 Z = true) (wm : (Cond.instanceMethod y).before a0 Z = true)
    (hy : y.cls ≠ "java/lang/invoke/MethodHandle" ∧ y.cls ≠ "java/lang/invoke/VarHandle") : (Cond.selects y.cls y y).before args s = true := by
  have wi' : (Cond.instantiable y.cls n).before args s = true := mvT hZ wi
  obtain ⟨c, k, h1, h2, h3, h4, -⟩ := Cond.instantiable_spec wi'
  exact Stand.selects_self_of_private h1 h2 (Bool.or_eq_false_iff.mp h4).1 (Cond.privateMethod_at (mvP hZ wp (args := #[]))) (mvT hZ wm) hy
abbrev oz0 : String := "com/example/ordered_scheduler/orderedscheduler/sequencing/Place"
abbrev oz1 : String := "com/example/ordered_scheduler/orderedscheduler/sequencing/Backlog"
abbrev oz2 : String := "Lcom/example/ordered_scheduler/orderedscheduler/sequencing/Place;"
abbrev oz3 : String := "(Lcom/example/ordered_scheduler/orderedscheduler/sequencing/Backlog;[Lcom/example/ordered_scheduler/orderedscheduler/sequencing/Place;II)Z"
abbrev oz4 : String := "com/example/ordered_scheduler/orderedscheduler/sequencing/BacklogPollPinLaw"
abbrev oz5 : String := "(Lcom/example/ordered_scheduler/orderedscheduler/sequencing/Backlog;Lcom/example/ordered_scheduler/orderedscheduler/sequencing/Place;Lcom/example/ordered_scheduler/orderedscheduler/sequencing/Place;)Z"
abbrev oz6 : String := "Lcom/example/ordered_scheduler/orderedscheduler/sequencing/Backlog;"
abbrev oz7 : String := "()Lcom/example/ordered_scheduler/orderedscheduler/sequencing/Place;"
abbrev oz8 : String := "(Lcom/example/ordered_scheduler/orderedscheduler/sequencing/Place;)V"
theorem d1_0 : decode prog_10_method_1_code 0 = .ok (.aload_n 0, 1) := by decide +kernel
theorem d1_1 : decode prog_10_method_1_code 1 = .ok (.invokespecial 1, 3) := by decide +kernel
theorem d1_4 : decode prog_10_method_1_code 4 = .ok (.return_, 1) := by decide +kernel
theorem own_pn0 : plainName "com/example/ordered_scheduler/orderedscheduler/sequencing/Backlog" = true := by first | (simp [plainName, overriddenIn]; done) | decide +kernel
theorem ef1 (m : MethodId) (o : Addr) : entryFrame m #[(.ref o)] 1 = mkF m 0 #[rv o] [] := by first | (simp [entryFrame, mkF, argsToLocals, Value.category]; done) | rfl
def Q1 (Z : State) (o : Addr) (h0 : Heap) (n0 : Nat) (v : Option Value) (h : Heap) (L : List Loc) : Prop := v = none ∧ Fr n0 L ∧ h = h0
set_option maxRecDepth 65536 in
set_option maxHeartbeats 40000000 in
theorem rm1 (l : Launch) (Z : State) (a0 : Array Value) (hw : ∀ d ∈ tables_1, d.before a0 Z = true) (ws : List Jvm.Cond) (o : Addr) (h0 : Heap) (n0 : Nat) (Z0 : n0 ≤ h0.size) :
    MetFree l (⟨oz1, "<init>", "()V"⟩ : MethodName) (head1 (Jvm.Cond.code (⟨oz1, "<init>", "()V"⟩ : MethodName) prog_10_method_1_code 1 none :: ws) ({ frames := 1, cells := 0, slots := 0, locals := 12 } : Room)) (fun a U => a = #[(.ref o)] ∧ Z.Warmed39 U.vm ∧ U.heap = h0) (fun _ _ _ _ _ => True) (fun _ U oc U' => ∃ v L, oc = .returned v ∧ Q1 Z o h0 n0 v U'.heap L ∧ FrameEnd U oc U' L ({ frames := 1, cells := 0, slots := 0, locals := 12 } : Room).cells ({ frames := 1, cells := 0, slots := 0, locals := 12 } : Room).slots) := by
  refine MetFree.of_bodySF (plainFor_of_name own_pn0) hisR ?_
  intro p e s m args below meth c s₁ Bd hml0 hP hK
  obtain ⟨rfl, hZ, hh⟩ := hP
  have hx := Bd.exec
  have hby := Bd.bytes
  have hml : c.maxLocals = 1 := hml0
  have hown : s.vm.findClass oz1 = some m.cls := findClass_of_methodNamed Bd.named
  have hnm := (name_of_methodNamed Bd.named Bd.method).1
  have X0 : Stand p l e ({ frames := 1, cells := 0, slots := 0, locals := 12 } : Room) s m #[(.ref o)] below meth c s₁ [] 0 0 := Stand.of_body Bd
  have e0 : s₁.heap = h0 := by rw [← hh, Bd.state]; rfl
  have N0 := Fr.nil n0
  have pre0 : ∀ t, Steps p.tables e below (s₁.setTop (mkF m 0 #[rv o] [])) t → Steps p.tables e below (s₁.setTop (entryFrame m #[(.ref o)] 1)) t := fun t k => castTop (ef1 m o) k
  obtain ⟨T1, X1, e1, st1⟩ := initO X0 hx hZ hown (own_w hw 7 rfl) (own_w hw 8 rfl) (own_w hw 9 rfl) e0 (g := (mkF m 1 #[rv o] [(.ref o)])) rfl (by rw [hml]; rfl) rfl (hb hby d1_1) (by decide) (W := 0) (by show 2 * 0 + _ ≤ _; exact Nat.le_of_eq rfl) (by decide)
  have pre2 : ∀ tz, oS p e below T1 m 4 #[rv o] [] tz → oS p e below s₁ m 0 #[rv o] [] tz := fun tz kt => by
    show oS p e below s₁ m 0 #[rv o] [] _
    refine XS.aloadN X0.here hx rfl (hb hby d1_0) rfl rfl ?_
    show oS p e below s₁ m 1 #[rv o] [(.ref o)] _
    refine st1 _ ?_
    exact kt
  obtain ⟨fs, hr, hrun, hended, hW, hsame⟩ := X1.leave (v := none) (fun _ => rfl)
  refine ⟨_, _, pre0 _ (pre2 _ ?_), hrun, hended, _, _, rfl, ?_, ⟨_, rfl⟩, hW, hsame.mono (by decide) (by decide)⟩
  · show oS p e below T1 m 4 #[rv o] [] _
    exact X1.returnOut hx Bd.returns (hb hby d1_4) hr
  · show Q1 Z o h0 n0 _ T1.heap _
    rw [e1]
    exact ⟨rfl, N0, rfl⟩
theorem d3_0 : decode prog_13_method_1_code 0 = .ok (.aload_n 0, 1) := by decide +kernel
theorem d3_1 : decode prog_13_method_1_code 1 = .ok (.invokespecial 1, 3) := by decide +kernel
theorem d3_4 : decode prog_13_method_1_code 4 = .ok (.aload_n 0, 1) := by decide +kernel
theorem d3_5 : decode prog_13_method_1_code 5 = .ok (.aload_n 1, 1) := by decide +kernel
theorem d3_6 : decode prog_13_method_1_code 6 = .ok (.putfield 7, 3) := by decide +kernel
theorem d3_9 : decode prog_13_method_1_code 9 = .ok (.aload_n 0, 1) := by decide +kernel
theorem d3_10 : decode prog_13_method_1_code 10 = .ok (.aload_n 2, 1) := by decide +kernel
theorem d3_11 : decode prog_13_method_1_code 11 = .ok (.putfield 13, 3) := by decide +kernel
theorem d3_14 : decode prog_13_method_1_code 14 = .ok (.aload_n 0, 1) := by decide +kernel
theorem d3_15 : decode prog_13_method_1_code 15 = .ok (.aload_n 3, 1) := by decide +kernel
theorem d3_16 : decode prog_13_method_1_code 16 = .ok (.putfield 17, 3) := by decide +kernel
theorem d3_19 : decode prog_13_method_1_code 19 = .ok (.aload_n 0, 1) := by decide +kernel
theorem d3_20 : decode prog_13_method_1_code 20 = .ok (.aload 4, 2) := by decide +kernel
theorem d3_22 : decode prog_13_method_1_code 22 = .ok (.putfield 21, 3) := by decide +kernel
theorem d3_25 : decode prog_13_method_1_code 25 = .ok (.return_, 1) := by decide +kernel
theorem own_pn1 : plainName "com/example/ordered_scheduler/orderedscheduler/sequencing/Place" = true := by first | (simp [plainName, overriddenIn]; done) | decide +kernel
theorem ef3 (m : MethodId) (o : Addr) : entryFrame m #[(.ref o), .null, .null, .null, .null] 5 = mkF m 0 #[rv o, .val .null, .val .null, .val .null, .val .null] [] := by first | (simp [entryFrame, mkF, argsToLocals, Value.category]; done) | rfl
def Q3 (Z : State) (o : Addr) (w_sequencer_o : Value) (w_key_o : Value) (w_task_o : Value) (w_tally_o : Value) (h0 : Heap) (n0 : Nat) (v : Option Value) (h : Heap) (L : List Loc) : Prop := v = none ∧ Fr n0 L ∧ Keep h0 h [o] ∧ Fld Z h o oz0 "in" oz6 .null ∧ Fld Z h o oz0 "before" oz2 .null ∧ Fld Z h o oz0 "after" oz2 .null
set_option maxRecDepth 65536 in
set_option maxHeartbeats 40000000 in
theorem rm3 (l : Launch) (Z : State) (a0 : Array Value) (hw : ∀ d ∈ tables_1, d.before a0 Z = true) (ws : List Jvm.Cond) (o : Addr) (w_sequencer_o : Value) (w_key_o : Value) (w_task_o : Value) (w_tally_o : Value) (h0 : Heap) (n0 : Nat) (Z0 : n0 ≤ h0.size) (E_o : Exa Z h0 o oz0) (g_o : n0 ≤ o) (F_in_o : Fld Z h0 o oz0 "in" oz6 .null) (F_before_o : Fld Z h0 o oz0 "before" oz2 .null) (F_after_o : Fld Z h0 o oz0 "after" oz2 .null) (F_sequencer_o : Fld Z h0 o oz0 "sequencer" "Lcom/example/ordered_scheduler/orderedscheduler/sequencing/Sequencer;" w_sequencer_o) (F_key_o : Fld Z h0 o oz0 "key" "Ljava/lang/Object;" w_key_o) (F_task_o : Fld Z h0 o oz0 "task" "Ljava/lang/Runnable;" w_task_o) (F_tally_o : Fld Z h0 o oz0 "tally" "Lcom/example/ordered_scheduler/orderedscheduler/sequencing/Tally;" w_tally_o) :
    MetFree l (⟨oz0, "<init>", "(Lcom/example/ordered_scheduler/orderedscheduler/sequencing/Sequencer;Ljava/lang/Object;Ljava/lang/Runnable;Lcom/example/ordered_scheduler/orderedscheduler/sequencing/Tally;)V"⟩ : MethodName) (head1 (Jvm.Cond.code (⟨oz0, "<init>", "(Lcom/example/ordered_scheduler/orderedscheduler/sequencing/Sequencer;Ljava/lang/Object;Ljava/lang/Runnable;Lcom/example/ordered_scheduler/orderedscheduler/sequencing/Tally;)V"⟩ : MethodName) prog_13_method_1_code 5 none :: ws) ({ frames := 1, cells := 0, slots := 0, locals := 12 } : Room)) (fun a U => a = #[(.ref o), .null, .null, .null, .null] ∧ Z.Warmed39 U.vm ∧ U.heap = h0) (fun _ _ _ _ _ => True) (fun _ U oc U' => ∃ v L, oc = .returned v ∧ Q3 Z o w_sequencer_o w_key_o w_task_o w_tally_o h0 n0 v U'.heap L ∧ FrameEnd U oc U' L ({ frames := 1, cells := 0, slots := 0, locals := 12 } : Room).cells ({ frames := 1, cells := 0, slots := 0, locals := 12 } : Room).slots) := by
  refine MetFree.of_bodySF (plainFor_of_name own_pn1) hisR ?_
  intro p e s m args below meth c s₁ Bd hml0 hP hK
  obtain ⟨rfl, hZ, hh⟩ := hP
  have hx := Bd.exec
  have hby := Bd.bytes
  have hml : c.maxLocals = 5 := hml0
  have hown : s.vm.findClass oz0 = some m.cls := findClass_of_methodNamed Bd.named
  have hnm := (name_of_methodNamed Bd.named Bd.method).1
  have X0 : Stand p l e ({ frames := 1, cells := 0, slots := 0, locals := 12 } : Room) s m #[(.ref o), .null, .null, .null, .null] below meth c s₁ [] 0 0 := Stand.of_body Bd
  have e0 : s₁.heap = h0 := by rw [← hh, Bd.state]; rfl
  have N0 := Fr.nil n0
  have pre0 : ∀ t, Steps p.tables e below (s₁.setTop (mkF m 0 #[rv o, .val .null, .val .null, .val .null, .val .null] [])) t → Steps p.tables e below (s₁.setTop (entryFrame m #[(.ref o), .null, .null, .null, .null] 5)) t := fun t k => castTop (ef3 m o) k
  obtain ⟨T1, X1, e1, st1⟩ := initO X0 hx hZ hown (own_w hw 16 rfl) (own_w hw 8 rfl) (own_w hw 9 rfl) e0 (g := (mkF m 1 #[rv o, .val .null, .val .null, .val .null, .val .null] [(.ref o)])) rfl (by rw [hml]; rfl) rfl (hb hby d3_1) (by decide) (W := 0) (by show 2 * 0 + _ ≤ _; exact Nat.le_of_eq rfl) (by decide)
  obtain ⟨T2, h2, X2, e2, W2, st2⟩ := putF X1 hx hZ hown (host := "") (Or.inl (own_w hw 17 rfl)) Via.refl e1 F_sequencer_o E_o (Or.inr ⟨(own_w hw 18 rfl), rfl, hnm⟩) (own_w hw 11 rfl) (ty := (.object "com/example/ordered_scheduler/orderedscheduler/sequencing/Sequencer")) (by decide) rfl rfl (g := (mkF m 6 #[rv o, .val .null, .val .null, .val .null, .val .null] [.null, (.ref o)])) rfl rfl (hb hby d3_6)
  have Fw2 : Fld Z h2 o oz0 "sequencer" "Lcom/example/ordered_scheduler/orderedscheduler/sequencing/Sequencer;" .null := F_sequencer_o.same W2
  have N2 := Fr.snoc X2 N0 g_o
  have Ec3 : Exa Z h2 o oz0 := (E_o.wr W2)
  have Fc4 : Fld Z h2 o oz0 "key" "Ljava/lang/Object;" w_key_o := (F_key_o.other W2 (Or.inr (slot_ne (Or.inr (own_w hw 20 rfl)) (Or.inr (own_w hw 18 rfl)) (by decide) (t := (.object "java/lang/Object")) (t' := (.object "com/example/ordered_scheduler/orderedscheduler/sequencing/Sequencer")) (by decide) (by decide))))
  obtain ⟨T5, h5, X5, e5, W5, st5⟩ := putF X2 hx hZ hown (host := "") (Or.inl (own_w hw 19 rfl)) Via.refl e2 Fc4 Ec3 (Or.inr ⟨(own_w hw 20 rfl), rfl, hnm⟩) (own_w hw 11 rfl) (ty := (.object "java/lang/Object")) (by decide) rfl rfl (g := (mkF m 11 #[rv o, .val .null, .val .null, .val .null, .val .null] [.null, (.ref o)])) rfl rfl (hb hby d3_11)
  have Fw5 : Fld Z h5 o oz0 "key" "Ljava/lang/Object;" .null := Fc4.same W5
  have N5 := Fr.snoc X5 N2 g_o
  have Ec6 : Exa Z h5 o oz0 := (Ec3.wr W5)
  have Fc7 : Fld Z h5 o oz0 "task" "Ljava/lang/Runnable;" w_task_o := ((F_task_o.other W2 (Or.inr (slot_ne (Or.inl (own_w hw 22 rfl)) (Or.inr (own_w hw 18 rfl)) (by decide) (t := (.object "java/lang/Runnable")) (t' := (.object "com/example/ordered_scheduler/orderedscheduler/sequencing/Sequencer")) (by decide) (by decide)))).other W5 (Or.inr (slot_ne (Or.inl (own_w hw 22 rfl)) (Or.inr (own_w hw 20 rfl)) (by decide) (t := (.object "java/lang/Runnable")) (t' := (.object "java/lang/Object")) (by decide) (by decide))))
  obtain ⟨T8, h8, X8, e8, W8, st8⟩ := putF X5 hx hZ hown (host := "") (Or.inl (own_w hw 21 rfl)) Via.refl e5 Fc7 Ec6 (Or.inl (own_w hw 22 rfl)) (own_w hw 11 rfl) (ty := (.object "java/lang/Runnable")) (by decide) rfl rfl (g := (mkF m 16 #[rv o, .val .null, .val .null, .val .null, .val .null] [.null, (.ref o)])) rfl rfl (hb hby d3_16)
  have Fw8 : Fld Z h8 o oz0 "task" "Ljava/lang/Runnable;" .null := Fc7.same W8
  have N8 := Fr.snoc X8 N5 g_o
  have Ec9 : Exa Z h8 o oz0 := (Ec6.wr W8)
  have Fc10 : Fld Z h8 o oz0 "tally" "Lcom/example/ordered_scheduler/orderedscheduler/sequencing/Tally;" w_tally_o := (((F_tally_o.other W2 (Or.inr (slot_ne (Or.inr (own_w hw 24 rfl)) (Or.inr (own_w hw 18 rfl)) (by decide) (t := (.object "com/example/ordered_scheduler/orderedscheduler/sequencing/Tally")) (t' := (.object "com/example/ordered_scheduler/orderedscheduler/sequencing/Sequencer")) (by decide) (by decide)))).other W5 (Or.inr (slot_ne (Or.inr (own_w hw 24 rfl)) (Or.inr (own_w hw 20 rfl)) (by decide) (t := (.object "com/example/ordered_scheduler/orderedscheduler/sequencing/Tally")) (t' := (.object "java/lang/Object")) (by decide) (by decide)))).other W8 (Or.inr (slot_ne (Or.inr (own_w hw 24 rfl)) (Or.inl (own_w hw 22 rfl)) (by decide) (t := (.object "com/example/ordered_scheduler/orderedscheduler/sequencing/Tally")) (t' := (.object "java/lang/Runnable")) (by decide) (by decide))))
  obtain ⟨T11, h11, X11, e11, W11, st11⟩ := putF X8 hx hZ hown (host := "") (Or.inl (own_w hw 23 rfl)) Via.refl e8 Fc10 Ec9 (Or.inr ⟨(own_w hw 24 rfl), rfl, hnm⟩) (own_w hw 11 rfl) (ty := (.object "com/example/ordered_scheduler/orderedscheduler/sequencing/Tally")) (by decide) rfl rfl (g := (mkF m 22 #[rv o, .val .null, .val .null, .val .null, .val .null] [.null, (.ref o)])) rfl rfl (hb hby d3_22)
  have Fw11 : Fld Z h11 o oz0 "tally" "Lcom/example/ordered_scheduler/orderedscheduler/sequencing/Tally;" .null := Fc10.same W11
  have N11 := Fr.snoc X11 N8 g_o
  have pre12 : ∀ tz, oS p e below T11 m 25 #[rv o, .val .null, .val .null, .val .null, .val .null] [] tz → oS p e below s₁ m 0 #[rv o, .val .null, .val .null, .val .null, .val .null] [] tz := fun tz kt => by
    show oS p e below s₁ m 0 #[rv o, .val .null, .val .null, .val .null, .val .null] [] _
    refine XS.aloadN X0.here hx rfl (hb hby d3_0) rfl rfl ?_
    show oS p e below s₁ m 1 #[rv o, .val .null, .val .null, .val .null, .val .null] [(.ref o)] _
    refine st1 _ ?_
    refine XS.aloadN X1.here hx rfl (hb hby d3_4) rfl rfl ?_
    refine XS.aloadN X1.here hx rfl (hb hby d3_5) rfl rfl ?_
    show oS p e below T1 m 6 #[rv o, .val .null, .val .null, .val .null, .val .null] [.null, (.ref o)] _
    refine st2 _ ?_
    refine XS.aloadN X2.here hx rfl (hb hby d3_9) rfl rfl ?_
    refine XS.aloadN X2.here hx rfl (hb hby d3_10) rfl rfl ?_
    show oS p e below T2 m 11 #[rv o, .val .null, .val .null, .val .null, .val .null] [.null, (.ref o)] _
    refine st5 _ ?_
    refine XS.aloadN X5.here hx rfl (hb hby d3_14) rfl rfl ?_
    refine XS.aloadN X5.here hx rfl (hb hby d3_15) rfl rfl ?_
    show oS p e below T5 m 16 #[rv o, .val .null, .val .null, .val .null, .val .null] [.null, (.ref o)] _
    refine st8 _ ?_
    refine XS.aloadN X8.here hx rfl (hb hby d3_19) rfl rfl ?_
    refine XS.aload X8.here hx rfl (hb hby d3_20) rfl rfl ?_
    show oS p e below T8 m 22 #[rv o, .val .null, .val .null, .val .null, .val .null] [.null, (.ref o)] _
    refine st11 _ ?_
    exact kt
  have KP13 : Keep h0 h11 [o] := (((((Keep.refl h0 [o]).wr W2 (Or.inl (List.mem_of_getElem? (i := 0) rfl))).wr W5 (Or.inl (List.mem_of_getElem? (i := 0) rfl))).wr W8 (Or.inl (List.mem_of_getElem? (i := 0) rfl))).wr W11 (Or.inl (List.mem_of_getElem? (i := 0) rfl)))
  have Fc14 : Fld Z h11 o oz0 "in" oz6 .null := ((((F_in_o.other W2 (Or.inr (slot_ne (Or.inl (own_w hw 68 rfl)) (Or.inr (own_w hw 18 rfl)) (by decide) (t := (.object oz1)) (t' := (.object "com/example/ordered_scheduler/orderedscheduler/sequencing/Sequencer")) (by decide) (by decide)))).other W5 (Or.inr (slot_ne (Or.inl (own_w hw 68 rfl)) (Or.inr (own_w hw 20 rfl)) (by decide) (t := (.object oz1)) (t' := (.object "java/lang/Object")) (by decide) (by decide)))).other W8 (Or.inr (slot_ne (Or.inl (own_w hw 68 rfl)) (Or.inl (own_w hw 22 rfl)) (by decide) (t := (.object oz1)) (t' := (.object "java/lang/Runnable")) (by decide) (by decide)))).other W11 (Or.inr (slot_ne (Or.inl (own_w hw 68 rfl)) (Or.inr (own_w hw 24 rfl)) (by decide) (t := (.object oz1)) (t' := (.object "com/example/ordered_scheduler/orderedscheduler/sequencing/Tally")) (by decide) (by decide))))
  have Fc15 : Fld Z h11 o oz0 "before" oz2 .null := ((((F_before_o.other W2 (Or.inr (slot_ne (Or.inl (own_w hw 70 rfl)) (Or.inr (own_w hw 18 rfl)) (by decide) (t := (.object oz0)) (t' := (.object "com/example/ordered_scheduler/orderedscheduler/sequencing/Sequencer")) (by decide) (by decide)))).other W5 (Or.inr (slot_ne (Or.inl (own_w hw 70 rfl)) (Or.inr (own_w hw 20 rfl)) (by decide) (t := (.object oz0)) (t' := (.object "java/lang/Object")) (by decide) (by decide)))).other W8 (Or.inr (slot_ne (Or.inl (own_w hw 70 rfl)) (Or.inl (own_w hw 22 rfl)) (by decide) (t := (.object oz0)) (t' := (.object "java/lang/Runnable")) (by decide) (by decide)))).other W11 (Or.inr (slot_ne (Or.inl (own_w hw 70 rfl)) (Or.inr (own_w hw 24 rfl)) (by decide) (t := (.object oz0)) (t' := (.object "com/example/ordered_scheduler/orderedscheduler/sequencing/Tally")) (by decide) (by decide))))
  have Fc16 : Fld Z h11 o oz0 "after" oz2 .null := ((((F_after_o.other W2 (Or.inr (slot_ne (Or.inl (own_w hw 73 rfl)) (Or.inr (own_w hw 18 rfl)) (by decide) (t := (.object oz0)) (t' := (.object "com/example/ordered_scheduler/orderedscheduler/sequencing/Sequencer")) (by decide) (by decide)))).other W5 (Or.inr (slot_ne (Or.inl (own_w hw 73 rfl)) (Or.inr (own_w hw 20 rfl)) (by decide) (t := (.object oz0)) (t' := (.object "java/lang/Object")) (by decide) (by decide)))).other W8 (Or.inr (slot_ne (Or.inl (own_w hw 73 rfl)) (Or.inl (own_w hw 22 rfl)) (by decide) (t := (.object oz0)) (t' := (.object "java/lang/Runnable")) (by decide) (by decide)))).other W11 (Or.inr (slot_ne (Or.inl (own_w hw 73 rfl)) (Or.inr (own_w hw 24 rfl)) (by decide) (t := (.object oz0)) (t' := (.object "com/example/ordered_scheduler/orderedscheduler/sequencing/Tally")) (by decide) (by decide))))
  obtain ⟨fs, hr, hrun, hended, hW, hsame⟩ := X11.leave (v := none) (fun _ => rfl)
  refine ⟨_, _, pre0 _ (pre12 _ ?_), hrun, hended, _, _, rfl, ?_, ⟨_, rfl⟩, hW, hsame.mono (by decide) (by decide)⟩
  · show oS p e below T11 m 25 #[rv o, .val .null, .val .null, .val .null, .val .null] [] _
    exact X11.returnOut hx Bd.returns (hb hby d3_25) hr
  · show Q3 Z o w_sequencer_o w_key_o w_task_o w_tally_o h0 n0 _ T11.heap _
    rw [e11]
    exact ⟨rfl, N11, KP13, Fc14, Fc15, Fc16⟩
theorem d7_0 : decode prog_10_method_2_code 0 = .ok (.aload_n 0, 1) := by decide +kernel
theorem d7_1 : decode prog_10_method_2_code 1 = .ok (.getfield 7, 3) := by decide +kernel
theorem d7_4 : decode prog_10_method_2_code 4 = .ok (.ifnonnull 7, 3) := by decide +kernel
theorem d7_7 : decode prog_10_method_2_code 7 = .ok (.iconst 1, 1) := by decide +kernel
theorem d7_8 : decode prog_10_method_2_code 8 = .ok (.goto 4, 3) := by decide +kernel
theorem d7_12 : decode prog_10_method_2_code 12 = .ok (.ireturn, 1) := by decide +kernel
theorem efE0 (m : MethodId) (o : Addr) : entryFrame m #[(.ref o)] 1 = mkF m 0 #[rv o] [] := by first | (simp [entryFrame, mkF, argsToLocals, Value.category]; done) | rfl
def QE0 (Z : State) (o : Addr) (h0 : Heap) (n0 : Nat) (v : Option Value) (h : Heap) (L : List Loc) : Prop := v = some (.int (1 : Int32)) ∧ Fr n0 L ∧ h = h0
set_option maxRecDepth 65536 in
set_option maxHeartbeats 40000000 in
theorem rmE0 (l : Launch) (Z : State) (a0 : Array Value) (hw : ∀ d ∈ tables_1, d.before a0 Z = true) (ws : List Jvm.Cond) (o : Addr) (h0 : Heap) (n0 : Nat) (Z0 : n0 ≤ h0.size) (E_o : Exa Z h0 o oz1) (F_first_o : Fld Z h0 o oz1 "first" oz2 .null) :
    MetFree l (⟨oz1, "isEmpty", "()Z"⟩ : MethodName) (head1 (Jvm.Cond.code (⟨oz1, "isEmpty", "()Z"⟩ : MethodName) prog_10_method_2_code 1 (some .boolean) :: ws) ({ frames := 0, cells := 0, slots := 0, locals := 0 } : Room)) (fun a U => a = #[(.ref o)] ∧ Z.Warmed39 U.vm ∧ U.heap = h0) (fun _ _ _ _ _ => True) (fun _ U oc U' => ∃ v L, oc = .returned v ∧ QE0 Z o h0 n0 v U'.heap L ∧ FrameEnd U oc U' L ({ frames := 0, cells := 0, slots := 0, locals := 0 } : Room).cells ({ frames := 0, cells := 0, slots := 0, locals := 0 } : Room).slots) := by
  refine MetFree.of_bodySF (plainFor_of_name own_pn0) hisR ?_
  intro p e s m args below meth c s₁ Bd hml0 hP hK
  obtain ⟨rfl, hZ, hh⟩ := hP
  have hx := Bd.exec
  have hby := Bd.bytes
  have hml : c.maxLocals = 1 := hml0
  have hown : s.vm.findClass oz1 = some m.cls := findClass_of_methodNamed Bd.named
  have hnm := (name_of_methodNamed Bd.named Bd.method).1
  have X0 : Stand p l e ({ frames := 0, cells := 0, slots := 0, locals := 0 } : Room) s m #[(.ref o)] below meth c s₁ [] 0 0 := Stand.of_body Bd
  have e0 : s₁.heap = h0 := by rw [← hh, Bd.state]; rfl
  have N0 := Fr.nil n0
  have pre0 : ∀ t, Steps p.tables e below (s₁.setTop (mkF m 0 #[rv o] [])) t → Steps p.tables e below (s₁.setTop (entryFrame m #[(.ref o)] 1)) t := fun t k => castTop (efE0 m o) k
  obtain ⟨T1, X1, e1, st1⟩ := getF X0 hx hZ hown (host := "") (Or.inl (own_w hw 36 rfl)) Via.refl e0 F_first_o (g := (mkF m 1 #[rv o] [(.ref o)])) rfl rfl (hb hby d7_1)
  have pre2 : ∀ tz, oS p e below T1 m 12 #[rv o] [(.int (1 : Int32))] tz → oS p e below s₁ m 0 #[rv o] [] tz := fun tz kt => by
    show oS p e below s₁ m 0 #[rv o] [] _
    refine XS.aloadN X0.here hx rfl (hb hby d7_0) rfl rfl ?_
    show oS p e below s₁ m 1 #[rv o] [(.ref o)] _
    refine st1 _ ?_
    refine XS.ifnonnullNo X1.here hx rfl (hb hby d7_4) rfl ?_
    refine XS.iconst X1.here hx rfl (hb hby d7_7) ?_
    refine XS.goto X1.here hx rfl (pc0 := 8) (pc' := 12) rfl (hb hby d7_8) (by decide) (by decide) ?_
    exact kt
  obtain ⟨fs, hr, hrun, hended, hW, hsame⟩ := X1.leave (v := some (.int (1 : Int32))) (fun h => by rw [Bd.returns] at h; cases h)
  refine ⟨_, _, pre0 _ (pre2 _ ?_), hrun, hended, _, _, rfl, ?_, ⟨_, rfl⟩, hW, hsame.mono (by decide) (by decide)⟩
  · show oS p e below T1 m 12 #[rv o] [(.int (1 : Int32))] _
    exact retN X1 hx (t := .boolean) Bd.returns (by simp) (hb hby d7_12) hr
  · show QE0 Z o h0 n0 _ T1.heap _
    rw [e1]
    exact ⟨rfl, N0, rfl⟩
theorem d7_11 : decode prog_10_method_2_code 11 = .ok (.iconst 0, 1) := by decide +kernel
theorem efE1 (m : MethodId) (o : Addr) : entryFrame m #[(.ref o)] 1 = mkF m 0 #[rv o] [] := by first | (simp [entryFrame, mkF, argsToLocals, Value.category]; done) | rfl
def QE1 (Z : State) (o : Addr) (f : Addr) (h0 : Heap) (n0 : Nat) (v : Option Value) (h : Heap) (L : List Loc) : Prop := v = some (.int (0 : Int32)) ∧ Fr n0 L ∧ h = h0
set_option maxRecDepth 65536 in
set_option maxHeartbeats 40000000 in
theorem rmE1 (l : Launch) (Z : State) (a0 : Array Value) (hw : ∀ d ∈ tables_1, d.before a0 Z = true) (ws : List Jvm.Cond) (o : Addr) (f : Addr) (h0 : Heap) (n0 : Nat) (Z0 : n0 ≤ h0.size) (E_o : Exa Z h0 o oz1) (F_first_o : Fld Z h0 o oz1 "first" oz2 (.ref f)) :
    MetFree l (⟨oz1, "isEmpty", "()Z"⟩ : MethodName) (head1 (Jvm.Cond.code (⟨oz1, "isEmpty", "()Z"⟩ : MethodName) prog_10_method_2_code 1 (some .boolean) :: ws) ({ frames := 0, cells := 0, slots := 0, locals := 0 } : Room)) (fun a U => a = #[(.ref o)] ∧ Z.Warmed39 U.vm ∧ U.heap = h0) (fun _ _ _ _ _ => True) (fun _ U oc U' => ∃ v L, oc = .returned v ∧ QE1 Z o f h0 n0 v U'.heap L ∧ FrameEnd U oc U' L ({ frames := 0, cells := 0, slots := 0, locals := 0 } : Room).cells ({ frames := 0, cells := 0, slots := 0, locals := 0 } : Room).slots) := by
  refine MetFree.of_bodySF (plainFor_of_name own_pn0) hisR ?_
  intro p e s m args below meth c s₁ Bd hml0 hP hK
  obtain ⟨rfl, hZ, hh⟩ := hP
  have hx := Bd.exec
  have hby := Bd.bytes
  have hml : c.maxLocals = 1 := hml0
  have hown : s.vm.findClass oz1 = some m.cls := findClass_of_methodNamed Bd.named
  have hnm := (name_of_methodNamed Bd.named Bd.method).1
  have X0 : Stand p l e ({ frames := 0, cells := 0, slots := 0, locals := 0 } : Room) s m #[(.ref o)] below meth c s₁ [] 0 0 := Stand.of_body Bd
  have e0 : s₁.heap = h0 := by rw [← hh, Bd.state]; rfl
  have N0 := Fr.nil n0
  have pre0 : ∀ t, Steps p.tables e below (s₁.setTop (mkF m 0 #[rv o] [])) t → Steps p.tables e below (s₁.setTop (entryFrame m #[(.ref o)] 1)) t := fun t k => castTop (efE1 m o) k
  obtain ⟨T1, X1, e1, st1⟩ := getF X0 hx hZ hown (host := "") (Or.inl (own_w hw 36 rfl)) Via.refl e0 F_first_o (g := (mkF m 1 #[rv o] [(.ref o)])) rfl rfl (hb hby d7_1)
  have pre2 : ∀ tz, oS p e below T1 m 12 #[rv o] [(.int (0 : Int32))] tz → oS p e below s₁ m 0 #[rv o] [] tz := fun tz kt => by
    show oS p e below s₁ m 0 #[rv o] [] _
    refine XS.aloadN X0.here hx rfl (hb hby d7_0) rfl rfl ?_
    show oS p e below s₁ m 1 #[rv o] [(.ref o)] _
    refine st1 _ ?_
    refine XS.ifnonnullYes X1.here hx rfl (pc0 := 4) (pc' := 11) rfl (hb hby d7_4) rfl (by decide) (by decide) ?_
    refine XS.iconst X1.here hx rfl (hb hby d7_11) ?_
    exact kt
  obtain ⟨fs, hr, hrun, hended, hW, hsame⟩ := X1.leave (v := some (.int (0 : Int32))) (fun h => by rw [Bd.returns] at h; cases h)
  refine ⟨_, _, pre0 _ (pre2 _ ?_), hrun, hended, _, _, rfl, ?_, ⟨_, rfl⟩, hW, hsame.mono (by decide) (by decide)⟩
  · show oS p e below T1 m 12 #[rv o] [(.int (0 : Int32))] _
    exact retN X1 hx (t := .boolean) Bd.returns (by simp) (hb hby d7_12) hr
  · show QE1 Z o f h0 n0 _ T1.heap _
    rw [e1]
    exact ⟨rfl, N0, rfl⟩
theorem d12_0 : decode prog_10_method_9_code 0 = .ok (.aload_n 1, 1) := by decide +kernel
theorem d12_1 : decode prog_10_method_9_code 1 = .ok (.getfield 22, 3) := by decide +kernel
theorem d12_4 : decode prog_10_method_9_code 4 = .ok (.ifnonnull 14, 3) := by decide +kernel
theorem d12_7 : decode prog_10_method_9_code 7 = .ok (.aload_n 0, 1) := by decide +kernel
theorem d12_8 : decode prog_10_method_9_code 8 = .ok (.aload_n 1, 1) := by decide +kernel
theorem d12_9 : decode prog_10_method_9_code 9 = .ok (.getfield 25, 3) := by decide +kernel
theorem d12_12 : decode prog_10_method_9_code 12 = .ok (.putfield 7, 3) := by decide +kernel
theorem d12_15 : decode prog_10_method_9_code 15 = .ok (.goto 14, 3) := by decide +kernel
theorem d12_29 : decode prog_10_method_9_code 29 = .ok (.aload_n 1, 1) := by decide +kernel
theorem d12_30 : decode prog_10_method_9_code 30 = .ok (.getfield 25, 3) := by decide +kernel
theorem d12_33 : decode prog_10_method_9_code 33 = .ok (.ifnonnull 14, 3) := by decide +kernel
theorem d12_36 : decode prog_10_method_9_code 36 = .ok (.aload_n 0, 1) := by decide +kernel
theorem d12_37 : decode prog_10_method_9_code 37 = .ok (.aload_n 1, 1) := by decide +kernel
theorem d12_38 : decode prog_10_method_9_code 38 = .ok (.getfield 22, 3) := by decide +kernel
theorem d12_41 : decode prog_10_method_9_code 41 = .ok (.putfield 13, 3) := by decide +kernel
theorem d12_44 : decode prog_10_method_9_code 44 = .ok (.goto 14, 3) := by decide +kernel
theorem d12_58 : decode prog_10_method_9_code 58 = .ok (.aload_n 1, 1) := by decide +kernel
theorem d12_59 : decode prog_10_method_9_code 59 = .ok (.aconst_null, 1) := by decide +kernel
theorem d12_60 : decode prog_10_method_9_code 60 = .ok (.putfield 16, 3) := by decide +kernel
theorem d12_63 : decode prog_10_method_9_code 63 = .ok (.aload_n 1, 1) := by decide +kernel
theorem d12_64 : decode prog_10_method_9_code 64 = .ok (.aconst_null, 1) := by decide +kernel
theorem d12_65 : decode prog_10_method_9_code 65 = .ok (.putfield 22, 3) := by decide +kernel
theorem d12_68 : decode prog_10_method_9_code 68 = .ok (.aload_n 1, 1) := by decide +kernel
theorem d12_69 : decode prog_10_method_9_code 69 = .ok (.aconst_null, 1) := by decide +kernel
theorem d12_70 : decode prog_10_method_9_code 70 = .ok (.putfield 25, 3) := by decide +kernel
theorem d12_73 : decode prog_10_method_9_code 73 = .ok (.return_, 1) := by decide +kernel
theorem efU00 (m : MethodId) (o : Addr) (x1 : Addr) : entryFrame m #[(.ref o), (.ref x1)] 2 = mkF m 0 #[rv o, rv x1] [] := by first | (simp [entryFrame, mkF, argsToLocals, Value.category]; done) | rfl
def QU00 (Z : State) (o : Addr) (x1 : Addr) (fu : Value) (lu : Value) (iu : Value) (h0 : Heap) (n0 : Nat) (v : Option Value) (h : Heap) (L : List Loc) : Prop := v = none ∧ Fr n0 L ∧ Keep h0 h [o, x1] ∧ Fld Z h o oz1 "first" oz2 .null ∧ Fld Z h o oz1 "last" oz2 .null ∧ Fld Z h x1 oz0 "in" oz6 .null ∧ Fld Z h x1 oz0 "before" oz2 .null ∧ Fld Z h x1 oz0 "after" oz2 .null
set_option maxRecDepth 65536 in
set_option maxHeartbeats 40000000 in
theorem rmU00 (l : Launch) (Z : State) (a0 : Array Value) (hw : ∀ d ∈ tables_1, d.before a0 Z = true) (ws : List Jvm.Cond) (o : Addr) (x1 : Addr) (fu : Value) (lu : Value) (iu : Value) (h0 : Heap) (n0 : Nat) (Z0 : n0 ≤ h0.size) (E_o : Exa Z h0 o oz1) (E_x1 : Exa Z h0 x1 oz0) (g_o : n0 ≤ o) (g_x1 : n0 ≤ x1) (F_first_o : Fld Z h0 o oz1 "first" oz2 fu) (F_last_o : Fld Z h0 o oz1 "last" oz2 lu) (F_in_x1 : Fld Z h0 x1 oz0 "in" oz6 iu) (F_before_x1 : Fld Z h0 x1 oz0 "before" oz2 .null) (F_after_x1 : Fld Z h0 x1 oz0 "after" oz2 .null) :
    MetFree l (⟨oz1, "unlink", oz8⟩ : MethodName) (head1 (Jvm.Cond.code (⟨oz1, "unlink", oz8⟩ : MethodName) prog_10_method_9_code 2 none :: ws) ({ frames := 0, cells := 0, slots := 0, locals := 0 } : Room)) (fun a U => a = #[(.ref o), (.ref x1)] ∧ Z.Warmed39 U.vm ∧ U.heap = h0) (fun _ _ _ _ _ => True) (fun _ U oc U' => ∃ v L, oc = .returned v ∧ QU00 Z o x1 fu lu iu h0 n0 v U'.heap L ∧ FrameEnd U oc U' L ({ frames := 0, cells := 0, slots := 0, locals := 0 } : Room).cells ({ frames := 0, cells := 0, slots := 0, locals := 0 } : Room).slots) := by
  refine MetFree.of_bodySF (plainFor_of_name own_pn0) hisR ?_
  intro p e s m args below meth c s₁ Bd hml0 hP hK
  obtain ⟨rfl, hZ, hh⟩ := hP
  have hx := Bd.exec
  have hby := Bd.bytes
  have hml : c.maxLocals = 2 := hml0
  have hown : s.vm.findClass oz1 = some m.cls := findClass_of_methodNamed Bd.named
  have hnm := (name_of_methodNamed Bd.named Bd.method).1
  have X0 : Stand p l e ({ frames := 0, cells := 0, slots := 0, locals := 0 } : Room) s m #[(.ref o), (.ref x1)] below meth c s₁ [] 0 0 := Stand.of_body Bd
  have e0 : s₁.heap = h0 := by rw [← hh, Bd.state]; rfl
  have N0 := Fr.nil n0
  have pre0 : ∀ t, Steps p.tables e below (s₁.setTop (mkF m 0 #[rv o, rv x1] [])) t → Steps p.tables e below (s₁.setTop (entryFrame m #[(.ref o), (.ref x1)] 2)) t := fun t k => castTop (efU00 m o x1) k
  obtain ⟨T1, X1, e1, st1⟩ := getF X0 hx hZ hown (host := "") (Or.inl (own_w hw 69 rfl)) Via.refl e0 F_before_x1 (g := (mkF m 1 #[rv o, rv x1] [(.ref x1)])) rfl rfl (hb hby d12_1)
  obtain ⟨T2, X2, e2, st2⟩ := getF X1 hx hZ hown (host := "") (Or.inl (own_w hw 79 rfl)) Via.refl e1 F_after_x1 (g := (mkF m 9 #[rv o, rv x1] [(.ref x1), (.ref o)])) rfl rfl (hb hby d12_9)
  obtain ⟨T3, h3, X3, e3, W3, st3⟩ := putF X2 hx hZ hown (host := "") (Or.inl (own_w hw 36 rfl)) Via.refl e2 F_first_o E_o (Or.inl (own_w hw 37 rfl)) (own_w hw 2 rfl) (ty := (.object oz0)) (by decide) rfl rfl (g := (mkF m 12 #[rv o, rv x1] [.null, (.ref o)])) rfl rfl (hb hby d12_12)
  have Fw3 : Fld Z h3 o oz1 "first" oz2 .null := F_first_o.same W3
  have N3 := Fr.snoc X3 N0 g_o
  have Ec5 : Exa Z h3 x1 oz0 := (E_x1.wr W3)
  have Ec6 : Exa Z h3 o oz1 := (E_o.wr W3)
  have ne4 : x1 ≠ o := ne_exa Ec5 Ec6 (by decide)
  have Fc7 : Fld Z h3 x1 oz0 "after" oz2 .null := (F_after_x1.other W3 (Or.inl ne4))
  obtain ⟨T8, X8, e8, st8⟩ := getF X3 hx hZ hown (host := "") (Or.inl (own_w hw 79 rfl)) Via.refl e3 Fc7 (g := (mkF m 30 #[rv o, rv x1] [(.ref x1)])) rfl rfl (hb hby d12_30)
  have Fc9 : Fld Z h3 x1 oz0 "before" oz2 .null := (F_before_x1.other W3 (Or.inl ne4))
  obtain ⟨T10, X10, e10, st10⟩ := getF X8 hx hZ hown (host := "") (Or.inl (own_w hw 69 rfl)) Via.refl e8 Fc9 (g := (mkF m 38 #[rv o, rv x1] [(.ref x1), (.ref o)])) rfl rfl (hb hby d12_38)
  have Fc11 : Fld Z h3 o oz1 "last" oz2 lu := (F_last_o.other W3 (Or.inr (slot_ne (Or.inl (own_w hw 44 rfl)) (Or.inl (own_w hw 37 rfl)) (by decide) (t := (.object oz0)) (t' := (.object oz0)) (by decide) (by decide))))
  obtain ⟨T12, h12, X12, e12, W12, st12⟩ := putF X10 hx hZ hown (host := "") (Or.inl (own_w hw 43 rfl)) Via.refl e10 Fc11 Ec6 (Or.inl (own_w hw 44 rfl)) (own_w hw 2 rfl) (ty := (.object oz0)) (by decide) rfl rfl (g := (mkF m 41 #[rv o, rv x1] [.null, (.ref o)])) rfl rfl (hb hby d12_41)
  have Fw12 : Fld Z h12 o oz1 "last" oz2 .null := Fc11.same W12
  have N12 := Fr.snoc X12 N3 g_o
  have Ec13 : Exa Z h12 x1 oz0 := (Ec5.wr W12)
  have Fc14 : Fld Z h12 x1 oz0 "in" oz6 iu := ((F_in_x1.other W3 (Or.inl ne4)).other W12 (Or.inl ne4))
  obtain ⟨T15, h15, X15, e15, W15, st15⟩ := putF X12 hx hZ hown (host := "") (Or.inl (own_w hw 67 rfl)) Via.refl e12 Fc14 Ec13 (Or.inl (own_w hw 68 rfl)) (own_w hw 11 rfl) (ty := (.object oz1)) (by decide) rfl rfl (g := (mkF m 60 #[rv o, rv x1] [.null, (.ref x1)])) rfl rfl (hb hby d12_60)
  have Fw15 : Fld Z h15 x1 oz0 "in" oz6 .null := Fc14.same W15
  have N15 := Fr.snoc X15 N12 g_x1
  have Ec16 : Exa Z h15 x1 oz0 := (Ec13.wr W15)
  have Fc17 : Fld Z h15 x1 oz0 "before" oz2 .null := ((Fc9.other W12 (Or.inl ne4)).other W15 (Or.inr (slot_ne (Or.inl (own_w hw 70 rfl)) (Or.inl (own_w hw 68 rfl)) (by decide) (t := (.object oz0)) (t' := (.object oz1)) (by decide) (by decide))))
  obtain ⟨T18, h18, X18, e18, W18, st18⟩ := putF X15 hx hZ hown (host := "") (Or.inl (own_w hw 69 rfl)) Via.refl e15 Fc17 Ec16 (Or.inl (own_w hw 70 rfl)) (own_w hw 11 rfl) (ty := (.object oz0)) (by decide) rfl rfl (g := (mkF m 65 #[rv o, rv x1] [.null, (.ref x1)])) rfl rfl (hb hby d12_65)
  have Fw18 : Fld Z h18 x1 oz0 "before" oz2 .null := Fc17.same W18
  have N18 := Fr.snoc X18 N15 g_x1
  have Ec19 : Exa Z h18 x1 oz0 := (Ec16.wr W18)
  have Fc20 : Fld Z h18 x1 oz0 "after" oz2 .null := (((Fc7.other W12 (Or.inl ne4)).other W15 (Or.inr (slot_ne (Or.inl (own_w hw 73 rfl)) (Or.inl (own_w hw 68 rfl)) (by decide) (t := (.object oz0)) (t' := (.object oz1)) (by decide) (by decide)))).other W18 (Or.inr (slot_ne (Or.inl (own_w hw 73 rfl)) (Or.inl (own_w hw 70 rfl)) (by decide) (t := (.object oz0)) (t' := (.object oz0)) (by decide) (by decide))))
  obtain ⟨T21, h21, X21, e21, W21, st21⟩ := putF X18 hx hZ hown (host := "") (Or.inl (own_w hw 79 rfl)) Via.refl e18 Fc20 Ec19 (Or.inl (own_w hw 73 rfl)) (own_w hw 11 rfl) (ty := (.object oz0)) (by decide) rfl rfl (g := (mkF m 70 #[rv o, rv x1] [.null, (.ref x1)])) rfl rfl (hb hby d12_70)
  have Fw21 : Fld Z h21 x1 oz0 "after" oz2 .null := Fc20.same W21
  have N21 := Fr.snoc X21 N18 g_x1
  have pre22 : ∀ tz, oS p e below T21 m 73 #[rv o, rv x1] [] tz → oS p e below s₁ m 0 #[rv o, rv x1] [] tz := fun tz kt => by
    show oS p e below s₁ m 0 #[rv o, rv x1] [] _
    refine XS.aloadN X0.here hx rfl (hb hby d12_0) rfl rfl ?_
    show oS p e below s₁ m 1 #[rv o, rv x1] [(.ref x1)] _
    refine st1 _ ?_
    refine XS.ifnonnullNo X1.here hx rfl (hb hby d12_4) rfl ?_
    refine XS.aloadN X1.here hx rfl (hb hby d12_7) rfl rfl ?_
    refine XS.aloadN X1.here hx rfl (hb hby d12_8) rfl rfl ?_
    show oS p e below T1 m 9 #[rv o, rv x1] [(.ref x1), (.ref o)] _
    refine st2 _ ?_
    show oS p e below T2 m 12 #[rv o, rv x1] [.null, (.ref o)] _
    refine st3 _ ?_
    refine XS.goto X3.here hx rfl (pc0 := 15) (pc' := 29) rfl (hb hby d12_15) (by decide) (by decide) ?_
    refine XS.aloadN X3.here hx rfl (hb hby d12_29) rfl rfl ?_
    show oS p e below T3 m 30 #[rv o, rv x1] [(.ref x1)] _
    refine st8 _ ?_
    refine XS.ifnonnullNo X8.here hx rfl (hb hby d12_33) rfl ?_
    refine XS.aloadN X8.here hx rfl (hb hby d12_36) rfl rfl ?_
    refine XS.aloadN X8.here hx rfl (hb hby d12_37) rfl rfl ?_
    show oS p e below T8 m 38 #[rv o, rv x1] [(.ref x1), (.ref o)] _
    refine st10 _ ?_
    show oS p e below T10 m 41 #[rv o, rv x1] [.null, (.ref o)] _
    refine st12 _ ?_
    refine XS.goto X12.here hx rfl (pc0 := 44) (pc' := 58) rfl (hb hby d12_44) (by decide) (by decide) ?_
    refine XS.aloadN X12.here hx rfl (hb hby d12_58) rfl rfl ?_
    refine XS.aconstNull X12.here hx rfl (hb hby d12_59) ?_
    show oS p e below T12 m 60 #[rv o, rv x1] [.null, (.ref x1)] _
    refine st15 _ ?_
    refine XS.aloadN X15.here hx rfl (hb hby d12_63) rfl rfl ?_
    refine XS.aconstNull X15.here hx rfl (hb hby d12_64) ?_
    show oS p e below T15 m 65 #[rv o, rv x1] [.null, (.ref x1)] _
    refine st18 _ ?_
    refine XS.aloadN X18.here hx rfl (hb hby d12_68) rfl rfl ?_
    refine XS.aconstNull X18.here hx rfl (hb hby d12_69) ?_
    show oS p e below T18 m 70 #[rv o, rv x1] [.null, (.ref x1)] _
    refine st21 _ ?_
    exact kt
  have KP23 : Keep h0 h21 [o, x1] := ((((((Keep.refl h0 [o, x1]).wr W3 (Or.inl (List.mem_of_getElem? (i := 0) rfl))).wr W12 (Or.inl (List.mem_of_getElem? (i := 0) rfl))).wr W15 (Or.inl (List.mem_of_getElem? (i := 1) rfl))).wr W18 (Or.inl (List.mem_of_getElem? (i := 1) rfl))).wr W21 (Or.inl (List.mem_of_getElem? (i := 1) rfl)))
  have Fc24 : Fld Z h21 o oz1 "first" oz2 .null := ((((Fw3.other W12 (Or.inr (slot_ne (Or.inl (own_w hw 37 rfl)) (Or.inl (own_w hw 44 rfl)) (by decide) (t := (.object oz0)) (t' := (.object oz0)) (by decide) (by decide)))).other W15 (Or.inl (Ne.symm ne4))).other W18 (Or.inl (Ne.symm ne4))).other W21 (Or.inl (Ne.symm ne4)))
  have Fc25 : Fld Z h21 o oz1 "last" oz2 .null := (((Fw12.other W15 (Or.inl (Ne.symm ne4))).other W18 (Or.inl (Ne.symm ne4))).other W21 (Or.inl (Ne.symm ne4)))
  have Fc26 : Fld Z h21 x1 oz0 "in" oz6 .null := ((Fw15.other W18 (Or.inr (slot_ne (Or.inl (own_w hw 68 rfl)) (Or.inl (own_w hw 70 rfl)) (by decide) (t := (.object oz1)) (t' := (.object oz0)) (by decide) (by decide)))).other W21 (Or.inr (slot_ne (Or.inl (own_w hw 68 rfl)) (Or.inl (own_w hw 73 rfl)) (by decide) (t := (.object oz1)) (t' := (.object oz0)) (by decide) (by decide))))
  have Fc27 : Fld Z h21 x1 oz0 "before" oz2 .null := (Fw18.other W21 (Or.inr (slot_ne (Or.inl (own_w hw 70 rfl)) (Or.inl (own_w hw 73 rfl)) (by decide) (t := (.object oz0)) (t' := (.object oz0)) (by decide) (by decide))))
  obtain ⟨fs, hr, hrun, hended, hW, hsame⟩ := X21.leave (v := none) (fun _ => rfl)
  refine ⟨_, _, pre0 _ (pre22 _ ?_), hrun, hended, _, _, rfl, ?_, ⟨_, rfl⟩, hW, hsame.mono (by decide) (by decide)⟩
  · show oS p e below T21 m 73 #[rv o, rv x1] [] _
    exact X21.returnOut hx Bd.returns (hb hby d12_73) hr
  · show QU00 Z o x1 fu lu iu h0 n0 _ T21.heap _
    rw [e21]
    exact ⟨rfl, N21, KP23, Fc24, Fc25, Fc26, Fc27, Fw21⟩
theorem d12_47 : decode prog_10_method_9_code 47 = .ok (.aload_n 1, 1) := by decide +kernel
theorem d12_48 : decode prog_10_method_9_code 48 = .ok (.getfield 25, 3) := by decide +kernel
theorem d12_51 : decode prog_10_method_9_code 51 = .ok (.aload_n 1, 1) := by decide +kernel
theorem d12_52 : decode prog_10_method_9_code 52 = .ok (.getfield 22, 3) := by decide +kernel
theorem d12_55 : decode prog_10_method_9_code 55 = .ok (.putfield 22, 3) := by decide +kernel
theorem efU0t (m : MethodId) (o : Addr) (x1 : Addr) : entryFrame m #[(.ref o), (.ref x1)] 2 = mkF m 0 #[rv o, rv x1] [] := by first | (simp [entryFrame, mkF, argsToLocals, Value.category]; done) | rfl
def QU0t (Z : State) (o : Addr) (x1 : Addr) (fu : Value) (lu : Value) (iu : Value) (ti : Value) (tb : Value) (ta : Value) (tq : Addr) (h0 : Heap) (n0 : Nat) (v : Option Value) (h : Heap) (L : List Loc) : Prop := v = none ∧ Fr n0 L ∧ Keep h0 h [o, x1, tq] ∧ Fld Z h o oz1 "first" oz2 (.ref tq) ∧ Fld Z h o oz1 "last" oz2 lu ∧ Fld Z h x1 oz0 "in" oz6 .null ∧ Fld Z h x1 oz0 "before" oz2 .null ∧ Fld Z h x1 oz0 "after" oz2 .null ∧ Fld Z h tq oz0 "in" oz6 ti ∧ Fld Z h tq oz0 "before" oz2 .null ∧ Fld Z h tq oz0 "after" oz2 ta
set_option maxRecDepth 65536 in
set_option maxHeartbeats 40000000 in
theorem rmU0t (l : Launch) (Z : State) (a0 : Array Value) (hw : ∀ d ∈ tables_1, d.before a0 Z = true) (ws : List Jvm.Cond) (o : Addr) (x1 : Addr) (fu : Value) (lu : Value) (iu : Value) (ti : Value) (tb : Value) (ta : Value) (tq : Addr) (h0 : Heap) (n0 : Nat) (Z0 : n0 ≤ h0.size) (E_o : Exa Z h0 o oz1) (E_x1 : Exa Z h0 x1 oz0) (E_tq : Exa Z h0 tq oz0) (g_o : n0 ≤ o) (g_x1 : n0 ≤ x1) (g_tq : n0 ≤ tq) (ne_x1_tq : x1 ≠ tq) (F_first_o : Fld Z h0 o oz1 "first" oz2 fu) (F_last_o : Fld Z h0 o oz1 "last" oz2 lu) (F_in_x1 : Fld Z h0 x1 oz0 "in" oz6 iu) (F_before_x1 : Fld Z h0 x1 oz0 "before" oz2 .null) (F_after_x1 : Fld Z h0 x1 oz0 "after" oz2 (.ref tq)) (F_in_tq : Fld Z h0 tq oz0 "in" oz6 ti) (F_before_tq : Fld Z h0 tq oz0 "before" oz2 tb) (F_after_tq : Fld Z h0 tq oz0 "after" oz2 ta) :
    MetFree l (⟨oz1, "unlink", oz8⟩ : MethodName) (head1 (Jvm.Cond.code (⟨oz1, "unlink", oz8⟩ : MethodName) prog_10_method_9_code 2 none :: ws) ({ frames := 0, cells := 0, slots := 0, locals := 0 } : Room)) (fun a U => a = #[(.ref o), (.ref x1)] ∧ Z.Warmed39 U.vm ∧ U.heap = h0) (fun _ _ _ _ _ => True) (fun _ U oc U' => ∃ v L, oc = .returned v ∧ QU0t Z o x1 fu lu iu ti tb ta tq h0 n0 v U'.heap L ∧ FrameEnd U oc U' L ({ frames := 0, cells := 0, slots := 0, locals := 0 } : Room).cells ({ frames := 0, cells := 0, slots := 0, locals := 0 } : Room).slots) := by
  refine MetFree.of_bodySF (plainFor_of_name own_pn0) hisR ?_
  intro p e s m args below meth c s₁ Bd hml0 hP hK
  obtain ⟨rfl, hZ, hh⟩ := hP
  have hx := Bd.exec
  have hby := Bd.bytes
  have hml : c.maxLocals = 2 := hml0
  have hown : s.vm.findClass oz1 = some m.cls := findClass_of_methodNamed Bd.named
  have hnm := (name_of_methodNamed Bd.named Bd.method).1
  have X0 : Stand p l e ({ frames := 0, cells := 0, slots := 0, locals := 0 } : Room) s m #[(.ref o), (.ref x1)] below meth c s₁ [] 0 0 := Stand.of_body Bd
  have e0 : s₁.heap = h0 := by rw [← hh, Bd.state]; rfl
  have N0 := Fr.nil n0
  have pre0 : ∀ t, Steps p.tables e below (s₁.setTop (mkF m 0 #[rv o, rv x1] [])) t → Steps p.tables e below (s₁.setTop (entryFrame m #[(.ref o), (.ref x1)] 2)) t := fun t k => castTop (efU0t m o x1) k
  obtain ⟨T1, X1, e1, st1⟩ := getF X0 hx hZ hown (host := "") (Or.inl (own_w hw 69 rfl)) Via.refl e0 F_before_x1 (g := (mkF m 1 #[rv o, rv x1] [(.ref x1)])) rfl rfl (hb hby d12_1)
  obtain ⟨T2, X2, e2, st2⟩ := getF X1 hx hZ hown (host := "") (Or.inl (own_w hw 79 rfl)) Via.refl e1 F_after_x1 (g := (mkF m 9 #[rv o, rv x1] [(.ref x1), (.ref o)])) rfl rfl (hb hby d12_9)
  obtain ⟨T3, h3, X3, e3, W3, st3⟩ := putF X2 hx hZ hown (host := "") (Or.inl (own_w hw 36 rfl)) Via.refl e2 F_first_o E_o (Or.inl (own_w hw 37 rfl)) (own_w hw 2 rfl) (ty := (.object oz0)) (by decide) rfl rfl (g := (mkF m 12 #[rv o, rv x1] [(.ref tq), (.ref o)])) rfl rfl (hb hby d12_12)
  have Fw3 : Fld Z h3 o oz1 "first" oz2 (.ref tq) := F_first_o.same W3
  have N3 := Fr.snoc X3 N0 g_o
  have Ec5 : Exa Z h3 x1 oz0 := (E_x1.wr W3)
  have Ec6 : Exa Z h3 o oz1 := (E_o.wr W3)
  have ne4 : x1 ≠ o := ne_exa Ec5 Ec6 (by decide)
  have Fc7 : Fld Z h3 x1 oz0 "after" oz2 (.ref tq) := (F_after_x1.other W3 (Or.inl ne4))
  obtain ⟨T8, X8, e8, st8⟩ := getF X3 hx hZ hown (host := "") (Or.inl (own_w hw 79 rfl)) Via.refl e3 Fc7 (g := (mkF m 30 #[rv o, rv x1] [(.ref x1)])) rfl rfl (hb hby d12_30)
  obtain ⟨T9, X9, e9, st9⟩ := getF X8 hx hZ hown (host := "") (Or.inl (own_w hw 79 rfl)) Via.refl e8 Fc7 (g := (mkF m 48 #[rv o, rv x1] [(.ref x1)])) rfl rfl (hb hby d12_48)
  have Fc10 : Fld Z h3 x1 oz0 "before" oz2 .null := (F_before_x1.other W3 (Or.inl ne4))
  obtain ⟨T11, X11, e11, st11⟩ := getF X9 hx hZ hown (host := "") (Or.inl (own_w hw 69 rfl)) Via.refl e9 Fc10 (g := (mkF m 52 #[rv o, rv x1] [(.ref x1), (.ref tq)])) rfl rfl (hb hby d12_52)
  have Ec12 : Exa Z h3 tq oz0 := (E_tq.wr W3)
  have ne13 : tq ≠ o := ne_exa Ec12 Ec6 (by decide)
  have Fc14 : Fld Z h3 tq oz0 "before" oz2 tb := (F_before_tq.other W3 (Or.inl ne13))
  obtain ⟨T15, h15, X15, e15, W15, st15⟩ := putF X11 hx hZ hown (host := "") (Or.inl (own_w hw 69 rfl)) Via.refl e11 Fc14 Ec12 (Or.inl (own_w hw 70 rfl)) (own_w hw 11 rfl) (ty := (.object oz0)) (by decide) rfl rfl (g := (mkF m 55 #[rv o, rv x1] [.null, (.ref tq)])) rfl rfl (hb hby d12_55)
  have Fw15 : Fld Z h15 tq oz0 "before" oz2 .null := Fc14.same W15
  have N15 := Fr.snoc X15 N3 g_tq
  have Ec16 : Exa Z h15 x1 oz0 := (Ec5.wr W15)
  have Fc17 : Fld Z h15 x1 oz0 "in" oz6 iu := ((F_in_x1.other W3 (Or.inl ne4)).other W15 (Or.inl ne_x1_tq))
  obtain ⟨T18, h18, X18, e18, W18, st18⟩ := putF X15 hx hZ hown (host := "") (Or.inl (own_w hw 67 rfl)) Via.refl e15 Fc17 Ec16 (Or.inl (own_w hw 68 rfl)) (own_w hw 11 rfl) (ty := (.object oz1)) (by decide) rfl rfl (g := (mkF m 60 #[rv o, rv x1] [.null, (.ref x1)])) rfl rfl (hb hby d12_60)
  have Fw18 : Fld Z h18 x1 oz0 "in" oz6 .null := Fc17.same W18
  have N18 := Fr.snoc X18 N15 g_x1
  have Ec19 : Exa Z h18 x1 oz0 := (Ec16.wr W18)
  have Fc20 : Fld Z h18 x1 oz0 "before" oz2 .null := ((Fc10.other W15 (Or.inl ne_x1_tq)).other W18 (Or.inr (slot_ne (Or.inl (own_w hw 70 rfl)) (Or.inl (own_w hw 68 rfl)) (by decide) (t := (.object oz0)) (t' := (.object oz1)) (by decide) (by decide))))
  obtain ⟨T21, h21, X21, e21, W21, st21⟩ := putF X18 hx hZ hown (host := "") (Or.inl (own_w hw 69 rfl)) Via.refl e18 Fc20 Ec19 (Or.inl (own_w hw 70 rfl)) (own_w hw 11 rfl) (ty := (.object oz0)) (by decide) rfl rfl (g := (mkF m 65 #[rv o, rv x1] [.null, (.ref x1)])) rfl rfl (hb hby d12_65)
  have Fw21 : Fld Z h21 x1 oz0 "before" oz2 .null := Fc20.same W21
  have N21 := Fr.snoc X21 N18 g_x1
  have Ec22 : Exa Z h21 x1 oz0 := (Ec19.wr W21)
  have Fc23 : Fld Z h21 x1 oz0 "after" oz2 (.ref tq) := (((Fc7.other W15 (Or.inl ne_x1_tq)).other W18 (Or.inr (slot_ne (Or.inl (own_w hw 73 rfl)) (Or.inl (own_w hw 68 rfl)) (by decide) (t := (.object oz0)) (t' := (.object oz1)) (by decide) (by decide)))).other W21 (Or.inr (slot_ne (Or.inl (own_w hw 73 rfl)) (Or.inl (own_w hw 70 rfl)) (by decide) (t := (.object oz0)) (t' := (.object oz0)) (by decide) (by decide))))
  obtain ⟨T24, h24, X24, e24, W24, st24⟩ := putF X21 hx hZ hown (host := "") (Or.inl (own_w hw 79 rfl)) Via.refl e21 Fc23 Ec22 (Or.inl (own_w hw 73 rfl)) (own_w hw 11 rfl) (ty := (.object oz0)) (by decide) rfl rfl (g := (mkF m 70 #[rv o, rv x1] [.null, (.ref x1)])) rfl rfl (hb hby d12_70)
  have Fw24 : Fld Z h24 x1 oz0 "after" oz2 .null := Fc23.same W24
  have N24 := Fr.snoc X24 N21 g_x1
  have pre25 : ∀ tz, oS p e below T24 m 73 #[rv o, rv x1] [] tz → oS p e below s₁ m 0 #[rv o, rv x1] [] tz := fun tz kt => by
    show oS p e below s₁ m 0 #[rv o, rv x1] [] _
    refine XS.aloadN X0.here hx rfl (hb hby d12_0) rfl rfl ?_
    show oS p e below s₁ m 1 #[rv o, rv x1] [(.ref x1)] _
    refine st1 _ ?_
    refine XS.ifnonnullNo X1.here hx rfl (hb hby d12_4) rfl ?_
    refine XS.aloadN X1.here hx rfl (hb hby d12_7) rfl rfl ?_
    refine XS.aloadN X1.here hx rfl (hb hby d12_8) rfl rfl ?_
    show oS p e below T1 m 9 #[rv o, rv x1] [(.ref x1), (.ref o)] _
    refine st2 _ ?_
    show oS p e below T2 m 12 #[rv o, rv x1] [(.ref tq), (.ref o)] _
    refine st3 _ ?_
    refine XS.goto X3.here hx rfl (pc0 := 15) (pc' := 29) rfl (hb hby d12_15) (by decide) (by decide) ?_
    refine XS.aloadN X3.here hx rfl (hb hby d12_29) rfl rfl ?_
    show oS p e below T3 m 30 #[rv o, rv x1] [(.ref x1)] _
    refine st8 _ ?_
    refine XS.ifnonnullYes X8.here hx rfl (pc0 := 33) (pc' := 47) rfl (hb hby d12_33) rfl (by decide) (by decide) ?_
    refine XS.aloadN X8.here hx rfl (hb hby d12_47) rfl rfl ?_
    show oS p e below T8 m 48 #[rv o, rv x1] [(.ref x1)] _
    refine st9 _ ?_
    refine XS.aloadN X9.here hx rfl (hb hby d12_51) rfl rfl ?_
    show oS p e below T9 m 52 #[rv o, rv x1] [(.ref x1), (.ref tq)] _
    refine st11 _ ?_
    show oS p e below T11 m 55 #[rv o, rv x1] [.null, (.ref tq)] _
    refine st15 _ ?_
    refine XS.aloadN X15.here hx rfl (hb hby d12_58) rfl rfl ?_
    refine XS.aconstNull X15.here hx rfl (hb hby d12_59) ?_
    show oS p e below T15 m 60 #[rv o, rv x1] [.null, (.ref x1)] _
    refine st18 _ ?_
    refine XS.aloadN X18.here hx rfl (hb hby d12_63) rfl rfl ?_
    refine XS.aconstNull X18.here hx rfl (hb hby d12_64) ?_
    show oS p e below T18 m 65 #[rv o, rv x1] [.null, (.ref x1)] _
    refine st21 _ ?_
    refine XS.aloadN X21.here hx rfl (hb hby d12_68) rfl rfl ?_
    refine XS.aconstNull X21.here hx rfl (hb hby d12_69) ?_
    show oS p e below T21 m 70 #[rv o, rv x1] [.null, (.ref x1)] _
    refine st24 _ ?_
    exact kt
  have KP26 : Keep h0 h24 [o, x1, tq] := ((((((Keep.refl h0 [o, x1, tq]).wr W3 (Or.inl (List.mem_of_getElem? (i := 0) rfl))).wr W15 (Or.inl (List.mem_of_getElem? (i := 2) rfl))).wr W18 (Or.inl (List.mem_of_getElem? (i := 1) rfl))).wr W21 (Or.inl (List.mem_of_getElem? (i := 1) rfl))).wr W24 (Or.inl (List.mem_of_getElem? (i := 1) rfl)))
  have Fc27 : Fld Z h24 o oz1 "first" oz2 (.ref tq) := ((((Fw3.other W15 (Or.inl (Ne.symm ne13))).other W18 (Or.inl (Ne.symm ne4))).other W21 (Or.inl (Ne.symm ne4))).other W24 (Or.inl (Ne.symm ne4)))
  have Fc28 : Fld Z h24 o oz1 "last" oz2 lu := (((((F_last_o.other W3 (Or.inr (slot_ne (Or.inl (own_w hw 44 rfl)) (Or.inl (own_w hw 37 rfl)) (by decide) (t := (.object oz0)) (t' := (.object oz0)) (by decide) (by decide)))).other W15 (Or.inl (Ne.symm ne13))).other W18 (Or.inl (Ne.symm ne4))).other W21 (Or.inl (Ne.symm ne4))).other W24 (Or.inl (Ne.symm ne4)))
  have Fc29 : Fld Z h24 x1 oz0 "in" oz6 .null := ((Fw18.other W21 (Or.inr (slot_ne (Or.inl (own_w hw 68 rfl)) (Or.inl (own_w hw 70 rfl)) (by decide) (t := (.object oz1)) (t' := (.object oz0)) (by decide) (by decide)))).other W24 (Or.inr (slot_ne (Or.inl (own_w hw 68 rfl)) (Or.inl (own_w hw 73 rfl)) (by decide) (t := (.object oz1)) (t' := (.object oz0)) (by decide) (by decide))))
  have Fc30 : Fld Z h24 x1 oz0 "before" oz2 .null := (Fw21.other W24 (Or.inr (slot_ne (Or.inl (own_w hw 70 rfl)) (Or.inl (own_w hw 73 rfl)) (by decide) (t := (.object oz0)) (t' := (.object oz0)) (by decide) (by decide))))
  have Fc31 : Fld Z h24 tq oz0 "in" oz6 ti := (((((F_in_tq.other W3 (Or.inl ne13)).other W15 (Or.inr (slot_ne (Or.inl (own_w hw 68 rfl)) (Or.inl (own_w hw 70 rfl)) (by decide) (t := (.object oz1)) (t' := (.object oz0)) (by decide) (by decide)))).other W18 (Or.inl (Ne.symm ne_x1_tq))).other W21 (Or.inl (Ne.symm ne_x1_tq))).other W24 (Or.inl (Ne.symm ne_x1_tq)))
  have Fc32 : Fld Z h24 tq oz0 "before" oz2 .null := (((Fw15.other W18 (Or.inl (Ne.symm ne_x1_tq))).other W21 (Or.inl (Ne.symm ne_x1_tq))).other W24 (Or.inl (Ne.symm ne_x1_tq)))
  have Fc33 : Fld Z h24 tq oz0 "after" oz2 ta := (((((F_after_tq.other W3 (Or.inl ne13)).other W15 (Or.inr (slot_ne (Or.inl (own_w hw 73 rfl)) (Or.inl (own_w hw 70 rfl)) (by decide) (t := (.object oz0)) (t' := (.object oz0)) (by decide) (by decide)))).other W18 (Or.inl (Ne.symm ne_x1_tq))).other W21 (Or.inl (Ne.symm ne_x1_tq))).other W24 (Or.inl (Ne.symm ne_x1_tq)))
  obtain ⟨fs, hr, hrun, hended, hW, hsame⟩ := X24.leave (v := none) (fun _ => rfl)
  refine ⟨_, _, pre0 _ (pre25 _ ?_), hrun, hended, _, _, rfl, ?_, ⟨_, rfl⟩, hW, hsame.mono (by decide) (by decide)⟩
  · show oS p e below T24 m 73 #[rv o, rv x1] [] _
    exact X24.returnOut hx Bd.returns (hb hby d12_73) hr
  · show QU0t Z o x1 fu lu iu ti tb ta tq h0 n0 _ T24.heap _
    rw [e24]
    exact ⟨rfl, N24, KP26, Fc27, Fc28, Fc29, Fc30, Fw24, Fc31, Fc32, Fc33⟩
theorem d11_0 : decode prog_10_method_5_code 0 = .ok (.aload_n 1, 1) := by decide +kernel
theorem d11_1 : decode prog_10_method_5_code 1 = .ok (.aload_n 0, 1) := by decide +kernel
theorem d11_2 : decode prog_10_method_5_code 2 = .ok (.putfield 16, 3) := by decide +kernel
theorem d11_5 : decode prog_10_method_5_code 5 = .ok (.aload_n 1, 1) := by decide +kernel
theorem d11_6 : decode prog_10_method_5_code 6 = .ok (.aload_n 0, 1) := by decide +kernel
theorem d11_7 : decode prog_10_method_5_code 7 = .ok (.getfield 13, 3) := by decide +kernel
theorem d11_10 : decode prog_10_method_5_code 10 = .ok (.putfield 22, 3) := by decide +kernel
theorem d11_13 : decode prog_10_method_5_code 13 = .ok (.aload_n 0, 1) := by decide +kernel
theorem d11_14 : decode prog_10_method_5_code 14 = .ok (.getfield 13, 3) := by decide +kernel
theorem d11_17 : decode prog_10_method_5_code 17 = .ok (.ifnonnull 11, 3) := by decide +kernel
theorem d11_20 : decode prog_10_method_5_code 20 = .ok (.aload_n 0, 1) := by decide +kernel
theorem d11_21 : decode prog_10_method_5_code 21 = .ok (.aload_n 1, 1) := by decide +kernel
theorem d11_22 : decode prog_10_method_5_code 22 = .ok (.putfield 7, 3) := by decide +kernel
theorem d11_25 : decode prog_10_method_5_code 25 = .ok (.goto 11, 3) := by decide +kernel
theorem d11_36 : decode prog_10_method_5_code 36 = .ok (.aload_n 0, 1) := by decide +kernel
theorem d11_37 : decode prog_10_method_5_code 37 = .ok (.aload_n 1, 1) := by decide +kernel
theorem d11_38 : decode prog_10_method_5_code 38 = .ok (.putfield 13, 3) := by decide +kernel
theorem d11_41 : decode prog_10_method_5_code 41 = .ok (.return_, 1) := by decide +kernel
theorem efA0 (m : MethodId) (o : Addr) (x1 : Addr) : entryFrame m #[(.ref o), (.ref x1)] 2 = mkF m 0 #[rv o, rv x1] [] := by first | (simp [entryFrame, mkF, argsToLocals, Value.category]; done) | rfl
def QA0 (Z : State) (o : Addr) (x1 : Addr) (fu : Value) (h0 : Heap) (n0 : Nat) (v : Option Value) (h : Heap) (L : List Loc) : Prop := v = none ∧ Fr n0 L ∧ Keep h0 h [o, x1] ∧ Fld Z h o oz1 "first" oz2 (.ref x1) ∧ Fld Z h o oz1 "last" oz2 (.ref x1) ∧ Fld Z h x1 oz0 "in" oz6 (.ref o) ∧ Fld Z h x1 oz0 "before" oz2 .null ∧ Fld Z h x1 oz0 "after" oz2 .null
set_option maxRecDepth 65536 in
set_option maxHeartbeats 40000000 in
theorem rmA0 (l : Launch) (Z : State) (a0 : Array Value) (hw : ∀ d ∈ tables_1, d.before a0 Z = true) (ws : List Jvm.Cond) (o : Addr) (x1 : Addr) (fu : Value) (h0 : Heap) (n0 : Nat) (Z0 : n0 ≤ h0.size) (E_o : Exa Z h0 o oz1) (E_x1 : Exa Z h0 x1 oz0) (g_o : n0 ≤ o) (g_x1 : n0 ≤ x1) (F_first_o : Fld Z h0 o oz1 "first" oz2 fu) (F_last_o : Fld Z h0 o oz1 "last" oz2 .null) (F_in_x1 : Fld Z h0 x1 oz0 "in" oz6 .null) (F_before_x1 : Fld Z h0 x1 oz0 "before" oz2 .null) (F_after_x1 : Fld Z h0 x1 oz0 "after" oz2 .null) :
    MetFree l (⟨oz1, "add", oz8⟩ : MethodName) (head1 (Jvm.Cond.code (⟨oz1, "add", oz8⟩ : MethodName) prog_10_method_5_code 2 none :: ws) ({ frames := 0, cells := 0, slots := 0, locals := 0 } : Room)) (fun a U => a = #[(.ref o), (.ref x1)] ∧ Z.Warmed39 U.vm ∧ U.heap = h0) (fun _ _ _ _ _ => True) (fun _ U oc U' => ∃ v L, oc = .returned v ∧ QA0 Z o x1 fu h0 n0 v U'.heap L ∧ FrameEnd U oc U' L ({ frames := 0, cells := 0, slots := 0, locals := 0 } : Room).cells ({ frames := 0, cells := 0, slots := 0, locals := 0 } : Room).slots) := by
  refine MetFree.of_bodySF (plainFor_of_name own_pn0) hisR ?_
  intro p e s m args below meth c s₁ Bd hml0 hP hK
  obtain ⟨rfl, hZ, hh⟩ := hP
  have hx := Bd.exec
  have hby := Bd.bytes
  have hml : c.maxLocals = 2 := hml0
  have hown : s.vm.findClass oz1 = some m.cls := findClass_of_methodNamed Bd.named
  have hnm := (name_of_methodNamed Bd.named Bd.method).1
  have X0 : Stand p l e ({ frames := 0, cells := 0, slots := 0, locals := 0 } : Room) s m #[(.ref o), (.ref x1)] below meth c s₁ [] 0 0 := Stand.of_body Bd
  have e0 : s₁.heap = h0 := by rw [← hh, Bd.state]; rfl
  have N0 := Fr.nil n0
  have pre0 : ∀ t, Steps p.tables e below (s₁.setTop (mkF m 0 #[rv o, rv x1] [])) t → Steps p.tables e below (s₁.setTop (entryFrame m #[(.ref o), (.ref x1)] 2)) t := fun t k => castTop (efA0 m o x1) k
  obtain ⟨T1, h1, X1, e1, W1, st1⟩ := putF X0 hx hZ hown (host := "") (Or.inl (own_w hw 67 rfl)) Via.refl e0 F_in_x1 E_x1 (Or.inl (own_w hw 68 rfl)) (own_w hw 11 rfl) (ty := (.object oz1)) (by decide) rfl rfl (g := (mkF m 2 #[rv o, rv x1] [(.ref o), (.ref x1)])) rfl rfl (hb hby d11_2)
  have Fw1 : Fld Z h1 x1 oz0 "in" oz6 (.ref o) := F_in_x1.same W1
  have N1 := Fr.snoc X1 N0 g_x1
  have Ec3 : Exa Z h1 o oz1 := (E_o.wr W1)
  have Ec4 : Exa Z h1 x1 oz0 := (E_x1.wr W1)
  have ne2 : o ≠ x1 := ne_exa Ec3 Ec4 (by decide)
  have Fc5 : Fld Z h1 o oz1 "last" oz2 .null := (F_last_o.other W1 (Or.inl ne2))
  obtain ⟨T6, X6, e6, st6⟩ := getF X1 hx hZ hown (host := "") (Or.inl (own_w hw 43 rfl)) Via.refl e1 Fc5 (g := (mkF m 7 #[rv o, rv x1] [(.ref o), (.ref x1)])) rfl rfl (hb hby d11_7)
  have Fc7 : Fld Z h1 x1 oz0 "before" oz2 .null := (F_before_x1.other W1 (Or.inr (slot_ne (Or.inl (own_w hw 70 rfl)) (Or.inl (own_w hw 68 rfl)) (by decide) (t := (.object oz0)) (t' := (.object oz1)) (by decide) (by decide))))
  obtain ⟨T8, h8, X8, e8, W8, st8⟩ := putF X6 hx hZ hown (host := "") (Or.inl (own_w hw 69 rfl)) Via.refl e6 Fc7 Ec4 (Or.inl (own_w hw 70 rfl)) (own_w hw 11 rfl) (ty := (.object oz0)) (by decide) rfl rfl (g := (mkF m 10 #[rv o, rv x1] [.null, (.ref x1)])) rfl rfl (hb hby d11_10)
  have Fw8 : Fld Z h8 x1 oz0 "before" oz2 .null := Fc7.same W8
  have N8 := Fr.snoc X8 N1 g_x1
  have Fc9 : Fld Z h8 o oz1 "last" oz2 .null := (Fc5.other W8 (Or.inl ne2))
  obtain ⟨T10, X10, e10, st10⟩ := getF X8 hx hZ hown (host := "") (Or.inl (own_w hw 43 rfl)) Via.refl e8 Fc9 (g := (mkF m 14 #[rv o, rv x1] [(.ref o)])) rfl rfl (hb hby d11_14)
  have Ec11 : Exa Z h8 o oz1 := (Ec3.wr W8)
  have Fc12 : Fld Z h8 o oz1 "first" oz2 fu := ((F_first_o.other W1 (Or.inl ne2)).other W8 (Or.inl ne2))
  obtain ⟨T13, h13, X13, e13, W13, st13⟩ := putF X10 hx hZ hown (host := "") (Or.inl (own_w hw 36 rfl)) Via.refl e10 Fc12 Ec11 (Or.inl (own_w hw 37 rfl)) (own_w hw 2 rfl) (ty := (.object oz0)) (by decide) rfl rfl (g := (mkF m 22 #[rv o, rv x1] [(.ref x1), (.ref o)])) rfl rfl (hb hby d11_22)
  have Fw13 : Fld Z h13 o oz1 "first" oz2 (.ref x1) := Fc12.same W13
  have N13 := Fr.snoc X13 N8 g_o
  have Ec14 : Exa Z h13 o oz1 := (Ec11.wr W13)
  have Fc15 : Fld Z h13 o oz1 "last" oz2 .null := (Fc9.other W13 (Or.inr (slot_ne (Or.inl (own_w hw 44 rfl)) (Or.inl (own_w hw 37 rfl)) (by decide) (t := (.object oz0)) (t' := (.object oz0)) (by decide) (by decide))))
  obtain ⟨T16, h16, X16, e16, W16, st16⟩ := putF X13 hx hZ hown (host := "") (Or.inl (own_w hw 43 rfl)) Via.refl e13 Fc15 Ec14 (Or.inl (own_w hw 44 rfl)) (own_w hw 2 rfl) (ty := (.object oz0)) (by decide) rfl rfl (g := (mkF m 38 #[rv o, rv x1] [(.ref x1), (.ref o)])) rfl rfl (hb hby d11_38)
  have Fw16 : Fld Z h16 o oz1 "last" oz2 (.ref x1) := Fc15.same W16
  have N16 := Fr.snoc X16 N13 g_o
  have pre17 : ∀ tz, oS p e below T16 m 41 #[rv o, rv x1] [] tz → oS p e below s₁ m 0 #[rv o, rv x1] [] tz := fun tz kt => by
    show oS p e below s₁ m 0 #[rv o, rv x1] [] _
    refine XS.aloadN X0.here hx rfl (hb hby d11_0) rfl rfl ?_
    refine XS.aloadN X0.here hx rfl (hb hby d11_1) rfl rfl ?_
    show oS p e below s₁ m 2 #[rv o, rv x1] [(.ref o), (.ref x1)] _
    refine st1 _ ?_
    refine XS.aloadN X1.here hx rfl (hb hby d11_5) rfl rfl ?_
    refine XS.aloadN X1.here hx rfl (hb hby d11_6) rfl rfl ?_
    show oS p e below T1 m 7 #[rv o, rv x1] [(.ref o), (.ref x1)] _
    refine st6 _ ?_
    show oS p e below T6 m 10 #[rv o, rv x1] [.null, (.ref x1)] _
    refine st8 _ ?_
    refine XS.aloadN X8.here hx rfl (hb hby d11_13) rfl rfl ?_
    show oS p e below T8 m 14 #[rv o, rv x1] [(.ref o)] _
    refine st10 _ ?_
    refine XS.ifnonnullNo X10.here hx rfl (hb hby d11_17) rfl ?_
    refine XS.aloadN X10.here hx rfl (hb hby d11_20) rfl rfl ?_
    refine XS.aloadN X10.here hx rfl (hb hby d11_21) rfl rfl ?_
    show oS p e below T10 m 22 #[rv o, rv x1] [(.ref x1), (.ref o)] _
    refine st13 _ ?_
    refine XS.goto X13.here hx rfl (pc0 := 25) (pc' := 36) rfl (hb hby d11_25) (by decide) (by decide) ?_
    refine XS.aloadN X13.here hx rfl (hb hby d11_36) rfl rfl ?_
    refine XS.aloadN X13.here hx rfl (hb hby d11_37) rfl rfl ?_
    show oS p e below T13 m 38 #[rv o, rv x1] [(.ref x1), (.ref o)] _
    refine st16 _ ?_
    exact kt
  have KP18 : Keep h0 h16 [o, x1] := (((((Keep.refl h0 [o, x1]).wr W1 (Or.inl (List.mem_of_getElem? (i := 1) rfl))).wr W8 (Or.inl (List.mem_of_getElem? (i := 1) rfl))).wr W13 (Or.inl (List.mem_of_getElem? (i := 0) rfl))).wr W16 (Or.inl (List.mem_of_getElem? (i := 0) rfl)))
  have Fc19 : Fld Z h16 o oz1 "first" oz2 (.ref x1) := (Fw13.other W16 (Or.inr (slot_ne (Or.inl (own_w hw 37 rfl)) (Or.inl (own_w hw 44 rfl)) (by decide) (t := (.object oz0)) (t' := (.object oz0)) (by decide) (by decide))))
  have Fc20 : Fld Z h16 x1 oz0 "in" oz6 (.ref o) := (((Fw1.other W8 (Or.inr (slot_ne (Or.inl (own_w hw 68 rfl)) (Or.inl (own_w hw 70 rfl)) (by decide) (t := (.object oz1)) (t' := (.object oz0)) (by decide) (by decide)))).other W13 (Or.inl (Ne.symm ne2))).other W16 (Or.inl (Ne.symm ne2)))
  have Fc21 : Fld Z h16 x1 oz0 "before" oz2 .null := ((Fw8.other W13 (Or.inl (Ne.symm ne2))).other W16 (Or.inl (Ne.symm ne2)))
  have Fc22 : Fld Z h16 x1 oz0 "after" oz2 .null := ((((F_after_x1.other W1 (Or.inr (slot_ne (Or.inl (own_w hw 73 rfl)) (Or.inl (own_w hw 68 rfl)) (by decide) (t := (.object oz0)) (t' := (.object oz1)) (by decide) (by decide)))).other W8 (Or.inr (slot_ne (Or.inl (own_w hw 73 rfl)) (Or.inl (own_w hw 70 rfl)) (by decide) (t := (.object oz0)) (t' := (.object oz0)) (by decide) (by decide)))).other W13 (Or.inl (Ne.symm ne2))).other W16 (Or.inl (Ne.symm ne2)))
  obtain ⟨fs, hr, hrun, hended, hW, hsame⟩ := X16.leave (v := none) (fun _ => rfl)
  refine ⟨_, _, pre0 _ (pre17 _ ?_), hrun, hended, _, _, rfl, ?_, ⟨_, rfl⟩, hW, hsame.mono (by decide) (by decide)⟩
  · show oS p e below T16 m 41 #[rv o, rv x1] [] _
    exact X16.returnOut hx Bd.returns (hb hby d11_41) hr
  · show QA0 Z o x1 fu h0 n0 _ T16.heap _
    rw [e16]
    exact ⟨rfl, N16, KP18, Fc19, Fw16, Fc20, Fc21, Fc22⟩
theorem d11_28 : decode prog_10_method_5_code 28 = .ok (.aload_n 0, 1) := by decide +kernel
theorem d11_29 : decode prog_10_method_5_code 29 = .ok (.getfield 13, 3) := by decide +kernel
theorem d11_32 : decode prog_10_method_5_code 32 = .ok (.aload_n 1, 1) := by decide +kernel
theorem d11_33 : decode prog_10_method_5_code 33 = .ok (.putfield 25, 3) := by decide +kernel
theorem efA1 (m : MethodId) (o : Addr) (x1 : Addr) : entryFrame m #[(.ref o), (.ref x1)] 2 = mkF m 0 #[rv o, rv x1] [] := by first | (simp [entryFrame, mkF, argsToLocals, Value.category]; done) | rfl
def QA1 (Z : State) (o : Addr) (x1 : Addr) (fu : Value) (ti : Value) (tb : Value) (ta : Value) (tq : Addr) (h0 : Heap) (n0 : Nat) (v : Option Value) (h : Heap) (L : List Loc) : Prop := v = none ∧ Fr n0 L ∧ Keep h0 h [o, x1, tq] ∧ Fld Z h o oz1 "first" oz2 fu ∧ Fld Z h o oz1 "last" oz2 (.ref x1) ∧ Fld Z h x1 oz0 "in" oz6 (.ref o) ∧ Fld Z h x1 oz0 "before" oz2 (.ref tq) ∧ Fld Z h x1 oz0 "after" oz2 .null ∧ Fld Z h tq oz0 "in" oz6 ti ∧ Fld Z h tq oz0 "before" oz2 tb ∧ Fld Z h tq oz0 "after" oz2 (.ref x1)
set_option maxRecDepth 65536 in
set_option maxHeartbeats 40000000 in
theorem rmA1 (l : Launch) (Z : State) (a0 : Array Value) (hw : ∀ d ∈ tables_1, d.before a0 Z = true) (ws : List Jvm.Cond) (o : Addr) (x1 : Addr) (fu : Value) (ti : Value) (tb : Value) (ta : Value) (tq : Addr) (h0 : Heap) (n0 : Nat) (Z0 : n0 ≤ h0.size) (E_o : Exa Z h0 o oz1) (E_x1 : Exa Z h0 x1 oz0) (E_tq : Exa Z h0 tq oz0) (g_o : n0 ≤ o) (g_x1 : n0 ≤ x1) (g_tq : n0 ≤ tq) (ne_x1_tq : x1 ≠ tq) (F_first_o : Fld Z h0 o oz1 "first" oz2 fu) (F_last_o : Fld Z h0 o oz1 "last" oz2 (.ref tq)) (F_in_x1 : Fld Z h0 x1 oz0 "in" oz6 .null) (F_before_x1 : Fld Z h0 x1 oz0 "before" oz2 .null) (F_after_x1 : Fld Z h0 x1 oz0 "after" oz2 .null) (F_in_tq : Fld Z h0 tq oz0 "in" oz6 ti) (F_before_tq : Fld Z h0 tq oz0 "before" oz2 tb) (F_after_tq : Fld Z h0 tq oz0 "after" oz2 ta) :
    MetFree l (⟨oz1, "add", oz8⟩ : MethodName) (head1 (Jvm.Cond.code (⟨oz1, "add", oz8⟩ : MethodName) prog_10_method_5_code 2 none :: ws) ({ frames := 0, cells := 0, slots := 0, locals := 0 } : Room)) (fun a U => a = #[(.ref o), (.ref x1)] ∧ Z.Warmed39 U.vm ∧ U.heap = h0) (fun _ _ _ _ _ => True) (fun _ U oc U' => ∃ v L, oc = .returned v ∧ QA1 Z o x1 fu ti tb ta tq h0 n0 v U'.heap L ∧ FrameEnd U oc U' L ({ frames := 0, cells := 0, slots := 0, locals := 0 } : Room).cells ({ frames := 0, cells := 0, slots := 0, locals := 0 } : Room).slots) := by
  refine MetFree.of_bodySF (plainFor_of_name own_pn0) hisR ?_
  intro p e s m args below meth c s₁ Bd hml0 hP hK
  obtain ⟨rfl, hZ, hh⟩ := hP
  have hx := Bd.exec
  have hby := Bd.bytes
  have hml : c.maxLocals = 2 := hml0
  have hown : s.vm.findClass oz1 = some m.cls := findClass_of_methodNamed Bd.named
  have hnm := (name_of_methodNamed Bd.named Bd.method).1
  have X0 : Stand p l e ({ frames := 0, cells := 0, slots := 0, locals := 0 } : Room) s m #[(.ref o), (.ref x1)] below meth c s₁ [] 0 0 := Stand.of_body Bd
  have e0 : s₁.heap = h0 := by rw [← hh, Bd.state]; rfl
  have N0 := Fr.nil n0
  have pre0 : ∀ t, Steps p.tables e below (s₁.setTop (mkF m 0 #[rv o, rv x1] [])) t → Steps p.tables e below (s₁.setTop (entryFrame m #[(.ref o), (.ref x1)] 2)) t := fun t k => castTop (efA1 m o x1) k
  obtain ⟨T1, h1, X1, e1, W1, st1⟩ := putF X0 hx hZ hown (host := "") (Or.inl (own_w hw 67 rfl)) Via.refl e0 F_in_x1 E_x1 (Or.inl (own_w hw 68 rfl)) (own_w hw 11 rfl) (ty := (.object oz1)) (by decide) rfl rfl (g := (mkF m 2 #[rv o, rv x1] [(.ref o), (.ref x1)])) rfl rfl (hb hby d11_2)
  have Fw1 : Fld Z h1 x1 oz0 "in" oz6 (.ref o) := F_in_x1.same W1
  have N1 := Fr.snoc X1 N0 g_x1
  have Ec3 : Exa Z h1 o oz1 := (E_o.wr W1)
  have Ec4 : Exa Z h1 x1 oz0 := (E_x1.wr W1)
  have ne2 : o ≠ x1 := ne_exa Ec3 Ec4 (by decide)
  have Fc5 : Fld Z h1 o oz1 "last" oz2 (.ref tq) := (F_last_o.other W1 (Or.inl ne2))
  obtain ⟨T6, X6, e6, st6⟩ := getF X1 hx hZ hown (host := "") (Or.inl (own_w hw 43 rfl)) Via.refl e1 Fc5 (g := (mkF m 7 #[rv o, rv x1] [(.ref o), (.ref x1)])) rfl rfl (hb hby d11_7)
  have Fc7 : Fld Z h1 x1 oz0 "before" oz2 .null := (F_before_x1.other W1 (Or.inr (slot_ne (Or.inl (own_w hw 70 rfl)) (Or.inl (own_w hw 68 rfl)) (by decide) (t := (.object oz0)) (t' := (.object oz1)) (by decide) (by decide))))
  obtain ⟨T8, h8, X8, e8, W8, st8⟩ := putF X6 hx hZ hown (host := "") (Or.inl (own_w hw 69 rfl)) Via.refl e6 Fc7 Ec4 (Or.inl (own_w hw 70 rfl)) (own_w hw 11 rfl) (ty := (.object oz0)) (by decide) rfl rfl (g := (mkF m 10 #[rv o, rv x1] [(.ref tq), (.ref x1)])) rfl rfl (hb hby d11_10)
  have Fw8 : Fld Z h8 x1 oz0 "before" oz2 (.ref tq) := Fc7.same W8
  have N8 := Fr.snoc X8 N1 g_x1
  have Fc9 : Fld Z h8 o oz1 "last" oz2 (.ref tq) := (Fc5.other W8 (Or.inl ne2))
  obtain ⟨T10, X10, e10, st10⟩ := getF X8 hx hZ hown (host := "") (Or.inl (own_w hw 43 rfl)) Via.refl e8 Fc9 (g := (mkF m 14 #[rv o, rv x1] [(.ref o)])) rfl rfl (hb hby d11_14)
  obtain ⟨T11, X11, e11, st11⟩ := getF X10 hx hZ hown (host := "") (Or.inl (own_w hw 43 rfl)) Via.refl e10 Fc9 (g := (mkF m 29 #[rv o, rv x1] [(.ref o)])) rfl rfl (hb hby d11_29)
  have Ec12 : Exa Z h8 tq oz0 := ((E_tq.wr W1).wr W8)
  have Fc13 : Fld Z h8 tq oz0 "after" oz2 ta := ((F_after_tq.other W1 (Or.inl (Ne.symm ne_x1_tq))).other W8 (Or.inl (Ne.symm ne_x1_tq)))
  obtain ⟨T14, h14, X14, e14, W14, st14⟩ := putF X11 hx hZ hown (host := "") (Or.inl (own_w hw 79 rfl)) Via.refl e11 Fc13 Ec12 (Or.inl (own_w hw 73 rfl)) (own_w hw 11 rfl) (ty := (.object oz0)) (by decide) rfl rfl (g := (mkF m 33 #[rv o, rv x1] [(.ref x1), (.ref tq)])) rfl rfl (hb hby d11_33)
  have Fw14 : Fld Z h14 tq oz0 "after" oz2 (.ref x1) := Fc13.same W14
  have N14 := Fr.snoc X14 N8 g_tq
  have Ec15 : Exa Z h14 o oz1 := ((Ec3.wr W8).wr W14)
  have Ec17 : Exa Z h14 tq oz0 := (Ec12.wr W14)
  have ne16 : o ≠ tq := ne_exa Ec15 Ec17 (by decide)
  have Fc18 : Fld Z h14 o oz1 "last" oz2 (.ref tq) := (Fc9.other W14 (Or.inl ne16))
  obtain ⟨T19, h19, X19, e19, W19, st19⟩ := putF X14 hx hZ hown (host := "") (Or.inl (own_w hw 43 rfl)) Via.refl e14 Fc18 Ec15 (Or.inl (own_w hw 44 rfl)) (own_w hw 2 rfl) (ty := (.object oz0)) (by decide) rfl rfl (g := (mkF m 38 #[rv o, rv x1] [(.ref x1), (.ref o)])) rfl rfl (hb hby d11_38)
  have Fw19 : Fld Z h19 o oz1 "last" oz2 (.ref x1) := Fc18.same W19
  have N19 := Fr.snoc X19 N14 g_o
  have pre20 : ∀ tz, oS p e below T19 m 41 #[rv o, rv x1] [] tz → oS p e below s₁ m 0 #[rv o, rv x1] [] tz := fun tz kt => by
    show oS p e below s₁ m 0 #[rv o, rv x1] [] _
    refine XS.aloadN X0.here hx rfl (hb hby d11_0) rfl rfl ?_
    refine XS.aloadN X0.here hx rfl (hb hby d11_1) rfl rfl ?_
    show oS p e below s₁ m 2 #[rv o, rv x1] [(.ref o), (.ref x1)] _
    refine st1 _ ?_
    refine XS.aloadN X1.here hx rfl (hb hby d11_5) rfl rfl ?_
    refine XS.aloadN X1.here hx rfl (hb hby d11_6) rfl rfl ?_
    show oS p e below T1 m 7 #[rv o, rv x1] [(.ref o), (.ref x1)] _
    refine st6 _ ?_
    show oS p e below T6 m 10 #[rv o, rv x1] [(.ref tq), (.ref x1)] _
    refine st8 _ ?_
    refine XS.aloadN X8.here hx rfl (hb hby d11_13) rfl rfl ?_
    show oS p e below T8 m 14 #[rv o, rv x1] [(.ref o)] _
    refine st10 _ ?_
    refine XS.ifnonnullYes X10.here hx rfl (pc0 := 17) (pc' := 28) rfl (hb hby d11_17) rfl (by decide) (by decide) ?_
    refine XS.aloadN X10.here hx rfl (hb hby d11_28) rfl rfl ?_
    show oS p e below T10 m 29 #[rv o, rv x1] [(.ref o)] _
    refine st11 _ ?_
    refine XS.aloadN X11.here hx rfl (hb hby d11_32) rfl rfl ?_
    show oS p e below T11 m 33 #[rv o, rv x1] [(.ref x1), (.ref tq)] _
    refine st14 _ ?_
    refine XS.aloadN X14.here hx rfl (hb hby d11_36) rfl rfl ?_
    refine XS.aloadN X14.here hx rfl (hb hby d11_37) rfl rfl ?_
    show oS p e below T14 m 38 #[rv o, rv x1] [(.ref x1), (.ref o)] _
    refine st19 _ ?_
    exact kt
  have KP21 : Keep h0 h19 [o, x1, tq] := (((((Keep.refl h0 [o, x1, tq]).wr W1 (Or.inl (List.mem_of_getElem? (i := 1) rfl))).wr W8 (Or.inl (List.mem_of_getElem? (i := 1) rfl))).wr W14 (Or.inl (List.mem_of_getElem? (i := 2) rfl))).wr W19 (Or.inl (List.mem_of_getElem? (i := 0) rfl)))
  have Fc22 : Fld Z h19 o oz1 "first" oz2 fu := ((((F_first_o.other W1 (Or.inl ne2)).other W8 (Or.inl ne2)).other W14 (Or.inl ne16)).other W19 (Or.inr (slot_ne (Or.inl (own_w hw 37 rfl)) (Or.inl (own_w hw 44 rfl)) (by decide) (t := (.object oz0)) (t' := (.object oz0)) (by decide) (by decide))))
  have Fc23 : Fld Z h19 x1 oz0 "in" oz6 (.ref o) := (((Fw1.other W8 (Or.inr (slot_ne (Or.inl (own_w hw 68 rfl)) (Or.inl (own_w hw 70 rfl)) (by decide) (t := (.object oz1)) (t' := (.object oz0)) (by decide) (by decide)))).other W14 (Or.inl ne_x1_tq)).other W19 (Or.inl (Ne.symm ne2)))
  have Fc24 : Fld Z h19 x1 oz0 "before" oz2 (.ref tq) := ((Fw8.other W14 (Or.inl ne_x1_tq)).other W19 (Or.inl (Ne.symm ne2)))
  have Fc25 : Fld Z h19 x1 oz0 "after" oz2 .null := ((((F_after_x1.other W1 (Or.inr (slot_ne (Or.inl (own_w hw 73 rfl)) (Or.inl (own_w hw 68 rfl)) (by decide) (t := (.object oz0)) (t' := (.object oz1)) (by decide) (by decide)))).other W8 (Or.inr (slot_ne (Or.inl (own_w hw 73 rfl)) (Or.inl (own_w hw 70 rfl)) (by decide) (t := (.object oz0)) (t' := (.object oz0)) (by decide) (by decide)))).other W14 (Or.inl ne_x1_tq)).other W19 (Or.inl (Ne.symm ne2)))
  have Fc26 : Fld Z h19 tq oz0 "in" oz6 ti := ((((F_in_tq.other W1 (Or.inl (Ne.symm ne_x1_tq))).other W8 (Or.inl (Ne.symm ne_x1_tq))).other W14 (Or.inr (slot_ne (Or.inl (own_w hw 68 rfl)) (Or.inl (own_w hw 73 rfl)) (by decide) (t := (.object oz1)) (t' := (.object oz0)) (by decide) (by decide)))).other W19 (Or.inl (Ne.symm ne16)))
  have Fc27 : Fld Z h19 tq oz0 "before" oz2 tb := ((((F_before_tq.other W1 (Or.inl (Ne.symm ne_x1_tq))).other W8 (Or.inl (Ne.symm ne_x1_tq))).other W14 (Or.inr (slot_ne (Or.inl (own_w hw 70 rfl)) (Or.inl (own_w hw 73 rfl)) (by decide) (t := (.object oz0)) (t' := (.object oz0)) (by decide) (by decide)))).other W19 (Or.inl (Ne.symm ne16)))
  have Fc28 : Fld Z h19 tq oz0 "after" oz2 (.ref x1) := (Fw14.other W19 (Or.inl (Ne.symm ne16)))
  obtain ⟨fs, hr, hrun, hended, hW, hsame⟩ := X19.leave (v := none) (fun _ => rfl)
  refine ⟨_, _, pre0 _ (pre20 _ ?_), hrun, hended, _, _, rfl, ?_, ⟨_, rfl⟩, hW, hsame.mono (by decide) (by decide)⟩
  · show oS p e below T19 m 41 #[rv o, rv x1] [] _
    exact X19.returnOut hx Bd.returns (hb hby d11_41) hr
  · show QA1 Z o x1 fu ti tb ta tq h0 n0 _ T19.heap _
    rw [e19]
    exact ⟨rfl, N19, KP21, Fc22, Fw19, Fc23, Fc24, Fc25, Fc26, Fc27, Fc28⟩
theorem d9_0 : decode prog_10_method_6_code 0 = .ok (.aload_n 0, 1) := by decide +kernel
theorem d9_1 : decode prog_10_method_6_code 1 = .ok (.getfield 7, 3) := by decide +kernel
theorem d9_4 : decode prog_10_method_6_code 4 = .ok (.astore_n 1, 1) := by decide +kernel
theorem d9_5 : decode prog_10_method_6_code 5 = .ok (.aload_n 1, 1) := by decide +kernel
theorem d9_6 : decode prog_10_method_6_code 6 = .ok (.ifnull 8, 3) := by decide +kernel
theorem d9_14 : decode prog_10_method_6_code 14 = .ok (.aload_n 1, 1) := by decide +kernel
theorem d9_15 : decode prog_10_method_6_code 15 = .ok (.areturn, 1) := by decide +kernel
theorem efP0 (m : MethodId) (o : Addr) : entryFrame m #[(.ref o)] 2 = mkF m 0 #[rv o, .unset] [] := by first | (simp [entryFrame, mkF, argsToLocals, Value.category]; done) | rfl
def QP0 (Z : State) (o : Addr) (h0 : Heap) (n0 : Nat) (v : Option Value) (h : Heap) (L : List Loc) : Prop := v = some .null ∧ Fr n0 L ∧ h = h0
set_option maxRecDepth 65536 in
set_option maxHeartbeats 40000000 in
theorem rmP0 (l : Launch) (Z : State) (a0 : Array Value) (hw : ∀ d ∈ tables_1, d.before a0 Z = true) (ws : List Jvm.Cond) (o : Addr) (h0 : Heap) (n0 : Nat) (Z0 : n0 ≤ h0.size) (E_o : Exa Z h0 o oz1) (F_first_o : Fld Z h0 o oz1 "first" oz2 .null) :
    MetFree l (⟨oz1, "poll", oz7⟩ : MethodName) (head1 (Jvm.Cond.code (⟨oz1, "poll", oz7⟩ : MethodName) prog_10_method_6_code 2 (some (.object oz0)) :: ws) ({ frames := 0, cells := 0, slots := 0, locals := 0 } : Room)) (fun a U => a = #[(.ref o)] ∧ Z.Warmed39 U.vm ∧ U.heap = h0) (fun _ _ _ _ _ => True) (fun _ U oc U' => ∃ v L, oc = .returned v ∧ QP0 Z o h0 n0 v U'.heap L ∧ FrameEnd U oc U' L ({ frames := 0, cells := 0, slots := 0, locals := 0 } : Room).cells ({ frames := 0, cells := 0, slots := 0, locals := 0 } : Room).slots) := by
  refine MetFree.of_bodySF (plainFor_of_name own_pn0) hisR ?_
  intro p e s m args below meth c s₁ Bd hml0 hP hK
  obtain ⟨rfl, hZ, hh⟩ := hP
  have hx := Bd.exec
  have hby := Bd.bytes
  have hml : c.maxLocals = 2 := hml0
  have hown : s.vm.findClass oz1 = some m.cls := findClass_of_methodNamed Bd.named
  have hnm := (name_of_methodNamed Bd.named Bd.method).1
  have X0 : Stand p l e ({ frames := 0, cells := 0, slots := 0, locals := 0 } : Room) s m #[(.ref o)] below meth c s₁ [] 0 0 := Stand.of_body Bd
  have e0 : s₁.heap = h0 := by rw [← hh, Bd.state]; rfl
  have N0 := Fr.nil n0
  have pre0 : ∀ t, Steps p.tables e below (s₁.setTop (mkF m 0 #[rv o, .unset] [])) t → Steps p.tables e below (s₁.setTop (entryFrame m #[(.ref o)] 2)) t := fun t k => castTop (efP0 m o) k
  obtain ⟨T1, X1, e1, st1⟩ := getF X0 hx hZ hown (host := "") (Or.inl (own_w hw 36 rfl)) Via.refl e0 F_first_o (g := (mkF m 1 #[rv o, .unset] [(.ref o)])) rfl rfl (hb hby d9_1)
  have pre2 : ∀ tz, oS p e below T1 m 15 #[rv o, .val .null] [.null] tz → oS p e below s₁ m 0 #[rv o, .unset] [] tz := fun tz kt => by
    show oS p e below s₁ m 0 #[rv o, .unset] [] _
    refine XS.aloadN X0.here hx rfl (hb hby d9_0) rfl rfl ?_
    show oS p e below s₁ m 1 #[rv o, .unset] [(.ref o)] _
    refine st1 _ ?_
    refine XS.astoreN X1.here hx rfl (hb hby d9_4) rfl rfl (l' := #[rv o, .val .null]) rfl ?_
    refine XS.aloadN X1.here hx rfl (hb hby d9_5) rfl rfl ?_
    refine XS.ifnullYes X1.here hx rfl (pc0 := 6) (pc' := 14) rfl (hb hby d9_6) rfl (by decide) (by decide) ?_
    show oS p e below T1 m 14 #[rv o, .val .null] [] _
    refine XS.aloadN X1.here hx rfl (hb hby d9_14) rfl rfl ?_
    exact kt
  obtain ⟨fs, hr, hrun, hended, hW, hsame⟩ := X1.leave (v := some .null) (fun h => by rw [Bd.returns] at h; cases h)
  refine ⟨_, _, pre0 _ (pre2 _ ?_), hrun, hended, _, _, rfl, ?_, ⟨_, rfl⟩, hW, hsame.mono (by decide) (by decide)⟩
  · show oS p e below T1 m 15 #[rv o, .val .null] [.null] _
    exact retOut X1 hx Bd.returns rfl (Or.inr (Or.inr (Or.inr (Or.inr ⟨rfl, rfl, rfl⟩)))) (hb hby d9_15) hr
  · show QP0 Z o h0 n0 _ T1.heap _
    rw [e1]
    exact ⟨rfl, N0, rfl⟩
theorem own_pd0 : parseMethodDescriptor "(Lcom/example/ordered_scheduler/orderedscheduler/sequencing/Place;)V" = some ⟨[(.object "com/example/ordered_scheduler/orderedscheduler/sequencing/Place")], none⟩ := by decide +kernel
theorem d9_9 : decode prog_10_method_6_code 9 = .ok (.aload_n 0, 1) := by decide +kernel
theorem d9_10 : decode prog_10_method_6_code 10 = .ok (.aload_n 1, 1) := by decide +kernel
theorem d9_11 : decode prog_10_method_6_code 11 = .ok (.invokevirtual 28, 3) := by decide +kernel
theorem efP00 (m : MethodId) (o : Addr) : entryFrame m #[(.ref o)] 2 = mkF m 0 #[rv o, .unset] [] := by first | (simp [entryFrame, mkF, argsToLocals, Value.category]; done) | rfl
def QP00 (Z : State) (o : Addr) (lu : Value) (iu : Value) (x : Addr) (h0 : Heap) (n0 : Nat) (v : Option Value) (h : Heap) (L : List Loc) : Prop := v = some (.ref x) ∧ Fr n0 L ∧ Keep h0 h [o, x] ∧ Fld Z h o oz1 "first" oz2 .null ∧ Fld Z h o oz1 "last" oz2 .null ∧ Fld Z h x oz0 "in" oz6 .null ∧ Fld Z h x oz0 "before" oz2 .null ∧ Fld Z h x oz0 "after" oz2 .null
set_option maxRecDepth 65536 in
set_option maxHeartbeats 40000000 in
theorem rmP00 (l : Launch) (Z : State) (a0 : Array Value) (hw : ∀ d ∈ tables_1, d.before a0 Z = true) (ws : List Jvm.Cond) (o : Addr) (lu : Value) (iu : Value) (x : Addr) (h0 : Heap) (n0 : Nat) (Z0 : n0 ≤ h0.size) (E_o : Exa Z h0 o oz1) (E_x : Exa Z h0 x oz0) (g_o : n0 ≤ o) (g_x : n0 ≤ x) (F_first_o : Fld Z h0 o oz1 "first" oz2 (.ref x)) (F_last_o : Fld Z h0 o oz1 "last" oz2 lu) (F_in_x : Fld Z h0 x oz0 "in" oz6 iu) (F_before_x : Fld Z h0 x oz0 "before" oz2 .null) (F_after_x : Fld Z h0 x oz0 "after" oz2 .null) :
    MetFree l (⟨oz1, "poll", oz7⟩ : MethodName) (head1 (Jvm.Cond.code (⟨oz1, "poll", oz7⟩ : MethodName) prog_10_method_6_code 2 (some (.object oz0)) :: ws) ({ frames := 1, cells := 0, slots := 0, locals := 13 } : Room)) (fun a U => a = #[(.ref o)] ∧ Z.Warmed39 U.vm ∧ U.heap = h0) (fun _ _ _ _ _ => True) (fun _ U oc U' => ∃ v L, oc = .returned v ∧ QP00 Z o lu iu x h0 n0 v U'.heap L ∧ FrameEnd U oc U' L ({ frames := 1, cells := 0, slots := 0, locals := 13 } : Room).cells ({ frames := 1, cells := 0, slots := 0, locals := 13 } : Room).slots) := by
  refine MetFree.of_bodySF (plainFor_of_name own_pn0) hisR ?_
  intro p e s m args below meth c s₁ Bd hml0 hP hK
  obtain ⟨rfl, hZ, hh⟩ := hP
  have hx := Bd.exec
  have hby := Bd.bytes
  have hml : c.maxLocals = 2 := hml0
  have hown : s.vm.findClass oz1 = some m.cls := findClass_of_methodNamed Bd.named
  have hnm := (name_of_methodNamed Bd.named Bd.method).1
  have X0 : Stand p l e ({ frames := 1, cells := 0, slots := 0, locals := 13 } : Room) s m #[(.ref o)] below meth c s₁ [] 0 0 := Stand.of_body Bd
  have e0 : s₁.heap = h0 := by rw [← hh, Bd.state]; rfl
  have N0 := Fr.nil n0
  have pre0 : ∀ t, Steps p.tables e below (s₁.setTop (mkF m 0 #[rv o, .unset] [])) t → Steps p.tables e below (s₁.setTop (entryFrame m #[(.ref o)] 2)) t := fun t k => castTop (efP00 m o) k
  obtain ⟨T1, X1, e1, st1⟩ := getF X0 hx hZ hown (host := "") (Or.inl (own_w hw 36 rfl)) Via.refl e0 F_first_o (g := (mkF m 1 #[rv o, .unset] [(.ref o)])) rfl rfl (hb hby d9_1)
  obtain ⟨cq2, q2, q2'⟩ := E_o.cell
  obtain ⟨_, _, ⟨T2, Lw2, kw2, nw2⟩, -, X2, ⟨Lc2, hQ2, l2, y2, z2⟩, st2⟩ := X1.privateBack hx (y := (⟨oz1, "unlink", oz8⟩ : MethodName)) hown (mvT hZ (own_w hw 75 rfl)) (mvT hZ (own_w hw 76 rfl)) (own_selp hZ (own_w hw 2 rfl) (own_w hw 77 rfl) (own_w hw 76 rfl) (by decide)) (Cond.privateMethod_at (mvP hZ (own_w hw 77 rfl) (args := #[]))) (mvT hZ (own_w hw 78 rfl)) (by decide) (backOf (W := 0) (rmU00 l Z a0 hw [] o x (.ref x) lu iu h0 n0 Z0 E_o E_x g_o g_x F_first_o F_last_o F_in_x F_before_x F_after_x) hZ (own_w hw 78 rfl) (own_w hw 3 rfl) (by decide) (by decide)) (g := (mkF m 11 #[rv o, rv x] [(.ref x), (.ref o)])) rfl (by rw [hml]; rfl) (Steps.refl _) (a := o) (by rw [e1]; exact q2) q2' (argsL := [(.ref x)]) (rest := []) (lenOf own_pd0 rfl) rfl (by show 2 * 0 + _ ≤ _; exact Nat.le_of_eq rfl) (hb hby d9_11) (fun _ _ => ⟨rfl, e1, (by decide : 0 + 0 ≤ _), (by decide : 0 + 0 ≤ _)⟩)
  dsimp only [Pt.U, Pt.locs, Pt.cells, Pt.slots] at X2 l2 y2 z2 st2 hQ2
  subst l2 y2 z2
  obtain ⟨rfl, Nq2, K2, pf2_0, pf2_1, pf2_2, pf2_3, pf2_4⟩ := hQ2
  have N2 := Fr.app N0 Nq2
  have pre3 : ∀ tz, oS p e below T2 m 15 #[rv o, rv x] [(.ref x)] tz → oS p e below s₁ m 0 #[rv o, .unset] [] tz := fun tz kt => by
    show oS p e below s₁ m 0 #[rv o, .unset] [] _
    refine XS.aloadN X0.here hx rfl (hb hby d9_0) rfl rfl ?_
    show oS p e below s₁ m 1 #[rv o, .unset] [(.ref o)] _
    refine st1 _ ?_
    refine XS.astoreN X1.here hx rfl (hb hby d9_4) rfl rfl (l' := #[rv o, rv x]) rfl ?_
    refine XS.aloadN X1.here hx rfl (hb hby d9_5) rfl rfl ?_
    refine XS.ifnullNo X1.here hx rfl (hb hby d9_6) rfl ?_
    show oS p e below T1 m 9 #[rv o, rv x] [] _
    refine XS.aloadN X1.here hx rfl (hb hby d9_9) rfl rfl ?_
    refine XS.aloadN X1.here hx rfl (hb hby d9_10) rfl rfl ?_
    show oS p e below T1 m 11 #[rv o, rv x] [(.ref x), (.ref o)] _
    refine st2.trans ?_
    refine XS.aloadN X2.here hx rfl (hb hby d9_14) rfl rfl ?_
    exact kt
  have KP4 : Keep h0 T2.heap [o, x] := ((Keep.refl h0 [o, x]).trans K2 (allS (Or.inl (List.mem_of_getElem? (i := 0) rfl)) (allS (Or.inl (List.mem_of_getElem? (i := 1) rfl)) all0)))
  obtain ⟨fs, hr, hrun, hended, hW, hsame⟩ := X2.leave (v := some (.ref x)) (fun h => by rw [Bd.returns] at h; cases h)
  refine ⟨_, _, pre0 _ (pre3 _ ?_), hrun, hended, _, _, rfl, ?_, ⟨_, rfl⟩, hW, hsame.mono (by decide) (by decide)⟩
  · show oS p e below T2 m 15 #[rv o, rv x] [(.ref x)] _
    exact retOut X2 hx Bd.returns rfl (Or.inr (Or.inr (Or.inr (Or.inr ⟨rfl, rfl, rfl⟩)))) (hb hby d9_15) hr
  · show QP00 Z o lu iu x h0 n0 _ T2.heap _
    exact ⟨rfl, N2, KP4, pf2_0, pf2_1, pf2_2, pf2_3, pf2_4⟩
theorem efP0t (m : MethodId) (o : Addr) : entryFrame m #[(.ref o)] 2 = mkF m 0 #[rv o, .unset] [] := by first | (simp [entryFrame, mkF, argsToLocals, Value.category]; done) | rfl
def QP0t (Z : State) (o : Addr) (lu : Value) (iu : Value) (ti : Value) (tb : Value) (ta : Value) (x : Addr) (tq : Addr) (h0 : Heap) (n0 : Nat) (v : Option Value) (h : Heap) (L : List Loc) : Prop := v = some (.ref x) ∧ Fr n0 L ∧ Keep h0 h [o, x, tq] ∧ Fld Z h o oz1 "first" oz2 (.ref tq) ∧ Fld Z h o oz1 "last" oz2 lu ∧ Fld Z h x oz0 "in" oz6 .null ∧ Fld Z h x oz0 "before" oz2 .null ∧ Fld Z h x oz0 "after" oz2 .null ∧ Fld Z h tq oz0 "in" oz6 ti ∧ Fld Z h tq oz0 "before" oz2 .null ∧ Fld Z h tq oz0 "after" oz2 ta
set_option maxRecDepth 65536 in
set_option maxHeartbeats 40000000 in
theorem rmP0t (l : Launch) (Z : State) (a0 : Array Value) (hw : ∀ d ∈ tables_1, d.before a0 Z = true) (ws : List Jvm.Cond) (o : Addr) (lu : Value) (iu : Value) (ti : Value) (tb : Value) (ta : Value) (x : Addr) (tq : Addr) (h0 : Heap) (n0 : Nat) (Z0 : n0 ≤ h0.size) (E_o : Exa Z h0 o oz1) (E_x : Exa Z h0 x oz0) (E_tq : Exa Z h0 tq oz0) (g_o : n0 ≤ o) (g_x : n0 ≤ x) (g_tq : n0 ≤ tq) (ne_x_tq : x ≠ tq) (F_first_o : Fld Z h0 o oz1 "first" oz2 (.ref x)) (F_last_o : Fld Z h0 o oz1 "last" oz2 lu) (F_in_x : Fld Z h0 x oz0 "in" oz6 iu) (F_before_x : Fld Z h0 x oz0 "before" oz2 .null) (F_after_x : Fld Z h0 x oz0 "after" oz2 (.ref tq)) (F_in_tq : Fld Z h0 tq oz0 "in" oz6 ti) (F_before_tq : Fld Z h0 tq oz0 "before" oz2 tb) (F_after_tq : Fld Z h0 tq oz0 "after" oz2 ta) :
    MetFree l (⟨oz1, "poll", oz7⟩ : MethodName) (head1 (Jvm.Cond.code (⟨oz1, "poll", oz7⟩ : MethodName) prog_10_method_6_code 2 (some (.object oz0)) :: ws) ({ frames := 1, cells := 0, slots := 0, locals := 13 } : Room)) (fun a U => a = #[(.ref o)] ∧ Z.Warmed39 U.vm ∧ U.heap = h0) (fun _ _ _ _ _ => True) (fun _ U oc U' => ∃ v L, oc = .returned v ∧ QP0t Z o lu iu ti tb ta x tq h0 n0 v U'.heap L ∧ FrameEnd U oc U' L ({ frames := 1, cells := 0, slots := 0, locals := 13 } : Room).cells ({ frames := 1, cells := 0, slots := 0, locals := 13 } : Room).slots) := by
  refine MetFree.of_bodySF (plainFor_of_name own_pn0) hisR ?_
  intro p e s m args below meth c s₁ Bd hml0 hP hK
  obtain ⟨rfl, hZ, hh⟩ := hP
  have hx := Bd.exec
  have hby := Bd.bytes
  have hml : c.maxLocals = 2 := hml0
  have hown : s.vm.findClass oz1 = some m.cls := findClass_of_methodNamed Bd.named
  have hnm := (name_of_methodNamed Bd.named Bd.method).1
  have X0 : Stand p l e ({ frames := 1, cells := 0, slots := 0, locals := 13 } : Room) s m #[(.ref o)] below meth c s₁ [] 0 0 := Stand.of_body Bd
  have e0 : s₁.heap = h0 := by rw [← hh, Bd.state]; rfl
  have N0 := Fr.nil n0
  have pre0 : ∀ t, Steps p.tables e below (s₁.setTop (mkF m 0 #[rv o, .unset] [])) t → Steps p.tables e below (s₁.setTop (entryFrame m #[(.ref o)] 2)) t := fun t k => castTop (efP0t m o) k
  obtain ⟨T1, X1, e1, st1⟩ := getF X0 hx hZ hown (host := "") (Or.inl (own_w hw 36 rfl)) Via.refl e0 F_first_o (g := (mkF m 1 #[rv o, .unset] [(.ref o)])) rfl rfl (hb hby d9_1)
  obtain ⟨cq2, q2, q2'⟩ := E_o.cell
  obtain ⟨_, _, ⟨T2, Lw2, kw2, nw2⟩, -, X2, ⟨Lc2, hQ2, l2, y2, z2⟩, st2⟩ := X1.privateBack hx (y := (⟨oz1, "unlink", oz8⟩ : MethodName)) hown (mvT hZ (own_w hw 75 rfl)) (mvT hZ (own_w hw 76 rfl)) (own_selp hZ (own_w hw 2 rfl) (own_w hw 77 rfl) (own_w hw 76 rfl) (by decide)) (Cond.privateMethod_at (mvP hZ (own_w hw 77 rfl) (args := #[]))) (mvT hZ (own_w hw 78 rfl)) (by decide) (backOf (W := 0) (rmU0t l Z a0 hw [] o x (.ref x) lu iu ti tb ta tq h0 n0 Z0 E_o E_x E_tq g_o g_x g_tq ne_x_tq F_first_o F_last_o F_in_x F_before_x F_after_x F_in_tq F_before_tq F_after_tq) hZ (own_w hw 78 rfl) (own_w hw 3 rfl) (by decide) (by decide)) (g := (mkF m 11 #[rv o, rv x] [(.ref x), (.ref o)])) rfl (by rw [hml]; rfl) (Steps.refl _) (a := o) (by rw [e1]; exact q2) q2' (argsL := [(.ref x)]) (rest := []) (lenOf own_pd0 rfl) rfl (by show 2 * 0 + _ ≤ _; exact Nat.le_of_eq rfl) (hb hby d9_11) (fun _ _ => ⟨rfl, e1, (by decide : 0 + 0 ≤ _), (by decide : 0 + 0 ≤ _)⟩)
  dsimp only [Pt.U, Pt.locs, Pt.cells, Pt.slots] at X2 l2 y2 z2 st2 hQ2
  subst l2 y2 z2
  obtain ⟨rfl, Nq2, K2, pf2_0, pf2_1, pf2_2, pf2_3, pf2_4, pf2_5, pf2_6, pf2_7⟩ := hQ2
  have N2 := Fr.app N0 Nq2
  have pre3 : ∀ tz, oS p e below T2 m 15 #[rv o, rv x] [(.ref x)] tz → oS p e below s₁ m 0 #[rv o, .unset] [] tz := fun tz kt => by
    show oS p e below s₁ m 0 #[rv o, .unset] [] _
    refine XS.aloadN X0.here hx rfl (hb hby d9_0) rfl rfl ?_
    show oS p e below s₁ m 1 #[rv o, .unset] [(.ref o)] _
    refine st1 _ ?_
    refine XS.astoreN X1.here hx rfl (hb hby d9_4) rfl rfl (l' := #[rv o, rv x]) rfl ?_
    refine XS.aloadN X1.here hx rfl (hb hby d9_5) rfl rfl ?_
    refine XS.ifnullNo X1.here hx rfl (hb hby d9_6) rfl ?_
    show oS p e below T1 m 9 #[rv o, rv x] [] _
    refine XS.aloadN X1.here hx rfl (hb hby d9_9) rfl rfl ?_
    refine XS.aloadN X1.here hx rfl (hb hby d9_10) rfl rfl ?_
    show oS p e below T1 m 11 #[rv o, rv x] [(.ref x), (.ref o)] _
    refine st2.trans ?_
    refine XS.aloadN X2.here hx rfl (hb hby d9_14) rfl rfl ?_
    exact kt
  have KP4 : Keep h0 T2.heap [o, x, tq] := ((Keep.refl h0 [o, x, tq]).trans K2 (allS (Or.inl (List.mem_of_getElem? (i := 0) rfl)) (allS (Or.inl (List.mem_of_getElem? (i := 1) rfl)) (allS (Or.inl (List.mem_of_getElem? (i := 2) rfl)) all0))))
  obtain ⟨fs, hr, hrun, hended, hW, hsame⟩ := X2.leave (v := some (.ref x)) (fun h => by rw [Bd.returns] at h; cases h)
  refine ⟨_, _, pre0 _ (pre3 _ ?_), hrun, hended, _, _, rfl, ?_, ⟨_, rfl⟩, hW, hsame.mono (by decide) (by decide)⟩
  · show oS p e below T2 m 15 #[rv o, rv x] [(.ref x)] _
    exact retOut X2 hx Bd.returns rfl (Or.inr (Or.inr (Or.inr (Or.inr ⟨rfl, rfl, rfl⟩)))) (hb hby d9_15) hr
  · show QP0t Z o lu iu ti tb ta x tq h0 n0 _ T2.heap _
    exact ⟨rfl, N2, KP4, pf2_0, pf2_1, pf2_2, pf2_3, pf2_4, pf2_5, pf2_6, pf2_7⟩
theorem d5_0 : decode prog_10_method_3_code 0 = .ok (.aload_n 0, 1) := by decide +kernel
theorem d5_1 : decode prog_10_method_3_code 1 = .ok (.getfield 7, 3) := by decide +kernel
theorem d5_4 : decode prog_10_method_3_code 4 = .ok (.areturn, 1) := by decide +kernel
theorem effirst0 (m : MethodId) (o : Addr) : entryFrame m #[(.ref o)] 1 = mkF m 0 #[rv o] [] := by first | (simp [entryFrame, mkF, argsToLocals, Value.category]; done) | rfl
def Qfirst0 (Z : State) (o : Addr) (h0 : Heap) (n0 : Nat) (v : Option Value) (h : Heap) (L : List Loc) : Prop := v = some .null ∧ Fr n0 L ∧ h = h0
set_option maxRecDepth 65536 in
set_option maxHeartbeats 40000000 in
theorem rmfirst0 (l : Launch) (Z : State) (a0 : Array Value) (hw : ∀ d ∈ tables_1, d.before a0 Z = true) (ws : List Jvm.Cond) (o : Addr) (h0 : Heap) (n0 : Nat) (Z0 : n0 ≤ h0.size) (E_o : Exa Z h0 o oz1) (F_first_o : Fld Z h0 o oz1 "first" oz2 .null) :
    MetFree l (⟨oz1, "first", oz7⟩ : MethodName) (head1 (Jvm.Cond.code (⟨oz1, "first", oz7⟩ : MethodName) prog_10_method_3_code 1 (some (.object oz0)) :: ws) ({ frames := 0, cells := 0, slots := 0, locals := 0 } : Room)) (fun a U => a = #[(.ref o)] ∧ Z.Warmed39 U.vm ∧ U.heap = h0) (fun _ _ _ _ _ => True) (fun _ U oc U' => ∃ v L, oc = .returned v ∧ Qfirst0 Z o h0 n0 v U'.heap L ∧ FrameEnd U oc U' L ({ frames := 0, cells := 0, slots := 0, locals := 0 } : Room).cells ({ frames := 0, cells := 0, slots := 0, locals := 0 } : Room).slots) := by
  refine MetFree.of_bodySF (plainFor_of_name own_pn0) hisR ?_
  intro p e s m args below meth c s₁ Bd hml0 hP hK
  obtain ⟨rfl, hZ, hh⟩ := hP
  have hx := Bd.exec
  have hby := Bd.bytes
  have hml : c.maxLocals = 1 := hml0
  have hown : s.vm.findClass oz1 = some m.cls := findClass_of_methodNamed Bd.named
  have hnm := (name_of_methodNamed Bd.named Bd.method).1
  have X0 : Stand p l e ({ frames := 0, cells := 0, slots := 0, locals := 0 } : Room) s m #[(.ref o)] below meth c s₁ [] 0 0 := Stand.of_body Bd
  have e0 : s₁.heap = h0 := by rw [← hh, Bd.state]; rfl
  have N0 := Fr.nil n0
  have pre0 : ∀ t, Steps p.tables e below (s₁.setTop (mkF m 0 #[rv o] [])) t → Steps p.tables e below (s₁.setTop (entryFrame m #[(.ref o)] 1)) t := fun t k => castTop (effirst0 m o) k
  obtain ⟨T1, X1, e1, st1⟩ := getF X0 hx hZ hown (host := "") (Or.inl (own_w hw 36 rfl)) Via.refl e0 F_first_o (g := (mkF m 1 #[rv o] [(.ref o)])) rfl rfl (hb hby d5_1)
  have pre2 : ∀ tz, oS p e below T1 m 4 #[rv o] [.null] tz → oS p e below s₁ m 0 #[rv o] [] tz := fun tz kt => by
    show oS p e below s₁ m 0 #[rv o] [] _
    refine XS.aloadN X0.here hx rfl (hb hby d5_0) rfl rfl ?_
    show oS p e below s₁ m 1 #[rv o] [(.ref o)] _
    refine st1 _ ?_
    exact kt
  obtain ⟨fs, hr, hrun, hended, hW, hsame⟩ := X1.leave (v := some .null) (fun h => by rw [Bd.returns] at h; cases h)
  refine ⟨_, _, pre0 _ (pre2 _ ?_), hrun, hended, _, _, rfl, ?_, ⟨_, rfl⟩, hW, hsame.mono (by decide) (by decide)⟩
  · show oS p e below T1 m 4 #[rv o] [.null] _
    exact retOut X1 hx Bd.returns rfl (Or.inr (Or.inr (Or.inr (Or.inr ⟨rfl, rfl, rfl⟩)))) (hb hby d5_4) hr
  · show Qfirst0 Z o h0 n0 _ T1.heap _
    rw [e1]
    exact ⟨rfl, N0, rfl⟩
theorem effirst1 (m : MethodId) (o : Addr) : entryFrame m #[(.ref o)] 1 = mkF m 0 #[rv o] [] := by first | (simp [entryFrame, mkF, argsToLocals, Value.category]; done) | rfl
def Qfirst1 (Z : State) (o : Addr) (f : Addr) (h0 : Heap) (n0 : Nat) (v : Option Value) (h : Heap) (L : List Loc) : Prop := v = some (.ref f) ∧ Fr n0 L ∧ h = h0
set_option maxRecDepth 65536 in
set_option maxHeartbeats 40000000 in
theorem rmfirst1 (l : Launch) (Z : State) (a0 : Array Value) (hw : ∀ d ∈ tables_1, d.before a0 Z = true) (ws : List Jvm.Cond) (o : Addr) (f : Addr) (h0 : Heap) (n0 : Nat) (Z0 : n0 ≤ h0.size) (E_o : Exa Z h0 o oz1) (F_first_o : Fld Z h0 o oz1 "first" oz2 (.ref f)) :
    MetFree l (⟨oz1, "first", oz7⟩ : MethodName) (head1 (Jvm.Cond.code (⟨oz1, "first", oz7⟩ : MethodName) prog_10_method_3_code 1 (some (.object oz0)) :: ws) ({ frames := 0, cells := 0, slots := 0, locals := 0 } : Room)) (fun a U => a = #[(.ref o)] ∧ Z.Warmed39 U.vm ∧ U.heap = h0) (fun _ _ _ _ _ => True) (fun _ U oc U' => ∃ v L, oc = .returned v ∧ Qfirst1 Z o f h0 n0 v U'.heap L ∧ FrameEnd U oc U' L ({ frames := 0, cells := 0, slots := 0, locals := 0 } : Room).cells ({ frames := 0, cells := 0, slots := 0, locals := 0 } : Room).slots) := by
  refine MetFree.of_bodySF (plainFor_of_name own_pn0) hisR ?_
  intro p e s m args below meth c s₁ Bd hml0 hP hK
  obtain ⟨rfl, hZ, hh⟩ := hP
  have hx := Bd.exec
  have hby := Bd.bytes
  have hml : c.maxLocals = 1 := hml0
  have hown : s.vm.findClass oz1 = some m.cls := findClass_of_methodNamed Bd.named
  have hnm := (name_of_methodNamed Bd.named Bd.method).1
  have X0 : Stand p l e ({ frames := 0, cells := 0, slots := 0, locals := 0 } : Room) s m #[(.ref o)] below meth c s₁ [] 0 0 := Stand.of_body Bd
  have e0 : s₁.heap = h0 := by rw [← hh, Bd.state]; rfl
  have N0 := Fr.nil n0
  have pre0 : ∀ t, Steps p.tables e below (s₁.setTop (mkF m 0 #[rv o] [])) t → Steps p.tables e below (s₁.setTop (entryFrame m #[(.ref o)] 1)) t := fun t k => castTop (effirst1 m o) k
  obtain ⟨T1, X1, e1, st1⟩ := getF X0 hx hZ hown (host := "") (Or.inl (own_w hw 36 rfl)) Via.refl e0 F_first_o (g := (mkF m 1 #[rv o] [(.ref o)])) rfl rfl (hb hby d5_1)
  have pre2 : ∀ tz, oS p e below T1 m 4 #[rv o] [(.ref f)] tz → oS p e below s₁ m 0 #[rv o] [] tz := fun tz kt => by
    show oS p e below s₁ m 0 #[rv o] [] _
    refine XS.aloadN X0.here hx rfl (hb hby d5_0) rfl rfl ?_
    show oS p e below s₁ m 1 #[rv o] [(.ref o)] _
    refine st1 _ ?_
    exact kt
  obtain ⟨fs, hr, hrun, hended, hW, hsame⟩ := X1.leave (v := some (.ref f)) (fun h => by rw [Bd.returns] at h; cases h)
  refine ⟨_, _, pre0 _ (pre2 _ ?_), hrun, hended, _, _, rfl, ?_, ⟨_, rfl⟩, hW, hsame.mono (by decide) (by decide)⟩
  · show oS p e below T1 m 4 #[rv o] [(.ref f)] _
    exact retOut X1 hx Bd.returns rfl (Or.inr (Or.inr (Or.inr (Or.inr ⟨rfl, rfl, rfl⟩)))) (hb hby d5_4) hr
  · show Qfirst1 Z o f h0 n0 _ T1.heap _
    rw [e1]
    exact ⟨rfl, N0, rfl⟩
theorem d6_0 : decode prog_10_method_4_code 0 = .ok (.aload_n 0, 1) := by decide +kernel
theorem d6_1 : decode prog_10_method_4_code 1 = .ok (.getfield 13, 3) := by decide +kernel
theorem d6_4 : decode prog_10_method_4_code 4 = .ok (.areturn, 1) := by decide +kernel
theorem eflast0 (m : MethodId) (o : Addr) : entryFrame m #[(.ref o)] 1 = mkF m 0 #[rv o] [] := by first | (simp [entryFrame, mkF, argsToLocals, Value.category]; done) | rfl
def Qlast0 (Z : State) (o : Addr) (h0 : Heap) (n0 : Nat) (v : Option Value) (h : Heap) (L : List Loc) : Prop := v = some .null ∧ Fr n0 L ∧ h = h0
set_option maxRecDepth 65536 in
set_option maxHeartbeats 40000000 in
theorem rmlast0 (l : Launch) (Z : State) (a0 : Array Value) (hw : ∀ d ∈ tables_1, d.before a0 Z = true) (ws : List Jvm.Cond) (o : Addr) (h0 : Heap) (n0 : Nat) (Z0 : n0 ≤ h0.size) (E_o : Exa Z h0 o oz1) (F_last_o : Fld Z h0 o oz1 "last" oz2 .null) :
    MetFree l (⟨oz1, "last", oz7⟩ : MethodName) (head1 (Jvm.Cond.code (⟨oz1, "last", oz7⟩ : MethodName) prog_10_method_4_code 1 (some (.object oz0)) :: ws) ({ frames := 0, cells := 0, slots := 0, locals := 0 } : Room)) (fun a U => a = #[(.ref o)] ∧ Z.Warmed39 U.vm ∧ U.heap = h0) (fun _ _ _ _ _ => True) (fun _ U oc U' => ∃ v L, oc = .returned v ∧ Qlast0 Z o h0 n0 v U'.heap L ∧ FrameEnd U oc U' L ({ frames := 0, cells := 0, slots := 0, locals := 0 } : Room).cells ({ frames := 0, cells := 0, slots := 0, locals := 0 } : Room).slots) := by
  refine MetFree.of_bodySF (plainFor_of_name own_pn0) hisR ?_
  intro p e s m args below meth c s₁ Bd hml0 hP hK
  obtain ⟨rfl, hZ, hh⟩ := hP
  have hx := Bd.exec
  have hby := Bd.bytes
  have hml : c.maxLocals = 1 := hml0
  have hown : s.vm.findClass oz1 = some m.cls := findClass_of_methodNamed Bd.named
  have hnm := (name_of_methodNamed Bd.named Bd.method).1
  have X0 : Stand p l e ({ frames := 0, cells := 0, slots := 0, locals := 0 } : Room) s m #[(.ref o)] below meth c s₁ [] 0 0 := Stand.of_body Bd
  have e0 : s₁.heap = h0 := by rw [← hh, Bd.state]; rfl
  have N0 := Fr.nil n0
  have pre0 : ∀ t, Steps p.tables e below (s₁.setTop (mkF m 0 #[rv o] [])) t → Steps p.tables e below (s₁.setTop (entryFrame m #[(.ref o)] 1)) t := fun t k => castTop (eflast0 m o) k
  obtain ⟨T1, X1, e1, st1⟩ := getF X0 hx hZ hown (host := "") (Or.inl (own_w hw 43 rfl)) Via.refl e0 F_last_o (g := (mkF m 1 #[rv o] [(.ref o)])) rfl rfl (hb hby d6_1)
  have pre2 : ∀ tz, oS p e below T1 m 4 #[rv o] [.null] tz → oS p e below s₁ m 0 #[rv o] [] tz := fun tz kt => by
    show oS p e below s₁ m 0 #[rv o] [] _
    refine XS.aloadN X0.here hx rfl (hb hby d6_0) rfl rfl ?_
    show oS p e below s₁ m 1 #[rv o] [(.ref o)] _
    refine st1 _ ?_
    exact kt
  obtain ⟨fs, hr, hrun, hended, hW, hsame⟩ := X1.leave (v := some .null) (fun h => by rw [Bd.returns] at h; cases h)
  refine ⟨_, _, pre0 _ (pre2 _ ?_), hrun, hended, _, _, rfl, ?_, ⟨_, rfl⟩, hW, hsame.mono (by decide) (by decide)⟩
  · show oS p e below T1 m 4 #[rv o] [.null] _
    exact retOut X1 hx Bd.returns rfl (Or.inr (Or.inr (Or.inr (Or.inr ⟨rfl, rfl, rfl⟩)))) (hb hby d6_4) hr
  · show Qlast0 Z o h0 n0 _ T1.heap _
    rw [e1]
    exact ⟨rfl, N0, rfl⟩
theorem eflast1 (m : MethodId) (o : Addr) : entryFrame m #[(.ref o)] 1 = mkF m 0 #[rv o] [] := by first | (simp [entryFrame, mkF, argsToLocals, Value.category]; done) | rfl
def Qlast1 (Z : State) (o : Addr) (f : Addr) (h0 : Heap) (n0 : Nat) (v : Option Value) (h : Heap) (L : List Loc) : Prop := v = some (.ref f) ∧ Fr n0 L ∧ h = h0
set_option maxRecDepth 65536 in
set_option maxHeartbeats 40000000 in
theorem rmlast1 (l : Launch) (Z : State) (a0 : Array Value) (hw : ∀ d ∈ tables_1, d.before a0 Z = true) (ws : List Jvm.Cond) (o : Addr) (f : Addr) (h0 : Heap) (n0 : Nat) (Z0 : n0 ≤ h0.size) (E_o : Exa Z h0 o oz1) (F_last_o : Fld Z h0 o oz1 "last" oz2 (.ref f)) :
    MetFree l (⟨oz1, "last", oz7⟩ : MethodName) (head1 (Jvm.Cond.code (⟨oz1, "last", oz7⟩ : MethodName) prog_10_method_4_code 1 (some (.object oz0)) :: ws) ({ frames := 0, cells := 0, slots := 0, locals := 0 } : Room)) (fun a U => a = #[(.ref o)] ∧ Z.Warmed39 U.vm ∧ U.heap = h0) (fun _ _ _ _ _ => True) (fun _ U oc U' => ∃ v L, oc = .returned v ∧ Qlast1 Z o f h0 n0 v U'.heap L ∧ FrameEnd U oc U' L ({ frames := 0, cells := 0, slots := 0, locals := 0 } : Room).cells ({ frames := 0, cells := 0, slots := 0, locals := 0 } : Room).slots) := by
  refine MetFree.of_bodySF (plainFor_of_name own_pn0) hisR ?_
  intro p e s m args below meth c s₁ Bd hml0 hP hK
  obtain ⟨rfl, hZ, hh⟩ := hP
  have hx := Bd.exec
  have hby := Bd.bytes
  have hml : c.maxLocals = 1 := hml0
  have hown : s.vm.findClass oz1 = some m.cls := findClass_of_methodNamed Bd.named
  have hnm := (name_of_methodNamed Bd.named Bd.method).1
  have X0 : Stand p l e ({ frames := 0, cells := 0, slots := 0, locals := 0 } : Room) s m #[(.ref o)] below meth c s₁ [] 0 0 := Stand.of_body Bd
  have e0 : s₁.heap = h0 := by rw [← hh, Bd.state]; rfl
  have N0 := Fr.nil n0
  have pre0 : ∀ t, Steps p.tables e below (s₁.setTop (mkF m 0 #[rv o] [])) t → Steps p.tables e below (s₁.setTop (entryFrame m #[(.ref o)] 1)) t := fun t k => castTop (eflast1 m o) k
  obtain ⟨T1, X1, e1, st1⟩ := getF X0 hx hZ hown (host := "") (Or.inl (own_w hw 43 rfl)) Via.refl e0 F_last_o (g := (mkF m 1 #[rv o] [(.ref o)])) rfl rfl (hb hby d6_1)
  have pre2 : ∀ tz, oS p e below T1 m 4 #[rv o] [(.ref f)] tz → oS p e below s₁ m 0 #[rv o] [] tz := fun tz kt => by
    show oS p e below s₁ m 0 #[rv o] [] _
    refine XS.aloadN X0.here hx rfl (hb hby d6_0) rfl rfl ?_
    show oS p e below s₁ m 1 #[rv o] [(.ref o)] _
    refine st1 _ ?_
    exact kt
  obtain ⟨fs, hr, hrun, hended, hW, hsame⟩ := X1.leave (v := some (.ref f)) (fun h => by rw [Bd.returns] at h; cases h)
  refine ⟨_, _, pre0 _ (pre2 _ ?_), hrun, hended, _, _, rfl, ?_, ⟨_, rfl⟩, hW, hsame.mono (by decide) (by decide)⟩
  · show oS p e below T1 m 4 #[rv o] [(.ref f)] _
    exact retOut X1 hx Bd.returns rfl (Or.inr (Or.inr (Or.inr (Or.inr ⟨rfl, rfl, rfl⟩)))) (hb hby d6_4) hr
  · show Qlast1 Z o f h0 n0 _ T1.heap _
    rw [e1]
    exact ⟨rfl, N0, rfl⟩
theorem d10_0 : decode jdk_29_method_69_code 0 = .ok (.iload_n 0, 1) := by decide +kernel
theorem d10_1 : decode jdk_29_method_69_code 1 = .ok (.iload_n 1, 1) := by decide +kernel
theorem d10_2 : decode jdk_29_method_69_code 2 = .ok (.if_icmp .gt 7, 3) := by decide +kernel
theorem d10_5 : decode jdk_29_method_69_code 5 = .ok (.iload_n 0, 1) := by decide +kernel
theorem d10_6 : decode jdk_29_method_69_code 6 = .ok (.goto 4, 3) := by decide +kernel
theorem d10_9 : decode jdk_29_method_69_code 9 = .ok (.iload_n 1, 1) := by decide +kernel
theorem d10_10 : decode jdk_29_method_69_code 10 = .ok (.ireturn, 1) := by decide +kernel
theorem ef10 (m : MethodId) (x1 : Int32) (x2 : Int32) : entryFrame m #[(.int x1), (.int x2)] 2 = mkF m 0 #[iv x1, iv x2] [] := by first | (simp [entryFrame, mkF, argsToLocals, Value.category]; done) | rfl
def Q10 (Z : State) (x1 : Int32) (x2 : Int32) (h0 : Heap) (n0 : Nat) (v : Option Value) (h : Heap) (L : List Loc) : Prop := v = some (.int (if x2 < x1 then x2 else x1)) ∧ Fr n0 L ∧ h = h0
set_option maxRecDepth 65536 in
set_option maxHeartbeats 40000000 in
theorem rm10 (l : Launch) (Z : State) (a0 : Array Value) (hw : ∀ d ∈ tables_1, d.before a0 Z = true) (ws : List Jvm.Cond) (x1 : Int32) (x2 : Int32) (h0 : Heap) (n0 : Nat) (Z0 : n0 ≤ h0.size) :
    MetFree l (⟨"java/lang/Math", "min", "(II)I"⟩ : MethodName) (head1 (Jvm.Cond.code (⟨"java/lang/Math", "min", "(II)I"⟩ : MethodName) jdk_29_method_69_code 2 (some .int) :: ws) ({ frames := 0, cells := 0, slots := 0, locals := 0 } : Room)) (fun a U => a = #[(.int x1), (.int x2)] ∧ Z.Warmed39 U.vm ∧ U.heap = h0) (fun _ _ _ _ _ => True) (fun _ U oc U' => ∃ v L, oc = .returned v ∧ Q10 Z x1 x2 h0 n0 v U'.heap L ∧ FrameEnd U oc U' L ({ frames := 0, cells := 0, slots := 0, locals := 0 } : Room).cells ({ frames := 0, cells := 0, slots := 0, locals := 0 } : Room).slots) := by
  refine MetFree.of_bodySF (Jvm.Free.JP.mathPlain rfl (by decide +kernel)) hisR ?_
  intro p e s m args below meth c s₁ Bd hml0 hP hK
  obtain ⟨rfl, hZ, hh⟩ := hP
  have hx := Bd.exec
  have hby := Bd.bytes
  have hml : c.maxLocals = 2 := hml0
  have hown : s.vm.findClass "java/lang/Math" = some m.cls := findClass_of_methodNamed Bd.named
  have hnm := (name_of_methodNamed Bd.named Bd.method).1
  have X0 : Stand p l e ({ frames := 0, cells := 0, slots := 0, locals := 0 } : Room) s m #[(.int x1), (.int x2)] below meth c s₁ [] 0 0 := Stand.of_body Bd
  have e0 : s₁.heap = h0 := by rw [← hh, Bd.state]; rfl
  have N0 := Fr.nil n0
  have pre0 : ∀ t, Steps p.tables e below (s₁.setTop (mkF m 0 #[iv x1, iv x2] [])) t → Steps p.tables e below (s₁.setTop (entryFrame m #[(.int x1), (.int x2)] 2)) t := fun t k => castTop (ef10 m x1 x2) k
  have pre1 : ∀ tz, oS p e below s₁ m 2 #[iv x1, iv x2] [(.int x2), (.int x1)] tz → oS p e below s₁ m 0 #[iv x1, iv x2] [] tz := fun tz kt => by
    show oS p e below s₁ m 0 #[iv x1, iv x2] [] _
    refine XS.iloadN X0.here hx rfl (hb hby d10_0) rfl ?_
    refine XS.iloadN X0.here hx rfl (hb hby d10_1) rfl ?_
    exact kt
  by_cases hc2 : x2 < x1
  · have pre2 : ∀ tz, oS p e below s₁ m 10 #[iv x1, iv x2] [(.int x2)] tz → oS p e below s₁ m 2 #[iv x1, iv x2] [(.int x2), (.int x1)] tz := fun tz kt => by
      show oS p e below s₁ m 2 #[iv x1, iv x2] [(.int x2), (.int x1)] _
      refine XS.icmpYes X0.here hx rfl (pc0 := 2) (pc' := 9) rfl (hb hby d10_2) rfl (tlt hc2).2.2.1 (by decide) (by decide) ?_
      refine XS.iloadN X0.here hx rfl (hb hby d10_9) rfl ?_
      exact kt
    obtain ⟨fs, hr, hrun, hended, hW, hsame⟩ := X0.leave (v := some (.int x2)) (fun h => by rw [Bd.returns] at h; cases h)
    refine ⟨_, _, pre0 _ (pre1 _ (pre2 _ ?_)), hrun, hended, _, _, rfl, ?_, ⟨_, rfl⟩, hW, hsame.mono (by decide) (by decide)⟩
    · show oS p e below s₁ m 10 #[iv x1, iv x2] [(.int x2)] _
      exact retOut X0 hx Bd.returns rfl (Or.inl ⟨rfl, Or.inl rfl, _, rfl⟩) (hb hby d10_10) hr
    · show Q10 Z x1 x2 h0 n0 _ s₁.heap _
      rw [e0]
      exact ⟨(by first | rfl | simp only [if_pos hc2]), N0, rfl⟩
  · have pre3 : ∀ tz, oS p e below s₁ m 10 #[iv x1, iv x2] [(.int x1)] tz → oS p e below s₁ m 2 #[iv x1, iv x2] [(.int x2), (.int x1)] tz := fun tz kt => by
      show oS p e below s₁ m 2 #[iv x1, iv x2] [(.int x2), (.int x1)] _
      refine XS.icmpNo X0.here hx rfl (hb hby d10_2) rfl (flt hc2).2.2.1 ?_
      refine XS.iloadN X0.here hx rfl (hb hby d10_5) rfl ?_
      refine XS.goto X0.here hx rfl (pc0 := 6) (pc' := 10) rfl (hb hby d10_6) (by decide) (by decide) ?_
      exact kt
    obtain ⟨fs, hr, hrun, hended, hW, hsame⟩ := X0.leave (v := some (.int x1)) (fun h => by rw [Bd.returns] at h; cases h)
    refine ⟨_, _, pre0 _ (pre1 _ (pre3 _ ?_)), hrun, hended, _, _, rfl, ?_, ⟨_, rfl⟩, hW, hsame.mono (by decide) (by decide)⟩
    · show oS p e below s₁ m 10 #[iv x1, iv x2] [(.int x1)] _
      exact retOut X0 hx Bd.returns rfl (Or.inl ⟨rfl, Or.inl rfl, _, rfl⟩) (hb hby d10_10) hr
    · show Q10 Z x1 x2 h0 n0 _ s₁.heap _
      rw [e0]
      exact ⟨(by first | rfl | simp only [if_neg hc2]), N0, rfl⟩
theorem own_pd1 : parseMethodDescriptor "()Lcom/example/ordered_scheduler/orderedscheduler/sequencing/Place;" = some ⟨[], some (.object "com/example/ordered_scheduler/orderedscheduler/sequencing/Place")⟩ := by decide +kernel
theorem own_pd2 : parseMethodDescriptor "()Z" = some ⟨[], some .boolean⟩ := by decide +kernel
theorem d4_0 : decode method_4_code 0 = .ok (.aload_n 0, 1) := by decide +kernel
theorem d4_1 : decode method_4_code 1 = .ok (.invokevirtual 51, 3) := by decide +kernel
theorem d4_4 : decode method_4_code 4 = .ok (.aload_n 1, 1) := by decide +kernel
theorem d4_5 : decode method_4_code 5 = .ok (.if_acmp .ne 27, 3) := by decide +kernel
theorem d4_8 : decode method_4_code 8 = .ok (.aload_n 0, 1) := by decide +kernel
theorem d4_9 : decode method_4_code 9 = .ok (.invokevirtual 54, 3) := by decide +kernel
theorem d4_12 : decode method_4_code 12 = .ok (.aload_n 2, 1) := by decide +kernel
theorem d4_13 : decode method_4_code 13 = .ok (.if_acmp .ne 19, 3) := by decide +kernel
theorem d4_16 : decode method_4_code 16 = .ok (.aload_n 0, 1) := by decide +kernel
theorem d4_17 : decode method_4_code 17 = .ok (.invokevirtual 57, 3) := by decide +kernel
theorem d4_20 : decode method_4_code 20 = .ok (.aload_n 1, 1) := by decide +kernel
theorem d4_21 : decode method_4_code 21 = .ok (.ifnonnull 7, 3) := by decide +kernel
theorem d4_24 : decode method_4_code 24 = .ok (.iconst 1, 1) := by decide +kernel
theorem d4_25 : decode method_4_code 25 = .ok (.goto 4, 3) := by decide +kernel
theorem d4_29 : decode method_4_code 29 = .ok (.if_icmp .eq 5, 3) := by decide +kernel
theorem d4_34 : decode method_4_code 34 = .ok (.aload_n 1, 1) := by decide +kernel
theorem d4_35 : decode method_4_code 35 = .ok (.ifnonnull 5, 3) := by decide +kernel
theorem d4_38 : decode method_4_code 38 = .ok (.iconst 1, 1) := by decide +kernel
theorem d4_39 : decode method_4_code 39 = .ok (.ireturn, 1) := by decide +kernel
theorem own_pn2 : plainName "com/example/ordered_scheduler/orderedscheduler/sequencing/BacklogPollPinLaw" = true := by first | (simp [plainName, overriddenIn]; done) | decide +kernel
theorem efS0 (m : MethodId) (x1 : Addr) : entryFrame m #[(.ref x1), .null, .null] 4 = mkF m 0 #[rv x1, .val .null, .val .null, .unset] [] := by first | (simp [entryFrame, mkF, argsToLocals, Value.category]; done) | rfl
def QS0 (Z : State) (x1 : Addr) (h0 : Heap) (n0 : Nat) (v : Option Value) (h : Heap) (L : List Loc) : Prop := v = some (.int (1 : Int32)) ∧ Fr n0 L ∧ h = h0
set_option maxRecDepth 65536 in
set_option maxHeartbeats 40000000 in
theorem rmS0 (l : Launch) (Z : State) (a0 : Array Value) (hw : ∀ d ∈ tables_1, d.before a0 Z = true) (ws : List Jvm.Cond) (x1 : Addr) (h0 : Heap) (n0 : Nat) (Z0 : n0 ≤ h0.size) (E_x1 : Exa Z h0 x1 oz1) (F_first_x1 : Fld Z h0 x1 oz1 "first" oz2 .null) (F_last_x1 : Fld Z h0 x1 oz1 "last" oz2 .null) :
    MetFree l (⟨oz4, "state", oz5⟩ : MethodName) (head1 (Jvm.Cond.code (⟨oz4, "state", oz5⟩ : MethodName) method_4_code 4 (some .boolean) :: ws) ({ frames := 1, cells := 0, slots := 0, locals := 12 } : Room)) (fun a U => a = #[(.ref x1), .null, .null] ∧ Z.Warmed39 U.vm ∧ U.heap = h0) (fun _ _ _ _ _ => True) (fun _ U oc U' => ∃ v L, oc = .returned v ∧ QS0 Z x1 h0 n0 v U'.heap L ∧ FrameEnd U oc U' L ({ frames := 1, cells := 0, slots := 0, locals := 12 } : Room).cells ({ frames := 1, cells := 0, slots := 0, locals := 12 } : Room).slots) := by
  refine MetFree.of_bodySF (plainFor_of_name own_pn2) hisR ?_
  intro p e s m args below meth c s₁ Bd hml0 hP hK
  obtain ⟨rfl, hZ, hh⟩ := hP
  have hx := Bd.exec
  have hby := Bd.bytes
  have hml : c.maxLocals = 4 := hml0
  have hown : s.vm.findClass oz4 = some m.cls := findClass_of_methodNamed Bd.named
  have hnm := (name_of_methodNamed Bd.named Bd.method).1
  have X0 : Stand p l e ({ frames := 1, cells := 0, slots := 0, locals := 12 } : Room) s m #[(.ref x1), .null, .null] below meth c s₁ [] 0 0 := Stand.of_body Bd
  have e0 : s₁.heap = h0 := by rw [← hh, Bd.state]; rfl
  have N0 := Fr.nil n0
  have pre0 : ∀ t, Steps p.tables e below (s₁.setTop (mkF m 0 #[rv x1, .val .null, .val .null, .unset] [])) t → Steps p.tables e below (s₁.setTop (entryFrame m #[(.ref x1), .null, .null] 4)) t := fun t k => castTop (efS0 m x1) k
  obtain ⟨cq1, kq1, q1a, q1b, q1c⟩ := isOf hZ e0 E_x1
  obtain ⟨_, _, ⟨T1, Lw1, kw1, nw1⟩, -, X1, ⟨Lc1, hQ1, l1, y1, z1⟩, st1⟩ := X0.virtualBack hx (y := (⟨oz1, "first", oz7⟩ : MethodName)) (z := (⟨oz1, "first", oz7⟩ : MethodName)) hown (mvT hZ (own_w hw 31 rfl)) (mvT hZ (own_w hw 32 rfl)) (notFace_of_selects (args := #[]) (mvT hZ (own_w hw 34 rfl))) (mvT hZ (own_w hw 34 rfl)) (mvT hZ (own_w hw 33 rfl)) (by decide) (backOf (W := 0) (rmfirst0 l Z a0 hw [] x1 h0 n0 Z0 E_x1 F_first_x1) hZ (own_w hw 35 rfl) (own_w hw 3 rfl) (by decide) (by decide)) q1a q1c (g := (mkF m 1 #[rv x1, .val .null, .val .null, .unset] [(.ref x1)])) rfl (by rw [hml]; rfl) (Steps.refl _) (argsL := []) (rest := []) (lenOf own_pd1 rfl) rfl (by show 2 * 0 + _ ≤ _; exact Nat.le_of_eq rfl) (hb hby d4_1) (fun _ _ => ⟨rfl, e0, (by decide : 0 + 0 ≤ _), (by decide : 0 + 0 ≤ _)⟩)
  dsimp only [Pt.U, Pt.locs, Pt.cells, Pt.slots] at X1 l1 y1 z1 st1 hQ1
  subst l1 y1 z1
  obtain ⟨rfl, Nq1, eh1⟩ := hQ1
  have N1 := Fr.app N0 Nq1
  obtain ⟨cq2, kq2, q2a, q2b, q2c⟩ := isOf hZ eh1 E_x1
  obtain ⟨_, _, ⟨T2, Lw2, kw2, nw2⟩, -, X2, ⟨Lc2, hQ2, l2, y2, z2⟩, st2⟩ := X1.virtualBack hx (y := (⟨oz1, "last", oz7⟩ : MethodName)) (z := (⟨oz1, "last", oz7⟩ : MethodName)) hown (mvT hZ (own_w hw 38 rfl)) (mvT hZ (own_w hw 39 rfl)) (notFace_of_selects (args := #[]) (mvT hZ (own_w hw 41 rfl))) (mvT hZ (own_w hw 41 rfl)) (mvT hZ (own_w hw 40 rfl)) (by decide) (backOf (W := 0) (rmlast0 l Z a0 hw [] x1 h0 n0 Z0 E_x1 F_last_x1) hZ (own_w hw 42 rfl) (own_w hw 3 rfl) (by decide) (by decide)) q2a q2c (g := (mkF m 9 #[rv x1, .val .null, .val .null, .unset] [(.ref x1)])) rfl (by rw [hml]; rfl) (Steps.refl _) (argsL := []) (rest := []) (lenOf own_pd1 rfl) rfl (by show 2 * 0 + _ ≤ _; exact Nat.le_of_eq rfl) (hb hby d4_9) (fun _ _ => ⟨rfl, eh1, (by decide : 0 + 0 ≤ _), (by decide : 0 + 0 ≤ _)⟩)
  dsimp only [Pt.U, Pt.locs, Pt.cells, Pt.slots] at X2 l2 y2 z2 st2 hQ2
  subst l2 y2 z2
  obtain ⟨rfl, Nq2, eh2⟩ := hQ2
  have N2 := Fr.app N1 Nq2
  obtain ⟨cq3, kq3, q3a, q3b, q3c⟩ := isOf hZ eh2 E_x1
  obtain ⟨_, _, ⟨T3, Lw3, kw3, nw3⟩, -, X3, ⟨Lc3, hQ3, l3, y3, z3⟩, st3⟩ := X2.virtualBack hx (y := (⟨oz1, "isEmpty", "()Z"⟩ : MethodName)) (z := (⟨oz1, "isEmpty", "()Z"⟩ : MethodName)) hown (mvT hZ (own_w hw 45 rfl)) (mvT hZ (own_w hw 46 rfl)) (notFace_of_selects (args := #[]) (mvT hZ (own_w hw 48 rfl))) (mvT hZ (own_w hw 48 rfl)) (mvT hZ (own_w hw 47 rfl)) (by decide) (backOf (W := 0) (rmE0 l Z a0 hw [] x1 h0 n0 Z0 E_x1 F_first_x1) hZ (own_w hw 49 rfl) (own_w hw 3 rfl) (by decide) (by decide)) q3a q3c (g := (mkF m 17 #[rv x1, .val .null, .val .null, .unset] [(.ref x1)])) rfl (by rw [hml]; rfl) (Steps.refl _) (argsL := []) (rest := []) (lenOf own_pd2 rfl) rfl (by show 2 * 0 + _ ≤ _; exact Nat.le_of_eq rfl) (hb hby d4_17) (fun _ _ => ⟨rfl, eh2, (by decide : 0 + 0 ≤ _), (by decide : 0 + 0 ≤ _)⟩)
  dsimp only [Pt.U, Pt.locs, Pt.cells, Pt.slots] at X3 l3 y3 z3 st3 hQ3
  subst l3 y3 z3
  obtain ⟨rfl, Nq3, eh3⟩ := hQ3
  have N3 := Fr.app N2 Nq3
  have pre4 : ∀ tz, oS p e below T3 m 39 #[rv x1, .val .null, .val .null, .unset] [(.int (1 : Int32))] tz → oS p e below s₁ m 0 #[rv x1, .val .null, .val .null, .unset] [] tz := fun tz kt => by
    show oS p e below s₁ m 0 #[rv x1, .val .null, .val .null, .unset] [] _
    refine XS.aloadN X0.here hx rfl (hb hby d4_0) rfl rfl ?_
    show oS p e below s₁ m 1 #[rv x1, .val .null, .val .null, .unset] [(.ref x1)] _
    refine st1.trans ?_
    refine XS.aloadN X1.here hx rfl (hb hby d4_4) rfl rfl ?_
    refine Jvm.RoadKit.acmp (g := (mkF m 5 #[rv x1, .val .null, .val .null, .unset] [.null, .null])) X1 hx rfl rfl rfl (pc0 := 5) (pc' := 8) (same := true) rfl (hb hby d4_5) rfl (decide_eq_true rfl) (by decide) (by decide) ?_
    refine XS.aloadN X1.here hx rfl (hb hby d4_8) rfl rfl ?_
    show oS p e below T1 m 9 #[rv x1, .val .null, .val .null, .unset] [(.ref x1)] _
    refine st2.trans ?_
    refine XS.aloadN X2.here hx rfl (hb hby d4_12) rfl rfl ?_
    refine Jvm.RoadKit.acmp (g := (mkF m 13 #[rv x1, .val .null, .val .null, .unset] [.null, .null])) X2 hx rfl rfl rfl (pc0 := 13) (pc' := 16) (same := true) rfl (hb hby d4_13) rfl (decide_eq_true rfl) (by decide) (by decide) ?_
    refine XS.aloadN X2.here hx rfl (hb hby d4_16) rfl rfl ?_
    show oS p e below T2 m 17 #[rv x1, .val .null, .val .null, .unset] [(.ref x1)] _
    refine st3.trans ?_
    refine XS.aloadN X3.here hx rfl (hb hby d4_20) rfl rfl ?_
    refine XS.ifnonnullNo X3.here hx rfl (hb hby d4_21) rfl ?_
    refine XS.iconst X3.here hx rfl (hb hby d4_24) ?_
    show oS p e below T3 m 25 #[rv x1, .val .null, .val .null, .unset] [(.int (1 : Int32)), (.int (1 : Int32))] _
    refine XS.goto X3.here hx rfl (pc0 := 25) (pc' := 29) rfl (hb hby d4_25) (by decide) (by decide) ?_
    refine XS.icmpYes X3.here hx rfl (pc0 := 29) (pc' := 34) rfl (hb hby d4_29) rfl (teq (by decide : ((1 : Int32) = (1 : Int32)))).1 (by decide) (by decide) ?_
    refine XS.aloadN X3.here hx rfl (hb hby d4_34) rfl rfl ?_
    refine XS.ifnonnullNo X3.here hx rfl (hb hby d4_35) rfl ?_
    show oS p e below T3 m 38 #[rv x1, .val .null, .val .null, .unset] [] _
    refine XS.iconst X3.here hx rfl (hb hby d4_38) ?_
    exact kt
  obtain ⟨fs, hr, hrun, hended, hW, hsame⟩ := X3.leave (v := some (.int (1 : Int32))) (fun h => by rw [Bd.returns] at h; cases h)
  refine ⟨_, _, pre0 _ (pre4 _ ?_), hrun, hended, _, _, rfl, ?_, ⟨_, rfl⟩, hW, hsame.mono (by decide) (by decide)⟩
  · show oS p e below T3 m 39 #[rv x1, .val .null, .val .null, .unset] [(.int (1 : Int32))] _
    exact retN X3 hx (t := .boolean) Bd.returns (by simp) (hb hby d4_39) hr
  · show QS0 Z x1 h0 n0 _ T3.heap _
    rw [eh3]
    exact ⟨rfl, N3, rfl⟩
theorem d4_28 : decode method_4_code 28 = .ok (.iconst 0, 1) := by decide +kernel
theorem d4_40 : decode method_4_code 40 = .ok (.aload_n 1, 1) := by decide +kernel
theorem d4_41 : decode method_4_code 41 = .ok (.getfield 44, 3) := by decide +kernel
theorem d4_44 : decode method_4_code 44 = .ok (.ifnonnull 26, 3) := by decide +kernel
theorem d4_47 : decode method_4_code 47 = .ok (.aload_n 2, 1) := by decide +kernel
theorem d4_48 : decode method_4_code 48 = .ok (.getfield 48, 3) := by decide +kernel
theorem d4_51 : decode method_4_code 51 = .ok (.ifnonnull 19, 3) := by decide +kernel
theorem d4_54 : decode method_4_code 54 = .ok (.aload_n 1, 1) := by decide +kernel
theorem d4_55 : decode method_4_code 55 = .ok (.getfield 40, 3) := by decide +kernel
theorem d4_58 : decode method_4_code 58 = .ok (.aload_n 0, 1) := by decide +kernel
theorem d4_59 : decode method_4_code 59 = .ok (.if_acmp .ne 11, 3) := by decide +kernel
theorem d4_62 : decode method_4_code 62 = .ok (.aload_n 2, 1) := by decide +kernel
theorem d4_63 : decode method_4_code 63 = .ok (.getfield 40, 3) := by decide +kernel
theorem d4_66 : decode method_4_code 66 = .ok (.aload_n 0, 1) := by decide +kernel
theorem d4_67 : decode method_4_code 67 = .ok (.if_acmp .eq 5, 3) := by decide +kernel
theorem d4_72 : decode method_4_code 72 = .ok (.aload_n 1, 1) := by decide +kernel
theorem d4_73 : decode method_4_code 73 = .ok (.aload_n 2, 1) := by decide +kernel
theorem d4_74 : decode method_4_code 74 = .ok (.if_acmp .ne 5, 3) := by decide +kernel
theorem d4_77 : decode method_4_code 77 = .ok (.iconst 1, 1) := by decide +kernel
theorem d4_78 : decode method_4_code 78 = .ok (.ireturn, 1) := by decide +kernel
theorem efS1 (m : MethodId) (x1 : Addr) (x2 : Addr) : entryFrame m #[(.ref x1), (.ref x2), (.ref x2)] 4 = mkF m 0 #[rv x1, rv x2, rv x2, .unset] [] := by first | (simp [entryFrame, mkF, argsToLocals, Value.category]; done) | rfl
def QS1 (Z : State) (x1 : Addr) (x2 : Addr) (h0 : Heap) (n0 : Nat) (v : Option Value) (h : Heap) (L : List Loc) : Prop := v = some (.int (1 : Int32)) ∧ Fr n0 L ∧ h = h0
set_option maxRecDepth 65536 in
set_option maxHeartbeats 40000000 in
theorem rmS1 (l : Launch) (Z : State) (a0 : Array Value) (hw : ∀ d ∈ tables_1, d.before a0 Z = true) (ws : List Jvm.Cond) (x1 : Addr) (x2 : Addr) (h0 : Heap) (n0 : Nat) (Z0 : n0 ≤ h0.size) (E_x1 : Exa Z h0 x1 oz1) (E_x2 : Exa Z h0 x2 oz0) (F_first_x1 : Fld Z h0 x1 oz1 "first" oz2 (.ref x2)) (F_last_x1 : Fld Z h0 x1 oz1 "last" oz2 (.ref x2)) (F_in_x2 : Fld Z h0 x2 oz0 "in" oz6 (.ref x1)) (F_before_x2 : Fld Z h0 x2 oz0 "before" oz2 .null) (F_after_x2 : Fld Z h0 x2 oz0 "after" oz2 .null) :
    MetFree l (⟨oz4, "state", oz5⟩ : MethodName) (head1 (Jvm.Cond.code (⟨oz4, "state", oz5⟩ : MethodName) method_4_code 4 (some .boolean) :: ws) ({ frames := 1, cells := 0, slots := 0, locals := 12 } : Room)) (fun a U => a = #[(.ref x1), (.ref x2), (.ref x2)] ∧ Z.Warmed39 U.vm ∧ U.heap = h0) (fun _ _ _ _ _ => True) (fun _ U oc U' => ∃ v L, oc = .returned v ∧ QS1 Z x1 x2 h0 n0 v U'.heap L ∧ FrameEnd U oc U' L ({ frames := 1, cells := 0, slots := 0, locals := 12 } : Room).cells ({ frames := 1, cells := 0, slots := 0, locals := 12 } : Room).slots) := by
  refine MetFree.of_bodySF (plainFor_of_name own_pn2) hisR ?_
  intro p e s m args below meth c s₁ Bd hml0 hP hK
  obtain ⟨rfl, hZ, hh⟩ := hP
  have hx := Bd.exec
  have hby := Bd.bytes
  have hml : c.maxLocals = 4 := hml0
  have hown : s.vm.findClass oz4 = some m.cls := findClass_of_methodNamed Bd.named
  have hnm := (name_of_methodNamed Bd.named Bd.method).1
  have X0 : Stand p l e ({ frames := 1, cells := 0, slots := 0, locals := 12 } : Room) s m #[(.ref x1), (.ref x2), (.ref x2)] below meth c s₁ [] 0 0 := Stand.of_body Bd
  have e0 : s₁.heap = h0 := by rw [← hh, Bd.state]; rfl
  have N0 := Fr.nil n0
  have pre0 : ∀ t, Steps p.tables e below (s₁.setTop (mkF m 0 #[rv x1, rv x2, rv x2, .unset] [])) t → Steps p.tables e below (s₁.setTop (entryFrame m #[(.ref x1), (.ref x2), (.ref x2)] 4)) t := fun t k => castTop (efS1 m x1 x2) k
  obtain ⟨cq1, kq1, q1a, q1b, q1c⟩ := isOf hZ e0 E_x1
  obtain ⟨_, _, ⟨T1, Lw1, kw1, nw1⟩, -, X1, ⟨Lc1, hQ1, l1, y1, z1⟩, st1⟩ := X0.virtualBack hx (y := (⟨oz1, "first", oz7⟩ : MethodName)) (z := (⟨oz1, "first", oz7⟩ : MethodName)) hown (mvT hZ (own_w hw 31 rfl)) (mvT hZ (own_w hw 32 rfl)) (notFace_of_selects (args := #[]) (mvT hZ (own_w hw 34 rfl))) (mvT hZ (own_w hw 34 rfl)) (mvT hZ (own_w hw 33 rfl)) (by decide) (backOf (W := 0) (rmfirst1 l Z a0 hw [] x1 x2 h0 n0 Z0 E_x1 F_first_x1) hZ (own_w hw 35 rfl) (own_w hw 3 rfl) (by decide) (by decide)) q1a q1c (g := (mkF m 1 #[rv x1, rv x2, rv x2, .unset] [(.ref x1)])) rfl (by rw [hml]; rfl) (Steps.refl _) (argsL := []) (rest := []) (lenOf own_pd1 rfl) rfl (by show 2 * 0 + _ ≤ _; exact Nat.le_of_eq rfl) (hb hby d4_1) (fun _ _ => ⟨rfl, e0, (by decide : 0 + 0 ≤ _), (by decide : 0 + 0 ≤ _)⟩)
  dsimp only [Pt.U, Pt.locs, Pt.cells, Pt.slots] at X1 l1 y1 z1 st1 hQ1
  subst l1 y1 z1
  obtain ⟨rfl, Nq1, eh1⟩ := hQ1
  have N1 := Fr.app N0 Nq1
  obtain ⟨cq2, kq2, q2a, q2b, q2c⟩ := isOf hZ eh1 E_x1
  obtain ⟨_, _, ⟨T2, Lw2, kw2, nw2⟩, -, X2, ⟨Lc2, hQ2, l2, y2, z2⟩, st2⟩ := X1.virtualBack hx (y := (⟨oz1, "last", oz7⟩ : MethodName)) (z := (⟨oz1, "last", oz7⟩ : MethodName)) hown (mvT hZ (own_w hw 38 rfl)) (mvT hZ (own_w hw 39 rfl)) (notFace_of_selects (args := #[]) (mvT hZ (own_w hw 41 rfl))) (mvT hZ (own_w hw 41 rfl)) (mvT hZ (own_w hw 40 rfl)) (by decide) (backOf (W := 0) (rmlast1 l Z a0 hw [] x1 x2 h0 n0 Z0 E_x1 F_last_x1) hZ (own_w hw 42 rfl) (own_w hw 3 rfl) (by decide) (by decide)) q2a q2c (g := (mkF m 9 #[rv x1, rv x2, rv x2, .unset] [(.ref x1)])) rfl (by rw [hml]; rfl) (Steps.refl _) (argsL := []) (rest := []) (lenOf own_pd1 rfl) rfl (by show 2 * 0 + _ ≤ _; exact Nat.le_of_eq rfl) (hb hby d4_9) (fun _ _ => ⟨rfl, eh1, (by decide : 0 + 0 ≤ _), (by decide : 0 + 0 ≤ _)⟩)
  dsimp only [Pt.U, Pt.locs, Pt.cells, Pt.slots] at X2 l2 y2 z2 st2 hQ2
  subst l2 y2 z2
  obtain ⟨rfl, Nq2, eh2⟩ := hQ2
  have N2 := Fr.app N1 Nq2
  obtain ⟨cq3, kq3, q3a, q3b, q3c⟩ := isOf hZ eh2 E_x1
  obtain ⟨_, _, ⟨T3, Lw3, kw3, nw3⟩, -, X3, ⟨Lc3, hQ3, l3, y3, z3⟩, st3⟩ := X2.virtualBack hx (y := (⟨oz1, "isEmpty", "()Z"⟩ : MethodName)) (z := (⟨oz1, "isEmpty", "()Z"⟩ : MethodName)) hown (mvT hZ (own_w hw 45 rfl)) (mvT hZ (own_w hw 46 rfl)) (notFace_of_selects (args := #[]) (mvT hZ (own_w hw 48 rfl))) (mvT hZ (own_w hw 48 rfl)) (mvT hZ (own_w hw 47 rfl)) (by decide) (backOf (W := 0) (rmE1 l Z a0 hw [] x1 x2 h0 n0 Z0 E_x1 F_first_x1) hZ (own_w hw 49 rfl) (own_w hw 3 rfl) (by decide) (by decide)) q3a q3c (g := (mkF m 17 #[rv x1, rv x2, rv x2, .unset] [(.ref x1)])) rfl (by rw [hml]; rfl) (Steps.refl _) (argsL := []) (rest := []) (lenOf own_pd2 rfl) rfl (by show 2 * 0 + _ ≤ _; exact Nat.le_of_eq rfl) (hb hby d4_17) (fun _ _ => ⟨rfl, eh2, (by decide : 0 + 0 ≤ _), (by decide : 0 + 0 ≤ _)⟩)
  dsimp only [Pt.U, Pt.locs, Pt.cells, Pt.slots] at X3 l3 y3 z3 st3 hQ3
  subst l3 y3 z3
  obtain ⟨rfl, Nq3, eh3⟩ := hQ3
  have N3 := Fr.app N2 Nq3
  obtain ⟨T4, X4, e4, st4⟩ := getF X3 hx hZ hown (host := "") (Or.inl (own_w hw 71 rfl)) Via.refl eh3 F_before_x2 (g := (mkF m 41 #[rv x1, rv x2, rv x2, .unset] [(.ref x2)])) rfl rfl (hb hby d4_41)
  obtain ⟨T5, X5, e5, st5⟩ := getF X4 hx hZ hown (host := "") (Or.inl (own_w hw 72 rfl)) Via.refl e4 F_after_x2 (g := (mkF m 48 #[rv x1, rv x2, rv x2, .unset] [(.ref x2)])) rfl rfl (hb hby d4_48)
  obtain ⟨T6, X6, e6, st6⟩ := getF X5 hx hZ hown (host := "") (Or.inl (own_w hw 74 rfl)) Via.refl e5 F_in_x2 (g := (mkF m 55 #[rv x1, rv x2, rv x2, .unset] [(.ref x2)])) rfl rfl (hb hby d4_55)
  obtain ⟨T7, X7, e7, st7⟩ := getF X6 hx hZ hown (host := "") (Or.inl (own_w hw 74 rfl)) Via.refl e6 F_in_x2 (g := (mkF m 63 #[rv x1, rv x2, rv x2, .unset] [(.ref x2)])) rfl rfl (hb hby d4_63)
  have pre8 : ∀ tz, oS p e below T7 m 78 #[rv x1, rv x2, rv x2, .unset] [(.int (1 : Int32))] tz → oS p e below s₁ m 0 #[rv x1, rv x2, rv x2, .unset] [] tz := fun tz kt => by
    show oS p e below s₁ m 0 #[rv x1, rv x2, rv x2, .unset] [] _
    refine XS.aloadN X0.here hx rfl (hb hby d4_0) rfl rfl ?_
    show oS p e below s₁ m 1 #[rv x1, rv x2, rv x2, .unset] [(.ref x1)] _
    refine st1.trans ?_
    refine XS.aloadN X1.here hx rfl (hb hby d4_4) rfl rfl ?_
    refine Jvm.RoadKit.acmp (g := (mkF m 5 #[rv x1, rv x2, rv x2, .unset] [(.ref x2), (.ref x2)])) X1 hx rfl rfl rfl (pc0 := 5) (pc' := 8) (same := true) rfl (hb hby d4_5) rfl (decide_eq_true rfl) (by decide) (by decide) ?_
    refine XS.aloadN X1.here hx rfl (hb hby d4_8) rfl rfl ?_
    show oS p e below T1 m 9 #[rv x1, rv x2, rv x2, .unset] [(.ref x1)] _
    refine st2.trans ?_
    refine XS.aloadN X2.here hx rfl (hb hby d4_12) rfl rfl ?_
    refine Jvm.RoadKit.acmp (g := (mkF m 13 #[rv x1, rv x2, rv x2, .unset] [(.ref x2), (.ref x2)])) X2 hx rfl rfl rfl (pc0 := 13) (pc' := 16) (same := true) rfl (hb hby d4_13) rfl (decide_eq_true rfl) (by decide) (by decide) ?_
    refine XS.aloadN X2.here hx rfl (hb hby d4_16) rfl rfl ?_
    show oS p e below T2 m 17 #[rv x1, rv x2, rv x2, .unset] [(.ref x1)] _
    refine st3.trans ?_
    refine XS.aloadN X3.here hx rfl (hb hby d4_20) rfl rfl ?_
    refine XS.ifnonnullYes X3.here hx rfl (pc0 := 21) (pc' := 28) rfl (hb hby d4_21) rfl (by decide) (by decide) ?_
    refine XS.iconst X3.here hx rfl (hb hby d4_28) ?_
    show oS p e below T3 m 29 #[rv x1, rv x2, rv x2, .unset] [(.int (0 : Int32)), (.int (0 : Int32))] _
    refine XS.icmpYes X3.here hx rfl (pc0 := 29) (pc' := 34) rfl (hb hby d4_29) rfl (teq (by decide : ((0 : Int32) = (0 : Int32)))).1 (by decide) (by decide) ?_
    refine XS.aloadN X3.here hx rfl (hb hby d4_34) rfl rfl ?_
    refine XS.ifnonnullYes X3.here hx rfl (pc0 := 35) (pc' := 40) rfl (hb hby d4_35) rfl (by decide) (by decide) ?_
    refine XS.aloadN X3.here hx rfl (hb hby d4_40) rfl rfl ?_
    show oS p e below T3 m 41 #[rv x1, rv x2, rv x2, .unset] [(.ref x2)] _
    refine st4 _ ?_
    refine XS.ifnonnullNo X4.here hx rfl (hb hby d4_44) rfl ?_
    refine XS.aloadN X4.here hx rfl (hb hby d4_47) rfl rfl ?_
    show oS p e below T4 m 48 #[rv x1, rv x2, rv x2, .unset] [(.ref x2)] _
    refine st5 _ ?_
    refine XS.ifnonnullNo X5.here hx rfl (hb hby d4_51) rfl ?_
    refine XS.aloadN X5.here hx rfl (hb hby d4_54) rfl rfl ?_
    show oS p e below T5 m 55 #[rv x1, rv x2, rv x2, .unset] [(.ref x2)] _
    refine st6 _ ?_
    refine XS.aloadN X6.here hx rfl (hb hby d4_58) rfl rfl ?_
    refine Jvm.RoadKit.acmp (g := (mkF m 59 #[rv x1, rv x2, rv x2, .unset] [(.ref x1), (.ref x1)])) X6 hx rfl rfl rfl (pc0 := 59) (pc' := 62) (same := true) rfl (hb hby d4_59) rfl (decide_eq_true rfl) (by decide) (by decide) ?_
    refine XS.aloadN X6.here hx rfl (hb hby d4_62) rfl rfl ?_
    show oS p e below T6 m 63 #[rv x1, rv x2, rv x2, .unset] [(.ref x2)] _
    refine st7 _ ?_
    refine XS.aloadN X7.here hx rfl (hb hby d4_66) rfl rfl ?_
    refine Jvm.RoadKit.acmp (g := (mkF m 67 #[rv x1, rv x2, rv x2, .unset] [(.ref x1), (.ref x1)])) X7 hx rfl rfl rfl (pc0 := 67) (pc' := 72) (same := true) rfl (hb hby d4_67) rfl (decide_eq_true rfl) (by decide) (by decide) ?_
    refine XS.aloadN X7.here hx rfl (hb hby d4_72) rfl rfl ?_
    show oS p e below T7 m 73 #[rv x1, rv x2, rv x2, .unset] [(.ref x2)] _
    refine XS.aloadN X7.here hx rfl (hb hby d4_73) rfl rfl ?_
    refine Jvm.RoadKit.acmp (g := (mkF m 74 #[rv x1, rv x2, rv x2, .unset] [(.ref x2), (.ref x2)])) X7 hx rfl rfl rfl (pc0 := 74) (pc' := 77) (same := true) rfl (hb hby d4_74) rfl (decide_eq_true rfl) (by decide) (by decide) ?_
    refine XS.iconst X7.here hx rfl (hb hby d4_77) ?_
    exact kt
  obtain ⟨fs, hr, hrun, hended, hW, hsame⟩ := X7.leave (v := some (.int (1 : Int32))) (fun h => by rw [Bd.returns] at h; cases h)
  refine ⟨_, _, pre0 _ (pre8 _ ?_), hrun, hended, _, _, rfl, ?_, ⟨_, rfl⟩, hW, hsame.mono (by decide) (by decide)⟩
  · show oS p e below T7 m 78 #[rv x1, rv x2, rv x2, .unset] [(.int (1 : Int32))] _
    exact retN X7 hx (t := .boolean) Bd.returns (by simp) (hb hby d4_78) hr
  · show QS1 Z x1 x2 h0 n0 _ T7.heap _
    rw [e7]
    exact ⟨rfl, N3, rfl⟩
theorem d4_79 : decode method_4_code 79 = .ok (.aload_n 1, 1) := by decide +kernel
theorem d4_80 : decode method_4_code 80 = .ok (.getfield 48, 3) := by decide +kernel
theorem d4_83 : decode method_4_code 83 = .ok (.astore_n 3, 1) := by decide +kernel
theorem d4_84 : decode method_4_code 84 = .ok (.aload_n 3, 1) := by decide +kernel
theorem d4_85 : decode method_4_code 85 = .ok (.ifnull 19, 3) := by decide +kernel
theorem d4_88 : decode method_4_code 88 = .ok (.aload_n 3, 1) := by decide +kernel
theorem d4_89 : decode method_4_code 89 = .ok (.getfield 44, 3) := by decide +kernel
theorem d4_92 : decode method_4_code 92 = .ok (.aload_n 1, 1) := by decide +kernel
theorem d4_93 : decode method_4_code 93 = .ok (.if_acmp .ne 11, 3) := by decide +kernel
theorem d4_96 : decode method_4_code 96 = .ok (.aload_n 3, 1) := by decide +kernel
theorem d4_97 : decode method_4_code 97 = .ok (.getfield 40, 3) := by decide +kernel
theorem d4_100 : decode method_4_code 100 = .ok (.aload_n 0, 1) := by decide +kernel
theorem d4_101 : decode method_4_code 101 = .ok (.if_acmp .eq 5, 3) := by decide +kernel
theorem d4_106 : decode method_4_code 106 = .ok (.aload_n 3, 1) := by decide +kernel
theorem d4_107 : decode method_4_code 107 = .ok (.aload_n 2, 1) := by decide +kernel
theorem d4_108 : decode method_4_code 108 = .ok (.if_acmp .ne 5, 3) := by decide +kernel
theorem d4_111 : decode method_4_code 111 = .ok (.iconst 1, 1) := by decide +kernel
theorem d4_112 : decode method_4_code 112 = .ok (.ireturn, 1) := by decide +kernel
theorem efS2 (m : MethodId) (x1 : Addr) (x2 : Addr) (x3 : Addr) : entryFrame m #[(.ref x1), (.ref x2), (.ref x3)] 4 = mkF m 0 #[rv x1, rv x2, rv x3, .unset] [] := by first | (simp [entryFrame, mkF, argsToLocals, Value.category]; done) | rfl
def QS2 (Z : State) (x1 : Addr) (x2 : Addr) (x3 : Addr) (h0 : Heap) (n0 : Nat) (v : Option Value) (h : Heap) (L : List Loc) : Prop := v = some (.int (1 : Int32)) ∧ Fr n0 L ∧ h = h0
set_option maxRecDepth 65536 in
set_option maxHeartbeats 40000000 in
theorem rmS2 (l : Launch) (Z : State) (a0 : Array Value) (hw : ∀ d ∈ tables_1, d.before a0 Z = true) (ws : List Jvm.Cond) (x1 : Addr) (x2 : Addr) (x3 : Addr) (h0 : Heap) (n0 : Nat) (Z0 : n0 ≤ h0.size) (E_x1 : Exa Z h0 x1 oz1) (E_x2 : Exa Z h0 x2 oz0) (E_x3 : Exa Z h0 x3 oz0) (ne_x2_x3 : x2 ≠ x3) (F_first_x1 : Fld Z h0 x1 oz1 "first" oz2 (.ref x2)) (F_last_x1 : Fld Z h0 x1 oz1 "last" oz2 (.ref x3)) (F_in_x2 : Fld Z h0 x2 oz0 "in" oz6 (.ref x1)) (F_before_x2 : Fld Z h0 x2 oz0 "before" oz2 .null) (F_after_x2 : Fld Z h0 x2 oz0 "after" oz2 (.ref x3)) (F_in_x3 : Fld Z h0 x3 oz0 "in" oz6 (.ref x1)) (F_before_x3 : Fld Z h0 x3 oz0 "before" oz2 (.ref x2)) (F_after_x3 : Fld Z h0 x3 oz0 "after" oz2 .null) :
    MetFree l (⟨oz4, "state", oz5⟩ : MethodName) (head1 (Jvm.Cond.code (⟨oz4, "state", oz5⟩ : MethodName) method_4_code 4 (some .boolean) :: ws) ({ frames := 1, cells := 0, slots := 0, locals := 12 } : Room)) (fun a U => a = #[(.ref x1), (.ref x2), (.ref x3)] ∧ Z.Warmed39 U.vm ∧ U.heap = h0) (fun _ _ _ _ _ => True) (fun _ U oc U' => ∃ v L, oc = .returned v ∧ QS2 Z x1 x2 x3 h0 n0 v U'.heap L ∧ FrameEnd U oc U' L ({ frames := 1, cells := 0, slots := 0, locals := 12 } : Room).cells ({ frames := 1, cells := 0, slots := 0, locals := 12 } : Room).slots) := by
  refine MetFree.of_bodySF (plainFor_of_name own_pn2) hisR ?_
  intro p e s m args below meth c s₁ Bd hml0 hP hK
  obtain ⟨rfl, hZ, hh⟩ := hP
  have hx := Bd.exec
  have hby := Bd.bytes
  have hml : c.maxLocals = 4 := hml0
  have hown : s.vm.findClass oz4 = some m.cls := findClass_of_methodNamed Bd.named
  have hnm := (name_of_methodNamed Bd.named Bd.method).1
  have X0 : Stand p l e ({ frames := 1, cells := 0, slots := 0, locals := 12 } : Room) s m #[(.ref x1), (.ref x2), (.ref x3)] below meth c s₁ [] 0 0 := Stand.of_body Bd
  have e0 : s₁.heap = h0 := by rw [← hh, Bd.state]; rfl
  have N0 := Fr.nil n0
  have pre0 : ∀ t, Steps p.tables e below (s₁.setTop (mkF m 0 #[rv x1, rv x2, rv x3, .unset] [])) t → Steps p.tables e below (s₁.setTop (entryFrame m #[(.ref x1), (.ref x2), (.ref x3)] 4)) t := fun t k => castTop (efS2 m x1 x2 x3) k
  obtain ⟨cq1, kq1, q1a, q1b, q1c⟩ := isOf hZ e0 E_x1
  obtain ⟨_, _, ⟨T1, Lw1, kw1, nw1⟩, -, X1, ⟨Lc1, hQ1, l1, y1, z1⟩, st1⟩ := X0.virtualBack hx (y := (⟨oz1, "first", oz7⟩ : MethodName)) (z := (⟨oz1, "first", oz7⟩ : MethodName)) hown (mvT hZ (own_w hw 31 rfl)) (mvT hZ (own_w hw 32 rfl)) (notFace_of_selects (args := #[]) (mvT hZ (own_w hw 34 rfl))) (mvT hZ (own_w hw 34 rfl)) (mvT hZ (own_w hw 33 rfl)) (by decide) (backOf (W := 0) (rmfirst1 l Z a0 hw [] x1 x2 h0 n0 Z0 E_x1 F_first_x1) hZ (own_w hw 35 rfl) (own_w hw 3 rfl) (by decide) (by decide)) q1a q1c (g := (mkF m 1 #[rv x1, rv x2, rv x3, .unset] [(.ref x1)])) rfl (by rw [hml]; rfl) (Steps.refl _) (argsL := []) (rest := []) (lenOf own_pd1 rfl) rfl (by show 2 * 0 + _ ≤ _; exact Nat.le_of_eq rfl) (hb hby d4_1) (fun _ _ => ⟨rfl, e0, (by decide : 0 + 0 ≤ _), (by decide : 0 + 0 ≤ _)⟩)
  dsimp only [Pt.U, Pt.locs, Pt.cells, Pt.slots] at X1 l1 y1 z1 st1 hQ1
  subst l1 y1 z1
  obtain ⟨rfl, Nq1, eh1⟩ := hQ1
  have N1 := Fr.app N0 Nq1
  obtain ⟨cq2, kq2, q2a, q2b, q2c⟩ := isOf hZ eh1 E_x1
  obtain ⟨_, _, ⟨T2, Lw2, kw2, nw2⟩, -, X2, ⟨Lc2, hQ2, l2, y2, z2⟩, st2⟩ := X1.virtualBack hx (y := (⟨oz1, "last", oz7⟩ : MethodName)) (z := (⟨oz1, "last", oz7⟩ : MethodName)) hown (mvT hZ (own_w hw 38 rfl)) (mvT hZ (own_w hw 39 rfl)) (notFace_of_selects (args := #[]) (mvT hZ (own_w hw 41 rfl))) (mvT hZ (own_w hw 41 rfl)) (mvT hZ (own_w hw 40 rfl)) (by decide) (backOf (W := 0) (rmlast1 l Z a0 hw [] x1 x3 h0 n0 Z0 E_x1 F_last_x1) hZ (own_w hw 42 rfl) (own_w hw 3 rfl) (by decide) (by decide)) q2a q2c (g := (mkF m 9 #[rv x1, rv x2, rv x3, .unset] [(.ref x1)])) rfl (by rw [hml]; rfl) (Steps.refl _) (argsL := []) (rest := []) (lenOf own_pd1 rfl) rfl (by show 2 * 0 + _ ≤ _; exact Nat.le_of_eq rfl) (hb hby d4_9) (fun _ _ => ⟨rfl, eh1, (by decide : 0 + 0 ≤ _), (by decide : 0 + 0 ≤ _)⟩)
  dsimp only [Pt.U, Pt.locs, Pt.cells, Pt.slots] at X2 l2 y2 z2 st2 hQ2
  subst l2 y2 z2
  obtain ⟨rfl, Nq2, eh2⟩ := hQ2
  have N2 := Fr.app N1 Nq2
  obtain ⟨cq3, kq3, q3a, q3b, q3c⟩ := isOf hZ eh2 E_x1
  obtain ⟨_, _, ⟨T3, Lw3, kw3, nw3⟩, -, X3, ⟨Lc3, hQ3, l3, y3, z3⟩, st3⟩ := X2.virtualBack hx (y := (⟨oz1, "isEmpty", "()Z"⟩ : MethodName)) (z := (⟨oz1, "isEmpty", "()Z"⟩ : MethodName)) hown (mvT hZ (own_w hw 45 rfl)) (mvT hZ (own_w hw 46 rfl)) (notFace_of_selects (args := #[]) (mvT hZ (own_w hw 48 rfl))) (mvT hZ (own_w hw 48 rfl)) (mvT hZ (own_w hw 47 rfl)) (by decide) (backOf (W := 0) (rmE1 l Z a0 hw [] x1 x2 h0 n0 Z0 E_x1 F_first_x1) hZ (own_w hw 49 rfl) (own_w hw 3 rfl) (by decide) (by decide)) q3a q3c (g := (mkF m 17 #[rv x1, rv x2, rv x3, .unset] [(.ref x1)])) rfl (by rw [hml]; rfl) (Steps.refl _) (argsL := []) (rest := []) (lenOf own_pd2 rfl) rfl (by show 2 * 0 + _ ≤ _; exact Nat.le_of_eq rfl) (hb hby d4_17) (fun _ _ => ⟨rfl, eh2, (by decide : 0 + 0 ≤ _), (by decide : 0 + 0 ≤ _)⟩)
  dsimp only [Pt.U, Pt.locs, Pt.cells, Pt.slots] at X3 l3 y3 z3 st3 hQ3
  subst l3 y3 z3
  obtain ⟨rfl, Nq3, eh3⟩ := hQ3
  have N3 := Fr.app N2 Nq3
  obtain ⟨T4, X4, e4, st4⟩ := getF X3 hx hZ hown (host := "") (Or.inl (own_w hw 71 rfl)) Via.refl eh3 F_before_x2 (g := (mkF m 41 #[rv x1, rv x2, rv x3, .unset] [(.ref x2)])) rfl rfl (hb hby d4_41)
  obtain ⟨T5, X5, e5, st5⟩ := getF X4 hx hZ hown (host := "") (Or.inl (own_w hw 72 rfl)) Via.refl e4 F_after_x3 (g := (mkF m 48 #[rv x1, rv x2, rv x3, .unset] [(.ref x3)])) rfl rfl (hb hby d4_48)
  obtain ⟨T6, X6, e6, st6⟩ := getF X5 hx hZ hown (host := "") (Or.inl (own_w hw 74 rfl)) Via.refl e5 F_in_x2 (g := (mkF m 55 #[rv x1, rv x2, rv x3, .unset] [(.ref x2)])) rfl rfl (hb hby d4_55)
  obtain ⟨T7, X7, e7, st7⟩ := getF X6 hx hZ hown (host := "") (Or.inl (own_w hw 74 rfl)) Via.refl e6 F_in_x3 (g := (mkF m 63 #[rv x1, rv x2, rv x3, .unset] [(.ref x3)])) rfl rfl (hb hby d4_63)
  obtain ⟨T8, X8, e8, st8⟩ := getF X7 hx hZ hown (host := "") (Or.inl (own_w hw 72 rfl)) Via.refl e7 F_after_x2 (g := (mkF m 80 #[rv x1, rv x2, rv x3, .unset] [(.ref x2)])) rfl rfl (hb hby d4_80)
  obtain ⟨T9, X9, e9, st9⟩ := getF X8 hx hZ hown (host := "") (Or.inl (own_w hw 71 rfl)) Via.refl e8 F_before_x3 (g := (mkF m 89 #[rv x1, rv x2, rv x3, rv x3] [(.ref x3)])) rfl rfl (hb hby d4_89)
  obtain ⟨T10, X10, e10, st10⟩ := getF X9 hx hZ hown (host := "") (Or.inl (own_w hw 74 rfl)) Via.refl e9 F_in_x3 (g := (mkF m 97 #[rv x1, rv x2, rv x3, rv x3] [(.ref x3)])) rfl rfl (hb hby d4_97)
  have pre11 : ∀ tz, oS p e below T10 m 112 #[rv x1, rv x2, rv x3, rv x3] [(.int (1 : Int32))] tz → oS p e below s₁ m 0 #[rv x1, rv x2, rv x3, .unset] [] tz := fun tz kt => by
    show oS p e below s₁ m 0 #[rv x1, rv x2, rv x3, .unset] [] _
    refine XS.aloadN X0.here hx rfl (hb hby d4_0) rfl rfl ?_
    show oS p e below s₁ m 1 #[rv x1, rv x2, rv x3, .unset] [(.ref x1)] _
    refine st1.trans ?_
    refine XS.aloadN X1.here hx rfl (hb hby d4_4) rfl rfl ?_
    refine Jvm.RoadKit.acmp (g := (mkF m 5 #[rv x1, rv x2, rv x3, .unset] [(.ref x2), (.ref x2)])) X1 hx rfl rfl rfl (pc0 := 5) (pc' := 8) (same := true) rfl (hb hby d4_5) rfl (decide_eq_true rfl) (by decide) (by decide) ?_
    refine XS.aloadN X1.here hx rfl (hb hby d4_8) rfl rfl ?_
    show oS p e below T1 m 9 #[rv x1, rv x2, rv x3, .unset] [(.ref x1)] _
    refine st2.trans ?_
    refine XS.aloadN X2.here hx rfl (hb hby d4_12) rfl rfl ?_
    refine Jvm.RoadKit.acmp (g := (mkF m 13 #[rv x1, rv x2, rv x3, .unset] [(.ref x3), (.ref x3)])) X2 hx rfl rfl rfl (pc0 := 13) (pc' := 16) (same := true) rfl (hb hby d4_13) rfl (decide_eq_true rfl) (by decide) (by decide) ?_
    refine XS.aloadN X2.here hx rfl (hb hby d4_16) rfl rfl ?_
    show oS p e below T2 m 17 #[rv x1, rv x2, rv x3, .unset] [(.ref x1)] _
    refine st3.trans ?_
    refine XS.aloadN X3.here hx rfl (hb hby d4_20) rfl rfl ?_
    refine XS.ifnonnullYes X3.here hx rfl (pc0 := 21) (pc' := 28) rfl (hb hby d4_21) rfl (by decide) (by decide) ?_
    refine XS.iconst X3.here hx rfl (hb hby d4_28) ?_
    show oS p e below T3 m 29 #[rv x1, rv x2, rv x3, .unset] [(.int (0 : Int32)), (.int (0 : Int32))] _
    refine XS.icmpYes X3.here hx rfl (pc0 := 29) (pc' := 34) rfl (hb hby d4_29) rfl (teq (by decide : ((0 : Int32) = (0 : Int32)))).1 (by decide) (by decide) ?_
    refine XS.aloadN X3.here hx rfl (hb hby d4_34) rfl rfl ?_
    refine XS.ifnonnullYes X3.here hx rfl (pc0 := 35) (pc' := 40) rfl (hb hby d4_35) rfl (by decide) (by decide) ?_
    refine XS.aloadN X3.here hx rfl (hb hby d4_40) rfl rfl ?_
    show oS p e below T3 m 41 #[rv x1, rv x2, rv x3, .unset] [(.ref x2)] _
    refine st4 _ ?_
    refine XS.ifnonnullNo X4.here hx rfl (hb hby d4_44) rfl ?_
    refine XS.aloadN X4.here hx rfl (hb hby d4_47) rfl rfl ?_
    show oS p e below T4 m 48 #[rv x1, rv x2, rv x3, .unset] [(.ref x3)] _
    refine st5 _ ?_
    refine XS.ifnonnullNo X5.here hx rfl (hb hby d4_51) rfl ?_
    refine XS.aloadN X5.here hx rfl (hb hby d4_54) rfl rfl ?_
    show oS p e below T5 m 55 #[rv x1, rv x2, rv x3, .unset] [(.ref x2)] _
    refine st6 _ ?_
    refine XS.aloadN X6.here hx rfl (hb hby d4_58) rfl rfl ?_
    refine Jvm.RoadKit.acmp (g := (mkF m 59 #[rv x1, rv x2, rv x3, .unset] [(.ref x1), (.ref x1)])) X6 hx rfl rfl rfl (pc0 := 59) (pc' := 62) (same := true) rfl (hb hby d4_59) rfl (decide_eq_true rfl) (by decide) (by decide) ?_
    refine XS.aloadN X6.here hx rfl (hb hby d4_62) rfl rfl ?_
    show oS p e below T6 m 63 #[rv x1, rv x2, rv x3, .unset] [(.ref x3)] _
    refine st7 _ ?_
    refine XS.aloadN X7.here hx rfl (hb hby d4_66) rfl rfl ?_
    refine Jvm.RoadKit.acmp (g := (mkF m 67 #[rv x1, rv x2, rv x3, .unset] [(.ref x1), (.ref x1)])) X7 hx rfl rfl rfl (pc0 := 67) (pc' := 72) (same := true) rfl (hb hby d4_67) rfl (decide_eq_true rfl) (by decide) (by decide) ?_
    refine XS.aloadN X7.here hx rfl (hb hby d4_72) rfl rfl ?_
    show oS p e below T7 m 73 #[rv x1, rv x2, rv x3, .unset] [(.ref x2)] _
    refine XS.aloadN X7.here hx rfl (hb hby d4_73) rfl rfl ?_
    refine Jvm.RoadKit.acmp (g := (mkF m 74 #[rv x1, rv x2, rv x3, .unset] [(.ref x3), (.ref x2)])) X7 hx rfl rfl rfl (pc0 := 74) (pc' := 79) (same := false) rfl (hb hby d4_74) rfl (decide_eq_false fun q => ne_x2_x3 (Value.ref.inj q)) (by decide) (by decide) ?_
    refine XS.aloadN X7.here hx rfl (hb hby d4_79) rfl rfl ?_
    show oS p e below T7 m 80 #[rv x1, rv x2, rv x3, .unset] [(.ref x2)] _
    refine st8 _ ?_
    refine XS.astoreN X8.here hx rfl (hb hby d4_83) rfl rfl (l' := #[rv x1, rv x2, rv x3, rv x3]) rfl ?_
    refine XS.aloadN X8.here hx rfl (hb hby d4_84) rfl rfl ?_
    refine XS.ifnullNo X8.here hx rfl (hb hby d4_85) rfl ?_
    show oS p e below T8 m 88 #[rv x1, rv x2, rv x3, rv x3] [] _
    refine XS.aloadN X8.here hx rfl (hb hby d4_88) rfl rfl ?_
    show oS p e below T8 m 89 #[rv x1, rv x2, rv x3, rv x3] [(.ref x3)] _
    refine st9 _ ?_
    refine XS.aloadN X9.here hx rfl (hb hby d4_92) rfl rfl ?_
    refine Jvm.RoadKit.acmp (g := (mkF m 93 #[rv x1, rv x2, rv x3, rv x3] [(.ref x2), (.ref x2)])) X9 hx rfl rfl rfl (pc0 := 93) (pc' := 96) (same := true) rfl (hb hby d4_93) rfl (decide_eq_true rfl) (by decide) (by decide) ?_
    refine XS.aloadN X9.here hx rfl (hb hby d4_96) rfl rfl ?_
    show oS p e below T9 m 97 #[rv x1, rv x2, rv x3, rv x3] [(.ref x3)] _
    refine st10 _ ?_
    refine XS.aloadN X10.here hx rfl (hb hby d4_100) rfl rfl ?_
    refine Jvm.RoadKit.acmp (g := (mkF m 101 #[rv x1, rv x2, rv x3, rv x3] [(.ref x1), (.ref x1)])) X10 hx rfl rfl rfl (pc0 := 101) (pc' := 106) (same := true) rfl (hb hby d4_101) rfl (decide_eq_true rfl) (by decide) (by decide) ?_
    refine XS.aloadN X10.here hx rfl (hb hby d4_106) rfl rfl ?_
    show oS p e below T10 m 107 #[rv x1, rv x2, rv x3, rv x3] [(.ref x3)] _
    refine XS.aloadN X10.here hx rfl (hb hby d4_107) rfl rfl ?_
    refine Jvm.RoadKit.acmp (g := (mkF m 108 #[rv x1, rv x2, rv x3, rv x3] [(.ref x3), (.ref x3)])) X10 hx rfl rfl rfl (pc0 := 108) (pc' := 111) (same := true) rfl (hb hby d4_108) rfl (decide_eq_true rfl) (by decide) (by decide) ?_
    refine XS.iconst X10.here hx rfl (hb hby d4_111) ?_
    exact kt
  obtain ⟨fs, hr, hrun, hended, hW, hsame⟩ := X10.leave (v := some (.int (1 : Int32))) (fun h => by rw [Bd.returns] at h; cases h)
  refine ⟨_, _, pre0 _ (pre11 _ ?_), hrun, hended, _, _, rfl, ?_, ⟨_, rfl⟩, hW, hsame.mono (by decide) (by decide)⟩
  · show oS p e below T10 m 112 #[rv x1, rv x2, rv x3, rv x3] [(.int (1 : Int32))] _
    exact retN X10 hx (t := .boolean) Bd.returns (by simp) (hb hby d4_112) hr
  · show QS2 Z x1 x2 x3 h0 n0 _ T10.heap _
    rw [e10]
    exact ⟨rfl, N3, rfl⟩
theorem d4_113 : decode method_4_code 113 = .ok (.aload_n 3, 1) := by decide +kernel
theorem d4_114 : decode method_4_code 114 = .ok (.getfield 48, 3) := by decide +kernel
theorem d4_117 : decode method_4_code 117 = .ok (.aload_n 2, 1) := by decide +kernel
theorem d4_118 : decode method_4_code 118 = .ok (.if_acmp .ne 15, 3) := by decide +kernel
theorem d4_121 : decode method_4_code 121 = .ok (.aload_n 2, 1) := by decide +kernel
theorem d4_122 : decode method_4_code 122 = .ok (.getfield 44, 3) := by decide +kernel
theorem d4_125 : decode method_4_code 125 = .ok (.aload_n 3, 1) := by decide +kernel
theorem d4_126 : decode method_4_code 126 = .ok (.if_acmp .ne 7, 3) := by decide +kernel
theorem d4_129 : decode method_4_code 129 = .ok (.iconst 1, 1) := by decide +kernel
theorem d4_130 : decode method_4_code 130 = .ok (.goto 4, 3) := by decide +kernel
theorem d4_134 : decode method_4_code 134 = .ok (.ireturn, 1) := by decide +kernel
theorem efS3 (m : MethodId) (x1 : Addr) (x2 : Addr) (x3 : Addr) : entryFrame m #[(.ref x1), (.ref x2), (.ref x3)] 4 = mkF m 0 #[rv x1, rv x2, rv x3, .unset] [] := by first | (simp [entryFrame, mkF, argsToLocals, Value.category]; done) | rfl
def QS3 (Z : State) (x1 : Addr) (x2 : Addr) (x3 : Addr) (md : Addr) (h0 : Heap) (n0 : Nat) (v : Option Value) (h : Heap) (L : List Loc) : Prop := v = some (.int (1 : Int32)) ∧ Fr n0 L ∧ h = h0
set_option maxRecDepth 65536 in
set_option maxHeartbeats 40000000 in
theorem rmS3 (l : Launch) (Z : State) (a0 : Array Value) (hw : ∀ d ∈ tables_1, d.before a0 Z = true) (ws : List Jvm.Cond) (x1 : Addr) (x2 : Addr) (x3 : Addr) (md : Addr) (h0 : Heap) (n0 : Nat) (Z0 : n0 ≤ h0.size) (E_x1 : Exa Z h0 x1 oz1) (E_x2 : Exa Z h0 x2 oz0) (E_md : Exa Z h0 md oz0) (E_x3 : Exa Z h0 x3 oz0) (ne_x2_md : x2 ≠ md) (ne_x2_x3 : x2 ≠ x3) (ne_md_x3 : md ≠ x3) (F_first_x1 : Fld Z h0 x1 oz1 "first" oz2 (.ref x2)) (F_last_x1 : Fld Z h0 x1 oz1 "last" oz2 (.ref x3)) (F_in_x2 : Fld Z h0 x2 oz0 "in" oz6 (.ref x1)) (F_before_x2 : Fld Z h0 x2 oz0 "before" oz2 .null) (F_after_x2 : Fld Z h0 x2 oz0 "after" oz2 (.ref md)) (F_in_md : Fld Z h0 md oz0 "in" oz6 (.ref x1)) (F_before_md : Fld Z h0 md oz0 "before" oz2 (.ref x2)) (F_after_md : Fld Z h0 md oz0 "after" oz2 (.ref x3)) (F_in_x3 : Fld Z h0 x3 oz0 "in" oz6 (.ref x1)) (F_before_x3 : Fld Z h0 x3 oz0 "before" oz2 (.ref md)) (F_after_x3 : Fld Z h0 x3 oz0 "after" oz2 .null) :
    MetFree l (⟨oz4, "state", oz5⟩ : MethodName) (head1 (Jvm.Cond.code (⟨oz4, "state", oz5⟩ : MethodName) method_4_code 4 (some .boolean) :: ws) ({ frames := 1, cells := 0, slots := 0, locals := 12 } : Room)) (fun a U => a = #[(.ref x1), (.ref x2), (.ref x3)] ∧ Z.Warmed39 U.vm ∧ U.heap = h0) (fun _ _ _ _ _ => True) (fun _ U oc U' => ∃ v L, oc = .returned v ∧ QS3 Z x1 x2 x3 md h0 n0 v U'.heap L ∧ FrameEnd U oc U' L ({ frames := 1, cells := 0, slots := 0, locals := 12 } : Room).cells ({ frames := 1, cells := 0, slots := 0, locals := 12 } : Room).slots) := by
  refine MetFree.of_bodySF (plainFor_of_name own_pn2) hisR ?_
  intro p e s m args below meth c s₁ Bd hml0 hP hK
  obtain ⟨rfl, hZ, hh⟩ := hP
  have hx := Bd.exec
  have hby := Bd.bytes
  have hml : c.maxLocals = 4 := hml0
  have hown : s.vm.findClass oz4 = some m.cls := findClass_of_methodNamed Bd.named
  have hnm := (name_of_methodNamed Bd.named Bd.method).1
  have X0 : Stand p l e ({ frames := 1, cells := 0, slots := 0, locals := 12 } : Room) s m #[(.ref x1), (.ref x2), (.ref x3)] below meth c s₁ [] 0 0 := Stand.of_body Bd
  have e0 : s₁.heap = h0 := by rw [← hh, Bd.state]; rfl
  have N0 := Fr.nil n0
  have pre0 : ∀ t, Steps p.tables e below (s₁.setTop (mkF m 0 #[rv x1, rv x2, rv x3, .unset] [])) t → Steps p.tables e below (s₁.setTop (entryFrame m #[(.ref x1), (.ref x2), (.ref x3)] 4)) t := fun t k => castTop (efS3 m x1 x2 x3) k
  obtain ⟨cq1, kq1, q1a, q1b, q1c⟩ := isOf hZ e0 E_x1
  obtain ⟨_, _, ⟨T1, Lw1, kw1, nw1⟩, -, X1, ⟨Lc1, hQ1, l1, y1, z1⟩, st1⟩ := X0.virtualBack hx (y := (⟨oz1, "first", oz7⟩ : MethodName)) (z := (⟨oz1, "first", oz7⟩ : MethodName)) hown (mvT hZ (own_w hw 31 rfl)) (mvT hZ (own_w hw 32 rfl)) (notFace_of_selects (args := #[]) (mvT hZ (own_w hw 34 rfl))) (mvT hZ (own_w hw 34 rfl)) (mvT hZ (own_w hw 33 rfl)) (by decide) (backOf (W := 0) (rmfirst1 l Z a0 hw [] x1 x2 h0 n0 Z0 E_x1 F_first_x1) hZ (own_w hw 35 rfl) (own_w hw 3 rfl) (by decide) (by decide)) q1a q1c (g := (mkF m 1 #[rv x1, rv x2, rv x3, .unset] [(.ref x1)])) rfl (by rw [hml]; rfl) (Steps.refl _) (argsL := []) (rest := []) (lenOf own_pd1 rfl) rfl (by show 2 * 0 + _ ≤ _; exact Nat.le_of_eq rfl) (hb hby d4_1) (fun _ _ => ⟨rfl, e0, (by decide : 0 + 0 ≤ _), (by decide : 0 + 0 ≤ _)⟩)
  dsimp only [Pt.U, Pt.locs, Pt.cells, Pt.slots] at X1 l1 y1 z1 st1 hQ1
  subst l1 y1 z1
  obtain ⟨rfl, Nq1, eh1⟩ := hQ1
  have N1 := Fr.app N0 Nq1
  obtain ⟨cq2, kq2, q2a, q2b, q2c⟩ := isOf hZ eh1 E_x1
  obtain ⟨_, _, ⟨T2, Lw2, kw2, nw2⟩, -, X2, ⟨Lc2, hQ2, l2, y2, z2⟩, st2⟩ := X1.virtualBack hx (y := (⟨oz1, "last", oz7⟩ : MethodName)) (z := (⟨oz1, "last", oz7⟩ : MethodName)) hown (mvT hZ (own_w hw 38 rfl)) (mvT hZ (own_w hw 39 rfl)) (notFace_of_selects (args := #[]) (mvT hZ (own_w hw 41 rfl))) (mvT hZ (own_w hw 41 rfl)) (mvT hZ (own_w hw 40 rfl)) (by decide) (backOf (W := 0) (rmlast1 l Z a0 hw [] x1 x3 h0 n0 Z0 E_x1 F_last_x1) hZ (own_w hw 42 rfl) (own_w hw 3 rfl) (by decide) (by decide)) q2a q2c (g := (mkF m 9 #[rv x1, rv x2, rv x3, .unset] [(.ref x1)])) rfl (by rw [hml]; rfl) (Steps.refl _) (argsL := []) (rest := []) (lenOf own_pd1 rfl) rfl (by show 2 * 0 + _ ≤ _; exact Nat.le_of_eq rfl) (hb hby d4_9) (fun _ _ => ⟨rfl, eh1, (by decide : 0 + 0 ≤ _), (by decide : 0 + 0 ≤ _)⟩)
  dsimp only [Pt.U, Pt.locs, Pt.cells, Pt.slots] at X2 l2 y2 z2 st2 hQ2
  subst l2 y2 z2
  obtain ⟨rfl, Nq2, eh2⟩ := hQ2
  have N2 := Fr.app N1 Nq2
  obtain ⟨cq3, kq3, q3a, q3b, q3c⟩ := isOf hZ eh2 E_x1
  obtain ⟨_, _, ⟨T3, Lw3, kw3, nw3⟩, -, X3, ⟨Lc3, hQ3, l3, y3, z3⟩, st3⟩ := X2.virtualBack hx (y := (⟨oz1, "isEmpty", "()Z"⟩ : MethodName)) (z := (⟨oz1, "isEmpty", "()Z"⟩ : MethodName)) hown (mvT hZ (own_w hw 45 rfl)) (mvT hZ (own_w hw 46 rfl)) (notFace_of_selects (args := #[]) (mvT hZ (own_w hw 48 rfl))) (mvT hZ (own_w hw 48 rfl)) (mvT hZ (own_w hw 47 rfl)) (by decide) (backOf (W := 0) (rmE1 l Z a0 hw [] x1 x2 h0 n0 Z0 E_x1 F_first_x1) hZ (own_w hw 49 rfl) (own_w hw 3 rfl) (by decide) (by decide)) q3a q3c (g := (mkF m 17 #[rv x1, rv x2, rv x3, .unset] [(.ref x1)])) rfl (by rw [hml]; rfl) (Steps.refl _) (argsL := []) (rest := []) (lenOf own_pd2 rfl) rfl (by show 2 * 0 + _ ≤ _; exact Nat.le_of_eq rfl) (hb hby d4_17) (fun _ _ => ⟨rfl, eh2, (by decide : 0 + 0 ≤ _), (by decide : 0 + 0 ≤ _)⟩)
  dsimp only [Pt.U, Pt.locs, Pt.cells, Pt.slots] at X3 l3 y3 z3 st3 hQ3
  subst l3 y3 z3
  obtain ⟨rfl, Nq3, eh3⟩ := hQ3
  have N3 := Fr.app N2 Nq3
  obtain ⟨T4, X4, e4, st4⟩ := getF X3 hx hZ hown (host := "") (Or.inl (own_w hw 71 rfl)) Via.refl eh3 F_before_x2 (g := (mkF m 41 #[rv x1, rv x2, rv x3, .unset] [(.ref x2)])) rfl rfl (hb hby d4_41)
  obtain ⟨T5, X5, e5, st5⟩ := getF X4 hx hZ hown (host := "") (Or.inl (own_w hw 72 rfl)) Via.refl e4 F_after_x3 (g := (mkF m 48 #[rv x1, rv x2, rv x3, .unset] [(.ref x3)])) rfl rfl (hb hby d4_48)
  obtain ⟨T6, X6, e6, st6⟩ := getF X5 hx hZ hown (host := "") (Or.inl (own_w hw 74 rfl)) Via.refl e5 F_in_x2 (g := (mkF m 55 #[rv x1, rv x2, rv x3, .unset] [(.ref x2)])) rfl rfl (hb hby d4_55)
  obtain ⟨T7, X7, e7, st7⟩ := getF X6 hx hZ hown (host := "") (Or.inl (own_w hw 74 rfl)) Via.refl e6 F_in_x3 (g := (mkF m 63 #[rv x1, rv x2, rv x3, .unset] [(.ref x3)])) rfl rfl (hb hby d4_63)
  obtain ⟨T8, X8, e8, st8⟩ := getF X7 hx hZ hown (host := "") (Or.inl (own_w hw 72 rfl)) Via.refl e7 F_after_x2 (g := (mkF m 80 #[rv x1, rv x2, rv x3, .unset] [(.ref x2)])) rfl rfl (hb hby d4_80)
  obtain ⟨T9, X9, e9, st9⟩ := getF X8 hx hZ hown (host := "") (Or.inl (own_w hw 71 rfl)) Via.refl e8 F_before_md (g := (mkF m 89 #[rv x1, rv x2, rv x3, rv md] [(.ref md)])) rfl rfl (hb hby d4_89)
  obtain ⟨T10, X10, e10, st10⟩ := getF X9 hx hZ hown (host := "") (Or.inl (own_w hw 74 rfl)) Via.refl e9 F_in_md (g := (mkF m 97 #[rv x1, rv x2, rv x3, rv md] [(.ref md)])) rfl rfl (hb hby d4_97)
  obtain ⟨T11, X11, e11, st11⟩ := getF X10 hx hZ hown (host := "") (Or.inl (own_w hw 72 rfl)) Via.refl e10 F_after_md (g := (mkF m 114 #[rv x1, rv x2, rv x3, rv md] [(.ref md)])) rfl rfl (hb hby d4_114)
  obtain ⟨T12, X12, e12, st12⟩ := getF X11 hx hZ hown (host := "") (Or.inl (own_w hw 71 rfl)) Via.refl e11 F_before_x3 (g := (mkF m 122 #[rv x1, rv x2, rv x3, rv md] [(.ref x3)])) rfl rfl (hb hby d4_122)
  have pre13 : ∀ tz, oS p e below T12 m 134 #[rv x1, rv x2, rv x3, rv md] [(.int (1 : Int32))] tz → oS p e below s₁ m 0 #[rv x1, rv x2, rv x3, .unset] [] tz := fun tz kt => by
    show oS p e below s₁ m 0 #[rv x1, rv x2, rv x3, .unset] [] _
    refine XS.aloadN X0.here hx rfl (hb hby d4_0) rfl rfl ?_
    show oS p e below s₁ m 1 #[rv x1, rv x2, rv x3, .unset] [(.ref x1)] _
    refine st1.trans ?_
    refine XS.aloadN X1.here hx rfl (hb hby d4_4) rfl rfl ?_
    refine Jvm.RoadKit.acmp (g := (mkF m 5 #[rv x1, rv x2, rv x3, .unset] [(.ref x2), (.ref x2)])) X1 hx rfl rfl rfl (pc0 := 5) (pc' := 8) (same := true) rfl (hb hby d4_5) rfl (decide_eq_true rfl) (by decide) (by decide) ?_
    refine XS.aloadN X1.here hx rfl (hb hby d4_8) rfl rfl ?_
    show oS p e below T1 m 9 #[rv x1, rv x2, rv x3, .unset] [(.ref x1)] _
    refine st2.trans ?_
    refine XS.aloadN X2.here hx rfl (hb hby d4_12) rfl rfl ?_
    refine Jvm.RoadKit.acmp (g := (mkF m 13 #[rv x1, rv x2, rv x3, .unset] [(.ref x3), (.ref x3)])) X2 hx rfl rfl rfl (pc0 := 13) (pc' := 16) (same := true) rfl (hb hby d4_13) rfl (decide_eq_true rfl) (by decide) (by decide) ?_
    refine XS.aloadN X2.here hx rfl (hb hby d4_16) rfl rfl ?_
    show oS p e below T2 m 17 #[rv x1, rv x2, rv x3, .unset] [(.ref x1)] _
    refine st3.trans ?_
    refine XS.aloadN X3.here hx rfl (hb hby d4_20) rfl rfl ?_
    refine XS.ifnonnullYes X3.here hx rfl (pc0 := 21) (pc' := 28) rfl (hb hby d4_21) rfl (by decide) (by decide) ?_
    refine XS.iconst X3.here hx rfl (hb hby d4_28) ?_
    show oS p e below T3 m 29 #[rv x1, rv x2, rv x3, .unset] [(.int (0 : Int32)), (.int (0 : Int32))] _
    refine XS.icmpYes X3.here hx rfl (pc0 := 29) (pc' := 34) rfl (hb hby d4_29) rfl (teq (by decide : ((0 : Int32) = (0 : Int32)))).1 (by decide) (by decide) ?_
    refine XS.aloadN X3.here hx rfl (hb hby d4_34) rfl rfl ?_
    refine XS.ifnonnullYes X3.here hx rfl (pc0 := 35) (pc' := 40) rfl (hb hby d4_35) rfl (by decide) (by decide) ?_
    refine XS.aloadN X3.here hx rfl (hb hby d4_40) rfl rfl ?_
    show oS p e below T3 m 41 #[rv x1, rv x2, rv x3, .unset] [(.ref x2)] _
    refine st4 _ ?_
    refine XS.ifnonnullNo X4.here hx rfl (hb hby d4_44) rfl ?_
    refine XS.aloadN X4.here hx rfl (hb hby d4_47) rfl rfl ?_
    show oS p e below T4 m 48 #[rv x1, rv x2, rv x3, .unset] [(.ref x3)] _
    refine st5 _ ?_
    refine XS.ifnonnullNo X5.here hx rfl (hb hby d4_51) rfl ?_
    refine XS.aloadN X5.here hx rfl (hb hby d4_54) rfl rfl ?_
    show oS p e below T5 m 55 #[rv x1, rv x2, rv x3, .unset] [(.ref x2)] _
    refine st6 _ ?_
    refine XS.aloadN X6.here hx rfl (hb hby d4_58) rfl rfl ?_
    refine Jvm.RoadKit.acmp (g := (mkF m 59 #[rv x1, rv x2, rv x3, .unset] [(.ref x1), (.ref x1)])) X6 hx rfl rfl rfl (pc0 := 59) (pc' := 62) (same := true) rfl (hb hby d4_59) rfl (decide_eq_true rfl) (by decide) (by decide) ?_
    refine XS.aloadN X6.here hx rfl (hb hby d4_62) rfl rfl ?_
    show oS p e below T6 m 63 #[rv x1, rv x2, rv x3, .unset] [(.ref x3)] _
    refine st7 _ ?_
    refine XS.aloadN X7.here hx rfl (hb hby d4_66) rfl rfl ?_
    refine Jvm.RoadKit.acmp (g := (mkF m 67 #[rv x1, rv x2, rv x3, .unset] [(.ref x1), (.ref x1)])) X7 hx rfl rfl rfl (pc0 := 67) (pc' := 72) (same := true) rfl (hb hby d4_67) rfl (decide_eq_true rfl) (by decide) (by decide) ?_
    refine XS.aloadN X7.here hx rfl (hb hby d4_72) rfl rfl ?_
    show oS p e below T7 m 73 #[rv x1, rv x2, rv x3, .unset] [(.ref x2)] _
    refine XS.aloadN X7.here hx rfl (hb hby d4_73) rfl rfl ?_
    refine Jvm.RoadKit.acmp (g := (mkF m 74 #[rv x1, rv x2, rv x3, .unset] [(.ref x3), (.ref x2)])) X7 hx rfl rfl rfl (pc0 := 74) (pc' := 79) (same := false) rfl (hb hby d4_74) rfl (decide_eq_false fun q => ne_x2_x3 (Value.ref.inj q)) (by decide) (by decide) ?_
    refine XS.aloadN X7.here hx rfl (hb hby d4_79) rfl rfl ?_
    show oS p e below T7 m 80 #[rv x1, rv x2, rv x3, .unset] [(.ref x2)] _
    refine st8 _ ?_
    refine XS.astoreN X8.here hx rfl (hb hby d4_83) rfl rfl (l' := #[rv x1, rv x2, rv x3, rv md]) rfl ?_
    refine XS.aloadN X8.here hx rfl (hb hby d4_84) rfl rfl ?_
    refine XS.ifnullNo X8.here hx rfl (hb hby d4_85) rfl ?_
    show oS p e below T8 m 88 #[rv x1, rv x2, rv x3, rv md] [] _
    refine XS.aloadN X8.here hx rfl (hb hby d4_88) rfl rfl ?_
    show oS p e below T8 m 89 #[rv x1, rv x2, rv x3, rv md] [(.ref md)] _
    refine st9 _ ?_
    refine XS.aloadN X9.here hx rfl (hb hby d4_92) rfl rfl ?_
    refine Jvm.RoadKit.acmp (g := (mkF m 93 #[rv x1, rv x2, rv x3, rv md] [(.ref x2), (.ref x2)])) X9 hx rfl rfl rfl (pc0 := 93) (pc' := 96) (same := true) rfl (hb hby d4_93) rfl (decide_eq_true rfl) (by decide) (by decide) ?_
    refine XS.aloadN X9.here hx rfl (hb hby d4_96) rfl rfl ?_
    show oS p e below T9 m 97 #[rv x1, rv x2, rv x3, rv md] [(.ref md)] _
    refine st10 _ ?_
    refine XS.aloadN X10.here hx rfl (hb hby d4_100) rfl rfl ?_
    refine Jvm.RoadKit.acmp (g := (mkF m 101 #[rv x1, rv x2, rv x3, rv md] [(.ref x1), (.ref x1)])) X10 hx rfl rfl rfl (pc0 := 101) (pc' := 106) (same := true) rfl (hb hby d4_101) rfl (decide_eq_true rfl) (by decide) (by decide) ?_
    refine XS.aloadN X10.here hx rfl (hb hby d4_106) rfl rfl ?_
    show oS p e below T10 m 107 #[rv x1, rv x2, rv x3, rv md] [(.ref md)] _
    refine XS.aloadN X10.here hx rfl (hb hby d4_107) rfl rfl ?_
    refine Jvm.RoadKit.acmp (g := (mkF m 108 #[rv x1, rv x2, rv x3, rv md] [(.ref x3), (.ref md)])) X10 hx rfl rfl rfl (pc0 := 108) (pc' := 113) (same := false) rfl (hb hby d4_108) rfl (decide_eq_false fun q => ne_md_x3 (Value.ref.inj q)) (by decide) (by decide) ?_
    refine XS.aloadN X10.here hx rfl (hb hby d4_113) rfl rfl ?_
    show oS p e below T10 m 114 #[rv x1, rv x2, rv x3, rv md] [(.ref md)] _
    refine st11 _ ?_
    refine XS.aloadN X11.here hx rfl (hb hby d4_117) rfl rfl ?_
    refine Jvm.RoadKit.acmp (g := (mkF m 118 #[rv x1, rv x2, rv x3, rv md] [(.ref x3), (.ref x3)])) X11 hx rfl rfl rfl (pc0 := 118) (pc' := 121) (same := true) rfl (hb hby d4_118) rfl (decide_eq_true rfl) (by decide) (by decide) ?_
    refine XS.aloadN X11.here hx rfl (hb hby d4_121) rfl rfl ?_
    show oS p e below T11 m 122 #[rv x1, rv x2, rv x3, rv md] [(.ref x3)] _
    refine st12 _ ?_
    refine XS.aloadN X12.here hx rfl (hb hby d4_125) rfl rfl ?_
    refine Jvm.RoadKit.acmp (g := (mkF m 126 #[rv x1, rv x2, rv x3, rv md] [(.ref md), (.ref md)])) X12 hx rfl rfl rfl (pc0 := 126) (pc' := 129) (same := true) rfl (hb hby d4_126) rfl (decide_eq_true rfl) (by decide) (by decide) ?_
    refine XS.iconst X12.here hx rfl (hb hby d4_129) ?_
    show oS p e below T12 m 130 #[rv x1, rv x2, rv x3, rv md] [(.int (1 : Int32))] _
    refine XS.goto X12.here hx rfl (pc0 := 130) (pc' := 134) rfl (hb hby d4_130) (by decide) (by decide) ?_
    exact kt
  obtain ⟨fs, hr, hrun, hended, hW, hsame⟩ := X12.leave (v := some (.int (1 : Int32))) (fun h => by rw [Bd.returns] at h; cases h)
  refine ⟨_, _, pre0 _ (pre13 _ ?_), hrun, hended, _, _, rfl, ?_, ⟨_, rfl⟩, hW, hsame.mono (by decide) (by decide)⟩
  · show oS p e below T12 m 134 #[rv x1, rv x2, rv x3, rv md] [(.int (1 : Int32))] _
    exact retN X12 hx (t := .boolean) Bd.returns (by simp) (hb hby d4_134) hr
  · show QS3 Z x1 x2 x3 md h0 n0 _ T12.heap _
    rw [e12]
    exact ⟨rfl, N3, rfl⟩
theorem own_n3 (x y : Int32) (hy : y = ((x &&& (2147483647 : Int32)) % (3 : Int32))) : y = 0 ∨ y = 1 ∨ y = 2 := by
  have h1 := c_mask x 2147483647 31 (by decide) (by decide)
  have h2 := (c_irem (x &&& 2147483647) 3 3 (by decide)).1 (by omega)
  rw [← hy] at h2
  simp only [← Int32.toInt_inj]
  have e0 : (0 : Int32).toInt = 0 := rfl
  have e1 : (1 : Int32).toInt = 1 := rfl
  have e2 : (2 : Int32).toInt = 2 := rfl
  omega
theorem own_n4 (x y : Int32) (hy : y = ((x &&& (2147483647 : Int32)) % (4 : Int32))) : y = 0 ∨ y = 1 ∨ y = 2 ∨ y = 3 := by
  have h1 := c_mask x 2147483647 31 (by decide) (by decide)
  have h2 := (c_irem (x &&& 2147483647) 4 4 (by decide)).1 (by omega)
  rw [← hy] at h2
  simp only [← Int32.toInt_inj]
  have e0 : (0 : Int32).toInt = 0 := rfl
  have e1 : (1 : Int32).toInt = 1 := rfl
  have e2 : (2 : Int32).toInt = 2 := rfl
  have e3 : (3 : Int32).toInt = 3 := rfl
  omega
theorem own_pd3 : parseMethodDescriptor "()V" = some ⟨[], none⟩ := by decide +kernel
theorem own_pd4 : parseMethodDescriptor "(Lcom/example/ordered_scheduler/orderedscheduler/sequencing/Sequencer;Ljava/lang/Object;Ljava/lang/Runnable;Lcom/example/ordered_scheduler/orderedscheduler/sequencing/Tally;)V" = some ⟨[(.object "com/example/ordered_scheduler/orderedscheduler/sequencing/Sequencer"), (.object "java/lang/Object"), (.object "java/lang/Runnable"), (.object "com/example/ordered_scheduler/orderedscheduler/sequencing/Tally")], none⟩ := by decide +kernel
theorem own_pd5 : parseMethodDescriptor "(Lcom/example/ordered_scheduler/orderedscheduler/sequencing/Backlog;Lcom/example/ordered_scheduler/orderedscheduler/sequencing/Place;Lcom/example/ordered_scheduler/orderedscheduler/sequencing/Place;)Z" = some ⟨[(.object "com/example/ordered_scheduler/orderedscheduler/sequencing/Backlog"), (.object "com/example/ordered_scheduler/orderedscheduler/sequencing/Place"), (.object "com/example/ordered_scheduler/orderedscheduler/sequencing/Place")], some .boolean⟩ := by decide +kernel
theorem own_pd6 : parseMethodDescriptor "(II)I" = some ⟨[.int, .int], some .int⟩ := by decide +kernel
theorem d8_0 : decode method_3_code 0 = .ok (.iload_n 3, 1) := by decide +kernel
theorem d8_1 : decode method_3_code 1 = .ok (.iload_n 2, 1) := by decide +kernel
theorem d8_2 : decode method_3_code 2 = .ok (.if_icmp .ge 9, 3) := by decide +kernel
theorem d8_5 : decode method_3_code 5 = .ok (.aload_n 1, 1) := by decide +kernel
theorem d8_6 : decode method_3_code 6 = .ok (.iload_n 3, 1) := by decide +kernel
theorem d8_7 : decode method_3_code 7 = .ok (.aaload, 1) := by decide +kernel
theorem d8_8 : decode method_3_code 8 = .ok (.goto 4, 3) := by decide +kernel
theorem d8_12 : decode method_3_code 12 = .ok (.astore 4, 2) := by decide +kernel
theorem d8_14 : decode method_3_code 14 = .ok (.aload_n 0, 1) := by decide +kernel
theorem d8_15 : decode method_3_code 15 = .ok (.invokevirtual 36, 3) := by decide +kernel
theorem d8_18 : decode method_3_code 18 = .ok (.astore 5, 2) := by decide +kernel
theorem d8_20 : decode method_3_code 20 = .ok (.aload 5, 2) := by decide +kernel
theorem d8_22 : decode method_3_code 22 = .ok (.aload 4, 2) := by decide +kernel
theorem d8_24 : decode method_3_code 24 = .ok (.if_acmp .eq 5, 3) := by decide +kernel
theorem d8_29 : decode method_3_code 29 = .ok (.aload 5, 2) := by decide +kernel
theorem d8_31 : decode method_3_code 31 = .ok (.ifnull 29, 3) := by decide +kernel
theorem d8_34 : decode method_3_code 34 = .ok (.aload 5, 2) := by decide +kernel
theorem d8_36 : decode method_3_code 36 = .ok (.getfield 40, 3) := by decide +kernel
theorem d8_39 : decode method_3_code 39 = .ok (.ifnonnull 19, 3) := by decide +kernel
theorem d8_42 : decode method_3_code 42 = .ok (.aload 5, 2) := by decide +kernel
theorem d8_44 : decode method_3_code 44 = .ok (.getfield 44, 3) := by decide +kernel
theorem d8_47 : decode method_3_code 47 = .ok (.ifnonnull 11, 3) := by decide +kernel
theorem d8_50 : decode method_3_code 50 = .ok (.aload 5, 2) := by decide +kernel
theorem d8_52 : decode method_3_code 52 = .ok (.getfield 48, 3) := by decide +kernel
theorem d8_55 : decode method_3_code 55 = .ok (.ifnull 5, 3) := by decide +kernel
theorem d8_60 : decode method_3_code 60 = .ok (.iload_n 3, 1) := by decide +kernel
theorem d8_61 : decode method_3_code 61 = .ok (.iconst 1, 1) := by decide +kernel
theorem d8_62 : decode method_3_code 62 = .ok (.iadd, 1) := by decide +kernel
theorem d8_63 : decode method_3_code 63 = .ok (.iload_n 2, 1) := by decide +kernel
theorem d8_64 : decode method_3_code 64 = .ok (.if_icmp .ge 11, 3) := by decide +kernel
theorem d8_75 : decode method_3_code 75 = .ok (.aconst_null, 1) := by decide +kernel
theorem d8_76 : decode method_3_code 76 = .ok (.astore 6, 2) := by decide +kernel
theorem d8_78 : decode method_3_code 78 = .ok (.iload_n 3, 1) := by decide +kernel
theorem d8_79 : decode method_3_code 79 = .ok (.iconst 1, 1) := by decide +kernel
theorem d8_80 : decode method_3_code 80 = .ok (.iadd, 1) := by decide +kernel
theorem d8_81 : decode method_3_code 81 = .ok (.iload_n 2, 1) := by decide +kernel
theorem d8_82 : decode method_3_code 82 = .ok (.if_icmp .ge 11, 3) := by decide +kernel
theorem d8_93 : decode method_3_code 93 = .ok (.aconst_null, 1) := by decide +kernel
theorem d8_94 : decode method_3_code 94 = .ok (.astore 7, 2) := by decide +kernel
theorem d8_96 : decode method_3_code 96 = .ok (.aload_n 0, 1) := by decide +kernel
theorem d8_97 : decode method_3_code 97 = .ok (.aload 6, 2) := by decide +kernel
theorem d8_99 : decode method_3_code 99 = .ok (.aload 7, 2) := by decide +kernel
theorem d8_101 : decode method_3_code 101 = .ok (.invokestatic 20, 3) := by decide +kernel
theorem d8_104 : decode method_3_code 104 = .ok (.ireturn, 1) := by decide +kernel
theorem efT3_1_0 (m : MethodId) (x1 : Addr) (x2 : Addr) : entryFrame m #[(.ref x1), (.ref x2), (.int (1 : Int32)), (.int (0 : Int32))] 8 = mkF m 0 #[rv x1, rv x2, iv (1 : Int32), iv (0 : Int32), .unset, .unset, .unset, .unset] [] := by first | (simp [entryFrame, mkF, argsToLocals, Value.category]; done) | rfl
def QT3_1_0 (Z : State) (x1 : Addr) (x2 : Addr) (el0 : Addr) (k : ClassId) (h0 : Heap) (n0 : Nat) (v : Option Value) (h : Heap) (L : List Loc) : Prop := v = some (.int (1 : Int32)) ∧ Fr n0 L ∧ Keep h0 h [x1, el0] ∧ Fld Z h x1 oz1 "first" oz2 .null ∧ Fld Z h x1 oz1 "last" oz2 .null ∧ Fld Z h el0 oz0 "in" oz6 .null ∧ Fld Z h el0 oz0 "before" oz2 .null ∧ Fld Z h el0 oz0 "after" oz2 .null
set_option maxRecDepth 65536 in
set_option maxHeartbeats 40000000 in
theorem rmT3_1_0 (l : Launch) (Z : State) (a0 : Array Value) (hw : ∀ d ∈ tables_1, d.before a0 Z = true) (ws : List Jvm.Cond) (x1 : Addr) (x2 : Addr) (el0 : Addr) (k : ClassId) (h0 : Heap) (n0 : Nat) (Z0 : n0 ≤ h0.size) (E_x1 : Exa Z h0 x1 oz1) (E_el0 : Exa Z h0 el0 oz0) (g_x1 : n0 ≤ x1) (g_el0 : n0 ≤ el0) (F_first_x1 : Fld Z h0 x1 oz1 "first" oz2 (.ref el0)) (F_last_x1 : Fld Z h0 x1 oz1 "last" oz2 (.ref el0)) (F_in_el0 : Fld Z h0 el0 oz0 "in" oz6 (.ref x1)) (F_before_el0 : Fld Z h0 el0 oz0 "before" oz2 .null) (F_after_el0 : Fld Z h0 el0 oz0 "after" oz2 .null) (V_x2 : Arv Z h0 x2 k (.object oz0) (3 : Int32) [(.ref el0), .null, .null] .null) :
    MetFree l (⟨oz4, "step", oz3⟩ : MethodName) (head1 (Jvm.Cond.code (⟨oz4, "step", oz3⟩ : MethodName) method_3_code 8 (some .boolean) :: ws) ({ frames := 2, cells := 0, slots := 0, locals := 27 } : Room)) (fun a U => a = #[(.ref x1), (.ref x2), (.int (1 : Int32)), (.int (0 : Int32))] ∧ Z.Warmed39 U.vm ∧ U.heap = h0) (fun _ _ _ _ _ => True) (fun _ U oc U' => ∃ v L, oc = .returned v ∧ QT3_1_0 Z x1 x2 el0 k h0 n0 v U'.heap L ∧ FrameEnd U oc U' L ({ frames := 2, cells := 0, slots := 0, locals := 27 } : Room).cells ({ frames := 2, cells := 0, slots := 0, locals := 27 } : Room).slots) := by
  refine MetFree.of_bodySF (plainFor_of_name own_pn2) hisR ?_
  intro p e s m args below meth c s₁ Bd hml0 hP hK
  obtain ⟨rfl, hZ, hh⟩ := hP
  have hx := Bd.exec
  have hby := Bd.bytes
  have hml : c.maxLocals = 8 := hml0
  have hown : s.vm.findClass oz4 = some m.cls := findClass_of_methodNamed Bd.named
  have hnm := (name_of_methodNamed Bd.named Bd.method).1
  have X0 : Stand p l e ({ frames := 2, cells := 0, slots := 0, locals := 27 } : Room) s m #[(.ref x1), (.ref x2), (.int (1 : Int32)), (.int (0 : Int32))] below meth c s₁ [] 0 0 := Stand.of_body Bd
  have e0 : s₁.heap = h0 := by rw [← hh, Bd.state]; rfl
  have N0 := Fr.nil n0
  have pre0 : ∀ t, Steps p.tables e below (s₁.setTop (mkF m 0 #[rv x1, rv x2, iv (1 : Int32), iv (0 : Int32), .unset, .unset, .unset, .unset] [])) t → Steps p.tables e below (s₁.setTop (entryFrame m #[(.ref x1), (.ref x2), (.int (1 : Int32)), (.int (0 : Int32))] 8)) t := fun t k => castTop (efT3_1_0 m x1 x2) k
  obtain ⟨cl1, Ar1, qk1, Sz1, Ng1, Hs1, Gt1⟩ := id V_x2
  have hin1 : ¬ ((0 : Int32) < 0 ∨ cl1.slots.size ≤ ((0 : Int32)).toNatClampNeg) := inb_of Sz1 ⟨by decide, by decide⟩
  have hat1 : cl1.slots[((0 : Int32)).toNatClampNeg]? = some (.ref el0) := Hs1.at hin1 rfl
  obtain ⟨cq2, kq2, q2a, q2b, q2c⟩ := isOf hZ e0 E_x1
  obtain ⟨_, _, ⟨T2, Lw2, kw2, nw2⟩, -, X2, ⟨Lc2, hQ2, l2, y2, z2⟩, st2⟩ := X0.virtualBack hx (y := (⟨oz1, "poll", oz7⟩ : MethodName)) (z := (⟨oz1, "poll", oz7⟩ : MethodName)) hown (mvT hZ (own_w hw 53 rfl)) (mvT hZ (own_w hw 54 rfl)) (notFace_of_selects (args := #[]) (mvT hZ (own_w hw 56 rfl))) (mvT hZ (own_w hw 56 rfl)) (mvT hZ (own_w hw 55 rfl)) (by decide) (backOf (W := 0) (rmP00 l Z a0 hw [] x1 (.ref el0) (.ref x1) el0 h0 n0 Z0 E_x1 E_el0 g_x1 g_el0 F_first_x1 F_last_x1 F_in_el0 F_before_el0 F_after_el0) hZ (own_w hw 57 rfl) (own_w hw 3 rfl) (by decide) (by decide)) q2a q2c (g := (mkF m 15 #[rv x1, rv x2, iv (1 : Int32), iv (0 : Int32), rv el0, .unset, .unset, .unset] [(.ref x1)])) rfl (by rw [hml]; rfl) (Steps.refl _) (argsL := []) (rest := []) (lenOf own_pd1 rfl) rfl (by show 2 * 0 + _ ≤ _; exact Nat.le_of_eq rfl) (hb hby d8_15) (fun _ _ => ⟨rfl, e0, (by decide : 0 + 0 ≤ _), (by decide : 0 + 0 ≤ _)⟩)
  dsimp only [Pt.U, Pt.locs, Pt.cells, Pt.slots] at X2 l2 y2 z2 st2 hQ2
  subst l2 y2 z2
  obtain ⟨rfl, Nq2, K2, pf2_0, pf2_1, pf2_2, pf2_3, pf2_4⟩ := hQ2
  have N2 := Fr.app N0 Nq2
  obtain ⟨T3, X3, e3, st3⟩ := getF X2 hx hZ hown (host := "") (Or.inl (own_w hw 74 rfl)) Via.refl rfl pf2_2 (g := (mkF m 36 #[rv x1, rv x2, iv (1 : Int32), iv (0 : Int32), rv el0, rv el0, .unset, .unset] [(.ref el0)])) rfl rfl (hb hby d8_36)
  obtain ⟨T4, X4, e4, st4⟩ := getF X3 hx hZ hown (host := "") (Or.inl (own_w hw 71 rfl)) Via.refl e3 pf2_3 (g := (mkF m 44 #[rv x1, rv x2, iv (1 : Int32), iv (0 : Int32), rv el0, rv el0, .unset, .unset] [(.ref el0)])) rfl rfl (hb hby d8_44)
  obtain ⟨T5, X5, e5, st5⟩ := getF X4 hx hZ hown (host := "") (Or.inl (own_w hw 72 rfl)) Via.refl e4 pf2_4 (g := (mkF m 52 #[rv x1, rv x2, iv (1 : Int32), iv (0 : Int32), rv el0, rv el0, .unset, .unset] [(.ref el0)])) rfl rfl (hb hby d8_52)
  have Ec7 : Exa Z T2.heap x1 oz1 := (E_x1.keep K2)
  have Zc8 : n0 ≤ T2.heap.size := (Nat.le_trans Z0 K2.1)
  obtain ⟨_, _, ⟨T6, Lw6, kw6, nw6⟩, -, X6, ⟨Lc6, hQ6, l6, y6, z6⟩, st6⟩ := Jvm.LawKit.callS X5 hx (y := (⟨oz4, "state", oz5⟩ : MethodName)) hown (mvT hZ (own_w hw 27 rfl)) (mvT hZ (own_w hw 28 rfl)) (mvT hZ (own_w hw 29 rfl)) (mvT hZ (own_w hw 30 rfl)) (by decide) (backOf (W := 0) (rmS0 l Z a0 hw [] x1 T2.heap n0 Zc8 Ec7 pf2_0 pf2_1) hZ (own_w hw 30 rfl) (own_w hw 29 rfl) (by decide) (by decide)) (g := (mkF m 101 #[rv x1, rv x2, iv (1 : Int32), iv (0 : Int32), rv el0, rv el0, .val .null, .val .null] [.null, .null, (.ref x1)])) rfl (by rw [hml]; rfl) (argsL := [(.ref x1), .null, .null]) (rest := []) (lenOf own_pd5 rfl) rfl (by show 2 * 0 + _ ≤ _; exact Nat.le_of_eq rfl) (hb hby d8_101) (fun _ _ => ⟨rfl, e5, (by decide : 0 + 0 ≤ _), (by decide : 0 + 0 ≤ _)⟩)
  dsimp only [Pt.U, Pt.locs, Pt.cells, Pt.slots] at X6 l6 y6 z6 st6 hQ6
  subst l6 y6 z6
  obtain ⟨rfl, Nq6, eh6⟩ := hQ6
  have N6 := Fr.app N2 Nq6
  have pre9 : ∀ tz, oS p e below T6 m 104 #[rv x1, rv x2, iv (1 : Int32), iv (0 : Int32), rv el0, rv el0, .val .null, .val .null] [(.int (1 : Int32))] tz → oS p e below s₁ m 0 #[rv x1, rv x2, iv (1 : Int32), iv (0 : Int32), .unset, .unset, .unset, .unset] [] tz := fun tz kt => by
    show oS p e below s₁ m 0 #[rv x1, rv x2, iv (1 : Int32), iv (0 : Int32), .unset, .unset, .unset, .unset] [] _
    refine XS.iloadN X0.here hx rfl (hb hby d8_0) rfl ?_
    refine XS.iloadN X0.here hx rfl (hb hby d8_1) rfl ?_
    refine XS.icmpNo X0.here hx rfl (hb hby d8_2) rfl (tlt (by decide : ((0 : Int32) < (1 : Int32)))).2.1 ?_
    refine XS.aloadN X0.here hx rfl (hb hby d8_5) rfl rfl ?_
    show oS p e below s₁ m 6 #[rv x1, rv x2, iv (1 : Int32), iv (0 : Int32), .unset, .unset, .unset, .unset] [(.ref x2)] _
    refine XS.iloadN X0.here hx rfl (hb hby d8_6) rfl ?_
    refine X0.aaload hx (j := (0 : Int32)) (v := (.ref el0)) (by rw [e0]; exact Ar1.1) (State.isArrayOf_alike hZ.alike Ar1.2.1) rfl Ar1.2.2 hin1 hat1 (g := (mkF m 7 #[rv x1, rv x2, iv (1 : Int32), iv (0 : Int32), .unset, .unset, .unset, .unset] [(.int (0 : Int32)), (.ref x2)])) rfl rfl (hb hby d8_7) _ ?_
    refine XS.goto X0.here hx rfl (pc0 := 8) (pc' := 12) rfl (hb hby d8_8) (by decide) (by decide) ?_
    refine XS.astore X0.here hx rfl (hb hby d8_12) rfl rfl (l' := #[rv x1, rv x2, iv (1 : Int32), iv (0 : Int32), rv el0, .unset, .unset, .unset]) rfl ?_
    show oS p e below s₁ m 14 #[rv x1, rv x2, iv (1 : Int32), iv (0 : Int32), rv el0, .unset, .unset, .unset] [] _
    refine XS.aloadN X0.here hx rfl (hb hby d8_14) rfl rfl ?_
    show oS p e below s₁ m 15 #[rv x1, rv x2, iv (1 : Int32), iv (0 : Int32), rv el0, .unset, .unset, .unset] [(.ref x1)] _
    refine st2.trans ?_
    refine XS.astore X2.here hx rfl (hb hby d8_18) rfl rfl (l' := #[rv x1, rv x2, iv (1 : Int32), iv (0 : Int32), rv el0, rv el0, .unset, .unset]) rfl ?_
    refine XS.aload X2.here hx rfl (hb hby d8_20) rfl rfl ?_
    refine XS.aload X2.here hx rfl (hb hby d8_22) rfl rfl ?_
    show oS p e below T2 m 24 #[rv x1, rv x2, iv (1 : Int32), iv (0 : Int32), rv el0, rv el0, .unset, .unset] [(.ref el0), (.ref el0)] _
    refine Jvm.RoadKit.acmp (g := (mkF m 24 #[rv x1, rv x2, iv (1 : Int32), iv (0 : Int32), rv el0, rv el0, .unset, .unset] [(.ref el0), (.ref el0)])) X2 hx rfl rfl rfl (pc0 := 24) (pc' := 29) (same := true) rfl (hb hby d8_24) rfl (decide_eq_true rfl) (by decide) (by decide) ?_
    refine XS.aload X2.here hx rfl (hb hby d8_29) rfl rfl ?_
    refine XS.ifnullNo X2.here hx rfl (hb hby d8_31) rfl ?_
    refine XS.aload X2.here hx rfl (hb hby d8_34) rfl rfl ?_
    show oS p e below T2 m 36 #[rv x1, rv x2, iv (1 : Int32), iv (0 : Int32), rv el0, rv el0, .unset, .unset] [(.ref el0)] _
    refine st3 _ ?_
    refine XS.ifnonnullNo X3.here hx rfl (hb hby d8_39) rfl ?_
    refine XS.aload X3.here hx rfl (hb hby d8_42) rfl rfl ?_
    show oS p e below T3 m 44 #[rv x1, rv x2, iv (1 : Int32), iv (0 : Int32), rv el0, rv el0, .unset, .unset] [(.ref el0)] _
    refine st4 _ ?_
    refine XS.ifnonnullNo X4.here hx rfl (hb hby d8_47) rfl ?_
    refine XS.aload X4.here hx rfl (hb hby d8_50) rfl rfl ?_
    show oS p e below T4 m 52 #[rv x1, rv x2, iv (1 : Int32), iv (0 : Int32), rv el0, rv el0, .unset, .unset] [(.ref el0)] _
    refine st5 _ ?_
    refine XS.ifnullYes X5.here hx rfl (pc0 := 55) (pc' := 60) rfl (hb hby d8_55) rfl (by decide) (by decide) ?_
    refine XS.iloadN X5.here hx rfl (hb hby d8_60) rfl ?_
    refine XS.iconst X5.here hx rfl (hb hby d8_61) ?_
    show oS p e below T5 m 62 #[rv x1, rv x2, iv (1 : Int32), iv (0 : Int32), rv el0, rv el0, .unset, .unset] [(.int (1 : Int32)), (.int (0 : Int32))] _
    refine XS.iadd X5.here hx rfl (hb hby d8_62) rfl ?_
    show oS p e below T5 m 63 #[rv x1, rv x2, iv (1 : Int32), iv (0 : Int32), rv el0, rv el0, .unset, .unset] [(.int (1 : Int32))] _
    refine XS.iloadN X5.here hx rfl (hb hby d8_63) rfl ?_
    refine XS.icmpYes X5.here hx rfl (pc0 := 64) (pc' := 75) rfl (hb hby d8_64) rfl (flt (by decide : ¬ ((1 : Int32) < (1 : Int32)))).2.1 (by decide) (by decide) ?_
    refine XS.aconstNull X5.here hx rfl (hb hby d8_75) ?_
    refine XS.astore X5.here hx rfl (hb hby d8_76) rfl rfl (l' := #[rv x1, rv x2, iv (1 : Int32), iv (0 : Int32), rv el0, rv el0, .val .null, .unset]) rfl ?_
    show oS p e below T5 m 78 #[rv x1, rv x2, iv (1 : Int32), iv (0 : Int32), rv el0, rv el0, .val .null, .unset] [] _
    refine XS.iloadN X5.here hx rfl (hb hby d8_78) rfl ?_
    refine XS.iconst X5.here hx rfl (hb hby d8_79) ?_
    refine XS.iadd X5.here hx rfl (hb hby d8_80) rfl ?_
    show oS p e below T5 m 81 #[rv x1, rv x2, iv (1 : Int32), iv (0 : Int32), rv el0, rv el0, .val .null, .unset] [(.int (1 : Int32))] _
    refine XS.iloadN X5.here hx rfl (hb hby d8_81) rfl ?_
    refine XS.icmpYes X5.here hx rfl (pc0 := 82) (pc' := 93) rfl (hb hby d8_82) rfl (flt (by decide : ¬ ((1 : Int32) < (1 : Int32)))).2.1 (by decide) (by decide) ?_
    refine XS.aconstNull X5.here hx rfl (hb hby d8_93) ?_
    refine XS.astore X5.here hx rfl (hb hby d8_94) rfl rfl (l' := #[rv x1, rv x2, iv (1 : Int32), iv (0 : Int32), rv el0, rv el0, .val .null, .val .null]) rfl ?_
    show oS p e below T5 m 96 #[rv x1, rv x2, iv (1 : Int32), iv (0 : Int32), rv el0, rv el0, .val .null, .val .null] [] _
    refine XS.aloadN X5.here hx rfl (hb hby d8_96) rfl rfl ?_
    refine XS.aload X5.here hx rfl (hb hby d8_97) rfl rfl ?_
    refine XS.aload X5.here hx rfl (hb hby d8_99) rfl rfl ?_
    show oS p e below T5 m 101 #[rv x1, rv x2, iv (1 : Int32), iv (0 : Int32), rv el0, rv el0, .val .null, .val .null] [.null, .null, (.ref x1)] _
    refine st6 _ ?_
    exact kt
  have KP10 : Keep h0 T2.heap [x1, el0] := ((Keep.refl h0 [x1, el0]).trans K2 (allS (Or.inl (List.mem_of_getElem? (i := 0) rfl)) (allS (Or.inl (List.mem_of_getElem? (i := 1) rfl)) all0)))
  obtain ⟨fs, hr, hrun, hended, hW, hsame⟩ := X6.leave (v := some (.int (1 : Int32))) (fun h => by rw [Bd.returns] at h; cases h)
  refine ⟨_, _, pre0 _ (pre9 _ ?_), hrun, hended, _, _, rfl, ?_, ⟨_, rfl⟩, hW, hsame.mono (by decide) (by decide)⟩
  · show oS p e below T6 m 104 #[rv x1, rv x2, iv (1 : Int32), iv (0 : Int32), rv el0, rv el0, .val .null, .val .null] [(.int (1 : Int32))] _
    exact retN X6 hx (t := .boolean) Bd.returns (by simp) (hb hby d8_104) hr
  · show QT3_1_0 Z x1 x2 el0 k h0 n0 _ T6.heap _
    rw [eh6]
    exact ⟨rfl, N6, KP10, pf2_0, pf2_1, pf2_2, pf2_3, pf2_4⟩
theorem own_pd7 : parseMethodDescriptor "(Lcom/example/ordered_scheduler/orderedscheduler/sequencing/Backlog;[Lcom/example/ordered_scheduler/orderedscheduler/sequencing/Place;II)Z" = some ⟨[(.object "com/example/ordered_scheduler/orderedscheduler/sequencing/Backlog"), (.array (.object "com/example/ordered_scheduler/orderedscheduler/sequencing/Place")), .int, .int], some .boolean⟩ := by decide +kernel
theorem d8_11 : decode method_3_code 11 = .ok (.aconst_null, 1) := by decide +kernel
theorem efT3_1_1 (m : MethodId) (x1 : Addr) (x2 : Addr) : entryFrame m #[(.ref x1), (.ref x2), (.int (1 : Int32)), (.int (1 : Int32))] 8 = mkF m 0 #[rv x1, rv x2, iv (1 : Int32), iv (1 : Int32), .unset, .unset, .unset, .unset] [] := by first | (simp [entryFrame, mkF, argsToLocals, Value.category]; done) | rfl
def QT3_1_1 (Z : State) (x1 : Addr) (x2 : Addr) (el0 : Addr) (k : ClassId) (h0 : Heap) (n0 : Nat) (v : Option Value) (h : Heap) (L : List Loc) : Prop := v = some (.int (1 : Int32)) ∧ Fr n0 L ∧ h = h0
set_option maxRecDepth 65536 in
set_option maxHeartbeats 40000000 in
theorem rmT3_1_1 (l : Launch) (Z : State) (a0 : Array Value) (hw : ∀ d ∈ tables_1, d.before a0 Z = true) (ws : List Jvm.Cond) (x1 : Addr) (x2 : Addr) (el0 : Addr) (k : ClassId) (h0 : Heap) (n0 : Nat) (Z0 : n0 ≤ h0.size) (E_x1 : Exa Z h0 x1 oz1) (F_first_x1 : Fld Z h0 x1 oz1 "first" oz2 .null) (F_last_x1 : Fld Z h0 x1 oz1 "last" oz2 .null) (V_x2 : Arv Z h0 x2 k (.object oz0) (3 : Int32) [(.ref el0), .null, .null] .null) :
    MetFree l (⟨oz4, "step", oz3⟩ : MethodName) (head1 (Jvm.Cond.code (⟨oz4, "step", oz3⟩ : MethodName) method_3_code 8 (some .boolean) :: ws) ({ frames := 2, cells := 0, slots := 0, locals := 27 } : Room)) (fun a U => a = #[(.ref x1), (.ref x2), (.int (1 : Int32)), (.int (1 : Int32))] ∧ Z.Warmed39 U.vm ∧ U.heap = h0) (fun _ _ _ _ _ => True) (fun _ U oc U' => ∃ v L, oc = .returned v ∧ QT3_1_1 Z x1 x2 el0 k h0 n0 v U'.heap L ∧ FrameEnd U oc U' L ({ frames := 2, cells := 0, slots := 0, locals := 27 } : Room).cells ({ frames := 2, cells := 0, slots := 0, locals := 27 } : Room).slots) := by
  refine MetFree.of_bodySF (plainFor_of_name own_pn2) hisR ?_
  intro p e s m args below meth c s₁ Bd hml0 hP hK
  obtain ⟨rfl, hZ, hh⟩ := hP
  have hx := Bd.exec
  have hby := Bd.bytes
  have hml : c.maxLocals = 8 := hml0
  have hown : s.vm.findClass oz4 = some m.cls := findClass_of_methodNamed Bd.named
  have hnm := (name_of_methodNamed Bd.named Bd.method).1
  have X0 : Stand p l e ({ frames := 2, cells := 0, slots := 0, locals := 27 } : Room) s m #[(.ref x1), (.ref x2), (.int (1 : Int32)), (.int (1 : Int32))] below meth c s₁ [] 0 0 := Stand.of_body Bd
  have e0 : s₁.heap = h0 := by rw [← hh, Bd.state]; rfl
  have N0 := Fr.nil n0
  have pre0 : ∀ t, Steps p.tables e below (s₁.setTop (mkF m 0 #[rv x1, rv x2, iv (1 : Int32), iv (1 : Int32), .unset, .unset, .unset, .unset] [])) t → Steps p.tables e below (s₁.setTop (entryFrame m #[(.ref x1), (.ref x2), (.int (1 : Int32)), (.int (1 : Int32))] 8)) t := fun t k => castTop (efT3_1_1 m x1 x2) k
  obtain ⟨cq1, kq1, q1a, q1b, q1c⟩ := isOf hZ e0 E_x1
  obtain ⟨_, _, ⟨T1, Lw1, kw1, nw1⟩, -, X1, ⟨Lc1, hQ1, l1, y1, z1⟩, st1⟩ := X0.virtualBack hx (y := (⟨oz1, "poll", oz7⟩ : MethodName)) (z := (⟨oz1, "poll", oz7⟩ : MethodName)) hown (mvT hZ (own_w hw 53 rfl)) (mvT hZ (own_w hw 54 rfl)) (notFace_of_selects (args := #[]) (mvT hZ (own_w hw 56 rfl))) (mvT hZ (own_w hw 56 rfl)) (mvT hZ (own_w hw 55 rfl)) (by decide) (backOf (W := 0) (rmP0 l Z a0 hw [] x1 h0 n0 Z0 E_x1 F_first_x1) hZ (own_w hw 57 rfl) (own_w hw 3 rfl) (by decide) (by decide)) q1a q1c (g := (mkF m 15 #[rv x1, rv x2, iv (1 : Int32), iv (1 : Int32), .val .null, .unset, .unset, .unset] [(.ref x1)])) rfl (by rw [hml]; rfl) (Steps.refl _) (argsL := []) (rest := []) (lenOf own_pd1 rfl) rfl (by show 2 * 0 + _ ≤ _; exact Nat.le_of_eq rfl) (hb hby d8_15) (fun _ _ => ⟨rfl, e0, (by decide : 0 + 0 ≤ _), (by decide : 0 + 0 ≤ _)⟩)
  dsimp only [Pt.U, Pt.locs, Pt.cells, Pt.slots] at X1 l1 y1 z1 st1 hQ1
  subst l1 y1 z1
  obtain ⟨rfl, Nq1, eh1⟩ := hQ1
  have N1 := Fr.app N0 Nq1
  obtain ⟨_, _, ⟨T2, Lw2, kw2, nw2⟩, -, X2, ⟨Lc2, hQ2, l2, y2, z2⟩, st2⟩ := Jvm.LawKit.callS X1 hx (y := (⟨oz4, "state", oz5⟩ : MethodName)) hown (mvT hZ (own_w hw 27 rfl)) (mvT hZ (own_w hw 28 rfl)) (mvT hZ (own_w hw 29 rfl)) (mvT hZ (own_w hw 30 rfl)) (by decide) (backOf (W := 0) (rmS0 l Z a0 hw [] x1 h0 n0 Z0 E_x1 F_first_x1 F_last_x1) hZ (own_w hw 30 rfl) (own_w hw 29 rfl) (by decide) (by decide)) (g := (mkF m 101 #[rv x1, rv x2, iv (1 : Int32), iv (1 : Int32), .val .null, .val .null, .val .null, .val .null] [.null, .null, (.ref x1)])) rfl (by rw [hml]; rfl) (argsL := [(.ref x1), .null, .null]) (rest := []) (lenOf own_pd5 rfl) rfl (by show 2 * 0 + _ ≤ _; exact Nat.le_of_eq rfl) (hb hby d8_101) (fun _ _ => ⟨rfl, eh1, (by decide : 0 + 0 ≤ _), (by decide : 0 + 0 ≤ _)⟩)
  dsimp only [Pt.U, Pt.locs, Pt.cells, Pt.slots] at X2 l2 y2 z2 st2 hQ2
  subst l2 y2 z2
  obtain ⟨rfl, Nq2, eh2⟩ := hQ2
  have N2 := Fr.app N1 Nq2
  have pre3 : ∀ tz, oS p e below T2 m 104 #[rv x1, rv x2, iv (1 : Int32), iv (1 : Int32), .val .null, .val .null, .val .null, .val .null] [(.int (1 : Int32))] tz → oS p e below s₁ m 0 #[rv x1, rv x2, iv (1 : Int32), iv (1 : Int32), .unset, .unset, .unset, .unset] [] tz := fun tz kt => by
    show oS p e below s₁ m 0 #[rv x1, rv x2, iv (1 : Int32), iv (1 : Int32), .unset, .unset, .unset, .unset] [] _
    refine XS.iloadN X0.here hx rfl (hb hby d8_0) rfl ?_
    refine XS.iloadN X0.here hx rfl (hb hby d8_1) rfl ?_
    refine XS.icmpYes X0.here hx rfl (pc0 := 2) (pc' := 11) rfl (hb hby d8_2) rfl (flt (by decide : ¬ ((1 : Int32) < (1 : Int32)))).2.1 (by decide) (by decide) ?_
    refine XS.aconstNull X0.here hx rfl (hb hby d8_11) ?_
    show oS p e below s₁ m 12 #[rv x1, rv x2, iv (1 : Int32), iv (1 : Int32), .unset, .unset, .unset, .unset] [.null] _
    refine XS.astore X0.here hx rfl (hb hby d8_12) rfl rfl (l' := #[rv x1, rv x2, iv (1 : Int32), iv (1 : Int32), .val .null, .unset, .unset, .unset]) rfl ?_
    refine XS.aloadN X0.here hx rfl (hb hby d8_14) rfl rfl ?_
    show oS p e below s₁ m 15 #[rv x1, rv x2, iv (1 : Int32), iv (1 : Int32), .val .null, .unset, .unset, .unset] [(.ref x1)] _
    refine st1.trans ?_
    refine XS.astore X1.here hx rfl (hb hby d8_18) rfl rfl (l' := #[rv x1, rv x2, iv (1 : Int32), iv (1 : Int32), .val .null, .val .null, .unset, .unset]) rfl ?_
    refine XS.aload X1.here hx rfl (hb hby d8_20) rfl rfl ?_
    refine XS.aload X1.here hx rfl (hb hby d8_22) rfl rfl ?_
    show oS p e below T1 m 24 #[rv x1, rv x2, iv (1 : Int32), iv (1 : Int32), .val .null, .val .null, .unset, .unset] [.null, .null] _
    refine Jvm.RoadKit.acmp (g := (mkF m 24 #[rv x1, rv x2, iv (1 : Int32), iv (1 : Int32), .val .null, .val .null, .unset, .unset] [.null, .null])) X1 hx rfl rfl rfl (pc0 := 24) (pc' := 29) (same := true) rfl (hb hby d8_24) rfl (decide_eq_true rfl) (by decide) (by decide) ?_
    refine XS.aload X1.here hx rfl (hb hby d8_29) rfl rfl ?_
    refine XS.ifnullYes X1.here hx rfl (pc0 := 31) (pc' := 60) rfl (hb hby d8_31) rfl (by decide) (by decide) ?_
    refine XS.iloadN X1.here hx rfl (hb hby d8_60) rfl ?_
    show oS p e below T1 m 61 #[rv x1, rv x2, iv (1 : Int32), iv (1 : Int32), .val .null, .val .null, .unset, .unset] [(.int (1 : Int32))] _
    refine XS.iconst X1.here hx rfl (hb hby d8_61) ?_
    refine XS.iadd X1.here hx rfl (hb hby d8_62) rfl ?_
    show oS p e below T1 m 63 #[rv x1, rv x2, iv (1 : Int32), iv (1 : Int32), .val .null, .val .null, .unset, .unset] [(.int (2 : Int32))] _
    refine XS.iloadN X1.here hx rfl (hb hby d8_63) rfl ?_
    refine XS.icmpYes X1.here hx rfl (pc0 := 64) (pc' := 75) rfl (hb hby d8_64) rfl (flt (by decide : ¬ ((2 : Int32) < (1 : Int32)))).2.1 (by decide) (by decide) ?_
    refine XS.aconstNull X1.here hx rfl (hb hby d8_75) ?_
    refine XS.astore X1.here hx rfl (hb hby d8_76) rfl rfl (l' := #[rv x1, rv x2, iv (1 : Int32), iv (1 : Int32), .val .null, .val .null, .val .null, .unset]) rfl ?_
    show oS p e below T1 m 78 #[rv x1, rv x2, iv (1 : Int32), iv (1 : Int32), .val .null, .val .null, .val .null, .unset] [] _
    refine XS.iloadN X1.here hx rfl (hb hby d8_78) rfl ?_
    refine XS.iconst X1.here hx rfl (hb hby d8_79) ?_
    refine XS.iadd X1.here hx rfl (hb hby d8_80) rfl ?_
    show oS p e below T1 m 81 #[rv x1, rv x2, iv (1 : Int32), iv (1 : Int32), .val .null, .val .null, .val .null, .unset] [(.int (2 : Int32))] _
    refine XS.iloadN X1.here hx rfl (hb hby d8_81) rfl ?_
    refine XS.icmpYes X1.here hx rfl (pc0 := 82) (pc' := 93) rfl (hb hby d8_82) rfl (flt (by decide : ¬ ((2 : Int32) < (1 : Int32)))).2.1 (by decide) (by decide) ?_
    refine XS.aconstNull X1.here hx rfl (hb hby d8_93) ?_
    refine XS.astore X1.here hx rfl (hb hby d8_94) rfl rfl (l' := #[rv x1, rv x2, iv (1 : Int32), iv (1 : Int32), .val .null, .val .null, .val .null, .val .null]) rfl ?_
    show oS p e below T1 m 96 #[rv x1, rv x2, iv (1 : Int32), iv (1 : Int32), .val .null, .val .null, .val .null, .val .null] [] _
    refine XS.aloadN X1.here hx rfl (hb hby d8_96) rfl rfl ?_
    refine XS.aload X1.here hx rfl (hb hby d8_97) rfl rfl ?_
    refine XS.aload X1.here hx rfl (hb hby d8_99) rfl rfl ?_
    show oS p e below T1 m 101 #[rv x1, rv x2, iv (1 : Int32), iv (1 : Int32), .val .null, .val .null, .val .null, .val .null] [.null, .null, (.ref x1)] _
    refine st2 _ ?_
    exact kt
  obtain ⟨fs, hr, hrun, hended, hW, hsame⟩ := X2.leave (v := some (.int (1 : Int32))) (fun h => by rw [Bd.returns] at h; cases h)
  refine ⟨_, _, pre0 _ (pre3 _ ?_), hrun, hended, _, _, rfl, ?_, ⟨_, rfl⟩, hW, hsame.mono (by decide) (by decide)⟩
  · show oS p e below T2 m 104 #[rv x1, rv x2, iv (1 : Int32), iv (1 : Int32), .val .null, .val .null, .val .null, .val .null] [(.int (1 : Int32))] _
    exact retN X2 hx (t := .boolean) Bd.returns (by simp) (hb hby d8_104) hr
  · show QT3_1_1 Z x1 x2 el0 k h0 n0 _ T2.heap _
    rw [eh2]
    exact ⟨rfl, N2, rfl⟩
theorem efT2_0_0 (m : MethodId) (x1 : Addr) (x2 : Addr) : entryFrame m #[(.ref x1), (.ref x2), (.int (0 : Int32)), (.int (0 : Int32))] 8 = mkF m 0 #[rv x1, rv x2, iv (0 : Int32), iv (0 : Int32), .unset, .unset, .unset, .unset] [] := by first | (simp [entryFrame, mkF, argsToLocals, Value.category]; done) | rfl
def QT2_0_0 (Z : State) (x1 : Addr) (x2 : Addr) (el0 : Addr) (el1 : Addr) (k : ClassId) (h0 : Heap) (n0 : Nat) (v : Option Value) (h : Heap) (L : List Loc) : Prop := v = some (.int (1 : Int32)) ∧ Fr n0 L ∧ h = h0
set_option maxRecDepth 65536 in
set_option maxHeartbeats 40000000 in
theorem rmT2_0_0 (l : Launch) (Z : State) (a0 : Array Value) (hw : ∀ d ∈ tables_1, d.before a0 Z = true) (ws : List Jvm.Cond) (x1 : Addr) (x2 : Addr) (el0 : Addr) (el1 : Addr) (k : ClassId) (h0 : Heap) (n0 : Nat) (Z0 : n0 ≤ h0.size) (E_x1 : Exa Z h0 x1 oz1) (F_first_x1 : Fld Z h0 x1 oz1 "first" oz2 .null) (F_last_x1 : Fld Z h0 x1 oz1 "last" oz2 .null) (V_x2 : Arv Z h0 x2 k (.object oz0) (2 : Int32) [(.ref el0), (.ref el1)] .null) :
    MetFree l (⟨oz4, "step", oz3⟩ : MethodName) (head1 (Jvm.Cond.code (⟨oz4, "step", oz3⟩ : MethodName) method_3_code 8 (some .boolean) :: ws) ({ frames := 2, cells := 0, slots := 0, locals := 27 } : Room)) (fun a U => a = #[(.ref x1), (.ref x2), (.int (0 : Int32)), (.int (0 : Int32))] ∧ Z.Warmed39 U.vm ∧ U.heap = h0) (fun _ _ _ _ _ => True) (fun _ U oc U' => ∃ v L, oc = .returned v ∧ QT2_0_0 Z x1 x2 el0 el1 k h0 n0 v U'.heap L ∧ FrameEnd U oc U' L ({ frames := 2, cells := 0, slots := 0, locals := 27 } : Room).cells ({ frames := 2, cells := 0, slots := 0, locals := 27 } : Room).slots) := by
  refine MetFree.of_bodySF (plainFor_of_name own_pn2) hisR ?_
  intro p e s m args below meth c s₁ Bd hml0 hP hK
  obtain ⟨rfl, hZ, hh⟩ := hP
  have hx := Bd.exec
  have hby := Bd.bytes
  have hml : c.maxLocals = 8 := hml0
  have hown : s.vm.findClass oz4 = some m.cls := findClass_of_methodNamed Bd.named
  have hnm := (name_of_methodNamed Bd.named Bd.method).1
  have X0 : Stand p l e ({ frames := 2, cells := 0, slots := 0, locals := 27 } : Room) s m #[(.ref x1), (.ref x2), (.int (0 : Int32)), (.int (0 : Int32))] below meth c s₁ [] 0 0 := Stand.of_body Bd
  have e0 : s₁.heap = h0 := by rw [← hh, Bd.state]; rfl
  have N0 := Fr.nil n0
  have pre0 : ∀ t, Steps p.tables e below (s₁.setTop (mkF m 0 #[rv x1, rv x2, iv (0 : Int32), iv (0 : Int32), .unset, .unset, .unset, .unset] [])) t → Steps p.tables e below (s₁.setTop (entryFrame m #[(.ref x1), (.ref x2), (.int (0 : Int32)), (.int (0 : Int32))] 8)) t := fun t k => castTop (efT2_0_0 m x1 x2) k
  obtain ⟨cq1, kq1, q1a, q1b, q1c⟩ := isOf hZ e0 E_x1
  obtain ⟨_, _, ⟨T1, Lw1, kw1, nw1⟩, -, X1, ⟨Lc1, hQ1, l1, y1, z1⟩, st1⟩ := X0.virtualBack hx (y := (⟨oz1, "poll", oz7⟩ : MethodName)) (z := (⟨oz1, "poll", oz7⟩ : MethodName)) hown (mvT hZ (own_w hw 53 rfl)) (mvT hZ (own_w hw 54 rfl)) (notFace_of_selects (args := #[]) (mvT hZ (own_w hw 56 rfl))) (mvT hZ (own_w hw 56 rfl)) (mvT hZ (own_w hw 55 rfl)) (by decide) (backOf (W := 0) (rmP0 l Z a0 hw [] x1 h0 n0 Z0 E_x1 F_first_x1) hZ (own_w hw 57 rfl) (own_w hw 3 rfl) (by decide) (by decide)) q1a q1c (g := (mkF m 15 #[rv x1, rv x2, iv (0 : Int32), iv (0 : Int32), .val .null, .unset, .unset, .unset] [(.ref x1)])) rfl (by rw [hml]; rfl) (Steps.refl _) (argsL := []) (rest := []) (lenOf own_pd1 rfl) rfl (by show 2 * 0 + _ ≤ _; exact Nat.le_of_eq rfl) (hb hby d8_15) (fun _ _ => ⟨rfl, e0, (by decide : 0 + 0 ≤ _), (by decide : 0 + 0 ≤ _)⟩)
  dsimp only [Pt.U, Pt.locs, Pt.cells, Pt.slots] at X1 l1 y1 z1 st1 hQ1
  subst l1 y1 z1
  obtain ⟨rfl, Nq1, eh1⟩ := hQ1
  have N1 := Fr.app N0 Nq1
  obtain ⟨_, _, ⟨T2, Lw2, kw2, nw2⟩, -, X2, ⟨Lc2, hQ2, l2, y2, z2⟩, st2⟩ := Jvm.LawKit.callS X1 hx (y := (⟨oz4, "state", oz5⟩ : MethodName)) hown (mvT hZ (own_w hw 27 rfl)) (mvT hZ (own_w hw 28 rfl)) (mvT hZ (own_w hw 29 rfl)) (mvT hZ (own_w hw 30 rfl)) (by decide) (backOf (W := 0) (rmS0 l Z a0 hw [] x1 h0 n0 Z0 E_x1 F_first_x1 F_last_x1) hZ (own_w hw 30 rfl) (own_w hw 29 rfl) (by decide) (by decide)) (g := (mkF m 101 #[rv x1, rv x2, iv (0 : Int32), iv (0 : Int32), .val .null, .val .null, .val .null, .val .null] [.null, .null, (.ref x1)])) rfl (by rw [hml]; rfl) (argsL := [(.ref x1), .null, .null]) (rest := []) (lenOf own_pd5 rfl) rfl (by show 2 * 0 + _ ≤ _; exact Nat.le_of_eq rfl) (hb hby d8_101) (fun _ _ => ⟨rfl, eh1, (by decide : 0 + 0 ≤ _), (by decide : 0 + 0 ≤ _)⟩)
  dsimp only [Pt.U, Pt.locs, Pt.cells, Pt.slots] at X2 l2 y2 z2 st2 hQ2
  subst l2 y2 z2
  obtain ⟨rfl, Nq2, eh2⟩ := hQ2
  have N2 := Fr.app N1 Nq2
  have pre3 : ∀ tz, oS p e below T2 m 104 #[rv x1, rv x2, iv (0 : Int32), iv (0 : Int32), .val .null, .val .null, .val .null, .val .null] [(.int (1 : Int32))] tz → oS p e below s₁ m 0 #[rv x1, rv x2, iv (0 : Int32), iv (0 : Int32), .unset, .unset, .unset, .unset] [] tz := fun tz kt => by
    show oS p e below s₁ m 0 #[rv x1, rv x2, iv (0 : Int32), iv (0 : Int32), .unset, .unset, .unset, .unset] [] _
    refine XS.iloadN X0.here hx rfl (hb hby d8_0) rfl ?_
    refine XS.iloadN X0.here hx rfl (hb hby d8_1) rfl ?_
    refine XS.icmpYes X0.here hx rfl (pc0 := 2) (pc' := 11) rfl (hb hby d8_2) rfl (flt (by decide : ¬ ((0 : Int32) < (0 : Int32)))).2.1 (by decide) (by decide) ?_
    refine XS.aconstNull X0.here hx rfl (hb hby d8_11) ?_
    show oS p e below s₁ m 12 #[rv x1, rv x2, iv (0 : Int32), iv (0 : Int32), .unset, .unset, .unset, .unset] [.null] _
    refine XS.astore X0.here hx rfl (hb hby d8_12) rfl rfl (l' := #[rv x1, rv x2, iv (0 : Int32), iv (0 : Int32), .val .null, .unset, .unset, .unset]) rfl ?_
    refine XS.aloadN X0.here hx rfl (hb hby d8_14) rfl rfl ?_
    show oS p e below s₁ m 15 #[rv x1, rv x2, iv (0 : Int32), iv (0 : Int32), .val .null, .unset, .unset, .unset] [(.ref x1)] _
    refine st1.trans ?_
    refine XS.astore X1.here hx rfl (hb hby d8_18) rfl rfl (l' := #[rv x1, rv x2, iv (0 : Int32), iv (0 : Int32), .val .null, .val .null, .unset, .unset]) rfl ?_
    refine XS.aload X1.here hx rfl (hb hby d8_20) rfl rfl ?_
    refine XS.aload X1.here hx rfl (hb hby d8_22) rfl rfl ?_
    show oS p e below T1 m 24 #[rv x1, rv x2, iv (0 : Int32), iv (0 : Int32), .val .null, .val .null, .unset, .unset] [.null, .null] _
    refine Jvm.RoadKit.acmp (g := (mkF m 24 #[rv x1, rv x2, iv (0 : Int32), iv (0 : Int32), .val .null, .val .null, .unset, .unset] [.null, .null])) X1 hx rfl rfl rfl (pc0 := 24) (pc' := 29) (same := true) rfl (hb hby d8_24) rfl (decide_eq_true rfl) (by decide) (by decide) ?_
    refine XS.aload X1.here hx rfl (hb hby d8_29) rfl rfl ?_
    refine XS.ifnullYes X1.here hx rfl (pc0 := 31) (pc' := 60) rfl (hb hby d8_31) rfl (by decide) (by decide) ?_
    refine XS.iloadN X1.here hx rfl (hb hby d8_60) rfl ?_
    show oS p e below T1 m 61 #[rv x1, rv x2, iv (0 : Int32), iv (0 : Int32), .val .null, .val .null, .unset, .unset] [(.int (0 : Int32))] _
    refine XS.iconst X1.here hx rfl (hb hby d8_61) ?_
    refine XS.iadd X1.here hx rfl (hb hby d8_62) rfl ?_
    show oS p e below T1 m 63 #[rv x1, rv x2, iv (0 : Int32), iv (0 : Int32), .val .null, .val .null, .unset, .unset] [(.int (1 : Int32))] _
    refine XS.iloadN X1.here hx rfl (hb hby d8_63) rfl ?_
    refine XS.icmpYes X1.here hx rfl (pc0 := 64) (pc' := 75) rfl (hb hby d8_64) rfl (flt (by decide : ¬ ((1 : Int32) < (0 : Int32)))).2.1 (by decide) (by decide) ?_
    refine XS.aconstNull X1.here hx rfl (hb hby d8_75) ?_
    refine XS.astore X1.here hx rfl (hb hby d8_76) rfl rfl (l' := #[rv x1, rv x2, iv (0 : Int32), iv (0 : Int32), .val .null, .val .null, .val .null, .unset]) rfl ?_
    show oS p e below T1 m 78 #[rv x1, rv x2, iv (0 : Int32), iv (0 : Int32), .val .null, .val .null, .val .null, .unset] [] _
    refine XS.iloadN X1.here hx rfl (hb hby d8_78) rfl ?_
    refine XS.iconst X1.here hx rfl (hb hby d8_79) ?_
    refine XS.iadd X1.here hx rfl (hb hby d8_80) rfl ?_
    show oS p e below T1 m 81 #[rv x1, rv x2, iv (0 : Int32), iv (0 : Int32), .val .null, .val .null, .val .null, .unset] [(.int (1 : Int32))] _
    refine XS.iloadN X1.here hx rfl (hb hby d8_81) rfl ?_
    refine XS.icmpYes X1.here hx rfl (pc0 := 82) (pc' := 93) rfl (hb hby d8_82) rfl (flt (by decide : ¬ ((1 : Int32) < (0 : Int32)))).2.1 (by decide) (by decide) ?_
    refine XS.aconstNull X1.here hx rfl (hb hby d8_93) ?_
    refine XS.astore X1.here hx rfl (hb hby d8_94) rfl rfl (l' := #[rv x1, rv x2, iv (0 : Int32), iv (0 : Int32), .val .null, .val .null, .val .null, .val .null]) rfl ?_
    show oS p e below T1 m 96 #[rv x1, rv x2, iv (0 : Int32), iv (0 : Int32), .val .null, .val .null, .val .null, .val .null] [] _
    refine XS.aloadN X1.here hx rfl (hb hby d8_96) rfl rfl ?_
    refine XS.aload X1.here hx rfl (hb hby d8_97) rfl rfl ?_
    refine XS.aload X1.here hx rfl (hb hby d8_99) rfl rfl ?_
    show oS p e below T1 m 101 #[rv x1, rv x2, iv (0 : Int32), iv (0 : Int32), .val .null, .val .null, .val .null, .val .null] [.null, .null, (.ref x1)] _
    refine st2 _ ?_
    exact kt
  obtain ⟨fs, hr, hrun, hended, hW, hsame⟩ := X2.leave (v := some (.int (1 : Int32))) (fun h => by rw [Bd.returns] at h; cases h)
  refine ⟨_, _, pre0 _ (pre3 _ ?_), hrun, hended, _, _, rfl, ?_, ⟨_, rfl⟩, hW, hsame.mono (by decide) (by decide)⟩
  · show oS p e below T2 m 104 #[rv x1, rv x2, iv (0 : Int32), iv (0 : Int32), .val .null, .val .null, .val .null, .val .null] [(.int (1 : Int32))] _
    exact retN X2 hx (t := .boolean) Bd.returns (by simp) (hb hby d8_104) hr
  · show QT2_0_0 Z x1 x2 el0 el1 k h0 n0 _ T2.heap _
    rw [eh2]
    exact ⟨rfl, N2, rfl⟩
theorem efT2_0_1 (m : MethodId) (x1 : Addr) (x2 : Addr) : entryFrame m #[(.ref x1), (.ref x2), (.int (0 : Int32)), (.int (1 : Int32))] 8 = mkF m 0 #[rv x1, rv x2, iv (0 : Int32), iv (1 : Int32), .unset, .unset, .unset, .unset] [] := by first | (simp [entryFrame, mkF, argsToLocals, Value.category]; done) | rfl
def QT2_0_1 (Z : State) (x1 : Addr) (x2 : Addr) (el0 : Addr) (el1 : Addr) (k : ClassId) (h0 : Heap) (n0 : Nat) (v : Option Value) (h : Heap) (L : List Loc) : Prop := v = some (.int (1 : Int32)) ∧ Fr n0 L ∧ h = h0
set_option maxRecDepth 65536 in
set_option maxHeartbeats 40000000 in
theorem rmT2_0_1 (l : Launch) (Z : State) (a0 : Array Value) (hw : ∀ d ∈ tables_1, d.before a0 Z = true) (ws : List Jvm.Cond) (x1 : Addr) (x2 : Addr) (el0 : Addr) (el1 : Addr) (k : ClassId) (h0 : Heap) (n0 : Nat) (Z0 : n0 ≤ h0.size) (E_x1 : Exa Z h0 x1 oz1) (F_first_x1 : Fld Z h0 x1 oz1 "first" oz2 .null) (F_last_x1 : Fld Z h0 x1 oz1 "last" oz2 .null) (V_x2 : Arv Z h0 x2 k (.object oz0) (2 : Int32) [(.ref el0), (.ref el1)] .null) :
    MetFree l (⟨oz4, "step", oz3⟩ : MethodName) (head1 (Jvm.Cond.code (⟨oz4, "step", oz3⟩ : MethodName) method_3_code 8 (some .boolean) :: ws) ({ frames := 2, cells := 0, slots := 0, locals := 27 } : Room)) (fun a U => a = #[(.ref x1), (.ref x2), (.int (0 : Int32)), (.int (1 : Int32))] ∧ Z.Warmed39 U.vm ∧ U.heap = h0) (fun _ _ _ _ _ => True) (fun _ U oc U' => ∃ v L, oc = .returned v ∧ QT2_0_1 Z x1 x2 el0 el1 k h0 n0 v U'.heap L ∧ FrameEnd U oc U' L ({ frames := 2, cells := 0, slots := 0, locals := 27 } : Room).cells ({ frames := 2, cells := 0, slots := 0, locals := 27 } : Room).slots) := by
  refine MetFree.of_bodySF (plainFor_of_name own_pn2) hisR ?_
  intro p e s m args below meth c s₁ Bd hml0 hP hK
  obtain ⟨rfl, hZ, hh⟩ := hP
  have hx := Bd.exec
  have hby := Bd.bytes
  have hml : c.maxLocals = 8 := hml0
  have hown : s.vm.findClass oz4 = some m.cls := findClass_of_methodNamed Bd.named
  have hnm := (name_of_methodNamed Bd.named Bd.method).1
  have X0 : Stand p l e ({ frames := 2, cells := 0, slots := 0, locals := 27 } : Room) s m #[(.ref x1), (.ref x2), (.int (0 : Int32)), (.int (1 : Int32))] below meth c s₁ [] 0 0 := Stand.of_body Bd
  have e0 : s₁.heap = h0 := by rw [← hh, Bd.state]; rfl
  have N0 := Fr.nil n0
  have pre0 : ∀ t, Steps p.tables e below (s₁.setTop (mkF m 0 #[rv x1, rv x2, iv (0 : Int32), iv (1 : Int32), .unset, .unset, .unset, .unset] [])) t → Steps p.tables e below (s₁.setTop (entryFrame m #[(.ref x1), (.ref x2), (.int (0 : Int32)), (.int (1 : Int32))] 8)) t := fun t k => castTop (efT2_0_1 m x1 x2) k
  obtain ⟨cq1, kq1, q1a, q1b, q1c⟩ := isOf hZ e0 E_x1
  obtain ⟨_, _, ⟨T1, Lw1, kw1, nw1⟩, -, X1, ⟨Lc1, hQ1, l1, y1, z1⟩, st1⟩ := X0.virtualBack hx (y := (⟨oz1, "poll", oz7⟩ : MethodName)) (z := (⟨oz1, "poll", oz7⟩ : MethodName)) hown (mvT hZ (own_w hw 53 rfl)) (mvT hZ (own_w hw 54 rfl)) (notFace_of_selects (args := #[]) (mvT hZ (own_w hw 56 rfl))) (mvT hZ (own_w hw 56 rfl)) (mvT hZ (own_w hw 55 rfl)) (by decide) (backOf (W := 0) (rmP0 l Z a0 hw [] x1 h0 n0 Z0 E_x1 F_first_x1) hZ (own_w hw 57 rfl) (own_w hw 3 rfl) (by decide) (by decide)) q1a q1c (g := (mkF m 15 #[rv x1, rv x2, iv (0 : Int32), iv (1 : Int32), .val .null, .unset, .unset, .unset] [(.ref x1)])) rfl (by rw [hml]; rfl) (Steps.refl _) (argsL := []) (rest := []) (lenOf own_pd1 rfl) rfl (by show 2 * 0 + _ ≤ _; exact Nat.le_of_eq rfl) (hb hby d8_15) (fun _ _ => ⟨rfl, e0, (by decide : 0 + 0 ≤ _), (by decide : 0 + 0 ≤ _)⟩)
  dsimp only [Pt.U, Pt.locs, Pt.cells, Pt.slots] at X1 l1 y1 z1 st1 hQ1
  subst l1 y1 z1
  obtain ⟨rfl, Nq1, eh1⟩ := hQ1
  have N1 := Fr.app N0 Nq1
  obtain ⟨_, _, ⟨T2, Lw2, kw2, nw2⟩, -, X2, ⟨Lc2, hQ2, l2, y2, z2⟩, st2⟩ := Jvm.LawKit.callS X1 hx (y := (⟨oz4, "state", oz5⟩ : MethodName)) hown (mvT hZ (own_w hw 27 rfl)) (mvT hZ (own_w hw 28 rfl)) (mvT hZ (own_w hw 29 rfl)) (mvT hZ (own_w hw 30 rfl)) (by decide) (backOf (W := 0) (rmS0 l Z a0 hw [] x1 h0 n0 Z0 E_x1 F_first_x1 F_last_x1) hZ (own_w hw 30 rfl) (own_w hw 29 rfl) (by decide) (by decide)) (g := (mkF m 101 #[rv x1, rv x2, iv (0 : Int32), iv (1 : Int32), .val .null, .val .null, .val .null, .val .null] [.null, .null, (.ref x1)])) rfl (by rw [hml]; rfl) (argsL := [(.ref x1), .null, .null]) (rest := []) (lenOf own_pd5 rfl) rfl (by show 2 * 0 + _ ≤ _; exact Nat.le_of_eq rfl) (hb hby d8_101) (fun _ _ => ⟨rfl, eh1, (by decide : 0 + 0 ≤ _), (by decide : 0 + 0 ≤ _)⟩)
  dsimp only [Pt.U, Pt.locs, Pt.cells, Pt.slots] at X2 l2 y2 z2 st2 hQ2
  subst l2 y2 z2
  obtain ⟨rfl, Nq2, eh2⟩ := hQ2
  have N2 := Fr.app N1 Nq2
  have pre3 : ∀ tz, oS p e below T2 m 104 #[rv x1, rv x2, iv (0 : Int32), iv (1 : Int32), .val .null, .val .null, .val .null, .val .null] [(.int (1 : Int32))] tz → oS p e below s₁ m 0 #[rv x1, rv x2, iv (0 : Int32), iv (1 : Int32), .unset, .unset, .unset, .unset] [] tz := fun tz kt => by
    show oS p e below s₁ m 0 #[rv x1, rv x2, iv (0 : Int32), iv (1 : Int32), .unset, .unset, .unset, .unset] [] _
    refine XS.iloadN X0.here hx rfl (hb hby d8_0) rfl ?_
    refine XS.iloadN X0.here hx rfl (hb hby d8_1) rfl ?_
    refine XS.icmpYes X0.here hx rfl (pc0 := 2) (pc' := 11) rfl (hb hby d8_2) rfl (flt (by decide : ¬ ((1 : Int32) < (0 : Int32)))).2.1 (by decide) (by decide) ?_
    refine XS.aconstNull X0.here hx rfl (hb hby d8_11) ?_
    show oS p e below s₁ m 12 #[rv x1, rv x2, iv (0 : Int32), iv (1 : Int32), .unset, .unset, .unset, .unset] [.null] _
    refine XS.astore X0.here hx rfl (hb hby d8_12) rfl rfl (l' := #[rv x1, rv x2, iv (0 : Int32), iv (1 : Int32), .val .null, .unset, .unset, .unset]) rfl ?_
    refine XS.aloadN X0.here hx rfl (hb hby d8_14) rfl rfl ?_
    show oS p e below s₁ m 15 #[rv x1, rv x2, iv (0 : Int32), iv (1 : Int32), .val .null, .unset, .unset, .unset] [(.ref x1)] _
    refine st1.trans ?_
    refine XS.astore X1.here hx rfl (hb hby d8_18) rfl rfl (l' := #[rv x1, rv x2, iv (0 : Int32), iv (1 : Int32), .val .null, .val .null, .unset, .unset]) rfl ?_
    refine XS.aload X1.here hx rfl (hb hby d8_20) rfl rfl ?_
    refine XS.aload X1.here hx rfl (hb hby d8_22) rfl rfl ?_
    show oS p e below T1 m 24 #[rv x1, rv x2, iv (0 : Int32), iv (1 : Int32), .val .null, .val .null, .unset, .unset] [.null, .null] _
    refine Jvm.RoadKit.acmp (g := (mkF m 24 #[rv x1, rv x2, iv (0 : Int32), iv (1 : Int32), .val .null, .val .null, .unset, .unset] [.null, .null])) X1 hx rfl rfl rfl (pc0 := 24) (pc' := 29) (same := true) rfl (hb hby d8_24) rfl (decide_eq_true rfl) (by decide) (by decide) ?_
    refine XS.aload X1.here hx rfl (hb hby d8_29) rfl rfl ?_
    refine XS.ifnullYes X1.here hx rfl (pc0 := 31) (pc' := 60) rfl (hb hby d8_31) rfl (by decide) (by decide) ?_
    refine XS.iloadN X1.here hx rfl (hb hby d8_60) rfl ?_
    show oS p e below T1 m 61 #[rv x1, rv x2, iv (0 : Int32), iv (1 : Int32), .val .null, .val .null, .unset, .unset] [(.int (1 : Int32))] _
    refine XS.iconst X1.here hx rfl (hb hby d8_61) ?_
    refine XS.iadd X1.here hx rfl (hb hby d8_62) rfl ?_
    show oS p e below T1 m 63 #[rv x1, rv x2, iv (0 : Int32), iv (1 : Int32), .val .null, .val .null, .unset, .unset] [(.int (2 : Int32))] _
    refine XS.iloadN X1.here hx rfl (hb hby d8_63) rfl ?_
    refine XS.icmpYes X1.here hx rfl (pc0 := 64) (pc' := 75) rfl (hb hby d8_64) rfl (flt (by decide : ¬ ((2 : Int32) < (0 : Int32)))).2.1 (by decide) (by decide) ?_
    refine XS.aconstNull X1.here hx rfl (hb hby d8_75) ?_
    refine XS.astore X1.here hx rfl (hb hby d8_76) rfl rfl (l' := #[rv x1, rv x2, iv (0 : Int32), iv (1 : Int32), .val .null, .val .null, .val .null, .unset]) rfl ?_
    show oS p e below T1 m 78 #[rv x1, rv x2, iv (0 : Int32), iv (1 : Int32), .val .null, .val .null, .val .null, .unset] [] _
    refine XS.iloadN X1.here hx rfl (hb hby d8_78) rfl ?_
    refine XS.iconst X1.here hx rfl (hb hby d8_79) ?_
    refine XS.iadd X1.here hx rfl (hb hby d8_80) rfl ?_
    show oS p e below T1 m 81 #[rv x1, rv x2, iv (0 : Int32), iv (1 : Int32), .val .null, .val .null, .val .null, .unset] [(.int (2 : Int32))] _
    refine XS.iloadN X1.here hx rfl (hb hby d8_81) rfl ?_
    refine XS.icmpYes X1.here hx rfl (pc0 := 82) (pc' := 93) rfl (hb hby d8_82) rfl (flt (by decide : ¬ ((2 : Int32) < (0 : Int32)))).2.1 (by decide) (by decide) ?_
    refine XS.aconstNull X1.here hx rfl (hb hby d8_93) ?_
    refine XS.astore X1.here hx rfl (hb hby d8_94) rfl rfl (l' := #[rv x1, rv x2, iv (0 : Int32), iv (1 : Int32), .val .null, .val .null, .val .null, .val .null]) rfl ?_
    show oS p e below T1 m 96 #[rv x1, rv x2, iv (0 : Int32), iv (1 : Int32), .val .null, .val .null, .val .null, .val .null] [] _
    refine XS.aloadN X1.here hx rfl (hb hby d8_96) rfl rfl ?_
    refine XS.aload X1.here hx rfl (hb hby d8_97) rfl rfl ?_
    refine XS.aload X1.here hx rfl (hb hby d8_99) rfl rfl ?_
    show oS p e below T1 m 101 #[rv x1, rv x2, iv (0 : Int32), iv (1 : Int32), .val .null, .val .null, .val .null, .val .null] [.null, .null, (.ref x1)] _
    refine st2 _ ?_
    exact kt
  obtain ⟨fs, hr, hrun, hended, hW, hsame⟩ := X2.leave (v := some (.int (1 : Int32))) (fun h => by rw [Bd.returns] at h; cases h)
  refine ⟨_, _, pre0 _ (pre3 _ ?_), hrun, hended, _, _, rfl, ?_, ⟨_, rfl⟩, hW, hsame.mono (by decide) (by decide)⟩
  · show oS p e below T2 m 104 #[rv x1, rv x2, iv (0 : Int32), iv (1 : Int32), .val .null, .val .null, .val .null, .val .null] [(.int (1 : Int32))] _
    exact retN X2 hx (t := .boolean) Bd.returns (by simp) (hb hby d8_104) hr
  · show QT2_0_1 Z x1 x2 el0 el1 k h0 n0 _ T2.heap _
    rw [eh2]
    exact ⟨rfl, N2, rfl⟩
theorem efT2_0_2 (m : MethodId) (x1 : Addr) (x2 : Addr) : entryFrame m #[(.ref x1), (.ref x2), (.int (0 : Int32)), (.int (2 : Int32))] 8 = mkF m 0 #[rv x1, rv x2, iv (0 : Int32), iv (2 : Int32), .unset, .unset, .unset, .unset] [] := by first | (simp [entryFrame, mkF, argsToLocals, Value.category]; done) | rfl
def QT2_0_2 (Z : State) (x1 : Addr) (x2 : Addr) (el0 : Addr) (el1 : Addr) (k : ClassId) (h0 : Heap) (n0 : Nat) (v : Option Value) (h : Heap) (L : List Loc) : Prop := v = some (.int (1 : Int32)) ∧ Fr n0 L ∧ h = h0
set_option maxRecDepth 65536 in
set_option maxHeartbeats 40000000 in
theorem rmT2_0_2 (l : Launch) (Z : State) (a0 : Array Value) (hw : ∀ d ∈ tables_1, d.before a0 Z = true) (ws : List Jvm.Cond) (x1 : Addr) (x2 : Addr) (el0 : Addr) (el1 : Addr) (k : ClassId) (h0 : Heap) (n0 : Nat) (Z0 : n0 ≤ h0.size) (E_x1 : Exa Z h0 x1 oz1) (F_first_x1 : Fld Z h0 x1 oz1 "first" oz2 .null) (F_last_x1 : Fld Z h0 x1 oz1 "last" oz2 .null) (V_x2 : Arv Z h0 x2 k (.object oz0) (2 : Int32) [(.ref el0), (.ref el1)] .null) :
    MetFree l (⟨oz4, "step", oz3⟩ : MethodName) (head1 (Jvm.Cond.code (⟨oz4, "step", oz3⟩ : MethodName) method_3_code 8 (some .boolean) :: ws) ({ frames := 2, cells := 0, slots := 0, locals := 27 } : Room)) (fun a U => a = #[(.ref x1), (.ref x2), (.int (0 : Int32)), (.int (2 : Int32))] ∧ Z.Warmed39 U.vm ∧ U.heap = h0) (fun _ _ _ _ _ => True) (fun _ U oc U' => ∃ v L, oc = .returned v ∧ QT2_0_2 Z x1 x2 el0 el1 k h0 n0 v U'.heap L ∧ FrameEnd U oc U' L ({ frames := 2, cells := 0, slots := 0, locals := 27 } : Room).cells ({ frames := 2, cells := 0, slots := 0, locals := 27 } : Room).slots) := by
  refine MetFree.of_bodySF (plainFor_of_name own_pn2) hisR ?_
  intro p e s m args below meth c s₁ Bd hml0 hP hK
  obtain ⟨rfl, hZ, hh⟩ := hP
  have hx := Bd.exec
  have hby := Bd.bytes
  have hml : c.maxLocals = 8 := hml0
  have hown : s.vm.findClass oz4 = some m.cls := findClass_of_methodNamed Bd.named
  have hnm := (name_of_methodNamed Bd.named Bd.method).1
  have X0 : Stand p l e ({ frames := 2, cells := 0, slots := 0, locals := 27 } : Room) s m #[(.ref x1), (.ref x2), (.int (0 : Int32)), (.int (2 : Int32))] below meth c s₁ [] 0 0 := Stand.of_body Bd
  have e0 : s₁.heap = h0 := by rw [← hh, Bd.state]; rfl
  have N0 := Fr.nil n0
  have pre0 : ∀ t, Steps p.tables e below (s₁.setTop (mkF m 0 #[rv x1, rv x2, iv (0 : Int32), iv (2 : Int32), .unset, .unset, .unset, .unset] [])) t → Steps p.tables e below (s₁.setTop (entryFrame m #[(.ref x1), (.ref x2), (.int (0 : Int32)), (.int (2 : Int32))] 8)) t := fun t k => castTop (efT2_0_2 m x1 x2) k
  obtain ⟨cq1, kq1, q1a, q1b, q1c⟩ := isOf hZ e0 E_x1
  obtain ⟨_, _, ⟨T1, Lw1, kw1, nw1⟩, -, X1, ⟨Lc1, hQ1, l1, y1, z1⟩, st1⟩ := X0.virtualBack hx (y := (⟨oz1, "poll", oz7⟩ : MethodName)) (z := (⟨oz1, "poll", oz7⟩ : MethodName)) hown (mvT hZ (own_w hw 53 rfl)) (mvT hZ (own_w hw 54 rfl)) (notFace_of_selects (args := #[]) (mvT hZ (own_w hw 56 rfl))) (mvT hZ (own_w hw 56 rfl)) (mvT hZ (own_w hw 55 rfl)) (by decide) (backOf (W := 0) (rmP0 l Z a0 hw [] x1 h0 n0 Z0 E_x1 F_first_x1) hZ (own_w hw 57 rfl) (own_w hw 3 rfl) (by decide) (by decide)) q1a q1c (g := (mkF m 15 #[rv x1, rv x2, iv (0 : Int32), iv (2 : Int32), .val .null, .unset, .unset, .unset] [(.ref x1)])) rfl (by rw [hml]; rfl) (Steps.refl _) (argsL := []) (rest := []) (lenOf own_pd1 rfl) rfl (by show 2 * 0 + _ ≤ _; exact Nat.le_of_eq rfl) (hb hby d8_15) (fun _ _ => ⟨rfl, e0, (by decide : 0 + 0 ≤ _), (by decide : 0 + 0 ≤ _)⟩)
  dsimp only [Pt.U, Pt.locs, Pt.cells, Pt.slots] at X1 l1 y1 z1 st1 hQ1
  subst l1 y1 z1
  obtain ⟨rfl, Nq1, eh1⟩ := hQ1
  have N1 := Fr.app N0 Nq1
  obtain ⟨_, _, ⟨T2, Lw2, kw2, nw2⟩, -, X2, ⟨Lc2, hQ2, l2, y2, z2⟩, st2⟩ := Jvm.LawKit.callS X1 hx (y := (⟨oz4, "state", oz5⟩ : MethodName)) hown (mvT hZ (own_w hw 27 rfl)) (mvT hZ (own_w hw 28 rfl)) (mvT hZ (own_w hw 29 rfl)) (mvT hZ (own_w hw 30 rfl)) (by decide) (backOf (W := 0) (rmS0 l Z a0 hw [] x1 h0 n0 Z0 E_x1 F_first_x1 F_last_x1) hZ (own_w hw 30 rfl) (own_w hw 29 rfl) (by decide) (by decide)) (g := (mkF m 101 #[rv x1, rv x2, iv (0 : Int32), iv (2 : Int32), .val .null, .val .null, .val .null, .val .null] [.null, .null, (.ref x1)])) rfl (by rw [hml]; rfl) (argsL := [(.ref x1), .null, .null]) (rest := []) (lenOf own_pd5 rfl) rfl (by show 2 * 0 + _ ≤ _; exact Nat.le_of_eq rfl) (hb hby d8_101) (fun _ _ => ⟨rfl, eh1, (by decide : 0 + 0 ≤ _), (by decide : 0 + 0 ≤ _)⟩)
  dsimp only [Pt.U, Pt.locs, Pt.cells, Pt.slots] at X2 l2 y2 z2 st2 hQ2
  subst l2 y2 z2
  obtain ⟨rfl, Nq2, eh2⟩ := hQ2
  have N2 := Fr.app N1 Nq2
  have pre3 : ∀ tz, oS p e below T2 m 104 #[rv x1, rv x2, iv (0 : Int32), iv (2 : Int32), .val .null, .val .null, .val .null, .val .null] [(.int (1 : Int32))] tz → oS p e below s₁ m 0 #[rv x1, rv x2, iv (0 : Int32), iv (2 : Int32), .unset, .unset, .unset, .unset] [] tz := fun tz kt => by
    show oS p e below s₁ m 0 #[rv x1, rv x2, iv (0 : Int32), iv (2 : Int32), .unset, .unset, .unset, .unset] [] _
    refine XS.iloadN X0.here hx rfl (hb hby d8_0) rfl ?_
    refine XS.iloadN X0.here hx rfl (hb hby d8_1) rfl ?_
    refine XS.icmpYes X0.here hx rfl (pc0 := 2) (pc' := 11) rfl (hb hby d8_2) rfl (flt (by decide : ¬ ((2 : Int32) < (0 : Int32)))).2.1 (by decide) (by decide) ?_
    refine XS.aconstNull X0.here hx rfl (hb hby d8_11) ?_
    show oS p e below s₁ m 12 #[rv x1, rv x2, iv (0 : Int32), iv (2 : Int32), .unset, .unset, .unset, .unset] [.null] _
    refine XS.astore X0.here hx rfl (hb hby d8_12) rfl rfl (l' := #[rv x1, rv x2, iv (0 : Int32), iv (2 : Int32), .val .null, .unset, .unset, .unset]) rfl ?_
    refine XS.aloadN X0.here hx rfl (hb hby d8_14) rfl rfl ?_
    show oS p e below s₁ m 15 #[rv x1, rv x2, iv (0 : Int32), iv (2 : Int32), .val .null, .unset, .unset, .unset] [(.ref x1)] _
    refine st1.trans ?_
    refine XS.astore X1.here hx rfl (hb hby d8_18) rfl rfl (l' := #[rv x1, rv x2, iv (0 : Int32), iv (2 : Int32), .val .null, .val .null, .unset, .unset]) rfl ?_
    refine XS.aload X1.here hx rfl (hb hby d8_20) rfl rfl ?_
    refine XS.aload X1.here hx rfl (hb hby d8_22) rfl rfl ?_
    show oS p e below T1 m 24 #[rv x1, rv x2, iv (0 : Int32), iv (2 : Int32), .val .null, .val .null, .unset, .unset] [.null, .null] _
    refine Jvm.RoadKit.acmp (g := (mkF m 24 #[rv x1, rv x2, iv (0 : Int32), iv (2 : Int32), .val .null, .val .null, .unset, .unset] [.null, .null])) X1 hx rfl rfl rfl (pc0 := 24) (pc' := 29) (same := true) rfl (hb hby d8_24) rfl (decide_eq_true rfl) (by decide) (by decide) ?_
    refine XS.aload X1.here hx rfl (hb hby d8_29) rfl rfl ?_
    refine XS.ifnullYes X1.here hx rfl (pc0 := 31) (pc' := 60) rfl (hb hby d8_31) rfl (by decide) (by decide) ?_
    refine XS.iloadN X1.here hx rfl (hb hby d8_60) rfl ?_
    show oS p e below T1 m 61 #[rv x1, rv x2, iv (0 : Int32), iv (2 : Int32), .val .null, .val .null, .unset, .unset] [(.int (2 : Int32))] _
    refine XS.iconst X1.here hx rfl (hb hby d8_61) ?_
    refine XS.iadd X1.here hx rfl (hb hby d8_62) rfl ?_
    show oS p e below T1 m 63 #[rv x1, rv x2, iv (0 : Int32), iv (2 : Int32), .val .null, .val .null, .unset, .unset] [(.int (3 : Int32))] _
    refine XS.iloadN X1.here hx rfl (hb hby d8_63) rfl ?_
    refine XS.icmpYes X1.here hx rfl (pc0 := 64) (pc' := 75) rfl (hb hby d8_64) rfl (flt (by decide : ¬ ((3 : Int32) < (0 : Int32)))).2.1 (by decide) (by decide) ?_
    refine XS.aconstNull X1.here hx rfl (hb hby d8_75) ?_
    refine XS.astore X1.here hx rfl (hb hby d8_76) rfl rfl (l' := #[rv x1, rv x2, iv (0 : Int32), iv (2 : Int32), .val .null, .val .null, .val .null, .unset]) rfl ?_
    show oS p e below T1 m 78 #[rv x1, rv x2, iv (0 : Int32), iv (2 : Int32), .val .null, .val .null, .val .null, .unset] [] _
    refine XS.iloadN X1.here hx rfl (hb hby d8_78) rfl ?_
    refine XS.iconst X1.here hx rfl (hb hby d8_79) ?_
    refine XS.iadd X1.here hx rfl (hb hby d8_80) rfl ?_
    show oS p e below T1 m 81 #[rv x1, rv x2, iv (0 : Int32), iv (2 : Int32), .val .null, .val .null, .val .null, .unset] [(.int (3 : Int32))] _
    refine XS.iloadN X1.here hx rfl (hb hby d8_81) rfl ?_
    refine XS.icmpYes X1.here hx rfl (pc0 := 82) (pc' := 93) rfl (hb hby d8_82) rfl (flt (by decide : ¬ ((3 : Int32) < (0 : Int32)))).2.1 (by decide) (by decide) ?_
    refine XS.aconstNull X1.here hx rfl (hb hby d8_93) ?_
    refine XS.astore X1.here hx rfl (hb hby d8_94) rfl rfl (l' := #[rv x1, rv x2, iv (0 : Int32), iv (2 : Int32), .val .null, .val .null, .val .null, .val .null]) rfl ?_
    show oS p e below T1 m 96 #[rv x1, rv x2, iv (0 : Int32), iv (2 : Int32), .val .null, .val .null, .val .null, .val .null] [] _
    refine XS.aloadN X1.here hx rfl (hb hby d8_96) rfl rfl ?_
    refine XS.aload X1.here hx rfl (hb hby d8_97) rfl rfl ?_
    refine XS.aload X1.here hx rfl (hb hby d8_99) rfl rfl ?_
    show oS p e below T1 m 101 #[rv x1, rv x2, iv (0 : Int32), iv (2 : Int32), .val .null, .val .null, .val .null, .val .null] [.null, .null, (.ref x1)] _
    refine st2 _ ?_
    exact kt
  obtain ⟨fs, hr, hrun, hended, hW, hsame⟩ := X2.leave (v := some (.int (1 : Int32))) (fun h => by rw [Bd.returns] at h; cases h)
  refine ⟨_, _, pre0 _ (pre3 _ ?_), hrun, hended, _, _, rfl, ?_, ⟨_, rfl⟩, hW, hsame.mono (by decide) (by decide)⟩
  · show oS p e below T2 m 104 #[rv x1, rv x2, iv (0 : Int32), iv (2 : Int32), .val .null, .val .null, .val .null, .val .null] [(.int (1 : Int32))] _
    exact retN X2 hx (t := .boolean) Bd.returns (by simp) (hb hby d8_104) hr
  · show QT2_0_2 Z x1 x2 el0 el1 k h0 n0 _ T2.heap _
    rw [eh2]
    exact ⟨rfl, N2, rfl⟩
theorem d8_67 : decode method_3_code 67 = .ok (.aload_n 1, 1) := by decide +kernel
theorem d8_68 : decode method_3_code 68 = .ok (.iload_n 3, 1) := by decide +kernel
theorem d8_69 : decode method_3_code 69 = .ok (.iconst 1, 1) := by decide +kernel
theorem d8_70 : decode method_3_code 70 = .ok (.iadd, 1) := by decide +kernel
theorem d8_71 : decode method_3_code 71 = .ok (.aaload, 1) := by decide +kernel
theorem d8_72 : decode method_3_code 72 = .ok (.goto 4, 3) := by decide +kernel
theorem d8_85 : decode method_3_code 85 = .ok (.aload_n 1, 1) := by decide +kernel
theorem d8_86 : decode method_3_code 86 = .ok (.iload_n 2, 1) := by decide +kernel
theorem d8_87 : decode method_3_code 87 = .ok (.iconst 1, 1) := by decide +kernel
theorem d8_88 : decode method_3_code 88 = .ok (.isub, 1) := by decide +kernel
theorem d8_89 : decode method_3_code 89 = .ok (.aaload, 1) := by decide +kernel
theorem d8_90 : decode method_3_code 90 = .ok (.goto 4, 3) := by decide +kernel
theorem efT3_2_0 (m : MethodId) (x1 : Addr) (x2 : Addr) : entryFrame m #[(.ref x1), (.ref x2), (.int (2 : Int32)), (.int (0 : Int32))] 8 = mkF m 0 #[rv x1, rv x2, iv (2 : Int32), iv (0 : Int32), .unset, .unset, .unset, .unset] [] := by first | (simp [entryFrame, mkF, argsToLocals, Value.category]; done) | rfl
def QT3_2_0 (Z : State) (x1 : Addr) (x2 : Addr) (el0 : Addr) (el1 : Addr) (k : ClassId) (h0 : Heap) (n0 : Nat) (v : Option Value) (h : Heap) (L : List Loc) : Prop := v = some (.int (1 : Int32)) ∧ Fr n0 L ∧ Keep h0 h [x1, el0, el1] ∧ Fld Z h x1 oz1 "first" oz2 (.ref el1) ∧ Fld Z h x1 oz1 "last" oz2 (.ref el1) ∧ Fld Z h el1 oz0 "in" oz6 (.ref x1) ∧ Fld Z h el1 oz0 "before" oz2 .null ∧ Fld Z h el1 oz0 "after" oz2 .null ∧ Fld Z h el0 oz0 "in" oz6 .null ∧ Fld Z h el0 oz0 "before" oz2 .null ∧ Fld Z h el0 oz0 "after" oz2 .null
set_option maxRecDepth 65536 in
set_option maxHeartbeats 40000000 in
theorem rmT3_2_0 (l : Launch) (Z : State) (a0 : Array Value) (hw : ∀ d ∈ tables_1, d.before a0 Z = true) (ws : List Jvm.Cond) (x1 : Addr) (x2 : Addr) (el0 : Addr) (el1 : Addr) (k : ClassId) (h0 : Heap) (n0 : Nat) (Z0 : n0 ≤ h0.size) (E_x1 : Exa Z h0 x1 oz1) (E_el0 : Exa Z h0 el0 oz0) (E_el1 : Exa Z h0 el1 oz0) (g_x1 : n0 ≤ x1) (g_el0 : n0 ≤ el0) (g_el1 : n0 ≤ el1) (ne_el0_el1 : el0 ≠ el1) (F_first_x1 : Fld Z h0 x1 oz1 "first" oz2 (.ref el0)) (F_last_x1 : Fld Z h0 x1 oz1 "last" oz2 (.ref el1)) (F_in_el0 : Fld Z h0 el0 oz0 "in" oz6 (.ref x1)) (F_before_el0 : Fld Z h0 el0 oz0 "before" oz2 .null) (F_after_el0 : Fld Z h0 el0 oz0 "after" oz2 (.ref el1)) (F_in_el1 : Fld Z h0 el1 oz0 "in" oz6 (.ref x1)) (F_before_el1 : Fld Z h0 el1 oz0 "before" oz2 (.ref el0)) (F_after_el1 : Fld Z h0 el1 oz0 "after" oz2 .null) (V_x2 : Arv Z h0 x2 k (.object oz0) (3 : Int32) [(.ref el0), (.ref el1), .null] .null) :
    MetFree l (⟨oz4, "step", oz3⟩ : MethodName) (head1 (Jvm.Cond.code (⟨oz4, "step", oz3⟩ : MethodName) method_3_code 8 (some .boolean) :: ws) ({ frames := 2, cells := 0, slots := 0, locals := 27 } : Room)) (fun a U => a = #[(.ref x1), (.ref x2), (.int (2 : Int32)), (.int (0 : Int32))] ∧ Z.Warmed39 U.vm ∧ U.heap = h0) (fun _ _ _ _ _ => True) (fun _ U oc U' => ∃ v L, oc = .returned v ∧ QT3_2_0 Z x1 x2 el0 el1 k h0 n0 v U'.heap L ∧ FrameEnd U oc U' L ({ frames := 2, cells := 0, slots := 0, locals := 27 } : Room).cells ({ frames := 2, cells := 0, slots := 0, locals := 27 } : Room).slots) := by
  refine MetFree.of_bodySF (plainFor_of_name own_pn2) hisR ?_
  intro p e s m args below meth c s₁ Bd hml0 hP hK
  obtain ⟨rfl, hZ, hh⟩ := hP
  have hx := Bd.exec
  have hby := Bd.bytes
  have hml : c.maxLocals = 8 := hml0
  have hown : s.vm.findClass oz4 = some m.cls := findClass_of_methodNamed Bd.named
  have hnm := (name_of_methodNamed Bd.named Bd.method).1
  have X0 : Stand p l e ({ frames := 2, cells := 0, slots := 0, locals := 27 } : Room) s m #[(.ref x1), (.ref x2), (.int (2 : Int32)), (.int (0 : Int32))] below meth c s₁ [] 0 0 := Stand.of_body Bd
  have e0 : s₁.heap = h0 := by rw [← hh, Bd.state]; rfl
  have N0 := Fr.nil n0
  have pre0 : ∀ t, Steps p.tables e below (s₁.setTop (mkF m 0 #[rv x1, rv x2, iv (2 : Int32), iv (0 : Int32), .unset, .unset, .unset, .unset] [])) t → Steps p.tables e below (s₁.setTop (entryFrame m #[(.ref x1), (.ref x2), (.int (2 : Int32)), (.int (0 : Int32))] 8)) t := fun t k => castTop (efT3_2_0 m x1 x2) k
  obtain ⟨cl1, Ar1, qk1, Sz1, Ng1, Hs1, Gt1⟩ := id V_x2
  have hin1 : ¬ ((0 : Int32) < 0 ∨ cl1.slots.size ≤ ((0 : Int32)).toNatClampNeg) := inb_of Sz1 ⟨by decide, by decide⟩
  have hat1 : cl1.slots[((0 : Int32)).toNatClampNeg]? = some (.ref el0) := Hs1.at hin1 rfl
  obtain ⟨cq2, kq2, q2a, q2b, q2c⟩ := isOf hZ e0 E_x1
  obtain ⟨_, _, ⟨T2, Lw2, kw2, nw2⟩, -, X2, ⟨Lc2, hQ2, l2, y2, z2⟩, st2⟩ := X0.virtualBack hx (y := (⟨oz1, "poll", oz7⟩ : MethodName)) (z := (⟨oz1, "poll", oz7⟩ : MethodName)) hown (mvT hZ (own_w hw 53 rfl)) (mvT hZ (own_w hw 54 rfl)) (notFace_of_selects (args := #[]) (mvT hZ (own_w hw 56 rfl))) (mvT hZ (own_w hw 56 rfl)) (mvT hZ (own_w hw 55 rfl)) (by decide) (backOf (W := 0) (rmP0t l Z a0 hw [] x1 (.ref el1) (.ref x1) (.ref x1) (.ref el0) .null el0 el1 h0 n0 Z0 E_x1 E_el0 E_el1 g_x1 g_el0 g_el1 ne_el0_el1 F_first_x1 F_last_x1 F_in_el0 F_before_el0 F_after_el0 F_in_el1 F_before_el1 F_after_el1) hZ (own_w hw 57 rfl) (own_w hw 3 rfl) (by decide) (by decide)) q2a q2c (g := (mkF m 15 #[rv x1, rv x2, iv (2 : Int32), iv (0 : Int32), rv el0, .unset, .unset, .unset] [(.ref x1)])) rfl (by rw [hml]; rfl) (Steps.refl _) (argsL := []) (rest := []) (lenOf own_pd1 rfl) rfl (by show 2 * 0 + _ ≤ _; exact Nat.le_of_eq rfl) (hb hby d8_15) (fun _ _ => ⟨rfl, e0, (by decide : 0 + 0 ≤ _), (by decide : 0 + 0 ≤ _)⟩)
  dsimp only [Pt.U, Pt.locs, Pt.cells, Pt.slots] at X2 l2 y2 z2 st2 hQ2
  subst l2 y2 z2
  obtain ⟨rfl, Nq2, K2, pf2_0, pf2_1, pf2_2, pf2_3, pf2_4, pf2_5, pf2_6, pf2_7⟩ := hQ2
  have N2 := Fr.app N0 Nq2
  obtain ⟨T3, X3, e3, st3⟩ := getF X2 hx hZ hown (host := "") (Or.inl (own_w hw 74 rfl)) Via.refl rfl pf2_2 (g := (mkF m 36 #[rv x1, rv x2, iv (2 : Int32), iv (0 : Int32), rv el0, rv el0, .unset, .unset] [(.ref el0)])) rfl rfl (hb hby d8_36)
  obtain ⟨T4, X4, e4, st4⟩ := getF X3 hx hZ hown (host := "") (Or.inl (own_w hw 71 rfl)) Via.refl e3 pf2_3 (g := (mkF m 44 #[rv x1, rv x2, iv (2 : Int32), iv (0 : Int32), rv el0, rv el0, .unset, .unset] [(.ref el0)])) rfl rfl (hb hby d8_44)
  obtain ⟨T5, X5, e5, st5⟩ := getF X4 hx hZ hown (host := "") (Or.inl (own_w hw 72 rfl)) Via.refl e4 pf2_4 (g := (mkF m 52 #[rv x1, rv x2, iv (2 : Int32), iv (0 : Int32), rv el0, rv el0, .unset, .unset] [(.ref el0)])) rfl rfl (hb hby d8_52)
  obtain ⟨_, Arn6, -⟩ := id V_x2
  have ne6 : el1 ≠ x2 := ne_arr E_el1 (own_w hw 11 rfl) Arn6
  obtain ⟨_, Arn7, -⟩ := id V_x2
  have ne7 : el0 ≠ x2 := ne_arr E_el0 (own_w hw 11 rfl) Arn7
  obtain ⟨_, Arn8, -⟩ := id V_x2
  have ne8 : x1 ≠ x2 := ne_arr E_x1 (own_w hw 2 rfl) Arn8
  have Vc9 : Arv Z T2.heap x2 k (.object oz0) (3 : Int32) [(.ref el0), (.ref el1), .null] .null := (V_x2.keep K2 (ninS (Ne.symm ne8) (ninS (Ne.symm ne7) (ninS (Ne.symm ne6) nin0))))
  obtain ⟨cl10, Ar10, qk10, Sz10, Ng10, Hs10, Gt10⟩ := id Vc9
  have hin10 : ¬ ((1 : Int32) < 0 ∨ cl10.slots.size ≤ ((1 : Int32)).toNatClampNeg) := inb_of Sz10 ⟨by decide, by decide⟩
  have hat10 : cl10.slots[((1 : Int32)).toNatClampNeg]? = some (.ref el1) := Hs10.at hin10 rfl
  obtain ⟨cl11, Ar11, qk11, Sz11, Ng11, Hs11, Gt11⟩ := id Vc9
  have hin11 : ¬ ((1 : Int32) < 0 ∨ cl11.slots.size ≤ ((1 : Int32)).toNatClampNeg) := inb_of Sz11 ⟨by decide, by decide⟩
  have hat11 : cl11.slots[((1 : Int32)).toNatClampNeg]? = some (.ref el1) := Hs11.at hin11 rfl
  have Ec13 : Exa Z T2.heap x1 oz1 := (E_x1.keep K2)
  have Ec14 : Exa Z T2.heap el1 oz0 := (E_el1.keep K2)
  have Zc15 : n0 ≤ T2.heap.size := (Nat.le_trans Z0 K2.1)
  obtain ⟨_, _, ⟨T12, Lw12, kw12, nw12⟩, -, X12, ⟨Lc12, hQ12, l12, y12, z12⟩, st12⟩ := Jvm.LawKit.callS X5 hx (y := (⟨oz4, "state", oz5⟩ : MethodName)) hown (mvT hZ (own_w hw 27 rfl)) (mvT hZ (own_w hw 28 rfl)) (mvT hZ (own_w hw 29 rfl)) (mvT hZ (own_w hw 30 rfl)) (by decide) (backOf (W := 0) (rmS1 l Z a0 hw [] x1 el1 T2.heap n0 Zc15 Ec13 Ec14 pf2_0 pf2_1 pf2_5 pf2_6 pf2_7) hZ (own_w hw 30 rfl) (own_w hw 29 rfl) (by decide) (by decide)) (g := (mkF m 101 #[rv x1, rv x2, iv (2 : Int32), iv (0 : Int32), rv el0, rv el0, rv el1, rv el1] [(.ref el1), (.ref el1), (.ref x1)])) rfl (by rw [hml]; rfl) (argsL := [(.ref x1), (.ref el1), (.ref el1)]) (rest := []) (lenOf own_pd5 rfl) rfl (by show 2 * 0 + _ ≤ _; exact Nat.le_of_eq rfl) (hb hby d8_101) (fun _ _ => ⟨rfl, e5, (by decide : 0 + 0 ≤ _), (by decide : 0 + 0 ≤ _)⟩)
  dsimp only [Pt.U, Pt.locs, Pt.cells, Pt.slots] at X12 l12 y12 z12 st12 hQ12
  subst l12 y12 z12
  obtain ⟨rfl, Nq12, eh12⟩ := hQ12
  have N12 := Fr.app N2 Nq12
  have pre16 : ∀ tz, oS p e below T12 m 104 #[rv x1, rv x2, iv (2 : Int32), iv (0 : Int32), rv el0, rv el0, rv el1, rv el1] [(.int (1 : Int32))] tz → oS p e below s₁ m 0 #[rv x1, rv x2, iv (2 : Int32), iv (0 : Int32), .unset, .unset, .unset, .unset] [] tz := fun tz kt => by
    show oS p e below s₁ m 0 #[rv x1, rv x2, iv (2 : Int32), iv (0 : Int32), .unset, .unset, .unset, .unset] [] _
    refine XS.iloadN X0.here hx rfl (hb hby d8_0) rfl ?_
    refine XS.iloadN X0.here hx rfl (hb hby d8_1) rfl ?_
    refine XS.icmpNo X0.here hx rfl (hb hby d8_2) rfl (tlt (by decide : ((0 : Int32) < (2 : Int32)))).2.1 ?_
    refine XS.aloadN X0.here hx rfl (hb hby d8_5) rfl rfl ?_
    show oS p e below s₁ m 6 #[rv x1, rv x2, iv (2 : Int32), iv (0 : Int32), .unset, .unset, .unset, .unset] [(.ref x2)] _
    refine XS.iloadN X0.here hx rfl (hb hby d8_6) rfl ?_
    refine X0.aaload hx (j := (0 : Int32)) (v := (.ref el0)) (by rw [e0]; exact Ar1.1) (State.isArrayOf_alike hZ.alike Ar1.2.1) rfl Ar1.2.2 hin1 hat1 (g := (mkF m 7 #[rv x1, rv x2, iv (2 : Int32), iv (0 : Int32), .unset, .unset, .unset, .unset] [(.int (0 : Int32)), (.ref x2)])) rfl rfl (hb hby d8_7) _ ?_
    refine XS.goto X0.here hx rfl (pc0 := 8) (pc' := 12) rfl (hb hby d8_8) (by decide) (by decide) ?_
    refine XS.astore X0.here hx rfl (hb hby d8_12) rfl rfl (l' := #[rv x1, rv x2, iv (2 : Int32), iv (0 : Int32), rv el0, .unset, .unset, .unset]) rfl ?_
    show oS p e below s₁ m 14 #[rv x1, rv x2, iv (2 : Int32), iv (0 : Int32), rv el0, .unset, .unset, .unset] [] _
    refine XS.aloadN X0.here hx rfl (hb hby d8_14) rfl rfl ?_
    show oS p e below s₁ m 15 #[rv x1, rv x2, iv (2 : Int32), iv (0 : Int32), rv el0, .unset, .unset, .unset] [(.ref x1)] _
    refine st2.trans ?_
    refine XS.astore X2.here hx rfl (hb hby d8_18) rfl rfl (l' := #[rv x1, rv x2, iv (2 : Int32), iv (0 : Int32), rv el0, rv el0, .unset, .unset]) rfl ?_
    refine XS.aload X2.here hx rfl (hb hby d8_20) rfl rfl ?_
    refine XS.aload X2.here hx rfl (hb hby d8_22) rfl rfl ?_
    show oS p e below T2 m 24 #[rv x1, rv x2, iv (2 : Int32), iv (0 : Int32), rv el0, rv el0, .unset, .unset] [(.ref el0), (.ref el0)] _
    refine Jvm.RoadKit.acmp (g := (mkF m 24 #[rv x1, rv x2, iv (2 : Int32), iv (0 : Int32), rv el0, rv el0, .unset, .unset] [(.ref el0), (.ref el0)])) X2 hx rfl rfl rfl (pc0 := 24) (pc' := 29) (same := true) rfl (hb hby d8_24) rfl (decide_eq_true rfl) (by decide) (by decide) ?_
    refine XS.aload X2.here hx rfl (hb hby d8_29) rfl rfl ?_
    refine XS.ifnullNo X2.here hx rfl (hb hby d8_31) rfl ?_
    refine XS.aload X2.here hx rfl (hb hby d8_34) rfl rfl ?_
    show oS p e below T2 m 36 #[rv x1, rv x2, iv (2 : Int32), iv (0 : Int32), rv el0, rv el0, .unset, .unset] [(.ref el0)] _
    refine st3 _ ?_
    refine XS.ifnonnullNo X3.here hx rfl (hb hby d8_39) rfl ?_
    refine XS.aload X3.here hx rfl (hb hby d8_42) rfl rfl ?_
    show oS p e below T3 m 44 #[rv x1, rv x2, iv (2 : Int32), iv (0 : Int32), rv el0, rv el0, .unset, .unset] [(.ref el0)] _
    refine st4 _ ?_
    refine XS.ifnonnullNo X4.here hx rfl (hb hby d8_47) rfl ?_
    refine XS.aload X4.here hx rfl (hb hby d8_50) rfl rfl ?_
    show oS p e below T4 m 52 #[rv x1, rv x2, iv (2 : Int32), iv (0 : Int32), rv el0, rv el0, .unset, .unset] [(.ref el0)] _
    refine st5 _ ?_
    refine XS.ifnullYes X5.here hx rfl (pc0 := 55) (pc' := 60) rfl (hb hby d8_55) rfl (by decide) (by decide) ?_
    refine XS.iloadN X5.here hx rfl (hb hby d8_60) rfl ?_
    refine XS.iconst X5.here hx rfl (hb hby d8_61) ?_
    show oS p e below T5 m 62 #[rv x1, rv x2, iv (2 : Int32), iv (0 : Int32), rv el0, rv el0, .unset, .unset] [(.int (1 : Int32)), (.int (0 : Int32))] _
    refine XS.iadd X5.here hx rfl (hb hby d8_62) rfl ?_
    show oS p e below T5 m 63 #[rv x1, rv x2, iv (2 : Int32), iv (0 : Int32), rv el0, rv el0, .unset, .unset] [(.int (1 : Int32))] _
    refine XS.iloadN X5.here hx rfl (hb hby d8_63) rfl ?_
    refine XS.icmpNo X5.here hx rfl (hb hby d8_64) rfl (tlt (by decide : ((1 : Int32) < (2 : Int32)))).2.1 ?_
    refine XS.aloadN X5.here hx rfl (hb hby d8_67) rfl rfl ?_
    refine XS.iloadN X5.here hx rfl (hb hby d8_68) rfl ?_
    show oS p e below T5 m 69 #[rv x1, rv x2, iv (2 : Int32), iv (0 : Int32), rv el0, rv el0, .unset, .unset] [(.int (0 : Int32)), (.ref x2)] _
    refine XS.iconst X5.here hx rfl (hb hby d8_69) ?_
    refine XS.iadd X5.here hx rfl (hb hby d8_70) rfl ?_
    show oS p e below T5 m 71 #[rv x1, rv x2, iv (2 : Int32), iv (0 : Int32), rv el0, rv el0, .unset, .unset] [(.int (1 : Int32)), (.ref x2)] _
    refine X5.aaload hx (j := (1 : Int32)) (v := (.ref el1)) (by rw [e5]; exact Ar10.1) (State.isArrayOf_alike hZ.alike Ar10.2.1) rfl Ar10.2.2 hin10 hat10 (g := (mkF m 71 #[rv x1, rv x2, iv (2 : Int32), iv (0 : Int32), rv el0, rv el0, .unset, .unset] [(.int (1 : Int32)), (.ref x2)])) rfl rfl (hb hby d8_71) _ ?_
    refine XS.goto X5.here hx rfl (pc0 := 72) (pc' := 76) rfl (hb hby d8_72) (by decide) (by decide) ?_
    refine XS.astore X5.here hx rfl (hb hby d8_76) rfl rfl (l' := #[rv x1, rv x2, iv (2 : Int32), iv (0 : Int32), rv el0, rv el0, rv el1, .unset]) rfl ?_
    refine XS.iloadN X5.here hx rfl (hb hby d8_78) rfl ?_
    show oS p e below T5 m 79 #[rv x1, rv x2, iv (2 : Int32), iv (0 : Int32), rv el0, rv el0, rv el1, .unset] [(.int (0 : Int32))] _
    refine XS.iconst X5.here hx rfl (hb hby d8_79) ?_
    refine XS.iadd X5.here hx rfl (hb hby d8_80) rfl ?_
    show oS p e below T5 m 81 #[rv x1, rv x2, iv (2 : Int32), iv (0 : Int32), rv el0, rv el0, rv el1, .unset] [(.int (1 : Int32))] _
    refine XS.iloadN X5.here hx rfl (hb hby d8_81) rfl ?_
    refine XS.icmpNo X5.here hx rfl (hb hby d8_82) rfl (tlt (by decide : ((1 : Int32) < (2 : Int32)))).2.1 ?_
    refine XS.aloadN X5.here hx rfl (hb hby d8_85) rfl rfl ?_
    refine XS.iloadN X5.here hx rfl (hb hby d8_86) rfl ?_
    show oS p e below T5 m 87 #[rv x1, rv x2, iv (2 : Int32), iv (0 : Int32), rv el0, rv el0, rv el1, .unset] [(.int (2 : Int32)), (.ref x2)] _
    refine XS.iconst X5.here hx rfl (hb hby d8_87) ?_
    refine XS.isub X5.here hx rfl (hb hby d8_88) rfl ?_
    show oS p e below T5 m 89 #[rv x1, rv x2, iv (2 : Int32), iv (0 : Int32), rv el0, rv el0, rv el1, .unset] [(.int (1 : Int32)), (.ref x2)] _
    refine X5.aaload hx (j := (1 : Int32)) (v := (.ref el1)) (by rw [e5]; exact Ar11.1) (State.isArrayOf_alike hZ.alike Ar11.2.1) rfl Ar11.2.2 hin11 hat11 (g := (mkF m 89 #[rv x1, rv x2, iv (2 : Int32), iv (0 : Int32), rv el0, rv el0, rv el1, .unset] [(.int (1 : Int32)), (.ref x2)])) rfl rfl (hb hby d8_89) _ ?_
    refine XS.goto X5.here hx rfl (pc0 := 90) (pc' := 94) rfl (hb hby d8_90) (by decide) (by decide) ?_
    refine XS.astore X5.here hx rfl (hb hby d8_94) rfl rfl (l' := #[rv x1, rv x2, iv (2 : Int32), iv (0 : Int32), rv el0, rv el0, rv el1, rv el1]) rfl ?_
    refine XS.aloadN X5.here hx rfl (hb hby d8_96) rfl rfl ?_
    show oS p e below T5 m 97 #[rv x1, rv x2, iv (2 : Int32), iv (0 : Int32), rv el0, rv el0, rv el1, rv el1] [(.ref x1)] _
    refine XS.aload X5.here hx rfl (hb hby d8_97) rfl rfl ?_
    refine XS.aload X5.here hx rfl (hb hby d8_99) rfl rfl ?_
    show oS p e below T5 m 101 #[rv x1, rv x2, iv (2 : Int32), iv (0 : Int32), rv el0, rv el0, rv el1, rv el1] [(.ref el1), (.ref el1), (.ref x1)] _
    refine st12 _ ?_
    exact kt
  have KP17 : Keep h0 T2.heap [x1, el0, el1] := ((Keep.refl h0 [x1, el0, el1]).trans K2 (allS (Or.inl (List.mem_of_getElem? (i := 0) rfl)) (allS (Or.inl (List.mem_of_getElem? (i := 1) rfl)) (allS (Or.inl (List.mem_of_getElem? (i := 2) rfl)) all0))))
  obtain ⟨fs, hr, hrun, hended, hW, hsame⟩ := X12.leave (v := some (.int (1 : Int32))) (fun h => by rw [Bd.returns] at h; cases h)
  refine ⟨_, _, pre0 _ (pre16 _ ?_), hrun, hended, _, _, rfl, ?_, ⟨_, rfl⟩, hW, hsame.mono (by decide) (by decide)⟩
  · show oS p e below T12 m 104 #[rv x1, rv x2, iv (2 : Int32), iv (0 : Int32), rv el0, rv el0, rv el1, rv el1] [(.int (1 : Int32))] _
    exact retN X12 hx (t := .boolean) Bd.returns (by simp) (hb hby d8_104) hr
  · show QT3_2_0 Z x1 x2 el0 el1 k h0 n0 _ T12.heap _
    rw [eh12]
    exact ⟨rfl, N12, KP17, pf2_0, pf2_1, pf2_5, pf2_6, pf2_7, pf2_2, pf2_3, pf2_4⟩
theorem efT3_2_1 (m : MethodId) (x1 : Addr) (x2 : Addr) : entryFrame m #[(.ref x1), (.ref x2), (.int (2 : Int32)), (.int (1 : Int32))] 8 = mkF m 0 #[rv x1, rv x2, iv (2 : Int32), iv (1 : Int32), .unset, .unset, .unset, .unset] [] := by first | (simp [entryFrame, mkF, argsToLocals, Value.category]; done) | rfl
def QT3_2_1 (Z : State) (x1 : Addr) (x2 : Addr) (el0 : Addr) (el1 : Addr) (k : ClassId) (h0 : Heap) (n0 : Nat) (v : Option Value) (h : Heap) (L : List Loc) : Prop := v = some (.int (1 : Int32)) ∧ Fr n0 L ∧ Keep h0 h [x1, el1] ∧ Fld Z h x1 oz1 "first" oz2 .null ∧ Fld Z h x1 oz1 "last" oz2 .null ∧ Fld Z h el1 oz0 "in" oz6 .null ∧ Fld Z h el1 oz0 "before" oz2 .null ∧ Fld Z h el1 oz0 "after" oz2 .null
set_option maxRecDepth 65536 in
set_option maxHeartbeats 40000000 in
theorem rmT3_2_1 (l : Launch) (Z : State) (a0 : Array Value) (hw : ∀ d ∈ tables_1, d.before a0 Z = true) (ws : List Jvm.Cond) (x1 : Addr) (x2 : Addr) (el0 : Addr) (el1 : Addr) (k : ClassId) (h0 : Heap) (n0 : Nat) (Z0 : n0 ≤ h0.size) (E_x1 : Exa Z h0 x1 oz1) (E_el1 : Exa Z h0 el1 oz0) (g_x1 : n0 ≤ x1) (g_el1 : n0 ≤ el1) (F_first_x1 : Fld Z h0 x1 oz1 "first" oz2 (.ref el1)) (F_last_x1 : Fld Z h0 x1 oz1 "last" oz2 (.ref el1)) (F_in_el1 : Fld Z h0 el1 oz0 "in" oz6 (.ref x1)) (F_before_el1 : Fld Z h0 el1 oz0 "before" oz2 .null) (F_after_el1 : Fld Z h0 el1 oz0 "after" oz2 .null) (V_x2 : Arv Z h0 x2 k (.object oz0) (3 : Int32) [(.ref el0), (.ref el1), .null] .null) :
    MetFree l (⟨oz4, "step", oz3⟩ : MethodName) (head1 (Jvm.Cond.code (⟨oz4, "step", oz3⟩ : MethodName) method_3_code 8 (some .boolean) :: ws) ({ frames := 2, cells := 0, slots := 0, locals := 27 } : Room)) (fun a U => a = #[(.ref x1), (.ref x2), (.int (2 : Int32)), (.int (1 : Int32))] ∧ Z.Warmed39 U.vm ∧ U.heap = h0) (fun _ _ _ _ _ => True) (fun _ U oc U' => ∃ v L, oc = .returned v ∧ QT3_2_1 Z x1 x2 el0 el1 k h0 n0 v U'.heap L ∧ FrameEnd U oc U' L ({ frames := 2, cells := 0, slots := 0, locals := 27 } : Room).cells ({ frames := 2, cells := 0, slots := 0, locals := 27 } : Room).slots) := by
  refine MetFree.of_bodySF (plainFor_of_name own_pn2) hisR ?_
  intro p e s m args below meth c s₁ Bd hml0 hP hK
  obtain ⟨rfl, hZ, hh⟩ := hP
  have hx := Bd.exec
  have hby := Bd.bytes
  have hml : c.maxLocals = 8 := hml0
  have hown : s.vm.findClass oz4 = some m.cls := findClass_of_methodNamed Bd.named
  have hnm := (name_of_methodNamed Bd.named Bd.method).1
  have X0 : Stand p l e ({ frames := 2, cells := 0, slots := 0, locals := 27 } : Room) s m #[(.ref x1), (.ref x2), (.int (2 : Int32)), (.int (1 : Int32))] below meth c s₁ [] 0 0 := Stand.of_body Bd
  have e0 : s₁.heap = h0 := by rw [← hh, Bd.state]; rfl
  have N0 := Fr.nil n0
  have pre0 : ∀ t, Steps p.tables e below (s₁.setTop (mkF m 0 #[rv x1, rv x2, iv (2 : Int32), iv (1 : Int32), .unset, .unset, .unset, .unset] [])) t → Steps p.tables e below (s₁.setTop (entryFrame m #[(.ref x1), (.ref x2), (.int (2 : Int32)), (.int (1 : Int32))] 8)) t := fun t k => castTop (efT3_2_1 m x1 x2) k
  obtain ⟨cl1, Ar1, qk1, Sz1, Ng1, Hs1, Gt1⟩ := id V_x2
  have hin1 : ¬ ((1 : Int32) < 0 ∨ cl1.slots.size ≤ ((1 : Int32)).toNatClampNeg) := inb_of Sz1 ⟨by decide, by decide⟩
  have hat1 : cl1.slots[((1 : Int32)).toNatClampNeg]? = some (.ref el1) := Hs1.at hin1 rfl
  obtain ⟨cq2, kq2, q2a, q2b, q2c⟩ := isOf hZ e0 E_x1
  obtain ⟨_, _, ⟨T2, Lw2, kw2, nw2⟩, -, X2, ⟨Lc2, hQ2, l2, y2, z2⟩, st2⟩ := X0.virtualBack hx (y := (⟨oz1, "poll", oz7⟩ : MethodName)) (z := (⟨oz1, "poll", oz7⟩ : MethodName)) hown (mvT hZ (own_w hw 53 rfl)) (mvT hZ (own_w hw 54 rfl)) (notFace_of_selects (args := #[]) (mvT hZ (own_w hw 56 rfl))) (mvT hZ (own_w hw 56 rfl)) (mvT hZ (own_w hw 55 rfl)) (by decide) (backOf (W := 0) (rmP00 l Z a0 hw [] x1 (.ref el1) (.ref x1) el1 h0 n0 Z0 E_x1 E_el1 g_x1 g_el1 F_first_x1 F_last_x1 F_in_el1 F_before_el1 F_after_el1) hZ (own_w hw 57 rfl) (own_w hw 3 rfl) (by decide) (by decide)) q2a q2c (g := (mkF m 15 #[rv x1, rv x2, iv (2 : Int32), iv (1 : Int32), rv el1, .unset, .unset, .unset] [(.ref x1)])) rfl (by rw [hml]; rfl) (Steps.refl _) (argsL := []) (rest := []) (lenOf own_pd1 rfl) rfl (by show 2 * 0 + _ ≤ _; exact Nat.le_of_eq rfl) (hb hby d8_15) (fun _ _ => ⟨rfl, e0, (by decide : 0 + 0 ≤ _), (by decide : 0 + 0 ≤ _)⟩)
  dsimp only [Pt.U, Pt.locs, Pt.cells, Pt.slots] at X2 l2 y2 z2 st2 hQ2
  subst l2 y2 z2
  obtain ⟨rfl, Nq2, K2, pf2_0, pf2_1, pf2_2, pf2_3, pf2_4⟩ := hQ2
  have N2 := Fr.app N0 Nq2
  obtain ⟨T3, X3, e3, st3⟩ := getF X2 hx hZ hown (host := "") (Or.inl (own_w hw 74 rfl)) Via.refl rfl pf2_2 (g := (mkF m 36 #[rv x1, rv x2, iv (2 : Int32), iv (1 : Int32), rv el1, rv el1, .unset, .unset] [(.ref el1)])) rfl rfl (hb hby d8_36)
  obtain ⟨T4, X4, e4, st4⟩ := getF X3 hx hZ hown (host := "") (Or.inl (own_w hw 71 rfl)) Via.refl e3 pf2_3 (g := (mkF m 44 #[rv x1, rv x2, iv (2 : Int32), iv (1 : Int32), rv el1, rv el1, .unset, .unset] [(.ref el1)])) rfl rfl (hb hby d8_44)
  obtain ⟨T5, X5, e5, st5⟩ := getF X4 hx hZ hown (host := "") (Or.inl (own_w hw 72 rfl)) Via.refl e4 pf2_4 (g := (mkF m 52 #[rv x1, rv x2, iv (2 : Int32), iv (1 : Int32), rv el1, rv el1, .unset, .unset] [(.ref el1)])) rfl rfl (hb hby d8_52)
  have Ec7 : Exa Z T2.heap x1 oz1 := (E_x1.keep K2)
  have Zc8 : n0 ≤ T2.heap.size := (Nat.le_trans Z0 K2.1)
  obtain ⟨_, _, ⟨T6, Lw6, kw6, nw6⟩, -, X6, ⟨Lc6, hQ6, l6, y6, z6⟩, st6⟩ := Jvm.LawKit.callS X5 hx (y := (⟨oz4, "state", oz5⟩ : MethodName)) hown (mvT hZ (own_w hw 27 rfl)) (mvT hZ (own_w hw 28 rfl)) (mvT hZ (own_w hw 29 rfl)) (mvT hZ (own_w hw 30 rfl)) (by decide) (backOf (W := 0) (rmS0 l Z a0 hw [] x1 T2.heap n0 Zc8 Ec7 pf2_0 pf2_1) hZ (own_w hw 30 rfl) (own_w hw 29 rfl) (by decide) (by decide)) (g := (mkF m 101 #[rv x1, rv x2, iv (2 : Int32), iv (1 : Int32), rv el1, rv el1, .val .null, .val .null] [.null, .null, (.ref x1)])) rfl (by rw [hml]; rfl) (argsL := [(.ref x1), .null, .null]) (rest := []) (lenOf own_pd5 rfl) rfl (by show 2 * 0 + _ ≤ _; exact Nat.le_of_eq rfl) (hb hby d8_101) (fun _ _ => ⟨rfl, e5, (by decide : 0 + 0 ≤ _), (by decide : 0 + 0 ≤ _)⟩)
  dsimp only [Pt.U, Pt.locs, Pt.cells, Pt.slots] at X6 l6 y6 z6 st6 hQ6
  subst l6 y6 z6
  obtain ⟨rfl, Nq6, eh6⟩ := hQ6
  have N6 := Fr.app N2 Nq6
  have pre9 : ∀ tz, oS p e below T6 m 104 #[rv x1, rv x2, iv (2 : Int32), iv (1 : Int32), rv el1, rv el1, .val .null, .val .null] [(.int (1 : Int32))] tz → oS p e below s₁ m 0 #[rv x1, rv x2, iv (2 : Int32), iv (1 : Int32), .unset, .unset, .unset, .unset] [] tz := fun tz kt => by
    show oS p e below s₁ m 0 #[rv x1, rv x2, iv (2 : Int32), iv (1 : Int32), .unset, .unset, .unset, .unset] [] _
    refine XS.iloadN X0.here hx rfl (hb hby d8_0) rfl ?_
    refine XS.iloadN X0.here hx rfl (hb hby d8_1) rfl ?_
    refine XS.icmpNo X0.here hx rfl (hb hby d8_2) rfl (tlt (by decide : ((1 : Int32) < (2 : Int32)))).2.1 ?_
    refine XS.aloadN X0.here hx rfl (hb hby d8_5) rfl rfl ?_
    show oS p e below s₁ m 6 #[rv x1, rv x2, iv (2 : Int32), iv (1 : Int32), .unset, .unset, .unset, .unset] [(.ref x2)] _
    refine XS.iloadN X0.here hx rfl (hb hby d8_6) rfl ?_
    refine X0.aaload hx (j := (1 : Int32)) (v := (.ref el1)) (by rw [e0]; exact Ar1.1) (State.isArrayOf_alike hZ.alike Ar1.2.1) rfl Ar1.2.2 hin1 hat1 (g := (mkF m 7 #[rv x1, rv x2, iv (2 : Int32), iv (1 : Int32), .unset, .unset, .unset, .unset] [(.int (1 : Int32)), (.ref x2)])) rfl rfl (hb hby d8_7) _ ?_
    refine XS.goto X0.here hx rfl (pc0 := 8) (pc' := 12) rfl (hb hby d8_8) (by decide) (by decide) ?_
    refine XS.astore X0.here hx rfl (hb hby d8_12) rfl rfl (l' := #[rv x1, rv x2, iv (2 : Int32), iv (1 : Int32), rv el1, .unset, .unset, .unset]) rfl ?_
    show oS p e below s₁ m 14 #[rv x1, rv x2, iv (2 : Int32), iv (1 : Int32), rv el1, .unset, .unset, .unset] [] _
    refine XS.aloadN X0.here hx rfl (hb hby d8_14) rfl rfl ?_
    show oS p e below s₁ m 15 #[rv x1, rv x2, iv (2 : Int32), iv (1 : Int32), rv el1, .unset, .unset, .unset] [(.ref x1)] _
    refine st2.trans ?_
    refine XS.astore X2.here hx rfl (hb hby d8_18) rfl rfl (l' := #[rv x1, rv x2, iv (2 : Int32), iv (1 : Int32), rv el1, rv el1, .unset, .unset]) rfl ?_
    refine XS.aload X2.here hx rfl (hb hby d8_20) rfl rfl ?_
    refine XS.aload X2.here hx rfl (hb hby d8_22) rfl rfl ?_
    show oS p e below T2 m 24 #[rv x1, rv x2, iv (2 : Int32), iv (1 : Int32), rv el1, rv el1, .unset, .unset] [(.ref el1), (.ref el1)] _
    refine Jvm.RoadKit.acmp (g := (mkF m 24 #[rv x1, rv x2, iv (2 : Int32), iv (1 : Int32), rv el1, rv el1, .unset, .unset] [(.ref el1), (.ref el1)])) X2 hx rfl rfl rfl (pc0 := 24) (pc' := 29) (same := true) rfl (hb hby d8_24) rfl (decide_eq_true rfl) (by decide) (by decide) ?_
    refine XS.aload X2.here hx rfl (hb hby d8_29) rfl rfl ?_
    refine XS.ifnullNo X2.here hx rfl (hb hby d8_31) rfl ?_
    refine XS.aload X2.here hx rfl (hb hby d8_34) rfl rfl ?_
    show oS p e below T2 m 36 #[rv x1, rv x2, iv (2 : Int32), iv (1 : Int32), rv el1, rv el1, .unset, .unset] [(.ref el1)] _
    refine st3 _ ?_
    refine XS.ifnonnullNo X3.here hx rfl (hb hby d8_39) rfl ?_
    refine XS.aload X3.here hx rfl (hb hby d8_42) rfl rfl ?_
    show oS p e below T3 m 44 #[rv x1, rv x2, iv (2 : Int32), iv (1 : Int32), rv el1, rv el1, .unset, .unset] [(.ref el1)] _
    refine st4 _ ?_
    refine XS.ifnonnullNo X4.here hx rfl (hb hby d8_47) rfl ?_
    refine XS.aload X4.here hx rfl (hb hby d8_50) rfl rfl ?_
    show oS p e below T4 m 52 #[rv x1, rv x2, iv (2 : Int32), iv (1 : Int32), rv el1, rv el1, .unset, .unset] [(.ref el1)] _
    refine st5 _ ?_
    refine XS.ifnullYes X5.here hx rfl (pc0 := 55) (pc' := 60) rfl (hb hby d8_55) rfl (by decide) (by decide) ?_
    refine XS.iloadN X5.here hx rfl (hb hby d8_60) rfl ?_
    refine XS.iconst X5.here hx rfl (hb hby d8_61) ?_
    show oS p e below T5 m 62 #[rv x1, rv x2, iv (2 : Int32), iv (1 : Int32), rv el1, rv el1, .unset, .unset] [(.int (1 : Int32)), (.int (1 : Int32))] _
    refine XS.iadd X5.here hx rfl (hb hby d8_62) rfl ?_
    show oS p e below T5 m 63 #[rv x1, rv x2, iv (2 : Int32), iv (1 : Int32), rv el1, rv el1, .unset, .unset] [(.int (2 : Int32))] _
    refine XS.iloadN X5.here hx rfl (hb hby d8_63) rfl ?_
    refine XS.icmpYes X5.here hx rfl (pc0 := 64) (pc' := 75) rfl (hb hby d8_64) rfl (flt (by decide : ¬ ((2 : Int32) < (2 : Int32)))).2.1 (by decide) (by decide) ?_
    refine XS.aconstNull X5.here hx rfl (hb hby d8_75) ?_
    refine XS.astore X5.here hx rfl (hb hby d8_76) rfl rfl (l' := #[rv x1, rv x2, iv (2 : Int32), iv (1 : Int32), rv el1, rv el1, .val .null, .unset]) rfl ?_
    show oS p e below T5 m 78 #[rv x1, rv x2, iv (2 : Int32), iv (1 : Int32), rv el1, rv el1, .val .null, .unset] [] _
    refine XS.iloadN X5.here hx rfl (hb hby d8_78) rfl ?_
    refine XS.iconst X5.here hx rfl (hb hby d8_79) ?_
    refine XS.iadd X5.here hx rfl (hb hby d8_80) rfl ?_
    show oS p e below T5 m 81 #[rv x1, rv x2, iv (2 : Int32), iv (1 : Int32), rv el1, rv el1, .val .null, .unset] [(.int (2 : Int32))] _
    refine XS.iloadN X5.here hx rfl (hb hby d8_81) rfl ?_
    refine XS.icmpYes X5.here hx rfl (pc0 := 82) (pc' := 93) rfl (hb hby d8_82) rfl (flt (by decide : ¬ ((2 : Int32) < (2 : Int32)))).2.1 (by decide) (by decide) ?_
    refine XS.aconstNull X5.here hx rfl (hb hby d8_93) ?_
    refine XS.astore X5.here hx rfl (hb hby d8_94) rfl rfl (l' := #[rv x1, rv x2, iv (2 : Int32), iv (1 : Int32), rv el1, rv el1, .val .null, .val .null]) rfl ?_
    show oS p e below T5 m 96 #[rv x1, rv x2, iv (2 : Int32), iv (1 : Int32), rv el1, rv el1, .val .null, .val .null] [] _
    refine XS.aloadN X5.here hx rfl (hb hby d8_96) rfl rfl ?_
    refine XS.aload X5.here hx rfl (hb hby d8_97) rfl rfl ?_
    refine XS.aload X5.here hx rfl (hb hby d8_99) rfl rfl ?_
    show oS p e below T5 m 101 #[rv x1, rv x2, iv (2 : Int32), iv (1 : Int32), rv el1, rv el1, .val .null, .val .null] [.null, .null, (.ref x1)] _
    refine st6 _ ?_
    exact kt
  have KP10 : Keep h0 T2.heap [x1, el1] := ((Keep.refl h0 [x1, el1]).trans K2 (allS (Or.inl (List.mem_of_getElem? (i := 0) rfl)) (allS (Or.inl (List.mem_of_getElem? (i := 1) rfl)) all0)))
  obtain ⟨fs, hr, hrun, hended, hW, hsame⟩ := X6.leave (v := some (.int (1 : Int32))) (fun h => by rw [Bd.returns] at h; cases h)
  refine ⟨_, _, pre0 _ (pre9 _ ?_), hrun, hended, _, _, rfl, ?_, ⟨_, rfl⟩, hW, hsame.mono (by decide) (by decide)⟩
  · show oS p e below T6 m 104 #[rv x1, rv x2, iv (2 : Int32), iv (1 : Int32), rv el1, rv el1, .val .null, .val .null] [(.int (1 : Int32))] _
    exact retN X6 hx (t := .boolean) Bd.returns (by simp) (hb hby d8_104) hr
  · show QT3_2_1 Z x1 x2 el0 el1 k h0 n0 _ T6.heap _
    rw [eh6]
    exact ⟨rfl, N6, KP10, pf2_0, pf2_1, pf2_2, pf2_3, pf2_4⟩
theorem efT3_2_2 (m : MethodId) (x1 : Addr) (x2 : Addr) : entryFrame m #[(.ref x1), (.ref x2), (.int (2 : Int32)), (.int (2 : Int32))] 8 = mkF m 0 #[rv x1, rv x2, iv (2 : Int32), iv (2 : Int32), .unset, .unset, .unset, .unset] [] := by first | (simp [entryFrame, mkF, argsToLocals, Value.category]; done) | rfl
def QT3_2_2 (Z : State) (x1 : Addr) (x2 : Addr) (el0 : Addr) (el1 : Addr) (k : ClassId) (h0 : Heap) (n0 : Nat) (v : Option Value) (h : Heap) (L : List Loc) : Prop := v = some (.int (1 : Int32)) ∧ Fr n0 L ∧ h = h0
set_option maxRecDepth 65536 in
set_option maxHeartbeats 40000000 in
theorem rmT3_2_2 (l : Launch) (Z : State) (a0 : Array Value) (hw : ∀ d ∈ tables_1, d.before a0 Z = true) (ws : List Jvm.Cond) (x1 : Addr) (x2 : Addr) (el0 : Addr) (el1 : Addr) (k : ClassId) (h0 : Heap) (n0 : Nat) (Z0 : n0 ≤ h0.size) (E_x1 : Exa Z h0 x1 oz1) (F_first_x1 : Fld Z h0 x1 oz1 "first" oz2 .null) (F_last_x1 : Fld Z h0 x1 oz1 "last" oz2 .null) (V_x2 : Arv Z h0 x2 k (.object oz0) (3 : Int32) [(.ref el0), (.ref el1), .null] .null) :
    MetFree l (⟨oz4, "step", oz3⟩ : MethodName) (head1 (Jvm.Cond.code (⟨oz4, "step", oz3⟩ : MethodName) method_3_code 8 (some .boolean) :: ws) ({ frames := 2, cells := 0, slots := 0, locals := 27 } : Room)) (fun a U => a = #[(.ref x1), (.ref x2), (.int (2 : Int32)), (.int (2 : Int32))] ∧ Z.Warmed39 U.vm ∧ U.heap = h0) (fun _ _ _ _ _ => True) (fun _ U oc U' => ∃ v L, oc = .returned v ∧ QT3_2_2 Z x1 x2 el0 el1 k h0 n0 v U'.heap L ∧ FrameEnd U oc U' L ({ frames := 2, cells := 0, slots := 0, locals := 27 } : Room).cells ({ frames := 2, cells := 0, slots := 0, locals := 27 } : Room).slots) := by
  refine MetFree.of_bodySF (plainFor_of_name own_pn2) hisR ?_
  intro p e s m args below meth c s₁ Bd hml0 hP hK
  obtain ⟨rfl, hZ, hh⟩ := hP
  have hx := Bd.exec
  have hby := Bd.bytes
  have hml : c.maxLocals = 8 := hml0
  have hown : s.vm.findClass oz4 = some m.cls := findClass_of_methodNamed Bd.named
  have hnm := (name_of_methodNamed Bd.named Bd.method).1
  have X0 : Stand p l e ({ frames := 2, cells := 0, slots := 0, locals := 27 } : Room) s m #[(.ref x1), (.ref x2), (.int (2 : Int32)), (.int (2 : Int32))] below meth c s₁ [] 0 0 := Stand.of_body Bd
  have e0 : s₁.heap = h0 := by rw [← hh, Bd.state]; rfl
  have N0 := Fr.nil n0
  have pre0 : ∀ t, Steps p.tables e below (s₁.setTop (mkF m 0 #[rv x1, rv x2, iv (2 : Int32), iv (2 : Int32), .unset, .unset, .unset, .unset] [])) t → Steps p.tables e below (s₁.setTop (entryFrame m #[(.ref x1), (.ref x2), (.int (2 : Int32)), (.int (2 : Int32))] 8)) t := fun t k => castTop (efT3_2_2 m x1 x2) k
  obtain ⟨cq1, kq1, q1a, q1b, q1c⟩ := isOf hZ e0 E_x1
  obtain ⟨_, _, ⟨T1, Lw1, kw1, nw1⟩, -, X1, ⟨Lc1, hQ1, l1, y1, z1⟩, st1⟩ := X0.virtualBack hx (y := (⟨oz1, "poll", oz7⟩ : MethodName)) (z := (⟨oz1, "poll", oz7⟩ : MethodName)) hown (mvT hZ (own_w hw 53 rfl)) (mvT hZ (own_w hw 54 rfl)) (notFace_of_selects (args := #[]) (mvT hZ (own_w hw 56 rfl))) (mvT hZ (own_w hw 56 rfl)) (mvT hZ (own_w hw 55 rfl)) (by decide) (backOf (W := 0) (rmP0 l Z a0 hw [] x1 h0 n0 Z0 E_x1 F_first_x1) hZ (own_w hw 57 rfl) (own_w hw 3 rfl) (by decide) (by decide)) q1a q1c (g := (mkF m 15 #[rv x1, rv x2, iv (2 : Int32), iv (2 : Int32), .val .null, .unset, .unset, .unset] [(.ref x1)])) rfl (by rw [hml]; rfl) (Steps.refl _) (argsL := []) (rest := []) (lenOf own_pd1 rfl) rfl (by show 2 * 0 + _ ≤ _; exact Nat.le_of_eq rfl) (hb hby d8_15) (fun _ _ => ⟨rfl, e0, (by decide : 0 + 0 ≤ _), (by decide : 0 + 0 ≤ _)⟩)
  dsimp only [Pt.U, Pt.locs, Pt.cells, Pt.slots] at X1 l1 y1 z1 st1 hQ1
  subst l1 y1 z1
  obtain ⟨rfl, Nq1, eh1⟩ := hQ1
  have N1 := Fr.app N0 Nq1
  obtain ⟨_, _, ⟨T2, Lw2, kw2, nw2⟩, -, X2, ⟨Lc2, hQ2, l2, y2, z2⟩, st2⟩ := Jvm.LawKit.callS X1 hx (y := (⟨oz4, "state", oz5⟩ : MethodName)) hown (mvT hZ (own_w hw 27 rfl)) (mvT hZ (own_w hw 28 rfl)) (mvT hZ (own_w hw 29 rfl)) (mvT hZ (own_w hw 30 rfl)) (by decide) (backOf (W := 0) (rmS0 l Z a0 hw [] x1 h0 n0 Z0 E_x1 F_first_x1 F_last_x1) hZ (own_w hw 30 rfl) (own_w hw 29 rfl) (by decide) (by decide)) (g := (mkF m 101 #[rv x1, rv x2, iv (2 : Int32), iv (2 : Int32), .val .null, .val .null, .val .null, .val .null] [.null, .null, (.ref x1)])) rfl (by rw [hml]; rfl) (argsL := [(.ref x1), .null, .null]) (rest := []) (lenOf own_pd5 rfl) rfl (by show 2 * 0 + _ ≤ _; exact Nat.le_of_eq rfl) (hb hby d8_101) (fun _ _ => ⟨rfl, eh1, (by decide : 0 + 0 ≤ _), (by decide : 0 + 0 ≤ _)⟩)
  dsimp only [Pt.U, Pt.locs, Pt.cells, Pt.slots] at X2 l2 y2 z2 st2 hQ2
  subst l2 y2 z2
  obtain ⟨rfl, Nq2, eh2⟩ := hQ2
  have N2 := Fr.app N1 Nq2
  have pre3 : ∀ tz, oS p e below T2 m 104 #[rv x1, rv x2, iv (2 : Int32), iv (2 : Int32), .val .null, .val .null, .val .null, .val .null] [(.int (1 : Int32))] tz → oS p e below s₁ m 0 #[rv x1, rv x2, iv (2 : Int32), iv (2 : Int32), .unset, .unset, .unset, .unset] [] tz := fun tz kt => by
    show oS p e below s₁ m 0 #[rv x1, rv x2, iv (2 : Int32), iv (2 : Int32), .unset, .unset, .unset, .unset] [] _
    refine XS.iloadN X0.here hx rfl (hb hby d8_0) rfl ?_
    refine XS.iloadN X0.here hx rfl (hb hby d8_1) rfl ?_
    refine XS.icmpYes X0.here hx rfl (pc0 := 2) (pc' := 11) rfl (hb hby d8_2) rfl (flt (by decide : ¬ ((2 : Int32) < (2 : Int32)))).2.1 (by decide) (by decide) ?_
    refine XS.aconstNull X0.here hx rfl (hb hby d8_11) ?_
    show oS p e below s₁ m 12 #[rv x1, rv x2, iv (2 : Int32), iv (2 : Int32), .unset, .unset, .unset, .unset] [.null] _
    refine XS.astore X0.here hx rfl (hb hby d8_12) rfl rfl (l' := #[rv x1, rv x2, iv (2 : Int32), iv (2 : Int32), .val .null, .unset, .unset, .unset]) rfl ?_
    refine XS.aloadN X0.here hx rfl (hb hby d8_14) rfl rfl ?_
    show oS p e below s₁ m 15 #[rv x1, rv x2, iv (2 : Int32), iv (2 : Int32), .val .null, .unset, .unset, .unset] [(.ref x1)] _
    refine st1.trans ?_
    refine XS.astore X1.here hx rfl (hb hby d8_18) rfl rfl (l' := #[rv x1, rv x2, iv (2 : Int32), iv (2 : Int32), .val .null, .val .null, .unset, .unset]) rfl ?_
    refine XS.aload X1.here hx rfl (hb hby d8_20) rfl rfl ?_
    refine XS.aload X1.here hx rfl (hb hby d8_22) rfl rfl ?_
    show oS p e below T1 m 24 #[rv x1, rv x2, iv (2 : Int32), iv (2 : Int32), .val .null, .val .null, .unset, .unset] [.null, .null] _
    refine Jvm.RoadKit.acmp (g := (mkF m 24 #[rv x1, rv x2, iv (2 : Int32), iv (2 : Int32), .val .null, .val .null, .unset, .unset] [.null, .null])) X1 hx rfl rfl rfl (pc0 := 24) (pc' := 29) (same := true) rfl (hb hby d8_24) rfl (decide_eq_true rfl) (by decide) (by decide) ?_
    refine XS.aload X1.here hx rfl (hb hby d8_29) rfl rfl ?_
    refine XS.ifnullYes X1.here hx rfl (pc0 := 31) (pc' := 60) rfl (hb hby d8_31) rfl (by decide) (by decide) ?_
    refine XS.iloadN X1.here hx rfl (hb hby d8_60) rfl ?_
    show oS p e below T1 m 61 #[rv x1, rv x2, iv (2 : Int32), iv (2 : Int32), .val .null, .val .null, .unset, .unset] [(.int (2 : Int32))] _
    refine XS.iconst X1.here hx rfl (hb hby d8_61) ?_
    refine XS.iadd X1.here hx rfl (hb hby d8_62) rfl ?_
    show oS p e below T1 m 63 #[rv x1, rv x2, iv (2 : Int32), iv (2 : Int32), .val .null, .val .null, .unset, .unset] [(.int (3 : Int32))] _
    refine XS.iloadN X1.here hx rfl (hb hby d8_63) rfl ?_
    refine XS.icmpYes X1.here hx rfl (pc0 := 64) (pc' := 75) rfl (hb hby d8_64) rfl (flt (by decide : ¬ ((3 : Int32) < (2 : Int32)))).2.1 (by decide) (by decide) ?_
    refine XS.aconstNull X1.here hx rfl (hb hby d8_75) ?_
    refine XS.astore X1.here hx rfl (hb hby d8_76) rfl rfl (l' := #[rv x1, rv x2, iv (2 : Int32), iv (2 : Int32), .val .null, .val .null, .val .null, .unset]) rfl ?_
    show oS p e below T1 m 78 #[rv x1, rv x2, iv (2 : Int32), iv (2 : Int32), .val .null, .val .null, .val .null, .unset] [] _
    refine XS.iloadN X1.here hx rfl (hb hby d8_78) rfl ?_
    refine XS.iconst X1.here hx rfl (hb hby d8_79) ?_
    refine XS.iadd X1.here hx rfl (hb hby d8_80) rfl ?_
    show oS p e below T1 m 81 #[rv x1, rv x2, iv (2 : Int32), iv (2 : Int32), .val .null, .val .null, .val .null, .unset] [(.int (3 : Int32))] _
    refine XS.iloadN X1.here hx rfl (hb hby d8_81) rfl ?_
    refine XS.icmpYes X1.here hx rfl (pc0 := 82) (pc' := 93) rfl (hb hby d8_82) rfl (flt (by decide : ¬ ((3 : Int32) < (2 : Int32)))).2.1 (by decide) (by decide) ?_
    refine XS.aconstNull X1.here hx rfl (hb hby d8_93) ?_
    refine XS.astore X1.here hx rfl (hb hby d8_94) rfl rfl (l' := #[rv x1, rv x2, iv (2 : Int32), iv (2 : Int32), .val .null, .val .null, .val .null, .val .null]) rfl ?_
    show oS p e below T1 m 96 #[rv x1, rv x2, iv (2 : Int32), iv (2 : Int32), .val .null, .val .null, .val .null, .val .null] [] _
    refine XS.aloadN X1.here hx rfl (hb hby d8_96) rfl rfl ?_
    refine XS.aload X1.here hx rfl (hb hby d8_97) rfl rfl ?_
    refine XS.aload X1.here hx rfl (hb hby d8_99) rfl rfl ?_
    show oS p e below T1 m 101 #[rv x1, rv x2, iv (2 : Int32), iv (2 : Int32), .val .null, .val .null, .val .null, .val .null] [.null, .null, (.ref x1)] _
    refine st2 _ ?_
    exact kt
  obtain ⟨fs, hr, hrun, hended, hW, hsame⟩ := X2.leave (v := some (.int (1 : Int32))) (fun h => by rw [Bd.returns] at h; cases h)
  refine ⟨_, _, pre0 _ (pre3 _ ?_), hrun, hended, _, _, rfl, ?_, ⟨_, rfl⟩, hW, hsame.mono (by decide) (by decide)⟩
  · show oS p e below T2 m 104 #[rv x1, rv x2, iv (2 : Int32), iv (2 : Int32), .val .null, .val .null, .val .null, .val .null] [(.int (1 : Int32))] _
    exact retN X2 hx (t := .boolean) Bd.returns (by simp) (hb hby d8_104) hr
  · show QT3_2_2 Z x1 x2 el0 el1 k h0 n0 _ T2.heap _
    rw [eh2]
    exact ⟨rfl, N2, rfl⟩
theorem efT2_1_0 (m : MethodId) (x1 : Addr) (x2 : Addr) : entryFrame m #[(.ref x1), (.ref x2), (.int (1 : Int32)), (.int (0 : Int32))] 8 = mkF m 0 #[rv x1, rv x2, iv (1 : Int32), iv (0 : Int32), .unset, .unset, .unset, .unset] [] := by first | (simp [entryFrame, mkF, argsToLocals, Value.category]; done) | rfl
def QT2_1_0 (Z : State) (x1 : Addr) (x2 : Addr) (el0 : Addr) (el1 : Addr) (k : ClassId) (h0 : Heap) (n0 : Nat) (v : Option Value) (h : Heap) (L : List Loc) : Prop := v = some (.int (1 : Int32)) ∧ Fr n0 L ∧ Keep h0 h [x1, el0] ∧ Fld Z h x1 oz1 "first" oz2 .null ∧ Fld Z h x1 oz1 "last" oz2 .null ∧ Fld Z h el0 oz0 "in" oz6 .null ∧ Fld Z h el0 oz0 "before" oz2 .null ∧ Fld Z h el0 oz0 "after" oz2 .null
set_option maxRecDepth 65536 in
set_option maxHeartbeats 40000000 in
theorem rmT2_1_0 (l : Launch) (Z : State) (a0 : Array Value) (hw : ∀ d ∈ tables_1, d.before a0 Z = true) (ws : List Jvm.Cond) (x1 : Addr) (x2 : Addr) (el0 : Addr) (el1 : Addr) (k : ClassId) (h0 : Heap) (n0 : Nat) (Z0 : n0 ≤ h0.size) (E_x1 : Exa Z h0 x1 oz1) (E_el0 : Exa Z h0 el0 oz0) (g_x1 : n0 ≤ x1) (g_el0 : n0 ≤ el0) (F_first_x1 : Fld Z h0 x1 oz1 "first" oz2 (.ref el0)) (F_last_x1 : Fld Z h0 x1 oz1 "last" oz2 (.ref el0)) (F_in_el0 : Fld Z h0 el0 oz0 "in" oz6 (.ref x1)) (F_before_el0 : Fld Z h0 el0 oz0 "before" oz2 .null) (F_after_el0 : Fld Z h0 el0 oz0 "after" oz2 .null) (V_x2 : Arv Z h0 x2 k (.object oz0) (2 : Int32) [(.ref el0), (.ref el1)] .null) :
    MetFree l (⟨oz4, "step", oz3⟩ : MethodName) (head1 (Jvm.Cond.code (⟨oz4, "step", oz3⟩ : MethodName) method_3_code 8 (some .boolean) :: ws) ({ frames := 2, cells := 0, slots := 0, locals := 27 } : Room)) (fun a U => a = #[(.ref x1), (.ref x2), (.int (1 : Int32)), (.int (0 : Int32))] ∧ Z.Warmed39 U.vm ∧ U.heap = h0) (fun _ _ _ _ _ => True) (fun _ U oc U' => ∃ v L, oc = .returned v ∧ QT2_1_0 Z x1 x2 el0 el1 k h0 n0 v U'.heap L ∧ FrameEnd U oc U' L ({ frames := 2, cells := 0, slots := 0, locals := 27 } : Room).cells ({ frames := 2, cells := 0, slots := 0, locals := 27 } : Room).slots) := by
  refine MetFree.of_bodySF (plainFor_of_name own_pn2) hisR ?_
  intro p e s m args below meth c s₁ Bd hml0 hP hK
  obtain ⟨rfl, hZ, hh⟩ := hP
  have hx := Bd.exec
  have hby := Bd.bytes
  have hml : c.maxLocals = 8 := hml0
  have hown : s.vm.findClass oz4 = some m.cls := findClass_of_methodNamed Bd.named
  have hnm := (name_of_methodNamed Bd.named Bd.method).1
  have X0 : Stand p l e ({ frames := 2, cells := 0, slots := 0, locals := 27 } : Room) s m #[(.ref x1), (.ref x2), (.int (1 : Int32)), (.int (0 : Int32))] below meth c s₁ [] 0 0 := Stand.of_body Bd
  have e0 : s₁.heap = h0 := by rw [← hh, Bd.state]; rfl
  have N0 := Fr.nil n0
  have pre0 : ∀ t, Steps p.tables e below (s₁.setTop (mkF m 0 #[rv x1, rv x2, iv (1 : Int32), iv (0 : Int32), .unset, .unset, .unset, .unset] [])) t → Steps p.tables e below (s₁.setTop (entryFrame m #[(.ref x1), (.ref x2), (.int (1 : Int32)), (.int (0 : Int32))] 8)) t := fun t k => castTop (efT2_1_0 m x1 x2) k
  obtain ⟨cl1, Ar1, qk1, Sz1, Ng1, Hs1, Gt1⟩ := id V_x2
  have hin1 : ¬ ((0 : Int32) < 0 ∨ cl1.slots.size ≤ ((0 : Int32)).toNatClampNeg) := inb_of Sz1 ⟨by decide, by decide⟩
  have hat1 : cl1.slots[((0 : Int32)).toNatClampNeg]? = some (.ref el0) := Hs1.at hin1 rfl
  obtain ⟨cq2, kq2, q2a, q2b, q2c⟩ := isOf hZ e0 E_x1
  obtain ⟨_, _, ⟨T2, Lw2, kw2, nw2⟩, -, X2, ⟨Lc2, hQ2, l2, y2, z2⟩, st2⟩ := X0.virtualBack hx (y := (⟨oz1, "poll", oz7⟩ : MethodName)) (z := (⟨oz1, "poll", oz7⟩ : MethodName)) hown (mvT hZ (own_w hw 53 rfl)) (mvT hZ (own_w hw 54 rfl)) (notFace_of_selects (args := #[]) (mvT hZ (own_w hw 56 rfl))) (mvT hZ (own_w hw 56 rfl)) (mvT hZ (own_w hw 55 rfl)) (by decide) (backOf (W := 0) (rmP00 l Z a0 hw [] x1 (.ref el0) (.ref x1) el0 h0 n0 Z0 E_x1 E_el0 g_x1 g_el0 F_first_x1 F_last_x1 F_in_el0 F_before_el0 F_after_el0) hZ (own_w hw 57 rfl) (own_w hw 3 rfl) (by decide) (by decide)) q2a q2c (g := (mkF m 15 #[rv x1, rv x2, iv (1 : Int32), iv (0 : Int32), rv el0, .unset, .unset, .unset] [(.ref x1)])) rfl (by rw [hml]; rfl) (Steps.refl _) (argsL := []) (rest := []) (lenOf own_pd1 rfl) rfl (by show 2 * 0 + _ ≤ _; exact Nat.le_of_eq rfl) (hb hby d8_15) (fun _ _ => ⟨rfl, e0, (by decide : 0 + 0 ≤ _), (by decide : 0 + 0 ≤ _)⟩)
  dsimp only [Pt.U, Pt.locs, Pt.cells, Pt.slots] at X2 l2 y2 z2 st2 hQ2
  subst l2 y2 z2
  obtain ⟨rfl, Nq2, K2, pf2_0, pf2_1, pf2_2, pf2_3, pf2_4⟩ := hQ2
  have N2 := Fr.app N0 Nq2
  obtain ⟨T3, X3, e3, st3⟩ := getF X2 hx hZ hown (host := "") (Or.inl (own_w hw 74 rfl)) Via.refl rfl pf2_2 (g := (mkF m 36 #[rv x1, rv x2, iv (1 : Int32), iv (0 : Int32), rv el0, rv el0, .unset, .unset] [(.ref el0)])) rfl rfl (hb hby d8_36)
  obtain ⟨T4, X4, e4, st4⟩ := getF X3 hx hZ hown (host := "") (Or.inl (own_w hw 71 rfl)) Via.refl e3 pf2_3 (g := (mkF m 44 #[rv x1, rv x2, iv (1 : Int32), iv (0 : Int32), rv el0, rv el0, .unset, .unset] [(.ref el0)])) rfl rfl (hb hby d8_44)
  obtain ⟨T5, X5, e5, st5⟩ := getF X4 hx hZ hown (host := "") (Or.inl (own_w hw 72 rfl)) Via.refl e4 pf2_4 (g := (mkF m 52 #[rv x1, rv x2, iv (1 : Int32), iv (0 : Int32), rv el0, rv el0, .unset, .unset] [(.ref el0)])) rfl rfl (hb hby d8_52)
  have Ec7 : Exa Z T2.heap x1 oz1 := (E_x1.keep K2)
  have Zc8 : n0 ≤ T2.heap.size := (Nat.le_trans Z0 K2.1)
  obtain ⟨_, _, ⟨T6, Lw6, kw6, nw6⟩, -, X6, ⟨Lc6, hQ6, l6, y6, z6⟩, st6⟩ := Jvm.LawKit.callS X5 hx (y := (⟨oz4, "state", oz5⟩ : MethodName)) hown (mvT hZ (own_w hw 27 rfl)) (mvT hZ (own_w hw 28 rfl)) (mvT hZ (own_w hw 29 rfl)) (mvT hZ (own_w hw 30 rfl)) (by decide) (backOf (W := 0) (rmS0 l Z a0 hw [] x1 T2.heap n0 Zc8 Ec7 pf2_0 pf2_1) hZ (own_w hw 30 rfl) (own_w hw 29 rfl) (by decide) (by decide)) (g := (mkF m 101 #[rv x1, rv x2, iv (1 : Int32), iv (0 : Int32), rv el0, rv el0, .val .null, .val .null] [.null, .null, (.ref x1)])) rfl (by rw [hml]; rfl) (argsL := [(.ref x1), .null, .null]) (rest := []) (lenOf own_pd5 rfl) rfl (by show 2 * 0 + _ ≤ _; exact Nat.le_of_eq rfl) (hb hby d8_101) (fun _ _ => ⟨rfl, e5, (by decide : 0 + 0 ≤ _), (by decide : 0 + 0 ≤ _)⟩)
  dsimp only [Pt.U, Pt.locs, Pt.cells, Pt.slots] at X6 l6 y6 z6 st6 hQ6
  subst l6 y6 z6
  obtain ⟨rfl, Nq6, eh6⟩ := hQ6
  have N6 := Fr.app N2 Nq6
  have pre9 : ∀ tz, oS p e below T6 m 104 #[rv x1, rv x2, iv (1 : Int32), iv (0 : Int32), rv el0, rv el0, .val .null, .val .null] [(.int (1 : Int32))] tz → oS p e below s₁ m 0 #[rv x1, rv x2, iv (1 : Int32), iv (0 : Int32), .unset, .unset, .unset, .unset] [] tz := fun tz kt => by
    show oS p e below s₁ m 0 #[rv x1, rv x2, iv (1 : Int32), iv (0 : Int32), .unset, .unset, .unset, .unset] [] _
    refine XS.iloadN X0.here hx rfl (hb hby d8_0) rfl ?_
    refine XS.iloadN X0.here hx rfl (hb hby d8_1) rfl ?_
    refine XS.icmpNo X0.here hx rfl (hb hby d8_2) rfl (tlt (by decide : ((0 : Int32) < (1 : Int32)))).2.1 ?_
    refine XS.aloadN X0.here hx rfl (hb hby d8_5) rfl rfl ?_
    show oS p e below s₁ m 6 #[rv x1, rv x2, iv (1 : Int32), iv (0 : Int32), .unset, .unset, .unset, .unset] [(.ref x2)] _
    refine XS.iloadN X0.here hx rfl (hb hby d8_6) rfl ?_
    refine X0.aaload hx (j := (0 : Int32)) (v := (.ref el0)) (by rw [e0]; exact Ar1.1) (State.isArrayOf_alike hZ.alike Ar1.2.1) rfl Ar1.2.2 hin1 hat1 (g := (mkF m 7 #[rv x1, rv x2, iv (1 : Int32), iv (0 : Int32), .unset, .unset, .unset, .unset] [(.int (0 : Int32)), (.ref x2)])) rfl rfl (hb hby d8_7) _ ?_
    refine XS.goto X0.here hx rfl (pc0 := 8) (pc' := 12) rfl (hb hby d8_8) (by decide) (by decide) ?_
    refine XS.astore X0.here hx rfl (hb hby d8_12) rfl rfl (l' := #[rv x1, rv x2, iv (1 : Int32), iv (0 : Int32), rv el0, .unset, .unset, .unset]) rfl ?_
    show oS p e below s₁ m 14 #[rv x1, rv x2, iv (1 : Int32), iv (0 : Int32), rv el0, .unset, .unset, .unset] [] _
    refine XS.aloadN X0.here hx rfl (hb hby d8_14) rfl rfl ?_
    show oS p e below s₁ m 15 #[rv x1, rv x2, iv (1 : Int32), iv (0 : Int32), rv el0, .unset, .unset, .unset] [(.ref x1)] _
    refine st2.trans ?_
    refine XS.astore X2.here hx rfl (hb hby d8_18) rfl rfl (l' := #[rv x1, rv x2, iv (1 : Int32), iv (0 : Int32), rv el0, rv el0, .unset, .unset]) rfl ?_
    refine XS.aload X2.here hx rfl (hb hby d8_20) rfl rfl ?_
    refine XS.aload X2.here hx rfl (hb hby d8_22) rfl rfl ?_
    show oS p e below T2 m 24 #[rv x1, rv x2, iv (1 : Int32), iv (0 : Int32), rv el0, rv el0, .unset, .unset] [(.ref el0), (.ref el0)] _
    refine Jvm.RoadKit.acmp (g := (mkF m 24 #[rv x1, rv x2, iv (1 : Int32), iv (0 : Int32), rv el0, rv el0, .unset, .unset] [(.ref el0), (.ref el0)])) X2 hx rfl rfl rfl (pc0 := 24) (pc' := 29) (same := true) rfl (hb hby d8_24) rfl (decide_eq_true rfl) (by decide) (by decide) ?_
    refine XS.aload X2.here hx rfl (hb hby d8_29) rfl rfl ?_
    refine XS.ifnullNo X2.here hx rfl (hb hby d8_31) rfl ?_
    refine XS.aload X2.here hx rfl (hb hby d8_34) rfl rfl ?_
    show oS p e below T2 m 36 #[rv x1, rv x2, iv (1 : Int32), iv (0 : Int32), rv el0, rv el0, .unset, .unset] [(.ref el0)] _
    refine st3 _ ?_
    refine XS.ifnonnullNo X3.here hx rfl (hb hby d8_39) rfl ?_
    refine XS.aload X3.here hx rfl (hb hby d8_42) rfl rfl ?_
    show oS p e below T3 m 44 #[rv x1, rv x2, iv (1 : Int32), iv (0 : Int32), rv el0, rv el0, .unset, .unset] [(.ref el0)] _
    refine st4 _ ?_
    refine XS.ifnonnullNo X4.here hx rfl (hb hby d8_47) rfl ?_
    refine XS.aload X4.here hx rfl (hb hby d8_50) rfl rfl ?_
    show oS p e below T4 m 52 #[rv x1, rv x2, iv (1 : Int32), iv (0 : Int32), rv el0, rv el0, .unset, .unset] [(.ref el0)] _
    refine st5 _ ?_
    refine XS.ifnullYes X5.here hx rfl (pc0 := 55) (pc' := 60) rfl (hb hby d8_55) rfl (by decide) (by decide) ?_
    refine XS.iloadN X5.here hx rfl (hb hby d8_60) rfl ?_
    refine XS.iconst X5.here hx rfl (hb hby d8_61) ?_
    show oS p e below T5 m 62 #[rv x1, rv x2, iv (1 : Int32), iv (0 : Int32), rv el0, rv el0, .unset, .unset] [(.int (1 : Int32)), (.int (0 : Int32))] _
    refine XS.iadd X5.here hx rfl (hb hby d8_62) rfl ?_
    show oS p e below T5 m 63 #[rv x1, rv x2, iv (1 : Int32), iv (0 : Int32), rv el0, rv el0, .unset, .unset] [(.int (1 : Int32))] _
    refine XS.iloadN X5.here hx rfl (hb hby d8_63) rfl ?_
    refine XS.icmpYes X5.here hx rfl (pc0 := 64) (pc' := 75) rfl (hb hby d8_64) rfl (flt (by decide : ¬ ((1 : Int32) < (1 : Int32)))).2.1 (by decide) (by decide) ?_
    refine XS.aconstNull X5.here hx rfl (hb hby d8_75) ?_
    refine XS.astore X5.here hx rfl (hb hby d8_76) rfl rfl (l' := #[rv x1, rv x2, iv (1 : Int32), iv (0 : Int32), rv el0, rv el0, .val .null, .unset]) rfl ?_
    show oS p e below T5 m 78 #[rv x1, rv x2, iv (1 : Int32), iv (0 : Int32), rv el0, rv el0, .val .null, .unset] [] _
    refine XS.iloadN X5.here hx rfl (hb hby d8_78) rfl ?_
    refine XS.iconst X5.here hx rfl (hb hby d8_79) ?_
    refine XS.iadd X5.here hx rfl (hb hby d8_80) rfl ?_
    show oS p e below T5 m 81 #[rv x1, rv x2, iv (1 : Int32), iv (0 : Int32), rv el0, rv el0, .val .null, .unset] [(.int (1 : Int32))] _
    refine XS.iloadN X5.here hx rfl (hb hby d8_81) rfl ?_
    refine XS.icmpYes X5.here hx rfl (pc0 := 82) (pc' := 93) rfl (hb hby d8_82) rfl (flt (by decide : ¬ ((1 : Int32) < (1 : Int32)))).2.1 (by decide) (by decide) ?_
    refine XS.aconstNull X5.here hx rfl (hb hby d8_93) ?_
    refine XS.astore X5.here hx rfl (hb hby d8_94) rfl rfl (l' := #[rv x1, rv x2, iv (1 : Int32), iv (0 : Int32), rv el0, rv el0, .val .null, .val .null]) rfl ?_
    show oS p e below T5 m 96 #[rv x1, rv x2, iv (1 : Int32), iv (0 : Int32), rv el0, rv el0, .val .null, .val .null] [] _
    refine XS.aloadN X5.here hx rfl (hb hby d8_96) rfl rfl ?_
    refine XS.aload X5.here hx rfl (hb hby d8_97) rfl rfl ?_
    refine XS.aload X5.here hx rfl (hb hby d8_99) rfl rfl ?_
    show oS p e below T5 m 101 #[rv x1, rv x2, iv (1 : Int32), iv (0 : Int32), rv el0, rv el0, .val .null, .val .null] [.null, .null, (.ref x1)] _
    refine st6 _ ?_
    exact kt
  have KP10 : Keep h0 T2.heap [x1, el0] := ((Keep.refl h0 [x1, el0]).trans K2 (allS (Or.inl (List.mem_of_getElem? (i := 0) rfl)) (allS (Or.inl (List.mem_of_getElem? (i := 1) rfl)) all0)))
  obtain ⟨fs, hr, hrun, hended, hW, hsame⟩ := X6.leave (v := some (.int (1 : Int32))) (fun h => by rw [Bd.returns] at h; cases h)
  refine ⟨_, _, pre0 _ (pre9 _ ?_), hrun, hended, _, _, rfl, ?_, ⟨_, rfl⟩, hW, hsame.mono (by decide) (by decide)⟩
  · show oS p e below T6 m 104 #[rv x1, rv x2, iv (1 : Int32), iv (0 : Int32), rv el0, rv el0, .val .null, .val .null] [(.int (1 : Int32))] _
    exact retN X6 hx (t := .boolean) Bd.returns (by simp) (hb hby d8_104) hr
  · show QT2_1_0 Z x1 x2 el0 el1 k h0 n0 _ T6.heap _
    rw [eh6]
    exact ⟨rfl, N6, KP10, pf2_0, pf2_1, pf2_2, pf2_3, pf2_4⟩
theorem efT2_1_1 (m : MethodId) (x1 : Addr) (x2 : Addr) : entryFrame m #[(.ref x1), (.ref x2), (.int (1 : Int32)), (.int (1 : Int32))] 8 = mkF m 0 #[rv x1, rv x2, iv (1 : Int32), iv (1 : Int32), .unset, .unset, .unset, .unset] [] := by first | (simp [entryFrame, mkF, argsToLocals, Value.category]; done) | rfl
def QT2_1_1 (Z : State) (x1 : Addr) (x2 : Addr) (el0 : Addr) (el1 : Addr) (k : ClassId) (h0 : Heap) (n0 : Nat) (v : Option Value) (h : Heap) (L : List Loc) : Prop := v = some (.int (1 : Int32)) ∧ Fr n0 L ∧ h = h0
set_option maxRecDepth 65536 in
set_option maxHeartbeats 40000000 in
theorem rmT2_1_1 (l : Launch) (Z : State) (a0 : Array Value) (hw : ∀ d ∈ tables_1, d.before a0 Z = true) (ws : List Jvm.Cond) (x1 : Addr) (x2 : Addr) (el0 : Addr) (el1 : Addr) (k : ClassId) (h0 : Heap) (n0 : Nat) (Z0 : n0 ≤ h0.size) (E_x1 : Exa Z h0 x1 oz1) (F_first_x1 : Fld Z h0 x1 oz1 "first" oz2 .null) (F_last_x1 : Fld Z h0 x1 oz1 "last" oz2 .null) (V_x2 : Arv Z h0 x2 k (.object oz0) (2 : Int32) [(.ref el0), (.ref el1)] .null) :
    MetFree l (⟨oz4, "step", oz3⟩ : MethodName) (head1 (Jvm.Cond.code (⟨oz4, "step", oz3⟩ : MethodName) method_3_code 8 (some .boolean) :: ws) ({ frames := 2, cells := 0, slots := 0, locals := 27 } : Room)) (fun a U => a = #[(.ref x1), (.ref x2), (.int (1 : Int32)), (.int (1 : Int32))] ∧ Z.Warmed39 U.vm ∧ U.heap = h0) (fun _ _ _ _ _ => True) (fun _ U oc U' => ∃ v L, oc = .returned v ∧ QT2_1_1 Z x1 x2 el0 el1 k h0 n0 v U'.heap L ∧ FrameEnd U oc U' L ({ frames := 2, cells := 0, slots := 0, locals := 27 } : Room).cells ({ frames := 2, cells := 0, slots := 0, locals := 27 } : Room).slots) := by
  refine MetFree.of_bodySF (plainFor_of_name own_pn2) hisR ?_
  intro p e s m args below meth c s₁ Bd hml0 hP hK
  obtain ⟨rfl, hZ, hh⟩ := hP
  have hx := Bd.exec
  have hby := Bd.bytes
  have hml : c.maxLocals = 8 := hml0
  have hown : s.vm.findClass oz4 = some m.cls := findClass_of_methodNamed Bd.named
  have hnm := (name_of_methodNamed Bd.named Bd.method).1
  have X0 : Stand p l e ({ frames := 2, cells := 0, slots := 0, locals := 27 } : Room) s m #[(.ref x1), (.ref x2), (.int (1 : Int32)), (.int (1 : Int32))] below meth c s₁ [] 0 0 := Stand.of_body Bd
  have e0 : s₁.heap = h0 := by rw [← hh, Bd.state]; rfl
  have N0 := Fr.nil n0
  have pre0 : ∀ t, Steps p.tables e below (s₁.setTop (mkF m 0 #[rv x1, rv x2, iv (1 : Int32), iv (1 : Int32), .unset, .unset, .unset, .unset] [])) t → Steps p.tables e below (s₁.setTop (entryFrame m #[(.ref x1), (.ref x2), (.int (1 : Int32)), (.int (1 : Int32))] 8)) t := fun t k => castTop (efT2_1_1 m x1 x2) k
  obtain ⟨cq1, kq1, q1a, q1b, q1c⟩ := isOf hZ e0 E_x1
  obtain ⟨_, _, ⟨T1, Lw1, kw1, nw1⟩, -, X1, ⟨Lc1, hQ1, l1, y1, z1⟩, st1⟩ := X0.virtualBack hx (y := (⟨oz1, "poll", oz7⟩ : MethodName)) (z := (⟨oz1, "poll", oz7⟩ : MethodName)) hown (mvT hZ (own_w hw 53 rfl)) (mvT hZ (own_w hw 54 rfl)) (notFace_of_selects (args := #[]) (mvT hZ (own_w hw 56 rfl))) (mvT hZ (own_w hw 56 rfl)) (mvT hZ (own_w hw 55 rfl)) (by decide) (backOf (W := 0) (rmP0 l Z a0 hw [] x1 h0 n0 Z0 E_x1 F_first_x1) hZ (own_w hw 57 rfl) (own_w hw 3 rfl) (by decide) (by decide)) q1a q1c (g := (mkF m 15 #[rv x1, rv x2, iv (1 : Int32), iv (1 : Int32), .val .null, .unset, .unset, .unset] [(.ref x1)])) rfl (by rw [hml]; rfl) (Steps.refl _) (argsL := []) (rest := []) (lenOf own_pd1 rfl) rfl (by show 2 * 0 + _ ≤ _; exact Nat.le_of_eq rfl) (hb hby d8_15) (fun _ _ => ⟨rfl, e0, (by decide : 0 + 0 ≤ _), (by decide : 0 + 0 ≤ _)⟩)
  dsimp only [Pt.U, Pt.locs, Pt.cells, Pt.slots] at X1 l1 y1 z1 st1 hQ1
  subst l1 y1 z1
  obtain ⟨rfl, Nq1, eh1⟩ := hQ1
  have N1 := Fr.app N0 Nq1
  obtain ⟨_, _, ⟨T2, Lw2, kw2, nw2⟩, -, X2, ⟨Lc2, hQ2, l2, y2, z2⟩, st2⟩ := Jvm.LawKit.callS X1 hx (y := (⟨oz4, "state", oz5⟩ : MethodName)) hown (mvT hZ (own_w hw 27 rfl)) (mvT hZ (own_w hw 28 rfl)) (mvT hZ (own_w hw 29 rfl)) (mvT hZ (own_w hw 30 rfl)) (by decide) (backOf (W := 0) (rmS0 l Z a0 hw [] x1 h0 n0 Z0 E_x1 F_first_x1 F_last_x1) hZ (own_w hw 30 rfl) (own_w hw 29 rfl) (by decide) (by decide)) (g := (mkF m 101 #[rv x1, rv x2, iv (1 : Int32), iv (1 : Int32), .val .null, .val .null, .val .null, .val .null] [.null, .null, (.ref x1)])) rfl (by rw [hml]; rfl) (argsL := [(.ref x1), .null, .null]) (rest := []) (lenOf own_pd5 rfl) rfl (by show 2 * 0 + _ ≤ _; exact Nat.le_of_eq rfl) (hb hby d8_101) (fun _ _ => ⟨rfl, eh1, (by decide : 0 + 0 ≤ _), (by decide : 0 + 0 ≤ _)⟩)
  dsimp only [Pt.U, Pt.locs, Pt.cells, Pt.slots] at X2 l2 y2 z2 st2 hQ2
  subst l2 y2 z2
  obtain ⟨rfl, Nq2, eh2⟩ := hQ2
  have N2 := Fr.app N1 Nq2
  have pre3 : ∀ tz, oS p e below T2 m 104 #[rv x1, rv x2, iv (1 : Int32), iv (1 : Int32), .val .null, .val .null, .val .null, .val .null] [(.int (1 : Int32))] tz → oS p e below s₁ m 0 #[rv x1, rv x2, iv (1 : Int32), iv (1 : Int32), .unset, .unset, .unset, .unset] [] tz := fun tz kt => by
    show oS p e below s₁ m 0 #[rv x1, rv x2, iv (1 : Int32), iv (1 : Int32), .unset, .unset, .unset, .unset] [] _
    refine XS.iloadN X0.here hx rfl (hb hby d8_0) rfl ?_
    refine XS.iloadN X0.here hx rfl (hb hby d8_1) rfl ?_
    refine XS.icmpYes X0.here hx rfl (pc0 := 2) (pc' := 11) rfl (hb hby d8_2) rfl (flt (by decide : ¬ ((1 : Int32) < (1 : Int32)))).2.1 (by decide) (by decide) ?_
    refine XS.aconstNull X0.here hx rfl (hb hby d8_11) ?_
    show oS p e below s₁ m 12 #[rv x1, rv x2, iv (1 : Int32), iv (1 : Int32), .unset, .unset, .unset, .unset] [.null] _
    refine XS.astore X0.here hx rfl (hb hby d8_12) rfl rfl (l' := #[rv x1, rv x2, iv (1 : Int32), iv (1 : Int32), .val .null, .unset, .unset, .unset]) rfl ?_
    refine XS.aloadN X0.here hx rfl (hb hby d8_14) rfl rfl ?_
    show oS p e below s₁ m 15 #[rv x1, rv x2, iv (1 : Int32), iv (1 : Int32), .val .null, .unset, .unset, .unset] [(.ref x1)] _
    refine st1.trans ?_
    refine XS.astore X1.here hx rfl (hb hby d8_18) rfl rfl (l' := #[rv x1, rv x2, iv (1 : Int32), iv (1 : Int32), .val .null, .val .null, .unset, .unset]) rfl ?_
    refine XS.aload X1.here hx rfl (hb hby d8_20) rfl rfl ?_
    refine XS.aload X1.here hx rfl (hb hby d8_22) rfl rfl ?_
    show oS p e below T1 m 24 #[rv x1, rv x2, iv (1 : Int32), iv (1 : Int32), .val .null, .val .null, .unset, .unset] [.null, .null] _
    refine Jvm.RoadKit.acmp (g := (mkF m 24 #[rv x1, rv x2, iv (1 : Int32), iv (1 : Int32), .val .null, .val .null, .unset, .unset] [.null, .null])) X1 hx rfl rfl rfl (pc0 := 24) (pc' := 29) (same := true) rfl (hb hby d8_24) rfl (decide_eq_true rfl) (by decide) (by decide) ?_
    refine XS.aload X1.here hx rfl (hb hby d8_29) rfl rfl ?_
    refine XS.ifnullYes X1.here hx rfl (pc0 := 31) (pc' := 60) rfl (hb hby d8_31) rfl (by decide) (by decide) ?_
    refine XS.iloadN X1.here hx rfl (hb hby d8_60) rfl ?_
    show oS p e below T1 m 61 #[rv x1, rv x2, iv (1 : Int32), iv (1 : Int32), .val .null, .val .null, .unset, .unset] [(.int (1 : Int32))] _
    refine XS.iconst X1.here hx rfl (hb hby d8_61) ?_
    refine XS.iadd X1.here hx rfl (hb hby d8_62) rfl ?_
    show oS p e below T1 m 63 #[rv x1, rv x2, iv (1 : Int32), iv (1 : Int32), .val .null, .val .null, .unset, .unset] [(.int (2 : Int32))] _
    refine XS.iloadN X1.here hx rfl (hb hby d8_63) rfl ?_
    refine XS.icmpYes X1.here hx rfl (pc0 := 64) (pc' := 75) rfl (hb hby d8_64) rfl (flt (by decide : ¬ ((2 : Int32) < (1 : Int32)))).2.1 (by decide) (by decide) ?_
    refine XS.aconstNull X1.here hx rfl (hb hby d8_75) ?_
    refine XS.astore X1.here hx rfl (hb hby d8_76) rfl rfl (l' := #[rv x1, rv x2, iv (1 : Int32), iv (1 : Int32), .val .null, .val .null, .val .null, .unset]) rfl ?_
    show oS p e below T1 m 78 #[rv x1, rv x2, iv (1 : Int32), iv (1 : Int32), .val .null, .val .null, .val .null, .unset] [] _
    refine XS.iloadN X1.here hx rfl (hb hby d8_78) rfl ?_
    refine XS.iconst X1.here hx rfl (hb hby d8_79) ?_
    refine XS.iadd X1.here hx rfl (hb hby d8_80) rfl ?_
    show oS p e below T1 m 81 #[rv x1, rv x2, iv (1 : Int32), iv (1 : Int32), .val .null, .val .null, .val .null, .unset] [(.int (2 : Int32))] _
    refine XS.iloadN X1.here hx rfl (hb hby d8_81) rfl ?_
    refine XS.icmpYes X1.here hx rfl (pc0 := 82) (pc' := 93) rfl (hb hby d8_82) rfl (flt (by decide : ¬ ((2 : Int32) < (1 : Int32)))).2.1 (by decide) (by decide) ?_
    refine XS.aconstNull X1.here hx rfl (hb hby d8_93) ?_
    refine XS.astore X1.here hx rfl (hb hby d8_94) rfl rfl (l' := #[rv x1, rv x2, iv (1 : Int32), iv (1 : Int32), .val .null, .val .null, .val .null, .val .null]) rfl ?_
    show oS p e below T1 m 96 #[rv x1, rv x2, iv (1 : Int32), iv (1 : Int32), .val .null, .val .null, .val .null, .val .null] [] _
    refine XS.aloadN X1.here hx rfl (hb hby d8_96) rfl rfl ?_
    refine XS.aload X1.here hx rfl (hb hby d8_97) rfl rfl ?_
    refine XS.aload X1.here hx rfl (hb hby d8_99) rfl rfl ?_
    show oS p e below T1 m 101 #[rv x1, rv x2, iv (1 : Int32), iv (1 : Int32), .val .null, .val .null, .val .null, .val .null] [.null, .null, (.ref x1)] _
    refine st2 _ ?_
    exact kt
  obtain ⟨fs, hr, hrun, hended, hW, hsame⟩ := X2.leave (v := some (.int (1 : Int32))) (fun h => by rw [Bd.returns] at h; cases h)
  refine ⟨_, _, pre0 _ (pre3 _ ?_), hrun, hended, _, _, rfl, ?_, ⟨_, rfl⟩, hW, hsame.mono (by decide) (by decide)⟩
  · show oS p e below T2 m 104 #[rv x1, rv x2, iv (1 : Int32), iv (1 : Int32), .val .null, .val .null, .val .null, .val .null] [(.int (1 : Int32))] _
    exact retN X2 hx (t := .boolean) Bd.returns (by simp) (hb hby d8_104) hr
  · show QT2_1_1 Z x1 x2 el0 el1 k h0 n0 _ T2.heap _
    rw [eh2]
    exact ⟨rfl, N2, rfl⟩
theorem efT2_1_2 (m : MethodId) (x1 : Addr) (x2 : Addr) : entryFrame m #[(.ref x1), (.ref x2), (.int (1 : Int32)), (.int (2 : Int32))] 8 = mkF m 0 #[rv x1, rv x2, iv (1 : Int32), iv (2 : Int32), .unset, .unset, .unset, .unset] [] := by first | (simp [entryFrame, mkF, argsToLocals, Value.category]; done) | rfl
def QT2_1_2 (Z : State) (x1 : Addr) (x2 : Addr) (el0 : Addr) (el1 : Addr) (k : ClassId) (h0 : Heap) (n0 : Nat) (v : Option Value) (h : Heap) (L : List Loc) : Prop := v = some (.int (1 : Int32)) ∧ Fr n0 L ∧ h = h0
set_option maxRecDepth 65536 in
set_option maxHeartbeats 40000000 in
theorem rmT2_1_2 (l : Launch) (Z : State) (a0 : Array Value) (hw : ∀ d ∈ tables_1, d.before a0 Z = true) (ws : List Jvm.Cond) (x1 : Addr) (x2 : Addr) (el0 : Addr) (el1 : Addr) (k : ClassId) (h0 : Heap) (n0 : Nat) (Z0 : n0 ≤ h0.size) (E_x1 : Exa Z h0 x1 oz1) (F_first_x1 : Fld Z h0 x1 oz1 "first" oz2 .null) (F_last_x1 : Fld Z h0 x1 oz1 "last" oz2 .null) (V_x2 : Arv Z h0 x2 k (.object oz0) (2 : Int32) [(.ref el0), (.ref el1)] .null) :
    MetFree l (⟨oz4, "step", oz3⟩ : MethodName) (head1 (Jvm.Cond.code (⟨oz4, "step", oz3⟩ : MethodName) method_3_code 8 (some .boolean) :: ws) ({ frames := 2, cells := 0, slots := 0, locals := 27 } : Room)) (fun a U => a = #[(.ref x1), (.ref x2), (.int (1 : Int32)), (.int (2 : Int32))] ∧ Z.Warmed39 U.vm ∧ U.heap = h0) (fun _ _ _ _ _ => True) (fun _ U oc U' => ∃ v L, oc = .returned v ∧ QT2_1_2 Z x1 x2 el0 el1 k h0 n0 v U'.heap L ∧ FrameEnd U oc U' L ({ frames := 2, cells := 0, slots := 0, locals := 27 } : Room).cells ({ frames := 2, cells := 0, slots := 0, locals := 27 } : Room).slots) := by
  refine MetFree.of_bodySF (plainFor_of_name own_pn2) hisR ?_
  intro p e s m args below meth c s₁ Bd hml0 hP hK
  obtain ⟨rfl, hZ, hh⟩ := hP
  have hx := Bd.exec
  have hby := Bd.bytes
  have hml : c.maxLocals = 8 := hml0
  have hown : s.vm.findClass oz4 = some m.cls := findClass_of_methodNamed Bd.named
  have hnm := (name_of_methodNamed Bd.named Bd.method).1
  have X0 : Stand p l e ({ frames := 2, cells := 0, slots := 0, locals := 27 } : Room) s m #[(.ref x1), (.ref x2), (.int (1 : Int32)), (.int (2 : Int32))] below meth c s₁ [] 0 0 := Stand.of_body Bd
  have e0 : s₁.heap = h0 := by rw [← hh, Bd.state]; rfl
  have N0 := Fr.nil n0
  have pre0 : ∀ t, Steps p.tables e below (s₁.setTop (mkF m 0 #[rv x1, rv x2, iv (1 : Int32), iv (2 : Int32), .unset, .unset, .unset, .unset] [])) t → Steps p.tables e below (s₁.setTop (entryFrame m #[(.ref x1), (.ref x2), (.int (1 : Int32)), (.int (2 : Int32))] 8)) t := fun t k => castTop (efT2_1_2 m x1 x2) k
  obtain ⟨cq1, kq1, q1a, q1b, q1c⟩ := isOf hZ e0 E_x1
  obtain ⟨_, _, ⟨T1, Lw1, kw1, nw1⟩, -, X1, ⟨Lc1, hQ1, l1, y1, z1⟩, st1⟩ := X0.virtualBack hx (y := (⟨oz1, "poll", oz7⟩ : MethodName)) (z := (⟨oz1, "poll", oz7⟩ : MethodName)) hown (mvT hZ (own_w hw 53 rfl)) (mvT hZ (own_w hw 54 rfl)) (notFace_of_selects (args := #[]) (mvT hZ (own_w hw 56 rfl))) (mvT hZ (own_w hw 56 rfl)) (mvT hZ (own_w hw 55 rfl)) (by decide) (backOf (W := 0) (rmP0 l Z a0 hw [] x1 h0 n0 Z0 E_x1 F_first_x1) hZ (own_w hw 57 rfl) (own_w hw 3 rfl) (by decide) (by decide)) q1a q1c (g := (mkF m 15 #[rv x1, rv x2, iv (1 : Int32), iv (2 : Int32), .val .null, .unset, .unset, .unset] [(.ref x1)])) rfl (by rw [hml]; rfl) (Steps.refl _) (argsL := []) (rest := []) (lenOf own_pd1 rfl) rfl (by show 2 * 0 + _ ≤ _; exact Nat.le_of_eq rfl) (hb hby d8_15) (fun _ _ => ⟨rfl, e0, (by decide : 0 + 0 ≤ _), (by decide : 0 + 0 ≤ _)⟩)
  dsimp only [Pt.U, Pt.locs, Pt.cells, Pt.slots] at X1 l1 y1 z1 st1 hQ1
  subst l1 y1 z1
  obtain ⟨rfl, Nq1, eh1⟩ := hQ1
  have N1 := Fr.app N0 Nq1
  obtain ⟨_, _, ⟨T2, Lw2, kw2, nw2⟩, -, X2, ⟨Lc2, hQ2, l2, y2, z2⟩, st2⟩ := Jvm.LawKit.callS X1 hx (y := (⟨oz4, "state", oz5⟩ : MethodName)) hown (mvT hZ (own_w hw 27 rfl)) (mvT hZ (own_w hw 28 rfl)) (mvT hZ (own_w hw 29 rfl)) (mvT hZ (own_w hw 30 rfl)) (by decide) (backOf (W := 0) (rmS0 l Z a0 hw [] x1 h0 n0 Z0 E_x1 F_first_x1 F_last_x1) hZ (own_w hw 30 rfl) (own_w hw 29 rfl) (by decide) (by decide)) (g := (mkF m 101 #[rv x1, rv x2, iv (1 : Int32), iv (2 : Int32), .val .null, .val .null, .val .null, .val .null] [.null, .null, (.ref x1)])) rfl (by rw [hml]; rfl) (argsL := [(.ref x1), .null, .null]) (rest := []) (lenOf own_pd5 rfl) rfl (by show 2 * 0 + _ ≤ _; exact Nat.le_of_eq rfl) (hb hby d8_101) (fun _ _ => ⟨rfl, eh1, (by decide : 0 + 0 ≤ _), (by decide : 0 + 0 ≤ _)⟩)
  dsimp only [Pt.U, Pt.locs, Pt.cells, Pt.slots] at X2 l2 y2 z2 st2 hQ2
  subst l2 y2 z2
  obtain ⟨rfl, Nq2, eh2⟩ := hQ2
  have N2 := Fr.app N1 Nq2
  have pre3 : ∀ tz, oS p e below T2 m 104 #[rv x1, rv x2, iv (1 : Int32), iv (2 : Int32), .val .null, .val .null, .val .null, .val .null] [(.int (1 : Int32))] tz → oS p e below s₁ m 0 #[rv x1, rv x2, iv (1 : Int32), iv (2 : Int32), .unset, .unset, .unset, .unset] [] tz := fun tz kt => by
    show oS p e below s₁ m 0 #[rv x1, rv x2, iv (1 : Int32), iv (2 : Int32), .unset, .unset, .unset, .unset] [] _
    refine XS.iloadN X0.here hx rfl (hb hby d8_0) rfl ?_
    refine XS.iloadN X0.here hx rfl (hb hby d8_1) rfl ?_
    refine XS.icmpYes X0.here hx rfl (pc0 := 2) (pc' := 11) rfl (hb hby d8_2) rfl (flt (by decide : ¬ ((2 : Int32) < (1 : Int32)))).2.1 (by decide) (by decide) ?_
    refine XS.aconstNull X0.here hx rfl (hb hby d8_11) ?_
    show oS p e below s₁ m 12 #[rv x1, rv x2, iv (1 : Int32), iv (2 : Int32), .unset, .unset, .unset, .unset] [.null] _
    refine XS.astore X0.here hx rfl (hb hby d8_12) rfl rfl (l' := #[rv x1, rv x2, iv (1 : Int32), iv (2 : Int32), .val .null, .unset, .unset, .unset]) rfl ?_
    refine XS.aloadN X0.here hx rfl (hb hby d8_14) rfl rfl ?_
    show oS p e below s₁ m 15 #[rv x1, rv x2, iv (1 : Int32), iv (2 : Int32), .val .null, .unset, .unset, .unset] [(.ref x1)] _
    refine st1.trans ?_
    refine XS.astore X1.here hx rfl (hb hby d8_18) rfl rfl (l' := #[rv x1, rv x2, iv (1 : Int32), iv (2 : Int32), .val .null, .val .null, .unset, .unset]) rfl ?_
    refine XS.aload X1.here hx rfl (hb hby d8_20) rfl rfl ?_
    refine XS.aload X1.here hx rfl (hb hby d8_22) rfl rfl ?_
    show oS p e below T1 m 24 #[rv x1, rv x2, iv (1 : Int32), iv (2 : Int32), .val .null, .val .null, .unset, .unset] [.null, .null] _
    refine Jvm.RoadKit.acmp (g := (mkF m 24 #[rv x1, rv x2, iv (1 : Int32), iv (2 : Int32), .val .null, .val .null, .unset, .unset] [.null, .null])) X1 hx rfl rfl rfl (pc0 := 24) (pc' := 29) (same := true) rfl (hb hby d8_24) rfl (decide_eq_true rfl) (by decide) (by decide) ?_
    refine XS.aload X1.here hx rfl (hb hby d8_29) rfl rfl ?_
    refine XS.ifnullYes X1.here hx rfl (pc0 := 31) (pc' := 60) rfl (hb hby d8_31) rfl (by decide) (by decide) ?_
    refine XS.iloadN X1.here hx rfl (hb hby d8_60) rfl ?_
    show oS p e below T1 m 61 #[rv x1, rv x2, iv (1 : Int32), iv (2 : Int32), .val .null, .val .null, .unset, .unset] [(.int (2 : Int32))] _
    refine XS.iconst X1.here hx rfl (hb hby d8_61) ?_
    refine XS.iadd X1.here hx rfl (hb hby d8_62) rfl ?_
    show oS p e below T1 m 63 #[rv x1, rv x2, iv (1 : Int32), iv (2 : Int32), .val .null, .val .null, .unset, .unset] [(.int (3 : Int32))] _
    refine XS.iloadN X1.here hx rfl (hb hby d8_63) rfl ?_
    refine XS.icmpYes X1.here hx rfl (pc0 := 64) (pc' := 75) rfl (hb hby d8_64) rfl (flt (by decide : ¬ ((3 : Int32) < (1 : Int32)))).2.1 (by decide) (by decide) ?_
    refine XS.aconstNull X1.here hx rfl (hb hby d8_75) ?_
    refine XS.astore X1.here hx rfl (hb hby d8_76) rfl rfl (l' := #[rv x1, rv x2, iv (1 : Int32), iv (2 : Int32), .val .null, .val .null, .val .null, .unset]) rfl ?_
    show oS p e below T1 m 78 #[rv x1, rv x2, iv (1 : Int32), iv (2 : Int32), .val .null, .val .null, .val .null, .unset] [] _
    refine XS.iloadN X1.here hx rfl (hb hby d8_78) rfl ?_
    refine XS.iconst X1.here hx rfl (hb hby d8_79) ?_
    refine XS.iadd X1.here hx rfl (hb hby d8_80) rfl ?_
    show oS p e below T1 m 81 #[rv x1, rv x2, iv (1 : Int32), iv (2 : Int32), .val .null, .val .null, .val .null, .unset] [(.int (3 : Int32))] _
    refine XS.iloadN X1.here hx rfl (hb hby d8_81) rfl ?_
    refine XS.icmpYes X1.here hx rfl (pc0 := 82) (pc' := 93) rfl (hb hby d8_82) rfl (flt (by decide : ¬ ((3 : Int32) < (1 : Int32)))).2.1 (by decide) (by decide) ?_
    refine XS.aconstNull X1.here hx rfl (hb hby d8_93) ?_
    refine XS.astore X1.here hx rfl (hb hby d8_94) rfl rfl (l' := #[rv x1, rv x2, iv (1 : Int32), iv (2 : Int32), .val .null, .val .null, .val .null, .val .null]) rfl ?_
    show oS p e below T1 m 96 #[rv x1, rv x2, iv (1 : Int32), iv (2 : Int32), .val .null, .val .null, .val .null, .val .null] [] _
    refine XS.aloadN X1.here hx rfl (hb hby d8_96) rfl rfl ?_
    refine XS.aload X1.here hx rfl (hb hby d8_97) rfl rfl ?_
    refine XS.aload X1.here hx rfl (hb hby d8_99) rfl rfl ?_
    show oS p e below T1 m 101 #[rv x1, rv x2, iv (1 : Int32), iv (2 : Int32), .val .null, .val .null, .val .null, .val .null] [.null, .null, (.ref x1)] _
    refine st2 _ ?_
    exact kt
  obtain ⟨fs, hr, hrun, hended, hW, hsame⟩ := X2.leave (v := some (.int (1 : Int32))) (fun h => by rw [Bd.returns] at h; cases h)
  refine ⟨_, _, pre0 _ (pre3 _ ?_), hrun, hended, _, _, rfl, ?_, ⟨_, rfl⟩, hW, hsame.mono (by decide) (by decide)⟩
  · show oS p e below T2 m 104 #[rv x1, rv x2, iv (1 : Int32), iv (2 : Int32), .val .null, .val .null, .val .null, .val .null] [(.int (1 : Int32))] _
    exact retN X2 hx (t := .boolean) Bd.returns (by simp) (hb hby d8_104) hr
  · show QT2_1_2 Z x1 x2 el0 el1 k h0 n0 _ T2.heap _
    rw [eh2]
    exact ⟨rfl, N2, rfl⟩
theorem efT3_3_0 (m : MethodId) (x1 : Addr) (x2 : Addr) : entryFrame m #[(.ref x1), (.ref x2), (.int (3 : Int32)), (.int (0 : Int32))] 8 = mkF m 0 #[rv x1, rv x2, iv (3 : Int32), iv (0 : Int32), .unset, .unset, .unset, .unset] [] := by first | (simp [entryFrame, mkF, argsToLocals, Value.category]; done) | rfl
def QT3_3_0 (Z : State) (x1 : Addr) (x2 : Addr) (el0 : Addr) (el1 : Addr) (el2 : Addr) (k : ClassId) (h0 : Heap) (n0 : Nat) (v : Option Value) (h : Heap) (L : List Loc) : Prop := v = some (.int (1 : Int32)) ∧ Fr n0 L ∧ Keep h0 h [x1, el0, el1] ∧ Fld Z h x1 oz1 "first" oz2 (.ref el1) ∧ Fld Z h x1 oz1 "last" oz2 (.ref el2) ∧ Fld Z h el1 oz0 "in" oz6 (.ref x1) ∧ Fld Z h el1 oz0 "before" oz2 .null ∧ Fld Z h el1 oz0 "after" oz2 (.ref el2) ∧ Fld Z h el0 oz0 "in" oz6 .null ∧ Fld Z h el0 oz0 "before" oz2 .null ∧ Fld Z h el0 oz0 "after" oz2 .null
set_option maxRecDepth 65536 in
set_option maxHeartbeats 40000000 in
theorem rmT3_3_0 (l : Launch) (Z : State) (a0 : Array Value) (hw : ∀ d ∈ tables_1, d.before a0 Z = true) (ws : List Jvm.Cond) (x1 : Addr) (x2 : Addr) (el0 : Addr) (el1 : Addr) (el2 : Addr) (k : ClassId) (h0 : Heap) (n0 : Nat) (Z0 : n0 ≤ h0.size) (E_x1 : Exa Z h0 x1 oz1) (E_el0 : Exa Z h0 el0 oz0) (E_el1 : Exa Z h0 el1 oz0) (E_el2 : Exa Z h0 el2 oz0) (g_x1 : n0 ≤ x1) (g_el0 : n0 ≤ el0) (g_el1 : n0 ≤ el1) (ne_el0_el1 : el0 ≠ el1) (ne_el0_el2 : el0 ≠ el2) (ne_el1_el2 : el1 ≠ el2) (F_first_x1 : Fld Z h0 x1 oz1 "first" oz2 (.ref el0)) (F_last_x1 : Fld Z h0 x1 oz1 "last" oz2 (.ref el2)) (F_in_el0 : Fld Z h0 el0 oz0 "in" oz6 (.ref x1)) (F_before_el0 : Fld Z h0 el0 oz0 "before" oz2 .null) (F_after_el0 : Fld Z h0 el0 oz0 "after" oz2 (.ref el1)) (F_in_el1 : Fld Z h0 el1 oz0 "in" oz6 (.ref x1)) (F_before_el1 : Fld Z h0 el1 oz0 "before" oz2 (.ref el0)) (F_after_el1 : Fld Z h0 el1 oz0 "after" oz2 (.ref el2)) (F_in_el2 : Fld Z h0 el2 oz0 "in" oz6 (.ref x1)) (F_before_el2 : Fld Z h0 el2 oz0 "before" oz2 (.ref el1)) (F_after_el2 : Fld Z h0 el2 oz0 "after" oz2 .null) (V_x2 : Arv Z h0 x2 k (.object oz0) (3 : Int32) [(.ref el0), (.ref el1), (.ref el2)] .null) :
    MetFree l (⟨oz4, "step", oz3⟩ : MethodName) (head1 (Jvm.Cond.code (⟨oz4, "step", oz3⟩ : MethodName) method_3_code 8 (some .boolean) :: ws) ({ frames := 2, cells := 0, slots := 0, locals := 27 } : Room)) (fun a U => a = #[(.ref x1), (.ref x2), (.int (3 : Int32)), (.int (0 : Int32))] ∧ Z.Warmed39 U.vm ∧ U.heap = h0) (fun _ _ _ _ _ => True) (fun _ U oc U' => ∃ v L, oc = .returned v ∧ QT3_3_0 Z x1 x2 el0 el1 el2 k h0 n0 v U'.heap L ∧ FrameEnd U oc U' L ({ frames := 2, cells := 0, slots := 0, locals := 27 } : Room).cells ({ frames := 2, cells := 0, slots := 0, locals := 27 } : Room).slots) := by
  refine MetFree.of_bodySF (plainFor_of_name own_pn2) hisR ?_
  intro p e s m args below meth c s₁ Bd hml0 hP hK
  obtain ⟨rfl, hZ, hh⟩ := hP
  have hx := Bd.exec
  have hby := Bd.bytes
  have hml : c.maxLocals = 8 := hml0
  have hown : s.vm.findClass oz4 = some m.cls := findClass_of_methodNamed Bd.named
  have hnm := (name_of_methodNamed Bd.named Bd.method).1
  have X0 : Stand p l e ({ frames := 2, cells := 0, slots := 0, locals := 27 } : Room) s m #[(.ref x1), (.ref x2), (.int (3 : Int32)), (.int (0 : Int32))] below meth c s₁ [] 0 0 := Stand.of_body Bd
  have e0 : s₁.heap = h0 := by rw [← hh, Bd.state]; rfl
  have N0 := Fr.nil n0
  have pre0 : ∀ t, Steps p.tables e below (s₁.setTop (mkF m 0 #[rv x1, rv x2, iv (3 : Int32), iv (0 : Int32), .unset, .unset, .unset, .unset] [])) t → Steps p.tables e below (s₁.setTop (entryFrame m #[(.ref x1), (.ref x2), (.int (3 : Int32)), (.int (0 : Int32))] 8)) t := fun t k => castTop (efT3_3_0 m x1 x2) k
  obtain ⟨cl1, Ar1, qk1, Sz1, Ng1, Hs1, Gt1⟩ := id V_x2
  have hin1 : ¬ ((0 : Int32) < 0 ∨ cl1.slots.size ≤ ((0 : Int32)).toNatClampNeg) := inb_of Sz1 ⟨by decide, by decide⟩
  have hat1 : cl1.slots[((0 : Int32)).toNatClampNeg]? = some (.ref el0) := Hs1.at hin1 rfl
  obtain ⟨cq2, kq2, q2a, q2b, q2c⟩ := isOf hZ e0 E_x1
  obtain ⟨_, _, ⟨T2, Lw2, kw2, nw2⟩, -, X2, ⟨Lc2, hQ2, l2, y2, z2⟩, st2⟩ := X0.virtualBack hx (y := (⟨oz1, "poll", oz7⟩ : MethodName)) (z := (⟨oz1, "poll", oz7⟩ : MethodName)) hown (mvT hZ (own_w hw 53 rfl)) (mvT hZ (own_w hw 54 rfl)) (notFace_of_selects (args := #[]) (mvT hZ (own_w hw 56 rfl))) (mvT hZ (own_w hw 56 rfl)) (mvT hZ (own_w hw 55 rfl)) (by decide) (backOf (W := 0) (rmP0t l Z a0 hw [] x1 (.ref el2) (.ref x1) (.ref x1) (.ref el0) (.ref el2) el0 el1 h0 n0 Z0 E_x1 E_el0 E_el1 g_x1 g_el0 g_el1 ne_el0_el1 F_first_x1 F_last_x1 F_in_el0 F_before_el0 F_after_el0 F_in_el1 F_before_el1 F_after_el1) hZ (own_w hw 57 rfl) (own_w hw 3 rfl) (by decide) (by decide)) q2a q2c (g := (mkF m 15 #[rv x1, rv x2, iv (3 : Int32), iv (0 : Int32), rv el0, .unset, .unset, .unset] [(.ref x1)])) rfl (by rw [hml]; rfl) (Steps.refl _) (argsL := []) (rest := []) (lenOf own_pd1 rfl) rfl (by show 2 * 0 + _ ≤ _; exact Nat.le_of_eq rfl) (hb hby d8_15) (fun _ _ => ⟨rfl, e0, (by decide : 0 + 0 ≤ _), (by decide : 0 + 0 ≤ _)⟩)
  dsimp only [Pt.U, Pt.locs, Pt.cells, Pt.slots] at X2 l2 y2 z2 st2 hQ2
  subst l2 y2 z2
  obtain ⟨rfl, Nq2, K2, pf2_0, pf2_1, pf2_2, pf2_3, pf2_4, pf2_5, pf2_6, pf2_7⟩ := hQ2
  have N2 := Fr.app N0 Nq2
  obtain ⟨T3, X3, e3, st3⟩ := getF X2 hx hZ hown (host := "") (Or.inl (own_w hw 74 rfl)) Via.refl rfl pf2_2 (g := (mkF m 36 #[rv x1, rv x2, iv (3 : Int32), iv (0 : Int32), rv el0, rv el0, .unset, .unset] [(.ref el0)])) rfl rfl (hb hby d8_36)
  obtain ⟨T4, X4, e4, st4⟩ := getF X3 hx hZ hown (host := "") (Or.inl (own_w hw 71 rfl)) Via.refl e3 pf2_3 (g := (mkF m 44 #[rv x1, rv x2, iv (3 : Int32), iv (0 : Int32), rv el0, rv el0, .unset, .unset] [(.ref el0)])) rfl rfl (hb hby d8_44)
  obtain ⟨T5, X5, e5, st5⟩ := getF X4 hx hZ hown (host := "") (Or.inl (own_w hw 72 rfl)) Via.refl e4 pf2_4 (g := (mkF m 52 #[rv x1, rv x2, iv (3 : Int32), iv (0 : Int32), rv el0, rv el0, .unset, .unset] [(.ref el0)])) rfl rfl (hb hby d8_52)
  obtain ⟨_, Arn6, -⟩ := id V_x2
  have ne6 : el1 ≠ x2 := ne_arr E_el1 (own_w hw 11 rfl) Arn6
  obtain ⟨_, Arn7, -⟩ := id V_x2
  have ne7 : el0 ≠ x2 := ne_arr E_el0 (own_w hw 11 rfl) Arn7
  obtain ⟨_, Arn8, -⟩ := id V_x2
  have ne8 : x1 ≠ x2 := ne_arr E_x1 (own_w hw 2 rfl) Arn8
  have Vc9 : Arv Z T2.heap x2 k (.object oz0) (3 : Int32) [(.ref el0), (.ref el1), (.ref el2)] .null := (V_x2.keep K2 (ninS (Ne.symm ne8) (ninS (Ne.symm ne7) (ninS (Ne.symm ne6) nin0))))
  obtain ⟨cl10, Ar10, qk10, Sz10, Ng10, Hs10, Gt10⟩ := id Vc9
  have hin10 : ¬ ((1 : Int32) < 0 ∨ cl10.slots.size ≤ ((1 : Int32)).toNatClampNeg) := inb_of Sz10 ⟨by decide, by decide⟩
  have hat10 : cl10.slots[((1 : Int32)).toNatClampNeg]? = some (.ref el1) := Hs10.at hin10 rfl
  obtain ⟨cl11, Ar11, qk11, Sz11, Ng11, Hs11, Gt11⟩ := id Vc9
  have hin11 : ¬ ((2 : Int32) < 0 ∨ cl11.slots.size ≤ ((2 : Int32)).toNatClampNeg) := inb_of Sz11 ⟨by decide, by decide⟩
  have hat11 : cl11.slots[((2 : Int32)).toNatClampNeg]? = some (.ref el2) := Hs11.at hin11 rfl
  have Ec13 : Exa Z T2.heap x1 oz1 := (E_x1.keep K2)
  have Ec14 : Exa Z T2.heap el1 oz0 := (E_el1.keep K2)
  have Ec15 : Exa Z T2.heap el2 oz0 := (E_el2.keep K2)
  have ne16 : el2 ≠ x1 := ne_exa Ec15 Ec13 (by decide)
  have Fc17 : Fld Z T2.heap el2 oz0 "in" oz6 (.ref x1) := (F_in_el2.keep K2 (ninS ne16 (ninS (Ne.symm ne_el0_el2) (ninS (Ne.symm ne_el1_el2) nin0))))
  have Fc18 : Fld Z T2.heap el2 oz0 "before" oz2 (.ref el1) := (F_before_el2.keep K2 (ninS ne16 (ninS (Ne.symm ne_el0_el2) (ninS (Ne.symm ne_el1_el2) nin0))))
  have Fc19 : Fld Z T2.heap el2 oz0 "after" oz2 .null := (F_after_el2.keep K2 (ninS ne16 (ninS (Ne.symm ne_el0_el2) (ninS (Ne.symm ne_el1_el2) nin0))))
  have Zc20 : n0 ≤ T2.heap.size := (Nat.le_trans Z0 K2.1)
  obtain ⟨_, _, ⟨T12, Lw12, kw12, nw12⟩, -, X12, ⟨Lc12, hQ12, l12, y12, z12⟩, st12⟩ := Jvm.LawKit.callS X5 hx (y := (⟨oz4, "state", oz5⟩ : MethodName)) hown (mvT hZ (own_w hw 27 rfl)) (mvT hZ (own_w hw 28 rfl)) (mvT hZ (own_w hw 29 rfl)) (mvT hZ (own_w hw 30 rfl)) (by decide) (backOf (W := 0) (rmS2 l Z a0 hw [] x1 el1 el2 T2.heap n0 Zc20 Ec13 Ec14 Ec15 ne_el1_el2 pf2_0 pf2_1 pf2_5 pf2_6 pf2_7 Fc17 Fc18 Fc19) hZ (own_w hw 30 rfl) (own_w hw 29 rfl) (by decide) (by decide)) (g := (mkF m 101 #[rv x1, rv x2, iv (3 : Int32), iv (0 : Int32), rv el0, rv el0, rv el1, rv el2] [(.ref el2), (.ref el1), (.ref x1)])) rfl (by rw [hml]; rfl) (argsL := [(.ref x1), (.ref el1), (.ref el2)]) (rest := []) (lenOf own_pd5 rfl) rfl (by show 2 * 0 + _ ≤ _; exact Nat.le_of_eq rfl) (hb hby d8_101) (fun _ _ => ⟨rfl, e5, (by decide : 0 + 0 ≤ _), (by decide : 0 + 0 ≤ _)⟩)
  dsimp only [Pt.U, Pt.locs, Pt.cells, Pt.slots] at X12 l12 y12 z12 st12 hQ12
  subst l12 y12 z12
  obtain ⟨rfl, Nq12, eh12⟩ := hQ12
  have N12 := Fr.app N2 Nq12
  have pre21 : ∀ tz, oS p e below T12 m 104 #[rv x1, rv x2, iv (3 : Int32), iv (0 : Int32), rv el0, rv el0, rv el1, rv el2] [(.int (1 : Int32))] tz → oS p e below s₁ m 0 #[rv x1, rv x2, iv (3 : Int32), iv (0 : Int32), .unset, .unset, .unset, .unset] [] tz := fun tz kt => by
    show oS p e below s₁ m 0 #[rv x1, rv x2, iv (3 : Int32), iv (0 : Int32), .unset, .unset, .unset, .unset] [] _
    refine XS.iloadN X0.here hx rfl (hb hby d8_0) rfl ?_
    refine XS.iloadN X0.here hx rfl (hb hby d8_1) rfl ?_
    refine XS.icmpNo X0.here hx rfl (hb hby d8_2) rfl (tlt (by decide : ((0 : Int32) < (3 : Int32)))).2.1 ?_
    refine XS.aloadN X0.here hx rfl (hb hby d8_5) rfl rfl ?_
    show oS p e below s₁ m 6 #[rv x1, rv x2, iv (3 : Int32), iv (0 : Int32), .unset, .unset, .unset, .unset] [(.ref x2)] _
    refine XS.iloadN X0.here hx rfl (hb hby d8_6) rfl ?_
    refine X0.aaload hx (j := (0 : Int32)) (v := (.ref el0)) (by rw [e0]; exact Ar1.1) (State.isArrayOf_alike hZ.alike Ar1.2.1) rfl Ar1.2.2 hin1 hat1 (g := (mkF m 7 #[rv x1, rv x2, iv (3 : Int32), iv (0 : Int32), .unset, .unset, .unset, .unset] [(.int (0 : Int32)), (.ref x2)])) rfl rfl (hb hby d8_7) _ ?_
    refine XS.goto X0.here hx rfl (pc0 := 8) (pc' := 12) rfl (hb hby d8_8) (by decide) (by decide) ?_
    refine XS.astore X0.here hx rfl (hb hby d8_12) rfl rfl (l' := #[rv x1, rv x2, iv (3 : Int32), iv (0 : Int32), rv el0, .unset, .unset, .unset]) rfl ?_
    show oS p e below s₁ m 14 #[rv x1, rv x2, iv (3 : Int32), iv (0 : Int32), rv el0, .unset, .unset, .unset] [] _
    refine XS.aloadN X0.here hx rfl (hb hby d8_14) rfl rfl ?_
    show oS p e below s₁ m 15 #[rv x1, rv x2, iv (3 : Int32), iv (0 : Int32), rv el0, .unset, .unset, .unset] [(.ref x1)] _
    refine st2.trans ?_
    refine XS.astore X2.here hx rfl (hb hby d8_18) rfl rfl (l' := #[rv x1, rv x2, iv (3 : Int32), iv (0 : Int32), rv el0, rv el0, .unset, .unset]) rfl ?_
    refine XS.aload X2.here hx rfl (hb hby d8_20) rfl rfl ?_
    refine XS.aload X2.here hx rfl (hb hby d8_22) rfl rfl ?_
    show oS p e below T2 m 24 #[rv x1, rv x2, iv (3 : Int32), iv (0 : Int32), rv el0, rv el0, .unset, .unset] [(.ref el0), (.ref el0)] _
    refine Jvm.RoadKit.acmp (g := (mkF m 24 #[rv x1, rv x2, iv (3 : Int32), iv (0 : Int32), rv el0, rv el0, .unset, .unset] [(.ref el0), (.ref el0)])) X2 hx rfl rfl rfl (pc0 := 24) (pc' := 29) (same := true) rfl (hb hby d8_24) rfl (decide_eq_true rfl) (by decide) (by decide) ?_
    refine XS.aload X2.here hx rfl (hb hby d8_29) rfl rfl ?_
    refine XS.ifnullNo X2.here hx rfl (hb hby d8_31) rfl ?_
    refine XS.aload X2.here hx rfl (hb hby d8_34) rfl rfl ?_
    show oS p e below T2 m 36 #[rv x1, rv x2, iv (3 : Int32), iv (0 : Int32), rv el0, rv el0, .unset, .unset] [(.ref el0)] _
    refine st3 _ ?_
    refine XS.ifnonnullNo X3.here hx rfl (hb hby d8_39) rfl ?_
    refine XS.aload X3.here hx rfl (hb hby d8_42) rfl rfl ?_
    show oS p e below T3 m 44 #[rv x1, rv x2, iv (3 : Int32), iv (0 : Int32), rv el0, rv el0, .unset, .unset] [(.ref el0)] _
    refine st4 _ ?_
    refine XS.ifnonnullNo X4.here hx rfl (hb hby d8_47) rfl ?_
    refine XS.aload X4.here hx rfl (hb hby d8_50) rfl rfl ?_
    show oS p e below T4 m 52 #[rv x1, rv x2, iv (3 : Int32), iv (0 : Int32), rv el0, rv el0, .unset, .unset] [(.ref el0)] _
    refine st5 _ ?_
    refine XS.ifnullYes X5.here hx rfl (pc0 := 55) (pc' := 60) rfl (hb hby d8_55) rfl (by decide) (by decide) ?_
    refine XS.iloadN X5.here hx rfl (hb hby d8_60) rfl ?_
    refine XS.iconst X5.here hx rfl (hb hby d8_61) ?_
    show oS p e below T5 m 62 #[rv x1, rv x2, iv (3 : Int32), iv (0 : Int32), rv el0, rv el0, .unset, .unset] [(.int (1 : Int32)), (.int (0 : Int32))] _
    refine XS.iadd X5.here hx rfl (hb hby d8_62) rfl ?_
    show oS p e below T5 m 63 #[rv x1, rv x2, iv (3 : Int32), iv (0 : Int32), rv el0, rv el0, .unset, .unset] [(.int (1 : Int32))] _
    refine XS.iloadN X5.here hx rfl (hb hby d8_63) rfl ?_
    refine XS.icmpNo X5.here hx rfl (hb hby d8_64) rfl (tlt (by decide : ((1 : Int32) < (3 : Int32)))).2.1 ?_
    refine XS.aloadN X5.here hx rfl (hb hby d8_67) rfl rfl ?_
    refine XS.iloadN X5.here hx rfl (hb hby d8_68) rfl ?_
    show oS p e below T5 m 69 #[rv x1, rv x2, iv (3 : Int32), iv (0 : Int32), rv el0, rv el0, .unset, .unset] [(.int (0 : Int32)), (.ref x2)] _
    refine XS.iconst X5.here hx rfl (hb hby d8_69) ?_
    refine XS.iadd X5.here hx rfl (hb hby d8_70) rfl ?_
    show oS p e below T5 m 71 #[rv x1, rv x2, iv (3 : Int32), iv (0 : Int32), rv el0, rv el0, .unset, .unset] [(.int (1 : Int32)), (.ref x2)] _
    refine X5.aaload hx (j := (1 : Int32)) (v := (.ref el1)) (by rw [e5]; exact Ar10.1) (State.isArrayOf_alike hZ.alike Ar10.2.1) rfl Ar10.2.2 hin10 hat10 (g := (mkF m 71 #[rv x1, rv x2, iv (3 : Int32), iv (0 : Int32), rv el0, rv el0, .unset, .unset] [(.int (1 : Int32)), (.ref x2)])) rfl rfl (hb hby d8_71) _ ?_
    refine XS.goto X5.here hx rfl (pc0 := 72) (pc' := 76) rfl (hb hby d8_72) (by decide) (by decide) ?_
    refine XS.astore X5.here hx rfl (hb hby d8_76) rfl rfl (l' := #[rv x1, rv x2, iv (3 : Int32), iv (0 : Int32), rv el0, rv el0, rv el1, .unset]) rfl ?_
    refine XS.iloadN X5.here hx rfl (hb hby d8_78) rfl ?_
    show oS p e below T5 m 79 #[rv x1, rv x2, iv (3 : Int32), iv (0 : Int32), rv el0, rv el0, rv el1, .unset] [(.int (0 : Int32))] _
    refine XS.iconst X5.here hx rfl (hb hby d8_79) ?_
    refine XS.iadd X5.here hx rfl (hb hby d8_80) rfl ?_
    show oS p e below T5 m 81 #[rv x1, rv x2, iv (3 : Int32), iv (0 : Int32), rv el0, rv el0, rv el1, .unset] [(.int (1 : Int32))] _
    refine XS.iloadN X5.here hx rfl (hb hby d8_81) rfl ?_
    refine XS.icmpNo X5.here hx rfl (hb hby d8_82) rfl (tlt (by decide : ((1 : Int32) < (3 : Int32)))).2.1 ?_
    refine XS.aloadN X5.here hx rfl (hb hby d8_85) rfl rfl ?_
    refine XS.iloadN X5.here hx rfl (hb hby d8_86) rfl ?_
    show oS p e below T5 m 87 #[rv x1, rv x2, iv (3 : Int32), iv (0 : Int32), rv el0, rv el0, rv el1, .unset] [(.int (3 : Int32)), (.ref x2)] _
    refine XS.iconst X5.here hx rfl (hb hby d8_87) ?_
    refine XS.isub X5.here hx rfl (hb hby d8_88) rfl ?_
    show oS p e below T5 m 89 #[rv x1, rv x2, iv (3 : Int32), iv (0 : Int32), rv el0, rv el0, rv el1, .unset] [(.int (2 : Int32)), (.ref x2)] _
    refine X5.aaload hx (j := (2 : Int32)) (v := (.ref el2)) (by rw [e5]; exact Ar11.1) (State.isArrayOf_alike hZ.alike Ar11.2.1) rfl Ar11.2.2 hin11 hat11 (g := (mkF m 89 #[rv x1, rv x2, iv (3 : Int32), iv (0 : Int32), rv el0, rv el0, rv el1, .unset] [(.int (2 : Int32)), (.ref x2)])) rfl rfl (hb hby d8_89) _ ?_
    refine XS.goto X5.here hx rfl (pc0 := 90) (pc' := 94) rfl (hb hby d8_90) (by decide) (by decide) ?_
    refine XS.astore X5.here hx rfl (hb hby d8_94) rfl rfl (l' := #[rv x1, rv x2, iv (3 : Int32), iv (0 : Int32), rv el0, rv el0, rv el1, rv el2]) rfl ?_
    refine XS.aloadN X5.here hx rfl (hb hby d8_96) rfl rfl ?_
    show oS p e below T5 m 97 #[rv x1, rv x2, iv (3 : Int32), iv (0 : Int32), rv el0, rv el0, rv el1, rv el2] [(.ref x1)] _
    refine XS.aload X5.here hx rfl (hb hby d8_97) rfl rfl ?_
    refine XS.aload X5.here hx rfl (hb hby d8_99) rfl rfl ?_
    show oS p e below T5 m 101 #[rv x1, rv x2, iv (3 : Int32), iv (0 : Int32), rv el0, rv el0, rv el1, rv el2] [(.ref el2), (.ref el1), (.ref x1)] _
    refine st12 _ ?_
    exact kt
  have KP22 : Keep h0 T2.heap [x1, el0, el1] := ((Keep.refl h0 [x1, el0, el1]).trans K2 (allS (Or.inl (List.mem_of_getElem? (i := 0) rfl)) (allS (Or.inl (List.mem_of_getElem? (i := 1) rfl)) (allS (Or.inl (List.mem_of_getElem? (i := 2) rfl)) all0))))
  obtain ⟨fs, hr, hrun, hended, hW, hsame⟩ := X12.leave (v := some (.int (1 : Int32))) (fun h => by rw [Bd.returns] at h; cases h)
  refine ⟨_, _, pre0 _ (pre21 _ ?_), hrun, hended, _, _, rfl, ?_, ⟨_, rfl⟩, hW, hsame.mono (by decide) (by decide)⟩
  · show oS p e below T12 m 104 #[rv x1, rv x2, iv (3 : Int32), iv (0 : Int32), rv el0, rv el0, rv el1, rv el2] [(.int (1 : Int32))] _
    exact retN X12 hx (t := .boolean) Bd.returns (by simp) (hb hby d8_104) hr
  · show QT3_3_0 Z x1 x2 el0 el1 el2 k h0 n0 _ T12.heap _
    rw [eh12]
    exact ⟨rfl, N12, KP22, pf2_0, pf2_1, pf2_5, pf2_6, pf2_7, pf2_2, pf2_3, pf2_4⟩
theorem efT3_3_1 (m : MethodId) (x1 : Addr) (x2 : Addr) : entryFrame m #[(.ref x1), (.ref x2), (.int (3 : Int32)), (.int (1 : Int32))] 8 = mkF m 0 #[rv x1, rv x2, iv (3 : Int32), iv (1 : Int32), .unset, .unset, .unset, .unset] [] := by first | (simp [entryFrame, mkF, argsToLocals, Value.category]; done) | rfl
def QT3_3_1 (Z : State) (x1 : Addr) (x2 : Addr) (el0 : Addr) (el1 : Addr) (el2 : Addr) (k : ClassId) (h0 : Heap) (n0 : Nat) (v : Option Value) (h : Heap) (L : List Loc) : Prop := v = some (.int (1 : Int32)) ∧ Fr n0 L ∧ Keep h0 h [x1, el1, el2] ∧ Fld Z h x1 oz1 "first" oz2 (.ref el2) ∧ Fld Z h x1 oz1 "last" oz2 (.ref el2) ∧ Fld Z h el2 oz0 "in" oz6 (.ref x1) ∧ Fld Z h el2 oz0 "before" oz2 .null ∧ Fld Z h el2 oz0 "after" oz2 .null ∧ Fld Z h el1 oz0 "in" oz6 .null ∧ Fld Z h el1 oz0 "before" oz2 .null ∧ Fld Z h el1 oz0 "after" oz2 .null
set_option maxRecDepth 65536 in
set_option maxHeartbeats 40000000 in
theorem rmT3_3_1 (l : Launch) (Z : State) (a0 : Array Value) (hw : ∀ d ∈ tables_1, d.before a0 Z = true) (ws : List Jvm.Cond) (x1 : Addr) (x2 : Addr) (el0 : Addr) (el1 : Addr) (el2 : Addr) (k : ClassId) (h0 : Heap) (n0 : Nat) (Z0 : n0 ≤ h0.size) (E_x1 : Exa Z h0 x1 oz1) (E_el1 : Exa Z h0 el1 oz0) (E_el2 : Exa Z h0 el2 oz0) (g_x1 : n0 ≤ x1) (g_el1 : n0 ≤ el1) (g_el2 : n0 ≤ el2) (ne_el1_el2 : el1 ≠ el2) (F_first_x1 : Fld Z h0 x1 oz1 "first" oz2 (.ref el1)) (F_last_x1 : Fld Z h0 x1 oz1 "last" oz2 (.ref el2)) (F_in_el1 : Fld Z h0 el1 oz0 "in" oz6 (.ref x1)) (F_before_el1 : Fld Z h0 el1 oz0 "before" oz2 .null) (F_after_el1 : Fld Z h0 el1 oz0 "after" oz2 (.ref el2)) (F_in_el2 : Fld Z h0 el2 oz0 "in" oz6 (.ref x1)) (F_before_el2 : Fld Z h0 el2 oz0 "before" oz2 (.ref el1)) (F_after_el2 : Fld Z h0 el2 oz0 "after" oz2 .null) (V_x2 : Arv Z h0 x2 k (.object oz0) (3 : Int32) [(.ref el0), (.ref el1), (.ref el2)] .null) :
    MetFree l (⟨oz4, "step", oz3⟩ : MethodName) (head1 (Jvm.Cond.code (⟨oz4, "step", oz3⟩ : MethodName) method_3_code 8 (some .boolean) :: ws) ({ frames := 2, cells := 0, slots := 0, locals := 27 } : Room)) (fun a U => a = #[(.ref x1), (.ref x2), (.int (3 : Int32)), (.int (1 : Int32))] ∧ Z.Warmed39 U.vm ∧ U.heap = h0) (fun _ _ _ _ _ => True) (fun _ U oc U' => ∃ v L, oc = .returned v ∧ QT3_3_1 Z x1 x2 el0 el1 el2 k h0 n0 v U'.heap L ∧ FrameEnd U oc U' L ({ frames := 2, cells := 0, slots := 0, locals := 27 } : Room).cells ({ frames := 2, cells := 0, slots := 0, locals := 27 } : Room).slots) := by
  refine MetFree.of_bodySF (plainFor_of_name own_pn2) hisR ?_
  intro p e s m args below meth c s₁ Bd hml0 hP hK
  obtain ⟨rfl, hZ, hh⟩ := hP
  have hx := Bd.exec
  have hby := Bd.bytes
  have hml : c.maxLocals = 8 := hml0
  have hown : s.vm.findClass oz4 = some m.cls := findClass_of_methodNamed Bd.named
  have hnm := (name_of_methodNamed Bd.named Bd.method).1
  have X0 : Stand p l e ({ frames := 2, cells := 0, slots := 0, locals := 27 } : Room) s m #[(.ref x1), (.ref x2), (.int (3 : Int32)), (.int (1 : Int32))] below meth c s₁ [] 0 0 := Stand.of_body Bd
  have e0 : s₁.heap = h0 := by rw [← hh, Bd.state]; rfl
  have N0 := Fr.nil n0
  have pre0 : ∀ t, Steps p.tables e below (s₁.setTop (mkF m 0 #[rv x1, rv x2, iv (3 : Int32), iv (1 : Int32), .unset, .unset, .unset, .unset] [])) t → Steps p.tables e below (s₁.setTop (entryFrame m #[(.ref x1), (.ref x2), (.int (3 : Int32)), (.int (1 : Int32))] 8)) t := fun t k => castTop (efT3_3_1 m x1 x2) k
  obtain ⟨cl1, Ar1, qk1, Sz1, Ng1, Hs1, Gt1⟩ := id V_x2
  have hin1 : ¬ ((1 : Int32) < 0 ∨ cl1.slots.size ≤ ((1 : Int32)).toNatClampNeg) := inb_of Sz1 ⟨by decide, by decide⟩
  have hat1 : cl1.slots[((1 : Int32)).toNatClampNeg]? = some (.ref el1) := Hs1.at hin1 rfl
  obtain ⟨cq2, kq2, q2a, q2b, q2c⟩ := isOf hZ e0 E_x1
  obtain ⟨_, _, ⟨T2, Lw2, kw2, nw2⟩, -, X2, ⟨Lc2, hQ2, l2, y2, z2⟩, st2⟩ := X0.virtualBack hx (y := (⟨oz1, "poll", oz7⟩ : MethodName)) (z := (⟨oz1, "poll", oz7⟩ : MethodName)) hown (mvT hZ (own_w hw 53 rfl)) (mvT hZ (own_w hw 54 rfl)) (notFace_of_selects (args := #[]) (mvT hZ (own_w hw 56 rfl))) (mvT hZ (own_w hw 56 rfl)) (mvT hZ (own_w hw 55 rfl)) (by decide) (backOf (W := 0) (rmP0t l Z a0 hw [] x1 (.ref el2) (.ref x1) (.ref x1) (.ref el1) .null el1 el2 h0 n0 Z0 E_x1 E_el1 E_el2 g_x1 g_el1 g_el2 ne_el1_el2 F_first_x1 F_last_x1 F_in_el1 F_before_el1 F_after_el1 F_in_el2 F_before_el2 F_after_el2) hZ (own_w hw 57 rfl) (own_w hw 3 rfl) (by decide) (by decide)) q2a q2c (g := (mkF m 15 #[rv x1, rv x2, iv (3 : Int32), iv (1 : Int32), rv el1, .unset, .unset, .unset] [(.ref x1)])) rfl (by rw [hml]; rfl) (Steps.refl _) (argsL := []) (rest := []) (lenOf own_pd1 rfl) rfl (by show 2 * 0 + _ ≤ _; exact Nat.le_of_eq rfl) (hb hby d8_15) (fun _ _ => ⟨rfl, e0, (by decide : 0 + 0 ≤ _), (by decide : 0 + 0 ≤ _)⟩)
  dsimp only [Pt.U, Pt.locs, Pt.cells, Pt.slots] at X2 l2 y2 z2 st2 hQ2
  subst l2 y2 z2
  obtain ⟨rfl, Nq2, K2, pf2_0, pf2_1, pf2_2, pf2_3, pf2_4, pf2_5, pf2_6, pf2_7⟩ := hQ2
  have N2 := Fr.app N0 Nq2
  obtain ⟨T3, X3, e3, st3⟩ := getF X2 hx hZ hown (host := "") (Or.inl (own_w hw 74 rfl)) Via.refl rfl pf2_2 (g := (mkF m 36 #[rv x1, rv x2, iv (3 : Int32), iv (1 : Int32), rv el1, rv el1, .unset, .unset] [(.ref el1)])) rfl rfl (hb hby d8_36)
  obtain ⟨T4, X4, e4, st4⟩ := getF X3 hx hZ hown (host := "") (Or.inl (own_w hw 71 rfl)) Via.refl e3 pf2_3 (g := (mkF m 44 #[rv x1, rv x2, iv (3 : Int32), iv (1 : Int32), rv el1, rv el1, .unset, .unset] [(.ref el1)])) rfl rfl (hb hby d8_44)
  obtain ⟨T5, X5, e5, st5⟩ := getF X4 hx hZ hown (host := "") (Or.inl (own_w hw 72 rfl)) Via.refl e4 pf2_4 (g := (mkF m 52 #[rv x1, rv x2, iv (3 : Int32), iv (1 : Int32), rv el1, rv el1, .unset, .unset] [(.ref el1)])) rfl rfl (hb hby d8_52)
  obtain ⟨_, Arn6, -⟩ := id V_x2
  have ne6 : el2 ≠ x2 := ne_arr E_el2 (own_w hw 11 rfl) Arn6
  obtain ⟨_, Arn7, -⟩ := id V_x2
  have ne7 : el1 ≠ x2 := ne_arr E_el1 (own_w hw 11 rfl) Arn7
  obtain ⟨_, Arn8, -⟩ := id V_x2
  have ne8 : x1 ≠ x2 := ne_arr E_x1 (own_w hw 2 rfl) Arn8
  have Vc9 : Arv Z T2.heap x2 k (.object oz0) (3 : Int32) [(.ref el0), (.ref el1), (.ref el2)] .null := (V_x2.keep K2 (ninS (Ne.symm ne8) (ninS (Ne.symm ne7) (ninS (Ne.symm ne6) nin0))))
  obtain ⟨cl10, Ar10, qk10, Sz10, Ng10, Hs10, Gt10⟩ := id Vc9
  have hin10 : ¬ ((2 : Int32) < 0 ∨ cl10.slots.size ≤ ((2 : Int32)).toNatClampNeg) := inb_of Sz10 ⟨by decide, by decide⟩
  have hat10 : cl10.slots[((2 : Int32)).toNatClampNeg]? = some (.ref el2) := Hs10.at hin10 rfl
  obtain ⟨cl11, Ar11, qk11, Sz11, Ng11, Hs11, Gt11⟩ := id Vc9
  have hin11 : ¬ ((2 : Int32) < 0 ∨ cl11.slots.size ≤ ((2 : Int32)).toNatClampNeg) := inb_of Sz11 ⟨by decide, by decide⟩
  have hat11 : cl11.slots[((2 : Int32)).toNatClampNeg]? = some (.ref el2) := Hs11.at hin11 rfl
  have Ec13 : Exa Z T2.heap x1 oz1 := (E_x1.keep K2)
  have Ec14 : Exa Z T2.heap el2 oz0 := (E_el2.keep K2)
  have Zc15 : n0 ≤ T2.heap.size := (Nat.le_trans Z0 K2.1)
  obtain ⟨_, _, ⟨T12, Lw12, kw12, nw12⟩, -, X12, ⟨Lc12, hQ12, l12, y12, z12⟩, st12⟩ := Jvm.LawKit.callS X5 hx (y := (⟨oz4, "state", oz5⟩ : MethodName)) hown (mvT hZ (own_w hw 27 rfl)) (mvT hZ (own_w hw 28 rfl)) (mvT hZ (own_w hw 29 rfl)) (mvT hZ (own_w hw 30 rfl)) (by decide) (backOf (W := 0) (rmS1 l Z a0 hw [] x1 el2 T2.heap n0 Zc15 Ec13 Ec14 pf2_0 pf2_1 pf2_5 pf2_6 pf2_7) hZ (own_w hw 30 rfl) (own_w hw 29 rfl) (by decide) (by decide)) (g := (mkF m 101 #[rv x1, rv x2, iv (3 : Int32), iv (1 : Int32), rv el1, rv el1, rv el2, rv el2] [(.ref el2), (.ref el2), (.ref x1)])) rfl (by rw [hml]; rfl) (argsL := [(.ref x1), (.ref el2), (.ref el2)]) (rest := []) (lenOf own_pd5 rfl) rfl (by show 2 * 0 + _ ≤ _; exact Nat.le_of_eq rfl) (hb hby d8_101) (fun _ _ => ⟨rfl, e5, (by decide : 0 + 0 ≤ _), (by decide : 0 + 0 ≤ _)⟩)
  dsimp only [Pt.U, Pt.locs, Pt.cells, Pt.slots] at X12 l12 y12 z12 st12 hQ12
  subst l12 y12 z12
  obtain ⟨rfl, Nq12, eh12⟩ := hQ12
  have N12 := Fr.app N2 Nq12
  have pre16 : ∀ tz, oS p e below T12 m 104 #[rv x1, rv x2, iv (3 : Int32), iv (1 : Int32), rv el1, rv el1, rv el2, rv el2] [(.int (1 : Int32))] tz → oS p e below s₁ m 0 #[rv x1, rv x2, iv (3 : Int32), iv (1 : Int32), .unset, .unset, .unset, .unset] [] tz := fun tz kt => by
    show oS p e below s₁ m 0 #[rv x1, rv x2, iv (3 : Int32), iv (1 : Int32), .unset, .unset, .unset, .unset] [] _
    refine XS.iloadN X0.here hx rfl (hb hby d8_0) rfl ?_
    refine XS.iloadN X0.here hx rfl (hb hby d8_1) rfl ?_
    refine XS.icmpNo X0.here hx rfl (hb hby d8_2) rfl (tlt (by decide : ((1 : Int32) < (3 : Int32)))).2.1 ?_
    refine XS.aloadN X0.here hx rfl (hb hby d8_5) rfl rfl ?_
    show oS p e below s₁ m 6 #[rv x1, rv x2, iv (3 : Int32), iv (1 : Int32), .unset, .unset, .unset, .unset] [(.ref x2)] _
    refine XS.iloadN X0.here hx rfl (hb hby d8_6) rfl ?_
    refine X0.aaload hx (j := (1 : Int32)) (v := (.ref el1)) (by rw [e0]; exact Ar1.1) (State.isArrayOf_alike hZ.alike Ar1.2.1) rfl Ar1.2.2 hin1 hat1 (g := (mkF m 7 #[rv x1, rv x2, iv (3 : Int32), iv (1 : Int32), .unset, .unset, .unset, .unset] [(.int (1 : Int32)), (.ref x2)])) rfl rfl (hb hby d8_7) _ ?_
    refine XS.goto X0.here hx rfl (pc0 := 8) (pc' := 12) rfl (hb hby d8_8) (by decide) (by decide) ?_
    refine XS.astore X0.here hx rfl (hb hby d8_12) rfl rfl (l' := #[rv x1, rv x2, iv (3 : Int32), iv (1 : Int32), rv el1, .unset, .unset, .unset]) rfl ?_
    show oS p e below s₁ m 14 #[rv x1, rv x2, iv (3 : Int32), iv (1 : Int32), rv el1, .unset, .unset, .unset] [] _
    refine XS.aloadN X0.here hx rfl (hb hby d8_14) rfl rfl ?_
    show oS p e below s₁ m 15 #[rv x1, rv x2, iv (3 : Int32), iv (1 : Int32), rv el1, .unset, .unset, .unset] [(.ref x1)] _
    refine st2.trans ?_
    refine XS.astore X2.here hx rfl (hb hby d8_18) rfl rfl (l' := #[rv x1, rv x2, iv (3 : Int32), iv (1 : Int32), rv el1, rv el1, .unset, .unset]) rfl ?_
    refine XS.aload X2.here hx rfl (hb hby d8_20) rfl rfl ?_
    refine XS.aload X2.here hx rfl (hb hby d8_22) rfl rfl ?_
    show oS p e below T2 m 24 #[rv x1, rv x2, iv (3 : Int32), iv (1 : Int32), rv el1, rv el1, .unset, .unset] [(.ref el1), (.ref el1)] _
    refine Jvm.RoadKit.acmp (g := (mkF m 24 #[rv x1, rv x2, iv (3 : Int32), iv (1 : Int32), rv el1, rv el1, .unset, .unset] [(.ref el1), (.ref el1)])) X2 hx rfl rfl rfl (pc0 := 24) (pc' := 29) (same := true) rfl (hb hby d8_24) rfl (decide_eq_true rfl) (by decide) (by decide) ?_
    refine XS.aload X2.here hx rfl (hb hby d8_29) rfl rfl ?_
    refine XS.ifnullNo X2.here hx rfl (hb hby d8_31) rfl ?_
    refine XS.aload X2.here hx rfl (hb hby d8_34) rfl rfl ?_
    show oS p e below T2 m 36 #[rv x1, rv x2, iv (3 : Int32), iv (1 : Int32), rv el1, rv el1, .unset, .unset] [(.ref el1)] _
    refine st3 _ ?_
    refine XS.ifnonnullNo X3.here hx rfl (hb hby d8_39) rfl ?_
    refine XS.aload X3.here hx rfl (hb hby d8_42) rfl rfl ?_
    show oS p e below T3 m 44 #[rv x1, rv x2, iv (3 : Int32), iv (1 : Int32), rv el1, rv el1, .unset, .unset] [(.ref el1)] _
    refine st4 _ ?_
    refine XS.ifnonnullNo X4.here hx rfl (hb hby d8_47) rfl ?_
    refine XS.aload X4.here hx rfl (hb hby d8_50) rfl rfl ?_
    show oS p e below T4 m 52 #[rv x1, rv x2, iv (3 : Int32), iv (1 : Int32), rv el1, rv el1, .unset, .unset] [(.ref el1)] _
    refine st5 _ ?_
    refine XS.ifnullYes X5.here hx rfl (pc0 := 55) (pc' := 60) rfl (hb hby d8_55) rfl (by decide) (by decide) ?_
    refine XS.iloadN X5.here hx rfl (hb hby d8_60) rfl ?_
    refine XS.iconst X5.here hx rfl (hb hby d8_61) ?_
    show oS p e below T5 m 62 #[rv x1, rv x2, iv (3 : Int32), iv (1 : Int32), rv el1, rv el1, .unset, .unset] [(.int (1 : Int32)), (.int (1 : Int32))] _
    refine XS.iadd X5.here hx rfl (hb hby d8_62) rfl ?_
    show oS p e below T5 m 63 #[rv x1, rv x2, iv (3 : Int32), iv (1 : Int32), rv el1, rv el1, .unset, .unset] [(.int (2 : Int32))] _
    refine XS.iloadN X5.here hx rfl (hb hby d8_63) rfl ?_
    refine XS.icmpNo X5.here hx rfl (hb hby d8_64) rfl (tlt (by decide : ((2 : Int32) < (3 : Int32)))).2.1 ?_
    refine XS.aloadN X5.here hx rfl (hb hby d8_67) rfl rfl ?_
    refine XS.iloadN X5.here hx rfl (hb hby d8_68) rfl ?_
    show oS p e below T5 m 69 #[rv x1, rv x2, iv (3 : Int32), iv (1 : Int32), rv el1, rv el1, .unset, .unset] [(.int (1 : Int32)), (.ref x2)] _
    refine XS.iconst X5.here hx rfl (hb hby d8_69) ?_
    refine XS.iadd X5.here hx rfl (hb hby d8_70) rfl ?_
    show oS p e below T5 m 71 #[rv x1, rv x2, iv (3 : Int32), iv (1 : Int32), rv el1, rv el1, .unset, .unset] [(.int (2 : Int32)), (.ref x2)] _
    refine X5.aaload hx (j := (2 : Int32)) (v := (.ref el2)) (by rw [e5]; exact Ar10.1) (State.isArrayOf_alike hZ.alike Ar10.2.1) rfl Ar10.2.2 hin10 hat10 (g := (mkF m 71 #[rv x1, rv x2, iv (3 : Int32), iv (1 : Int32), rv el1, rv el1, .unset, .unset] [(.int (2 : Int32)), (.ref x2)])) rfl rfl (hb hby d8_71) _ ?_
    refine XS.goto X5.here hx rfl (pc0 := 72) (pc' := 76) rfl (hb hby d8_72) (by decide) (by decide) ?_
    refine XS.astore X5.here hx rfl (hb hby d8_76) rfl rfl (l' := #[rv x1, rv x2, iv (3 : Int32), iv (1 : Int32), rv el1, rv el1, rv el2, .unset]) rfl ?_
    refine XS.iloadN X5.here hx rfl (hb hby d8_78) rfl ?_
    show oS p e below T5 m 79 #[rv x1, rv x2, iv (3 : Int32), iv (1 : Int32), rv el1, rv el1, rv el2, .unset] [(.int (1 : Int32))] _
    refine XS.iconst X5.here hx rfl (hb hby d8_79) ?_
    refine XS.iadd X5.here hx rfl (hb hby d8_80) rfl ?_
    show oS p e below T5 m 81 #[rv x1, rv x2, iv (3 : Int32), iv (1 : Int32), rv el1, rv el1, rv el2, .unset] [(.int (2 : Int32))] _
    refine XS.iloadN X5.here hx rfl (hb hby d8_81) rfl ?_
    refine XS.icmpNo X5.here hx rfl (hb hby d8_82) rfl (tlt (by decide : ((2 : Int32) < (3 : Int32)))).2.1 ?_
    refine XS.aloadN X5.here hx rfl (hb hby d8_85) rfl rfl ?_
    refine XS.iloadN X5.here hx rfl (hb hby d8_86) rfl ?_
    show oS p e below T5 m 87 #[rv x1, rv x2, iv (3 : Int32), iv (1 : Int32), rv el1, rv el1, rv el2, .unset] [(.int (3 : Int32)), (.ref x2)] _
    refine XS.iconst X5.here hx rfl (hb hby d8_87) ?_
    refine XS.isub X5.here hx rfl (hb hby d8_88) rfl ?_
    show oS p e below T5 m 89 #[rv x1, rv x2, iv (3 : Int32), iv (1 : Int32), rv el1, rv el1, rv el2, .unset] [(.int (2 : Int32)), (.ref x2)] _
    refine X5.aaload hx (j := (2 : Int32)) (v := (.ref el2)) (by rw [e5]; exact Ar11.1) (State.isArrayOf_alike hZ.alike Ar11.2.1) rfl Ar11.2.2 hin11 hat11 (g := (mkF m 89 #[rv x1, rv x2, iv (3 : Int32), iv (1 : Int32), rv el1, rv el1, rv el2, .unset] [(.int (2 : Int32)), (.ref x2)])) rfl rfl (hb hby d8_89) _ ?_
    refine XS.goto X5.here hx rfl (pc0 := 90) (pc' := 94) rfl (hb hby d8_90) (by decide) (by decide) ?_
    refine XS.astore X5.here hx rfl (hb hby d8_94) rfl rfl (l' := #[rv x1, rv x2, iv (3 : Int32), iv (1 : Int32), rv el1, rv el1, rv el2, rv el2]) rfl ?_
    refine XS.aloadN X5.here hx rfl (hb hby d8_96) rfl rfl ?_
    show oS p e below T5 m 97 #[rv x1, rv x2, iv (3 : Int32), iv (1 : Int32), rv el1, rv el1, rv el2, rv el2] [(.ref x1)] _
    refine XS.aload X5.here hx rfl (hb hby d8_97) rfl rfl ?_
    refine XS.aload X5.here hx rfl (hb hby d8_99) rfl rfl ?_
    show oS p e below T5 m 101 #[rv x1, rv x2, iv (3 : Int32), iv (1 : Int32), rv el1, rv el1, rv el2, rv el2] [(.ref el2), (.ref el2), (.ref x1)] _
    refine st12 _ ?_
    exact kt
  have KP17 : Keep h0 T2.heap [x1, el1, el2] := ((Keep.refl h0 [x1, el1, el2]).trans K2 (allS (Or.inl (List.mem_of_getElem? (i := 0) rfl)) (allS (Or.inl (List.mem_of_getElem? (i := 1) rfl)) (allS (Or.inl (List.mem_of_getElem? (i := 2) rfl)) all0))))
  obtain ⟨fs, hr, hrun, hended, hW, hsame⟩ := X12.leave (v := some (.int (1 : Int32))) (fun h => by rw [Bd.returns] at h; cases h)
  refine ⟨_, _, pre0 _ (pre16 _ ?_), hrun, hended, _, _, rfl, ?_, ⟨_, rfl⟩, hW, hsame.mono (by decide) (by decide)⟩
  · show oS p e below T12 m 104 #[rv x1, rv x2, iv (3 : Int32), iv (1 : Int32), rv el1, rv el1, rv el2, rv el2] [(.int (1 : Int32))] _
    exact retN X12 hx (t := .boolean) Bd.returns (by simp) (hb hby d8_104) hr
  · show QT3_3_1 Z x1 x2 el0 el1 el2 k h0 n0 _ T12.heap _
    rw [eh12]
    exact ⟨rfl, N12, KP17, pf2_0, pf2_1, pf2_5, pf2_6, pf2_7, pf2_2, pf2_3, pf2_4⟩
theorem efT3_3_2 (m : MethodId) (x1 : Addr) (x2 : Addr) : entryFrame m #[(.ref x1), (.ref x2), (.int (3 : Int32)), (.int (2 : Int32))] 8 = mkF m 0 #[rv x1, rv x2, iv (3 : Int32), iv (2 : Int32), .unset, .unset, .unset, .unset] [] := by first | (simp [entryFrame, mkF, argsToLocals, Value.category]; done) | rfl
def QT3_3_2 (Z : State) (x1 : Addr) (x2 : Addr) (el0 : Addr) (el1 : Addr) (el2 : Addr) (k : ClassId) (h0 : Heap) (n0 : Nat) (v : Option Value) (h : Heap) (L : List Loc) : Prop := v = some (.int (1 : Int32)) ∧ Fr n0 L ∧ Keep h0 h [x1, el2] ∧ Fld Z h x1 oz1 "first" oz2 .null ∧ Fld Z h x1 oz1 "last" oz2 .null ∧ Fld Z h el2 oz0 "in" oz6 .null ∧ Fld Z h el2 oz0 "before" oz2 .null ∧ Fld Z h el2 oz0 "after" oz2 .null
set_option maxRecDepth 65536 in
set_option maxHeartbeats 40000000 in
theorem rmT3_3_2 (l : Launch) (Z : State) (a0 : Array Value) (hw : ∀ d ∈ tables_1, d.before a0 Z = true) (ws : List Jvm.Cond) (x1 : Addr) (x2 : Addr) (el0 : Addr) (el1 : Addr) (el2 : Addr) (k : ClassId) (h0 : Heap) (n0 : Nat) (Z0 : n0 ≤ h0.size) (E_x1 : Exa Z h0 x1 oz1) (E_el2 : Exa Z h0 el2 oz0) (g_x1 : n0 ≤ x1) (g_el2 : n0 ≤ el2) (F_first_x1 : Fld Z h0 x1 oz1 "first" oz2 (.ref el2)) (F_last_x1 : Fld Z h0 x1 oz1 "last" oz2 (.ref el2)) (F_in_el2 : Fld Z h0 el2 oz0 "in" oz6 (.ref x1)) (F_before_el2 : Fld Z h0 el2 oz0 "before" oz2 .null) (F_after_el2 : Fld Z h0 el2 oz0 "after" oz2 .null) (V_x2 : Arv Z h0 x2 k (.object oz0) (3 : Int32) [(.ref el0), (.ref el1), (.ref el2)] .null) :
    MetFree l (⟨oz4, "step", oz3⟩ : MethodName) (head1 (Jvm.Cond.code (⟨oz4, "step", oz3⟩ : MethodName) method_3_code 8 (some .boolean) :: ws) ({ frames := 2, cells := 0, slots := 0, locals := 27 } : Room)) (fun a U => a = #[(.ref x1), (.ref x2), (.int (3 : Int32)), (.int (2 : Int32))] ∧ Z.Warmed39 U.vm ∧ U.heap = h0) (fun _ _ _ _ _ => True) (fun _ U oc U' => ∃ v L, oc = .returned v ∧ QT3_3_2 Z x1 x2 el0 el1 el2 k h0 n0 v U'.heap L ∧ FrameEnd U oc U' L ({ frames := 2, cells := 0, slots := 0, locals := 27 } : Room).cells ({ frames := 2, cells := 0, slots := 0, locals := 27 } : Room).slots) := by
  refine MetFree.of_bodySF (plainFor_of_name own_pn2) hisR ?_
  intro p e s m args below meth c s₁ Bd hml0 hP hK
  obtain ⟨rfl, hZ, hh⟩ := hP
  have hx := Bd.exec
  have hby := Bd.bytes
  have hml : c.maxLocals = 8 := hml0
  have hown : s.vm.findClass oz4 = some m.cls := findClass_of_methodNamed Bd.named
  have hnm := (name_of_methodNamed Bd.named Bd.method).1
  have X0 : Stand p l e ({ frames := 2, cells := 0, slots := 0, locals := 27 } : Room) s m #[(.ref x1), (.ref x2), (.int (3 : Int32)), (.int (2 : Int32))] below meth c s₁ [] 0 0 := Stand.of_body Bd
  have e0 : s₁.heap = h0 := by rw [← hh, Bd.state]; rfl
  have N0 := Fr.nil n0
  have pre0 : ∀ t, Steps p.tables e below (s₁.setTop (mkF m 0 #[rv x1, rv x2, iv (3 : Int32), iv (2 : Int32), .unset, .unset, .unset, .unset] [])) t → Steps p.tables e below (s₁.setTop (entryFrame m #[(.ref x1), (.ref x2), (.int (3 : Int32)), (.int (2 : Int32))] 8)) t := fun t k => castTop (efT3_3_2 m x1 x2) k
  obtain ⟨cl1, Ar1, qk1, Sz1, Ng1, Hs1, Gt1⟩ := id V_x2
  have hin1 : ¬ ((2 : Int32) < 0 ∨ cl1.slots.size ≤ ((2 : Int32)).toNatClampNeg) := inb_of Sz1 ⟨by decide, by decide⟩
  have hat1 : cl1.slots[((2 : Int32)).toNatClampNeg]? = some (.ref el2) := Hs1.at hin1 rfl
  obtain ⟨cq2, kq2, q2a, q2b, q2c⟩ := isOf hZ e0 E_x1
  obtain ⟨_, _, ⟨T2, Lw2, kw2, nw2⟩, -, X2, ⟨Lc2, hQ2, l2, y2, z2⟩, st2⟩ := X0.virtualBack hx (y := (⟨oz1, "poll", oz7⟩ : MethodName)) (z := (⟨oz1, "poll", oz7⟩ : MethodName)) hown (mvT hZ (own_w hw 53 rfl)) (mvT hZ (own_w hw 54 rfl)) (notFace_of_selects (args := #[]) (mvT hZ (own_w hw 56 rfl))) (mvT hZ (own_w hw 56 rfl)) (mvT hZ (own_w hw 55 rfl)) (by decide) (backOf (W := 0) (rmP00 l Z a0 hw [] x1 (.ref el2) (.ref x1) el2 h0 n0 Z0 E_x1 E_el2 g_x1 g_el2 F_first_x1 F_last_x1 F_in_el2 F_before_el2 F_after_el2) hZ (own_w hw 57 rfl) (own_w hw 3 rfl) (by decide) (by decide)) q2a q2c (g := (mkF m 15 #[rv x1, rv x2, iv (3 : Int32), iv (2 : Int32), rv el2, .unset, .unset, .unset] [(.ref x1)])) rfl (by rw [hml]; rfl) (Steps.refl _) (argsL := []) (rest := []) (lenOf own_pd1 rfl) rfl (by show 2 * 0 + _ ≤ _; exact Nat.le_of_eq rfl) (hb hby d8_15) (fun _ _ => ⟨rfl, e0, (by decide : 0 + 0 ≤ _), (by decide : 0 + 0 ≤ _)⟩)
  dsimp only [Pt.U, Pt.locs, Pt.cells, Pt.slots] at X2 l2 y2 z2 st2 hQ2
  subst l2 y2 z2
  obtain ⟨rfl, Nq2, K2, pf2_0, pf2_1, pf2_2, pf2_3, pf2_4⟩ := hQ2
  have N2 := Fr.app N0 Nq2
  obtain ⟨T3, X3, e3, st3⟩ := getF X2 hx hZ hown (host := "") (Or.inl (own_w hw 74 rfl)) Via.refl rfl pf2_2 (g := (mkF m 36 #[rv x1, rv x2, iv (3 : Int32), iv (2 : Int32), rv el2, rv el2, .unset, .unset] [(.ref el2)])) rfl rfl (hb hby d8_36)
  obtain ⟨T4, X4, e4, st4⟩ := getF X3 hx hZ hown (host := "") (Or.inl (own_w hw 71 rfl)) Via.refl e3 pf2_3 (g := (mkF m 44 #[rv x1, rv x2, iv (3 : Int32), iv (2 : Int32), rv el2, rv el2, .unset, .unset] [(.ref el2)])) rfl rfl (hb hby d8_44)
  obtain ⟨T5, X5, e5, st5⟩ := getF X4 hx hZ hown (host := "") (Or.inl (own_w hw 72 rfl)) Via.refl e4 pf2_4 (g := (mkF m 52 #[rv x1, rv x2, iv (3 : Int32), iv (2 : Int32), rv el2, rv el2, .unset, .unset] [(.ref el2)])) rfl rfl (hb hby d8_52)
  have Ec7 : Exa Z T2.heap x1 oz1 := (E_x1.keep K2)
  have Zc8 : n0 ≤ T2.heap.size := (Nat.le_trans Z0 K2.1)
  obtain ⟨_, _, ⟨T6, Lw6, kw6, nw6⟩, -, X6, ⟨Lc6, hQ6, l6, y6, z6⟩, st6⟩ := Jvm.LawKit.callS X5 hx (y := (⟨oz4, "state", oz5⟩ : MethodName)) hown (mvT hZ (own_w hw 27 rfl)) (mvT hZ (own_w hw 28 rfl)) (mvT hZ (own_w hw 29 rfl)) (mvT hZ (own_w hw 30 rfl)) (by decide) (backOf (W := 0) (rmS0 l Z a0 hw [] x1 T2.heap n0 Zc8 Ec7 pf2_0 pf2_1) hZ (own_w hw 30 rfl) (own_w hw 29 rfl) (by decide) (by decide)) (g := (mkF m 101 #[rv x1, rv x2, iv (3 : Int32), iv (2 : Int32), rv el2, rv el2, .val .null, .val .null] [.null, .null, (.ref x1)])) rfl (by rw [hml]; rfl) (argsL := [(.ref x1), .null, .null]) (rest := []) (lenOf own_pd5 rfl) rfl (by show 2 * 0 + _ ≤ _; exact Nat.le_of_eq rfl) (hb hby d8_101) (fun _ _ => ⟨rfl, e5, (by decide : 0 + 0 ≤ _), (by decide : 0 + 0 ≤ _)⟩)
  dsimp only [Pt.U, Pt.locs, Pt.cells, Pt.slots] at X6 l6 y6 z6 st6 hQ6
  subst l6 y6 z6
  obtain ⟨rfl, Nq6, eh6⟩ := hQ6
  have N6 := Fr.app N2 Nq6
  have pre9 : ∀ tz, oS p e below T6 m 104 #[rv x1, rv x2, iv (3 : Int32), iv (2 : Int32), rv el2, rv el2, .val .null, .val .null] [(.int (1 : Int32))] tz → oS p e below s₁ m 0 #[rv x1, rv x2, iv (3 : Int32), iv (2 : Int32), .unset, .unset, .unset, .unset] [] tz := fun tz kt => by
    show oS p e below s₁ m 0 #[rv x1, rv x2, iv (3 : Int32), iv (2 : Int32), .unset, .unset, .unset, .unset] [] _
    refine XS.iloadN X0.here hx rfl (hb hby d8_0) rfl ?_
    refine XS.iloadN X0.here hx rfl (hb hby d8_1) rfl ?_
    refine XS.icmpNo X0.here hx rfl (hb hby d8_2) rfl (tlt (by decide : ((2 : Int32) < (3 : Int32)))).2.1 ?_
    refine XS.aloadN X0.here hx rfl (hb hby d8_5) rfl rfl ?_
    show oS p e below s₁ m 6 #[rv x1, rv x2, iv (3 : Int32), iv (2 : Int32), .unset, .unset, .unset, .unset] [(.ref x2)] _
    refine XS.iloadN X0.here hx rfl (hb hby d8_6) rfl ?_
    refine X0.aaload hx (j := (2 : Int32)) (v := (.ref el2)) (by rw [e0]; exact Ar1.1) (State.isArrayOf_alike hZ.alike Ar1.2.1) rfl Ar1.2.2 hin1 hat1 (g := (mkF m 7 #[rv x1, rv x2, iv (3 : Int32), iv (2 : Int32), .unset, .unset, .unset, .unset] [(.int (2 : Int32)), (.ref x2)])) rfl rfl (hb hby d8_7) _ ?_
    refine XS.goto X0.here hx rfl (pc0 := 8) (pc' := 12) rfl (hb hby d8_8) (by decide) (by decide) ?_
    refine XS.astore X0.here hx rfl (hb hby d8_12) rfl rfl (l' := #[rv x1, rv x2, iv (3 : Int32), iv (2 : Int32), rv el2, .unset, .unset, .unset]) rfl ?_
    show oS p e below s₁ m 14 #[rv x1, rv x2, iv (3 : Int32), iv (2 : Int32), rv el2, .unset, .unset, .unset] [] _
    refine XS.aloadN X0.here hx rfl (hb hby d8_14) rfl rfl ?_
    show oS p e below s₁ m 15 #[rv x1, rv x2, iv (3 : Int32), iv (2 : Int32), rv el2, .unset, .unset, .unset] [(.ref x1)] _
    refine st2.trans ?_
    refine XS.astore X2.here hx rfl (hb hby d8_18) rfl rfl (l' := #[rv x1, rv x2, iv (3 : Int32), iv (2 : Int32), rv el2, rv el2, .unset, .unset]) rfl ?_
    refine XS.aload X2.here hx rfl (hb hby d8_20) rfl rfl ?_
    refine XS.aload X2.here hx rfl (hb hby d8_22) rfl rfl ?_
    show oS p e below T2 m 24 #[rv x1, rv x2, iv (3 : Int32), iv (2 : Int32), rv el2, rv el2, .unset, .unset] [(.ref el2), (.ref el2)] _
    refine Jvm.RoadKit.acmp (g := (mkF m 24 #[rv x1, rv x2, iv (3 : Int32), iv (2 : Int32), rv el2, rv el2, .unset, .unset] [(.ref el2), (.ref el2)])) X2 hx rfl rfl rfl (pc0 := 24) (pc' := 29) (same := true) rfl (hb hby d8_24) rfl (decide_eq_true rfl) (by decide) (by decide) ?_
    refine XS.aload X2.here hx rfl (hb hby d8_29) rfl rfl ?_
    refine XS.ifnullNo X2.here hx rfl (hb hby d8_31) rfl ?_
    refine XS.aload X2.here hx rfl (hb hby d8_34) rfl rfl ?_
    show oS p e below T2 m 36 #[rv x1, rv x2, iv (3 : Int32), iv (2 : Int32), rv el2, rv el2, .unset, .unset] [(.ref el2)] _
    refine st3 _ ?_
    refine XS.ifnonnullNo X3.here hx rfl (hb hby d8_39) rfl ?_
    refine XS.aload X3.here hx rfl (hb hby d8_42) rfl rfl ?_
    show oS p e below T3 m 44 #[rv x1, rv x2, iv (3 : Int32), iv (2 : Int32), rv el2, rv el2, .unset, .unset] [(.ref el2)] _
    refine st4 _ ?_
    refine XS.ifnonnullNo X4.here hx rfl (hb hby d8_47) rfl ?_
    refine XS.aload X4.here hx rfl (hb hby d8_50) rfl rfl ?_
    show oS p e below T4 m 52 #[rv x1, rv x2, iv (3 : Int32), iv (2 : Int32), rv el2, rv el2, .unset, .unset] [(.ref el2)] _
    refine st5 _ ?_
    refine XS.ifnullYes X5.here hx rfl (pc0 := 55) (pc' := 60) rfl (hb hby d8_55) rfl (by decide) (by decide) ?_
    refine XS.iloadN X5.here hx rfl (hb hby d8_60) rfl ?_
    refine XS.iconst X5.here hx rfl (hb hby d8_61) ?_
    show oS p e below T5 m 62 #[rv x1, rv x2, iv (3 : Int32), iv (2 : Int32), rv el2, rv el2, .unset, .unset] [(.int (1 : Int32)), (.int (2 : Int32))] _
    refine XS.iadd X5.here hx rfl (hb hby d8_62) rfl ?_
    show oS p e below T5 m 63 #[rv x1, rv x2, iv (3 : Int32), iv (2 : Int32), rv el2, rv el2, .unset, .unset] [(.int (3 : Int32))] _
    refine XS.iloadN X5.here hx rfl (hb hby d8_63) rfl ?_
    refine XS.icmpYes X5.here hx rfl (pc0 := 64) (pc' := 75) rfl (hb hby d8_64) rfl (flt (by decide : ¬ ((3 : Int32) < (3 : Int32)))).2.1 (by decide) (by decide) ?_
    refine XS.aconstNull X5.here hx rfl (hb hby d8_75) ?_
    refine XS.astore X5.here hx rfl (hb hby d8_76) rfl rfl (l' := #[rv x1, rv x2, iv (3 : Int32), iv (2 : Int32), rv el2, rv el2, .val .null, .unset]) rfl ?_
    show oS p e below T5 m 78 #[rv x1, rv x2, iv (3 : Int32), iv (2 : Int32), rv el2, rv el2, .val .null, .unset] [] _
    refine XS.iloadN X5.here hx rfl (hb hby d8_78) rfl ?_
    refine XS.iconst X5.here hx rfl (hb hby d8_79) ?_
    refine XS.iadd X5.here hx rfl (hb hby d8_80) rfl ?_
    show oS p e below T5 m 81 #[rv x1, rv x2, iv (3 : Int32), iv (2 : Int32), rv el2, rv el2, .val .null, .unset] [(.int (3 : Int32))] _
    refine XS.iloadN X5.here hx rfl (hb hby d8_81) rfl ?_
    refine XS.icmpYes X5.here hx rfl (pc0 := 82) (pc' := 93) rfl (hb hby d8_82) rfl (flt (by decide : ¬ ((3 : Int32) < (3 : Int32)))).2.1 (by decide) (by decide) ?_
    refine XS.aconstNull X5.here hx rfl (hb hby d8_93) ?_
    refine XS.astore X5.here hx rfl (hb hby d8_94) rfl rfl (l' := #[rv x1, rv x2, iv (3 : Int32), iv (2 : Int32), rv el2, rv el2, .val .null, .val .null]) rfl ?_
    show oS p e below T5 m 96 #[rv x1, rv x2, iv (3 : Int32), iv (2 : Int32), rv el2, rv el2, .val .null, .val .null] [] _
    refine XS.aloadN X5.here hx rfl (hb hby d8_96) rfl rfl ?_
    refine XS.aload X5.here hx rfl (hb hby d8_97) rfl rfl ?_
    refine XS.aload X5.here hx rfl (hb hby d8_99) rfl rfl ?_
    show oS p e below T5 m 101 #[rv x1, rv x2, iv (3 : Int32), iv (2 : Int32), rv el2, rv el2, .val .null, .val .null] [.null, .null, (.ref x1)] _
    refine st6 _ ?_
    exact kt
  have KP10 : Keep h0 T2.heap [x1, el2] := ((Keep.refl h0 [x1, el2]).trans K2 (allS (Or.inl (List.mem_of_getElem? (i := 0) rfl)) (allS (Or.inl (List.mem_of_getElem? (i := 1) rfl)) all0)))
  obtain ⟨fs, hr, hrun, hended, hW, hsame⟩ := X6.leave (v := some (.int (1 : Int32))) (fun h => by rw [Bd.returns] at h; cases h)
  refine ⟨_, _, pre0 _ (pre9 _ ?_), hrun, hended, _, _, rfl, ?_, ⟨_, rfl⟩, hW, hsame.mono (by decide) (by decide)⟩
  · show oS p e below T6 m 104 #[rv x1, rv x2, iv (3 : Int32), iv (2 : Int32), rv el2, rv el2, .val .null, .val .null] [(.int (1 : Int32))] _
    exact retN X6 hx (t := .boolean) Bd.returns (by simp) (hb hby d8_104) hr
  · show QT3_3_2 Z x1 x2 el0 el1 el2 k h0 n0 _ T6.heap _
    rw [eh6]
    exact ⟨rfl, N6, KP10, pf2_0, pf2_1, pf2_2, pf2_3, pf2_4⟩
theorem efT3_3_3 (m : MethodId) (x1 : Addr) (x2 : Addr) : entryFrame m #[(.ref x1), (.ref x2), (.int (3 : Int32)), (.int (3 : Int32))] 8 = mkF m 0 #[rv x1, rv x2, iv (3 : Int32), iv (3 : Int32), .unset, .unset, .unset, .unset] [] := by first | (simp [entryFrame, mkF, argsToLocals, Value.category]; done) | rfl
def QT3_3_3 (Z : State) (x1 : Addr) (x2 : Addr) (el0 : Addr) (el1 : Addr) (el2 : Addr) (k : ClassId) (h0 : Heap) (n0 : Nat) (v : Option Value) (h : Heap) (L : List Loc) : Prop := v = some (.int (1 : Int32)) ∧ Fr n0 L ∧ h = h0
set_option maxRecDepth 65536 in
set_option maxHeartbeats 40000000 in
theorem rmT3_3_3 (l : Launch) (Z : State) (a0 : Array Value) (hw : ∀ d ∈ tables_1, d.before a0 Z = true) (ws : List Jvm.Cond) (x1 : Addr) (x2 : Addr) (el0 : Addr) (el1 : Addr) (el2 : Addr) (k : ClassId) (h0 : Heap) (n0 : Nat) (Z0 : n0 ≤ h0.size) (E_x1 : Exa Z h0 x1 oz1) (F_first_x1 : Fld Z h0 x1 oz1 "first" oz2 .null) (F_last_x1 : Fld Z h0 x1 oz1 "last" oz2 .null) (V_x2 : Arv Z h0 x2 k (.object oz0) (3 : Int32) [(.ref el0), (.ref el1), (.ref el2)] .null) :
    MetFree l (⟨oz4, "step", oz3⟩ : MethodName) (head1 (Jvm.Cond.code (⟨oz4, "step", oz3⟩ : MethodName) method_3_code 8 (some .boolean) :: ws) ({ frames := 2, cells := 0, slots := 0, locals := 27 } : Room)) (fun a U => a = #[(.ref x1), (.ref x2), (.int (3 : Int32)), (.int (3 : Int32))] ∧ Z.Warmed39 U.vm ∧ U.heap = h0) (fun _ _ _ _ _ => True) (fun _ U oc U' => ∃ v L, oc = .returned v ∧ QT3_3_3 Z x1 x2 el0 el1 el2 k h0 n0 v U'.heap L ∧ FrameEnd U oc U' L ({ frames := 2, cells := 0, slots := 0, locals := 27 } : Room).cells ({ frames := 2, cells := 0, slots := 0, locals := 27 } : Room).slots) := by
  refine MetFree.of_bodySF (plainFor_of_name own_pn2) hisR ?_
  intro p e s m args below meth c s₁ Bd hml0 hP hK
  obtain ⟨rfl, hZ, hh⟩ := hP
  have hx := Bd.exec
  have hby := Bd.bytes
  have hml : c.maxLocals = 8 := hml0
  have hown : s.vm.findClass oz4 = some m.cls := findClass_of_methodNamed Bd.named
  have hnm := (name_of_methodNamed Bd.named Bd.method).1
  have X0 : Stand p l e ({ frames := 2, cells := 0, slots := 0, locals := 27 } : Room) s m #[(.ref x1), (.ref x2), (.int (3 : Int32)), (.int (3 : Int32))] below meth c s₁ [] 0 0 := Stand.of_body Bd
  have e0 : s₁.heap = h0 := by rw [← hh, Bd.state]; rfl
  have N0 := Fr.nil n0
  have pre0 : ∀ t, Steps p.tables e below (s₁.setTop (mkF m 0 #[rv x1, rv x2, iv (3 : Int32), iv (3 : Int32), .unset, .unset, .unset, .unset] [])) t → Steps p.tables e below (s₁.setTop (entryFrame m #[(.ref x1), (.ref x2), (.int (3 : Int32)), (.int (3 : Int32))] 8)) t := fun t k => castTop (efT3_3_3 m x1 x2) k
  obtain ⟨cq1, kq1, q1a, q1b, q1c⟩ := isOf hZ e0 E_x1
  obtain ⟨_, _, ⟨T1, Lw1, kw1, nw1⟩, -, X1, ⟨Lc1, hQ1, l1, y1, z1⟩, st1⟩ := X0.virtualBack hx (y := (⟨oz1, "poll", oz7⟩ : MethodName)) (z := (⟨oz1, "poll", oz7⟩ : MethodName)) hown (mvT hZ (own_w hw 53 rfl)) (mvT hZ (own_w hw 54 rfl)) (notFace_of_selects (args := #[]) (mvT hZ (own_w hw 56 rfl))) (mvT hZ (own_w hw 56 rfl)) (mvT hZ (own_w hw 55 rfl)) (by decide) (backOf (W := 0) (rmP0 l Z a0 hw [] x1 h0 n0 Z0 E_x1 F_first_x1) hZ (own_w hw 57 rfl) (own_w hw 3 rfl) (by decide) (by decide)) q1a q1c (g := (mkF m 15 #[rv x1, rv x2, iv (3 : Int32), iv (3 : Int32), .val .null, .unset, .unset, .unset] [(.ref x1)])) rfl (by rw [hml]; rfl) (Steps.refl _) (argsL := []) (rest := []) (lenOf own_pd1 rfl) rfl (by show 2 * 0 + _ ≤ _; exact Nat.le_of_eq rfl) (hb hby d8_15) (fun _ _ => ⟨rfl, e0, (by decide : 0 + 0 ≤ _), (by decide : 0 + 0 ≤ _)⟩)
  dsimp only [Pt.U, Pt.locs, Pt.cells, Pt.slots] at X1 l1 y1 z1 st1 hQ1
  subst l1 y1 z1
  obtain ⟨rfl, Nq1, eh1⟩ := hQ1
  have N1 := Fr.app N0 Nq1
  obtain ⟨_, _, ⟨T2, Lw2, kw2, nw2⟩, -, X2, ⟨Lc2, hQ2, l2, y2, z2⟩, st2⟩ := Jvm.LawKit.callS X1 hx (y := (⟨oz4, "state", oz5⟩ : MethodName)) hown (mvT hZ (own_w hw 27 rfl)) (mvT hZ (own_w hw 28 rfl)) (mvT hZ (own_w hw 29 rfl)) (mvT hZ (own_w hw 30 rfl)) (by decide) (backOf (W := 0) (rmS0 l Z a0 hw [] x1 h0 n0 Z0 E_x1 F_first_x1 F_last_x1) hZ (own_w hw 30 rfl) (own_w hw 29 rfl) (by decide) (by decide)) (g := (mkF m 101 #[rv x1, rv x2, iv (3 : Int32), iv (3 : Int32), .val .null, .val .null, .val .null, .val .null] [.null, .null, (.ref x1)])) rfl (by rw [hml]; rfl) (argsL := [(.ref x1), .null, .null]) (rest := []) (lenOf own_pd5 rfl) rfl (by show 2 * 0 + _ ≤ _; exact Nat.le_of_eq rfl) (hb hby d8_101) (fun _ _ => ⟨rfl, eh1, (by decide : 0 + 0 ≤ _), (by decide : 0 + 0 ≤ _)⟩)
  dsimp only [Pt.U, Pt.locs, Pt.cells, Pt.slots] at X2 l2 y2 z2 st2 hQ2
  subst l2 y2 z2
  obtain ⟨rfl, Nq2, eh2⟩ := hQ2
  have N2 := Fr.app N1 Nq2
  have pre3 : ∀ tz, oS p e below T2 m 104 #[rv x1, rv x2, iv (3 : Int32), iv (3 : Int32), .val .null, .val .null, .val .null, .val .null] [(.int (1 : Int32))] tz → oS p e below s₁ m 0 #[rv x1, rv x2, iv (3 : Int32), iv (3 : Int32), .unset, .unset, .unset, .unset] [] tz := fun tz kt => by
    show oS p e below s₁ m 0 #[rv x1, rv x2, iv (3 : Int32), iv (3 : Int32), .unset, .unset, .unset, .unset] [] _
    refine XS.iloadN X0.here hx rfl (hb hby d8_0) rfl ?_
    refine XS.iloadN X0.here hx rfl (hb hby d8_1) rfl ?_
    refine XS.icmpYes X0.here hx rfl (pc0 := 2) (pc' := 11) rfl (hb hby d8_2) rfl (flt (by decide : ¬ ((3 : Int32) < (3 : Int32)))).2.1 (by decide) (by decide) ?_
    refine XS.aconstNull X0.here hx rfl (hb hby d8_11) ?_
    show oS p e below s₁ m 12 #[rv x1, rv x2, iv (3 : Int32), iv (3 : Int32), .unset, .unset, .unset, .unset] [.null] _
    refine XS.astore X0.here hx rfl (hb hby d8_12) rfl rfl (l' := #[rv x1, rv x2, iv (3 : Int32), iv (3 : Int32), .val .null, .unset, .unset, .unset]) rfl ?_
    refine XS.aloadN X0.here hx rfl (hb hby d8_14) rfl rfl ?_
    show oS p e below s₁ m 15 #[rv x1, rv x2, iv (3 : Int32), iv (3 : Int32), .val .null, .unset, .unset, .unset] [(.ref x1)] _
    refine st1.trans ?_
    refine XS.astore X1.here hx rfl (hb hby d8_18) rfl rfl (l' := #[rv x1, rv x2, iv (3 : Int32), iv (3 : Int32), .val .null, .val .null, .unset, .unset]) rfl ?_
    refine XS.aload X1.here hx rfl (hb hby d8_20) rfl rfl ?_
    refine XS.aload X1.here hx rfl (hb hby d8_22) rfl rfl ?_
    show oS p e below T1 m 24 #[rv x1, rv x2, iv (3 : Int32), iv (3 : Int32), .val .null, .val .null, .unset, .unset] [.null, .null] _
    refine Jvm.RoadKit.acmp (g := (mkF m 24 #[rv x1, rv x2, iv (3 : Int32), iv (3 : Int32), .val .null, .val .null, .unset, .unset] [.null, .null])) X1 hx rfl rfl rfl (pc0 := 24) (pc' := 29) (same := true) rfl (hb hby d8_24) rfl (decide_eq_true rfl) (by decide) (by decide) ?_
    refine XS.aload X1.here hx rfl (hb hby d8_29) rfl rfl ?_
    refine XS.ifnullYes X1.here hx rfl (pc0 := 31) (pc' := 60) rfl (hb hby d8_31) rfl (by decide) (by decide) ?_
    refine XS.iloadN X1.here hx rfl (hb hby d8_60) rfl ?_
    show oS p e below T1 m 61 #[rv x1, rv x2, iv (3 : Int32), iv (3 : Int32), .val .null, .val .null, .unset, .unset] [(.int (3 : Int32))] _
    refine XS.iconst X1.here hx rfl (hb hby d8_61) ?_
    refine XS.iadd X1.here hx rfl (hb hby d8_62) rfl ?_
    show oS p e below T1 m 63 #[rv x1, rv x2, iv (3 : Int32), iv (3 : Int32), .val .null, .val .null, .unset, .unset] [(.int (4 : Int32))] _
    refine XS.iloadN X1.here hx rfl (hb hby d8_63) rfl ?_
    refine XS.icmpYes X1.here hx rfl (pc0 := 64) (pc' := 75) rfl (hb hby d8_64) rfl (flt (by decide : ¬ ((4 : Int32) < (3 : Int32)))).2.1 (by decide) (by decide) ?_
    refine XS.aconstNull X1.here hx rfl (hb hby d8_75) ?_
    refine XS.astore X1.here hx rfl (hb hby d8_76) rfl rfl (l' := #[rv x1, rv x2, iv (3 : Int32), iv (3 : Int32), .val .null, .val .null, .val .null, .unset]) rfl ?_
    show oS p e below T1 m 78 #[rv x1, rv x2, iv (3 : Int32), iv (3 : Int32), .val .null, .val .null, .val .null, .unset] [] _
    refine XS.iloadN X1.here hx rfl (hb hby d8_78) rfl ?_
    refine XS.iconst X1.here hx rfl (hb hby d8_79) ?_
    refine XS.iadd X1.here hx rfl (hb hby d8_80) rfl ?_
    show oS p e below T1 m 81 #[rv x1, rv x2, iv (3 : Int32), iv (3 : Int32), .val .null, .val .null, .val .null, .unset] [(.int (4 : Int32))] _
    refine XS.iloadN X1.here hx rfl (hb hby d8_81) rfl ?_
    refine XS.icmpYes X1.here hx rfl (pc0 := 82) (pc' := 93) rfl (hb hby d8_82) rfl (flt (by decide : ¬ ((4 : Int32) < (3 : Int32)))).2.1 (by decide) (by decide) ?_
    refine XS.aconstNull X1.here hx rfl (hb hby d8_93) ?_
    refine XS.astore X1.here hx rfl (hb hby d8_94) rfl rfl (l' := #[rv x1, rv x2, iv (3 : Int32), iv (3 : Int32), .val .null, .val .null, .val .null, .val .null]) rfl ?_
    show oS p e below T1 m 96 #[rv x1, rv x2, iv (3 : Int32), iv (3 : Int32), .val .null, .val .null, .val .null, .val .null] [] _
    refine XS.aloadN X1.here hx rfl (hb hby d8_96) rfl rfl ?_
    refine XS.aload X1.here hx rfl (hb hby d8_97) rfl rfl ?_
    refine XS.aload X1.here hx rfl (hb hby d8_99) rfl rfl ?_
    show oS p e below T1 m 101 #[rv x1, rv x2, iv (3 : Int32), iv (3 : Int32), .val .null, .val .null, .val .null, .val .null] [.null, .null, (.ref x1)] _
    refine st2 _ ?_
    exact kt
  obtain ⟨fs, hr, hrun, hended, hW, hsame⟩ := X2.leave (v := some (.int (1 : Int32))) (fun h => by rw [Bd.returns] at h; cases h)
  refine ⟨_, _, pre0 _ (pre3 _ ?_), hrun, hended, _, _, rfl, ?_, ⟨_, rfl⟩, hW, hsame.mono (by decide) (by decide)⟩
  · show oS p e below T2 m 104 #[rv x1, rv x2, iv (3 : Int32), iv (3 : Int32), .val .null, .val .null, .val .null, .val .null] [(.int (1 : Int32))] _
    exact retN X2 hx (t := .boolean) Bd.returns (by simp) (hb hby d8_104) hr
  · show QT3_3_3 Z x1 x2 el0 el1 el2 k h0 n0 _ T2.heap _
    rw [eh2]
    exact ⟨rfl, N2, rfl⟩
theorem efT2_2_0 (m : MethodId) (x1 : Addr) (x2 : Addr) : entryFrame m #[(.ref x1), (.ref x2), (.int (2 : Int32)), (.int (0 : Int32))] 8 = mkF m 0 #[rv x1, rv x2, iv (2 : Int32), iv (0 : Int32), .unset, .unset, .unset, .unset] [] := by first | (simp [entryFrame, mkF, argsToLocals, Value.category]; done) | rfl
def QT2_2_0 (Z : State) (x1 : Addr) (x2 : Addr) (el0 : Addr) (el1 : Addr) (k : ClassId) (h0 : Heap) (n0 : Nat) (v : Option Value) (h : Heap) (L : List Loc) : Prop := v = some (.int (1 : Int32)) ∧ Fr n0 L ∧ Keep h0 h [x1, el0, el1] ∧ Fld Z h x1 oz1 "first" oz2 (.ref el1) ∧ Fld Z h x1 oz1 "last" oz2 (.ref el1) ∧ Fld Z h el1 oz0 "in" oz6 (.ref x1) ∧ Fld Z h el1 oz0 "before" oz2 .null ∧ Fld Z h el1 oz0 "after" oz2 .null ∧ Fld Z h el0 oz0 "in" oz6 .null ∧ Fld Z h el0 oz0 "before" oz2 .null ∧ Fld Z h el0 oz0 "after" oz2 .null
set_option maxRecDepth 65536 in
set_option maxHeartbeats 40000000 in
theorem rmT2_2_0 (l : Launch) (Z : State) (a0 : Array Value) (hw : ∀ d ∈ tables_1, d.before a0 Z = true) (ws : List Jvm.Cond) (x1 : Addr) (x2 : Addr) (el0 : Addr) (el1 : Addr) (k : ClassId) (h0 : Heap) (n0 : Nat) (Z0 : n0 ≤ h0.size) (E_x1 : Exa Z h0 x1 oz1) (E_el0 : Exa Z h0 el0 oz0) (E_el1 : Exa Z h0 el1 oz0) (g_x1 : n0 ≤ x1) (g_el0 : n0 ≤ el0) (g_el1 : n0 ≤ el1) (ne_el0_el1 : el0 ≠ el1) (F_first_x1 : Fld Z h0 x1 oz1 "first" oz2 (.ref el0)) (F_last_x1 : Fld Z h0 x1 oz1 "last" oz2 (.ref el1)) (F_in_el0 : Fld Z h0 el0 oz0 "in" oz6 (.ref x1)) (F_before_el0 : Fld Z h0 el0 oz0 "before" oz2 .null) (F_after_el0 : Fld Z h0 el0 oz0 "after" oz2 (.ref el1)) (F_in_el1 : Fld Z h0 el1 oz0 "in" oz6 (.ref x1)) (F_before_el1 : Fld Z h0 el1 oz0 "before" oz2 (.ref el0)) (F_after_el1 : Fld Z h0 el1 oz0 "after" oz2 .null) (V_x2 : Arv Z h0 x2 k (.object oz0) (2 : Int32) [(.ref el0), (.ref el1)] .null) :
    MetFree l (⟨oz4, "step", oz3⟩ : MethodName) (head1 (Jvm.Cond.code (⟨oz4, "step", oz3⟩ : MethodName) method_3_code 8 (some .boolean) :: ws) ({ frames := 2, cells := 0, slots := 0, locals := 27 } : Room)) (fun a U => a = #[(.ref x1), (.ref x2), (.int (2 : Int32)), (.int (0 : Int32))] ∧ Z.Warmed39 U.vm ∧ U.heap = h0) (fun _ _ _ _ _ => True) (fun _ U oc U' => ∃ v L, oc = .returned v ∧ QT2_2_0 Z x1 x2 el0 el1 k h0 n0 v U'.heap L ∧ FrameEnd U oc U' L ({ frames := 2, cells := 0, slots := 0, locals := 27 } : Room).cells ({ frames := 2, cells := 0, slots := 0, locals := 27 } : Room).slots) := by
  refine MetFree.of_bodySF (plainFor_of_name own_pn2) hisR ?_
  intro p e s m args below meth c s₁ Bd hml0 hP hK
  obtain ⟨rfl, hZ, hh⟩ := hP
  have hx := Bd.exec
  have hby := Bd.bytes
  have hml : c.maxLocals = 8 := hml0
  have hown : s.vm.findClass oz4 = some m.cls := findClass_of_methodNamed Bd.named
  have hnm := (name_of_methodNamed Bd.named Bd.method).1
  have X0 : Stand p l e ({ frames := 2, cells := 0, slots := 0, locals := 27 } : Room) s m #[(.ref x1), (.ref x2), (.int (2 : Int32)), (.int (0 : Int32))] below meth c s₁ [] 0 0 := Stand.of_body Bd
  have e0 : s₁.heap = h0 := by rw [← hh, Bd.state]; rfl
  have N0 := Fr.nil n0
  have pre0 : ∀ t, Steps p.tables e below (s₁.setTop (mkF m 0 #[rv x1, rv x2, iv (2 : Int32), iv (0 : Int32), .unset, .unset, .unset, .unset] [])) t → Steps p.tables e below (s₁.setTop (entryFrame m #[(.ref x1), (.ref x2), (.int (2 : Int32)), (.int (0 : Int32))] 8)) t := fun t k => castTop (efT2_2_0 m x1 x2) k
  obtain ⟨cl1, Ar1, qk1, Sz1, Ng1, Hs1, Gt1⟩ := id V_x2
  have hin1 : ¬ ((0 : Int32) < 0 ∨ cl1.slots.size ≤ ((0 : Int32)).toNatClampNeg) := inb_of Sz1 ⟨by decide, by decide⟩
  have hat1 : cl1.slots[((0 : Int32)).toNatClampNeg]? = some (.ref el0) := Hs1.at hin1 rfl
  obtain ⟨cq2, kq2, q2a, q2b, q2c⟩ := isOf hZ e0 E_x1
  obtain ⟨_, _, ⟨T2, Lw2, kw2, nw2⟩, -, X2, ⟨Lc2, hQ2, l2, y2, z2⟩, st2⟩ := X0.virtualBack hx (y := (⟨oz1, "poll", oz7⟩ : MethodName)) (z := (⟨oz1, "poll", oz7⟩ : MethodName)) hown (mvT hZ (own_w hw 53 rfl)) (mvT hZ (own_w hw 54 rfl)) (notFace_of_selects (args := #[]) (mvT hZ (own_w hw 56 rfl))) (mvT hZ (own_w hw 56 rfl)) (mvT hZ (own_w hw 55 rfl)) (by decide) (backOf (W := 0) (rmP0t l Z a0 hw [] x1 (.ref el1) (.ref x1) (.ref x1) (.ref el0) .null el0 el1 h0 n0 Z0 E_x1 E_el0 E_el1 g_x1 g_el0 g_el1 ne_el0_el1 F_first_x1 F_last_x1 F_in_el0 F_before_el0 F_after_el0 F_in_el1 F_before_el1 F_after_el1) hZ (own_w hw 57 rfl) (own_w hw 3 rfl) (by decide) (by decide)) q2a q2c (g := (mkF m 15 #[rv x1, rv x2, iv (2 : Int32), iv (0 : Int32), rv el0, .unset, .unset, .unset] [(.ref x1)])) rfl (by rw [hml]; rfl) (Steps.refl _) (argsL := []) (rest := []) (lenOf own_pd1 rfl) rfl (by show 2 * 0 + _ ≤ _; exact Nat.le_of_eq rfl) (hb hby d8_15) (fun _ _ => ⟨rfl, e0, (by decide : 0 + 0 ≤ _), (by decide : 0 + 0 ≤ _)⟩)
  dsimp only [Pt.U, Pt.locs, Pt.cells, Pt.slots] at X2 l2 y2 z2 st2 hQ2
  subst l2 y2 z2
  obtain ⟨rfl, Nq2, K2, pf2_0, pf2_1, pf2_2, pf2_3, pf2_4, pf2_5, pf2_6, pf2_7⟩ := hQ2
  have N2 := Fr.app N0 Nq2
  obtain ⟨T3, X3, e3, st3⟩ := getF X2 hx hZ hown (host := "") (Or.inl (own_w hw 74 rfl)) Via.refl rfl pf2_2 (g := (mkF m 36 #[rv x1, rv x2, iv (2 : Int32), iv (0 : Int32), rv el0, rv el0, .unset, .unset] [(.ref el0)])) rfl rfl (hb hby d8_36)
  obtain ⟨T4, X4, e4, st4⟩ := getF X3 hx hZ hown (host := "") (Or.inl (own_w hw 71 rfl)) Via.refl e3 pf2_3 (g := (mkF m 44 #[rv x1, rv x2, iv (2 : Int32), iv (0 : Int32), rv el0, rv el0, .unset, .unset] [(.ref el0)])) rfl rfl (hb hby d8_44)
  obtain ⟨T5, X5, e5, st5⟩ := getF X4 hx hZ hown (host := "") (Or.inl (own_w hw 72 rfl)) Via.refl e4 pf2_4 (g := (mkF m 52 #[rv x1, rv x2, iv (2 : Int32), iv (0 : Int32), rv el0, rv el0, .unset, .unset] [(.ref el0)])) rfl rfl (hb hby d8_52)
  obtain ⟨_, Arn6, -⟩ := id V_x2
  have ne6 : el1 ≠ x2 := ne_arr E_el1 (own_w hw 11 rfl) Arn6
  obtain ⟨_, Arn7, -⟩ := id V_x2
  have ne7 : el0 ≠ x2 := ne_arr E_el0 (own_w hw 11 rfl) Arn7
  obtain ⟨_, Arn8, -⟩ := id V_x2
  have ne8 : x1 ≠ x2 := ne_arr E_x1 (own_w hw 2 rfl) Arn8
  have Vc9 : Arv Z T2.heap x2 k (.object oz0) (2 : Int32) [(.ref el0), (.ref el1)] .null := (V_x2.keep K2 (ninS (Ne.symm ne8) (ninS (Ne.symm ne7) (ninS (Ne.symm ne6) nin0))))
  obtain ⟨cl10, Ar10, qk10, Sz10, Ng10, Hs10, Gt10⟩ := id Vc9
  have hin10 : ¬ ((1 : Int32) < 0 ∨ cl10.slots.size ≤ ((1 : Int32)).toNatClampNeg) := inb_of Sz10 ⟨by decide, by decide⟩
  have hat10 : cl10.slots[((1 : Int32)).toNatClampNeg]? = some (.ref el1) := Hs10.at hin10 rfl
  obtain ⟨cl11, Ar11, qk11, Sz11, Ng11, Hs11, Gt11⟩ := id Vc9
  have hin11 : ¬ ((1 : Int32) < 0 ∨ cl11.slots.size ≤ ((1 : Int32)).toNatClampNeg) := inb_of Sz11 ⟨by decide, by decide⟩
  have hat11 : cl11.slots[((1 : Int32)).toNatClampNeg]? = some (.ref el1) := Hs11.at hin11 rfl
  have Ec13 : Exa Z T2.heap x1 oz1 := (E_x1.keep K2)
  have Ec14 : Exa Z T2.heap el1 oz0 := (E_el1.keep K2)
  have Zc15 : n0 ≤ T2.heap.size := (Nat.le_trans Z0 K2.1)
  obtain ⟨_, _, ⟨T12, Lw12, kw12, nw12⟩, -, X12, ⟨Lc12, hQ12, l12, y12, z12⟩, st12⟩ := Jvm.LawKit.callS X5 hx (y := (⟨oz4, "state", oz5⟩ : MethodName)) hown (mvT hZ (own_w hw 27 rfl)) (mvT hZ (own_w hw 28 rfl)) (mvT hZ (own_w hw 29 rfl)) (mvT hZ (own_w hw 30 rfl)) (by decide) (backOf (W := 0) (rmS1 l Z a0 hw [] x1 el1 T2.heap n0 Zc15 Ec13 Ec14 pf2_0 pf2_1 pf2_5 pf2_6 pf2_7) hZ (own_w hw 30 rfl) (own_w hw 29 rfl) (by decide) (by decide)) (g := (mkF m 101 #[rv x1, rv x2, iv (2 : Int32), iv (0 : Int32), rv el0, rv el0, rv el1, rv el1] [(.ref el1), (.ref el1), (.ref x1)])) rfl (by rw [hml]; rfl) (argsL := [(.ref x1), (.ref el1), (.ref el1)]) (rest := []) (lenOf own_pd5 rfl) rfl (by show 2 * 0 + _ ≤ _; exact Nat.le_of_eq rfl) (hb hby d8_101) (fun _ _ => ⟨rfl, e5, (by decide : 0 + 0 ≤ _), (by decide : 0 + 0 ≤ _)⟩)
  dsimp only [Pt.U, Pt.locs, Pt.cells, Pt.slots] at X12 l12 y12 z12 st12 hQ12
  subst l12 y12 z12
  obtain ⟨rfl, Nq12, eh12⟩ := hQ12
  have N12 := Fr.app N2 Nq12
  have pre16 : ∀ tz, oS p e below T12 m 104 #[rv x1, rv x2, iv (2 : Int32), iv (0 : Int32), rv el0, rv el0, rv el1, rv el1] [(.int (1 : Int32))] tz → oS p e below s₁ m 0 #[rv x1, rv x2, iv (2 : Int32), iv (0 : Int32), .unset, .unset, .unset, .unset] [] tz := fun tz kt => by
    show oS p e below s₁ m 0 #[rv x1, rv x2, iv (2 : Int32), iv (0 : Int32), .unset, .unset, .unset, .unset] [] _
    refine XS.iloadN X0.here hx rfl (hb hby d8_0) rfl ?_
    refine XS.iloadN X0.here hx rfl (hb hby d8_1) rfl ?_
    refine XS.icmpNo X0.here hx rfl (hb hby d8_2) rfl (tlt (by decide : ((0 : Int32) < (2 : Int32)))).2.1 ?_
    refine XS.aloadN X0.here hx rfl (hb hby d8_5) rfl rfl ?_
    show oS p e below s₁ m 6 #[rv x1, rv x2, iv (2 : Int32), iv (0 : Int32), .unset, .unset, .unset, .unset] [(.ref x2)] _
    refine XS.iloadN X0.here hx rfl (hb hby d8_6) rfl ?_
    refine X0.aaload hx (j := (0 : Int32)) (v := (.ref el0)) (by rw [e0]; exact Ar1.1) (State.isArrayOf_alike hZ.alike Ar1.2.1) rfl Ar1.2.2 hin1 hat1 (g := (mkF m 7 #[rv x1, rv x2, iv (2 : Int32), iv (0 : Int32), .unset, .unset, .unset, .unset] [(.int (0 : Int32)), (.ref x2)])) rfl rfl (hb hby d8_7) _ ?_
    refine XS.goto X0.here hx rfl (pc0 := 8) (pc' := 12) rfl (hb hby d8_8) (by decide) (by decide) ?_
    refine XS.astore X0.here hx rfl (hb hby d8_12) rfl rfl (l' := #[rv x1, rv x2, iv (2 : Int32), iv (0 : Int32), rv el0, .unset, .unset, .unset]) rfl ?_
    show oS p e below s₁ m 14 #[rv x1, rv x2, iv (2 : Int32), iv (0 : Int32), rv el0, .unset, .unset, .unset] [] _
    refine XS.aloadN X0.here hx rfl (hb hby d8_14) rfl rfl ?_
    show oS p e below s₁ m 15 #[rv x1, rv x2, iv (2 : Int32), iv (0 : Int32), rv el0, .unset, .unset, .unset] [(.ref x1)] _
    refine st2.trans ?_
    refine XS.astore X2.here hx rfl (hb hby d8_18) rfl rfl (l' := #[rv x1, rv x2, iv (2 : Int32), iv (0 : Int32), rv el0, rv el0, .unset, .unset]) rfl ?_
    refine XS.aload X2.here hx rfl (hb hby d8_20) rfl rfl ?_
    refine XS.aload X2.here hx rfl (hb hby d8_22) rfl rfl ?_
    show oS p e below T2 m 24 #[rv x1, rv x2, iv (2 : Int32), iv (0 : Int32), rv el0, rv el0, .unset, .unset] [(.ref el0), (.ref el0)] _
    refine Jvm.RoadKit.acmp (g := (mkF m 24 #[rv x1, rv x2, iv (2 : Int32), iv (0 : Int32), rv el0, rv el0, .unset, .unset] [(.ref el0), (.ref el0)])) X2 hx rfl rfl rfl (pc0 := 24) (pc' := 29) (same := true) rfl (hb hby d8_24) rfl (decide_eq_true rfl) (by decide) (by decide) ?_
    refine XS.aload X2.here hx rfl (hb hby d8_29) rfl rfl ?_
    refine XS.ifnullNo X2.here hx rfl (hb hby d8_31) rfl ?_
    refine XS.aload X2.here hx rfl (hb hby d8_34) rfl rfl ?_
    show oS p e below T2 m 36 #[rv x1, rv x2, iv (2 : Int32), iv (0 : Int32), rv el0, rv el0, .unset, .unset] [(.ref el0)] _
    refine st3 _ ?_
    refine XS.ifnonnullNo X3.here hx rfl (hb hby d8_39) rfl ?_
    refine XS.aload X3.here hx rfl (hb hby d8_42) rfl rfl ?_
    show oS p e below T3 m 44 #[rv x1, rv x2, iv (2 : Int32), iv (0 : Int32), rv el0, rv el0, .unset, .unset] [(.ref el0)] _
    refine st4 _ ?_
    refine XS.ifnonnullNo X4.here hx rfl (hb hby d8_47) rfl ?_
    refine XS.aload X4.here hx rfl (hb hby d8_50) rfl rfl ?_
    show oS p e below T4 m 52 #[rv x1, rv x2, iv (2 : Int32), iv (0 : Int32), rv el0, rv el0, .unset, .unset] [(.ref el0)] _
    refine st5 _ ?_
    refine XS.ifnullYes X5.here hx rfl (pc0 := 55) (pc' := 60) rfl (hb hby d8_55) rfl (by decide) (by decide) ?_
    refine XS.iloadN X5.here hx rfl (hb hby d8_60) rfl ?_
    refine XS.iconst X5.here hx rfl (hb hby d8_61) ?_
    show oS p e below T5 m 62 #[rv x1, rv x2, iv (2 : Int32), iv (0 : Int32), rv el0, rv el0, .unset, .unset] [(.int (1 : Int32)), (.int (0 : Int32))] _
    refine XS.iadd X5.here hx rfl (hb hby d8_62) rfl ?_
    show oS p e below T5 m 63 #[rv x1, rv x2, iv (2 : Int32), iv (0 : Int32), rv el0, rv el0, .unset, .unset] [(.int (1 : Int32))] _
    refine XS.iloadN X5.here hx rfl (hb hby d8_63) rfl ?_
    refine XS.icmpNo X5.here hx rfl (hb hby d8_64) rfl (tlt (by decide : ((1 : Int32) < (2 : Int32)))).2.1 ?_
    refine XS.aloadN X5.here hx rfl (hb hby d8_67) rfl rfl ?_
    refine XS.iloadN X5.here hx rfl (hb hby d8_68) rfl ?_
    show oS p e below T5 m 69 #[rv x1, rv x2, iv (2 : Int32), iv (0 : Int32), rv el0, rv el0, .unset, .unset] [(.int (0 : Int32)), (.ref x2)] _
    refine XS.iconst X5.here hx rfl (hb hby d8_69) ?_
    refine XS.iadd X5.here hx rfl (hb hby d8_70) rfl ?_
    show oS p e below T5 m 71 #[rv x1, rv x2, iv (2 : Int32), iv (0 : Int32), rv el0, rv el0, .unset, .unset] [(.int (1 : Int32)), (.ref x2)] _
    refine X5.aaload hx (j := (1 : Int32)) (v := (.ref el1)) (by rw [e5]; exact Ar10.1) (State.isArrayOf_alike hZ.alike Ar10.2.1) rfl Ar10.2.2 hin10 hat10 (g := (mkF m 71 #[rv x1, rv x2, iv (2 : Int32), iv (0 : Int32), rv el0, rv el0, .unset, .unset] [(.int (1 : Int32)), (.ref x2)])) rfl rfl (hb hby d8_71) _ ?_
    refine XS.goto X5.here hx rfl (pc0 := 72) (pc' := 76) rfl (hb hby d8_72) (by decide) (by decide) ?_
    refine XS.astore X5.here hx rfl (hb hby d8_76) rfl rfl (l' := #[rv x1, rv x2, iv (2 : Int32), iv (0 : Int32), rv el0, rv el0, rv el1, .unset]) rfl ?_
    refine XS.iloadN X5.here hx rfl (hb hby d8_78) rfl ?_
    show oS p e below T5 m 79 #[rv x1, rv x2, iv (2 : Int32), iv (0 : Int32), rv el0, rv el0, rv el1, .unset] [(.int (0 : Int32))] _
    refine XS.iconst X5.here hx rfl (hb hby d8_79) ?_
    refine XS.iadd X5.here hx rfl (hb hby d8_80) rfl ?_
    show oS p e below T5 m 81 #[rv x1, rv x2, iv (2 : Int32), iv (0 : Int32), rv el0, rv el0, rv el1, .unset] [(.int (1 : Int32))] _
    refine XS.iloadN X5.here hx rfl (hb hby d8_81) rfl ?_
    refine XS.icmpNo X5.here hx rfl (hb hby d8_82) rfl (tlt (by decide : ((1 : Int32) < (2 : Int32)))).2.1 ?_
    refine XS.aloadN X5.here hx rfl (hb hby d8_85) rfl rfl ?_
    refine XS.iloadN X5.here hx rfl (hb hby d8_86) rfl ?_
    show oS p e below T5 m 87 #[rv x1, rv x2, iv (2 : Int32), iv (0 : Int32), rv el0, rv el0, rv el1, .unset] [(.int (2 : Int32)), (.ref x2)] _
    refine XS.iconst X5.here hx rfl (hb hby d8_87) ?_
    refine XS.isub X5.here hx rfl (hb hby d8_88) rfl ?_
    show oS p e below T5 m 89 #[rv x1, rv x2, iv (2 : Int32), iv (0 : Int32), rv el0, rv el0, rv el1, .unset] [(.int (1 : Int32)), (.ref x2)] _
    refine X5.aaload hx (j := (1 : Int32)) (v := (.ref el1)) (by rw [e5]; exact Ar11.1) (State.isArrayOf_alike hZ.alike Ar11.2.1) rfl Ar11.2.2 hin11 hat11 (g := (mkF m 89 #[rv x1, rv x2, iv (2 : Int32), iv (0 : Int32), rv el0, rv el0, rv el1, .unset] [(.int (1 : Int32)), (.ref x2)])) rfl rfl (hb hby d8_89) _ ?_
    refine XS.goto X5.here hx rfl (pc0 := 90) (pc' := 94) rfl (hb hby d8_90) (by decide) (by decide) ?_
    refine XS.astore X5.here hx rfl (hb hby d8_94) rfl rfl (l' := #[rv x1, rv x2, iv (2 : Int32), iv (0 : Int32), rv el0, rv el0, rv el1, rv el1]) rfl ?_
    refine XS.aloadN X5.here hx rfl (hb hby d8_96) rfl rfl ?_
    show oS p e below T5 m 97 #[rv x1, rv x2, iv (2 : Int32), iv (0 : Int32), rv el0, rv el0, rv el1, rv el1] [(.ref x1)] _
    refine XS.aload X5.here hx rfl (hb hby d8_97) rfl rfl ?_
    refine XS.aload X5.here hx rfl (hb hby d8_99) rfl rfl ?_
    show oS p e below T5 m 101 #[rv x1, rv x2, iv (2 : Int32), iv (0 : Int32), rv el0, rv el0, rv el1, rv el1] [(.ref el1), (.ref el1), (.ref x1)] _
    refine st12 _ ?_
    exact kt
  have KP17 : Keep h0 T2.heap [x1, el0, el1] := ((Keep.refl h0 [x1, el0, el1]).trans K2 (allS (Or.inl (List.mem_of_getElem? (i := 0) rfl)) (allS (Or.inl (List.mem_of_getElem? (i := 1) rfl)) (allS (Or.inl (List.mem_of_getElem? (i := 2) rfl)) all0))))
  obtain ⟨fs, hr, hrun, hended, hW, hsame⟩ := X12.leave (v := some (.int (1 : Int32))) (fun h => by rw [Bd.returns] at h; cases h)
  refine ⟨_, _, pre0 _ (pre16 _ ?_), hrun, hended, _, _, rfl, ?_, ⟨_, rfl⟩, hW, hsame.mono (by decide) (by decide)⟩
  · show oS p e below T12 m 104 #[rv x1, rv x2, iv (2 : Int32), iv (0 : Int32), rv el0, rv el0, rv el1, rv el1] [(.int (1 : Int32))] _
    exact retN X12 hx (t := .boolean) Bd.returns (by simp) (hb hby d8_104) hr
  · show QT2_2_0 Z x1 x2 el0 el1 k h0 n0 _ T12.heap _
    rw [eh12]
    exact ⟨rfl, N12, KP17, pf2_0, pf2_1, pf2_5, pf2_6, pf2_7, pf2_2, pf2_3, pf2_4⟩
theorem efT2_2_1 (m : MethodId) (x1 : Addr) (x2 : Addr) : entryFrame m #[(.ref x1), (.ref x2), (.int (2 : Int32)), (.int (1 : Int32))] 8 = mkF m 0 #[rv x1, rv x2, iv (2 : Int32), iv (1 : Int32), .unset, .unset, .unset, .unset] [] := by first | (simp [entryFrame, mkF, argsToLocals, Value.category]; done) | rfl
def QT2_2_1 (Z : State) (x1 : Addr) (x2 : Addr) (el0 : Addr) (el1 : Addr) (k : ClassId) (h0 : Heap) (n0 : Nat) (v : Option Value) (h : Heap) (L : List Loc) : Prop := v = some (.int (1 : Int32)) ∧ Fr n0 L ∧ Keep h0 h [x1, el1] ∧ Fld Z h x1 oz1 "first" oz2 .null ∧ Fld Z h x1 oz1 "last" oz2 .null ∧ Fld Z h el1 oz0 "in" oz6 .null ∧ Fld Z h el1 oz0 "before" oz2 .null ∧ Fld Z h el1 oz0 "after" oz2 .null
set_option maxRecDepth 65536 in
set_option maxHeartbeats 40000000 in
theorem rmT2_2_1 (l : Launch) (Z : State) (a0 : Array Value) (hw : ∀ d ∈ tables_1, d.before a0 Z = true) (ws : List Jvm.Cond) (x1 : Addr) (x2 : Addr) (el0 : Addr) (el1 : Addr) (k : ClassId) (h0 : Heap) (n0 : Nat) (Z0 : n0 ≤ h0.size) (E_x1 : Exa Z h0 x1 oz1) (E_el1 : Exa Z h0 el1 oz0) (g_x1 : n0 ≤ x1) (g_el1 : n0 ≤ el1) (F_first_x1 : Fld Z h0 x1 oz1 "first" oz2 (.ref el1)) (F_last_x1 : Fld Z h0 x1 oz1 "last" oz2 (.ref el1)) (F_in_el1 : Fld Z h0 el1 oz0 "in" oz6 (.ref x1)) (F_before_el1 : Fld Z h0 el1 oz0 "before" oz2 .null) (F_after_el1 : Fld Z h0 el1 oz0 "after" oz2 .null) (V_x2 : Arv Z h0 x2 k (.object oz0) (2 : Int32) [(.ref el0), (.ref el1)] .null) :
    MetFree l (⟨oz4, "step", oz3⟩ : MethodName) (head1 (Jvm.Cond.code (⟨oz4, "step", oz3⟩ : MethodName) method_3_code 8 (some .boolean) :: ws) ({ frames := 2, cells := 0, slots := 0, locals := 27 } : Room)) (fun a U => a = #[(.ref x1), (.ref x2), (.int (2 : Int32)), (.int (1 : Int32))] ∧ Z.Warmed39 U.vm ∧ U.heap = h0) (fun _ _ _ _ _ => True) (fun _ U oc U' => ∃ v L, oc = .returned v ∧ QT2_2_1 Z x1 x2 el0 el1 k h0 n0 v U'.heap L ∧ FrameEnd U oc U' L ({ frames := 2, cells := 0, slots := 0, locals := 27 } : Room).cells ({ frames := 2, cells := 0, slots := 0, locals := 27 } : Room).slots) := by
  refine MetFree.of_bodySF (plainFor_of_name own_pn2) hisR ?_
  intro p e s m args below meth c s₁ Bd hml0 hP hK
  obtain ⟨rfl, hZ, hh⟩ := hP
  have hx := Bd.exec
  have hby := Bd.bytes
  have hml : c.maxLocals = 8 := hml0
  have hown : s.vm.findClass oz4 = some m.cls := findClass_of_methodNamed Bd.named
  have hnm := (name_of_methodNamed Bd.named Bd.method).1
  have X0 : Stand p l e ({ frames := 2, cells := 0, slots := 0, locals := 27 } : Room) s m #[(.ref x1), (.ref x2), (.int (2 : Int32)), (.int (1 : Int32))] below meth c s₁ [] 0 0 := Stand.of_body Bd
  have e0 : s₁.heap = h0 := by rw [← hh, Bd.state]; rfl
  have N0 := Fr.nil n0
  have pre0 : ∀ t, Steps p.tables e below (s₁.setTop (mkF m 0 #[rv x1, rv x2, iv (2 : Int32), iv (1 : Int32), .unset, .unset, .unset, .unset] [])) t → Steps p.tables e below (s₁.setTop (entryFrame m #[(.ref x1), (.ref x2), (.int (2 : Int32)), (.int (1 : Int32))] 8)) t := fun t k => castTop (efT2_2_1 m x1 x2) k
  obtain ⟨cl1, Ar1, qk1, Sz1, Ng1, Hs1, Gt1⟩ := id V_x2
  have hin1 : ¬ ((1 : Int32) < 0 ∨ cl1.slots.size ≤ ((1 : Int32)).toNatClampNeg) := inb_of Sz1 ⟨by decide, by decide⟩
  have hat1 : cl1.slots[((1 : Int32)).toNatClampNeg]? = some (.ref el1) := Hs1.at hin1 rfl
  obtain ⟨cq2, kq2, q2a, q2b, q2c⟩ := isOf hZ e0 E_x1
  obtain ⟨_, _, ⟨T2, Lw2, kw2, nw2⟩, -, X2, ⟨Lc2, hQ2, l2, y2, z2⟩, st2⟩ := X0.virtualBack hx (y := (⟨oz1, "poll", oz7⟩ : MethodName)) (z := (⟨oz1, "poll", oz7⟩ : MethodName)) hown (mvT hZ (own_w hw 53 rfl)) (mvT hZ (own_w hw 54 rfl)) (notFace_of_selects (args := #[]) (mvT hZ (own_w hw 56 rfl))) (mvT hZ (own_w hw 56 rfl)) (mvT hZ (own_w hw 55 rfl)) (by decide) (backOf (W := 0) (rmP00 l Z a0 hw [] x1 (.ref el1) (.ref x1) el1 h0 n0 Z0 E_x1 E_el1 g_x1 g_el1 F_first_x1 F_last_x1 F_in_el1 F_before_el1 F_after_el1) hZ (own_w hw 57 rfl) (own_w hw 3 rfl) (by decide) (by decide)) q2a q2c (g := (mkF m 15 #[rv x1, rv x2, iv (2 : Int32), iv (1 : Int32), rv el1, .unset, .unset, .unset] [(.ref x1)])) rfl (by rw [hml]; rfl) (Steps.refl _) (argsL := []) (rest := []) (lenOf own_pd1 rfl) rfl (by show 2 * 0 + _ ≤ _; exact Nat.le_of_eq rfl) (hb hby d8_15) (fun _ _ => ⟨rfl, e0, (by decide : 0 + 0 ≤ _), (by decide : 0 + 0 ≤ _)⟩)
  dsimp only [Pt.U, Pt.locs, Pt.cells, Pt.slots] at X2 l2 y2 z2 st2 hQ2
  subst l2 y2 z2
  obtain ⟨rfl, Nq2, K2, pf2_0, pf2_1, pf2_2, pf2_3, pf2_4⟩ := hQ2
  have N2 := Fr.app N0 Nq2
  obtain ⟨T3, X3, e3, st3⟩ := getF X2 hx hZ hown (host := "") (Or.inl (own_w hw 74 rfl)) Via.refl rfl pf2_2 (g := (mkF m 36 #[rv x1, rv x2, iv (2 : Int32), iv (1 : Int32), rv el1, rv el1, .unset, .unset] [(.ref el1)])) rfl rfl (hb hby d8_36)
  obtain ⟨T4, X4, e4, st4⟩ := getF X3 hx hZ hown (host := "") (Or.inl (own_w hw 71 rfl)) Via.refl e3 pf2_3 (g := (mkF m 44 #[rv x1, rv x2, iv (2 : Int32), iv (1 : Int32), rv el1, rv el1, .unset, .unset] [(.ref el1)])) rfl rfl (hb hby d8_44)
  obtain ⟨T5, X5, e5, st5⟩ := getF X4 hx hZ hown (host := "") (Or.inl (own_w hw 72 rfl)) Via.refl e4 pf2_4 (g := (mkF m 52 #[rv x1, rv x2, iv (2 : Int32), iv (1 : Int32), rv el1, rv el1, .unset, .unset] [(.ref el1)])) rfl rfl (hb hby d8_52)
  have Ec7 : Exa Z T2.heap x1 oz1 := (E_x1.keep K2)
  have Zc8 : n0 ≤ T2.heap.size := (Nat.le_trans Z0 K2.1)
  obtain ⟨_, _, ⟨T6, Lw6, kw6, nw6⟩, -, X6, ⟨Lc6, hQ6, l6, y6, z6⟩, st6⟩ := Jvm.LawKit.callS X5 hx (y := (⟨oz4, "state", oz5⟩ : MethodName)) hown (mvT hZ (own_w hw 27 rfl)) (mvT hZ (own_w hw 28 rfl)) (mvT hZ (own_w hw 29 rfl)) (mvT hZ (own_w hw 30 rfl)) (by decide) (backOf (W := 0) (rmS0 l Z a0 hw [] x1 T2.heap n0 Zc8 Ec7 pf2_0 pf2_1) hZ (own_w hw 30 rfl) (own_w hw 29 rfl) (by decide) (by decide)) (g := (mkF m 101 #[rv x1, rv x2, iv (2 : Int32), iv (1 : Int32), rv el1, rv el1, .val .null, .val .null] [.null, .null, (.ref x1)])) rfl (by rw [hml]; rfl) (argsL := [(.ref x1), .null, .null]) (rest := []) (lenOf own_pd5 rfl) rfl (by show 2 * 0 + _ ≤ _; exact Nat.le_of_eq rfl) (hb hby d8_101) (fun _ _ => ⟨rfl, e5, (by decide : 0 + 0 ≤ _), (by decide : 0 + 0 ≤ _)⟩)
  dsimp only [Pt.U, Pt.locs, Pt.cells, Pt.slots] at X6 l6 y6 z6 st6 hQ6
  subst l6 y6 z6
  obtain ⟨rfl, Nq6, eh6⟩ := hQ6
  have N6 := Fr.app N2 Nq6
  have pre9 : ∀ tz, oS p e below T6 m 104 #[rv x1, rv x2, iv (2 : Int32), iv (1 : Int32), rv el1, rv el1, .val .null, .val .null] [(.int (1 : Int32))] tz → oS p e below s₁ m 0 #[rv x1, rv x2, iv (2 : Int32), iv (1 : Int32), .unset, .unset, .unset, .unset] [] tz := fun tz kt => by
    show oS p e below s₁ m 0 #[rv x1, rv x2, iv (2 : Int32), iv (1 : Int32), .unset, .unset, .unset, .unset] [] _
    refine XS.iloadN X0.here hx rfl (hb hby d8_0) rfl ?_
    refine XS.iloadN X0.here hx rfl (hb hby d8_1) rfl ?_
    refine XS.icmpNo X0.here hx rfl (hb hby d8_2) rfl (tlt (by decide : ((1 : Int32) < (2 : Int32)))).2.1 ?_
    refine XS.aloadN X0.here hx rfl (hb hby d8_5) rfl rfl ?_
    show oS p e below s₁ m 6 #[rv x1, rv x2, iv (2 : Int32), iv (1 : Int32), .unset, .unset, .unset, .unset] [(.ref x2)] _
    refine XS.iloadN X0.here hx rfl (hb hby d8_6) rfl ?_
    refine X0.aaload hx (j := (1 : Int32)) (v := (.ref el1)) (by rw [e0]; exact Ar1.1) (State.isArrayOf_alike hZ.alike Ar1.2.1) rfl Ar1.2.2 hin1 hat1 (g := (mkF m 7 #[rv x1, rv x2, iv (2 : Int32), iv (1 : Int32), .unset, .unset, .unset, .unset] [(.int (1 : Int32)), (.ref x2)])) rfl rfl (hb hby d8_7) _ ?_
    refine XS.goto X0.here hx rfl (pc0 := 8) (pc' := 12) rfl (hb hby d8_8) (by decide) (by decide) ?_
    refine XS.astore X0.here hx rfl (hb hby d8_12) rfl rfl (l' := #[rv x1, rv x2, iv (2 : Int32), iv (1 : Int32), rv el1, .unset, .unset, .unset]) rfl ?_
    show oS p e below s₁ m 14 #[rv x1, rv x2, iv (2 : Int32), iv (1 : Int32), rv el1, .unset, .unset, .unset] [] _
    refine XS.aloadN X0.here hx rfl (hb hby d8_14) rfl rfl ?_
    show oS p e below s₁ m 15 #[rv x1, rv x2, iv (2 : Int32), iv (1 : Int32), rv el1, .unset, .unset, .unset] [(.ref x1)] _
    refine st2.trans ?_
    refine XS.astore X2.here hx rfl (hb hby d8_18) rfl rfl (l' := #[rv x1, rv x2, iv (2 : Int32), iv (1 : Int32), rv el1, rv el1, .unset, .unset]) rfl ?_
    refine XS.aload X2.here hx rfl (hb hby d8_20) rfl rfl ?_
    refine XS.aload X2.here hx rfl (hb hby d8_22) rfl rfl ?_
    show oS p e below T2 m 24 #[rv x1, rv x2, iv (2 : Int32), iv (1 : Int32), rv el1, rv el1, .unset, .unset] [(.ref el1), (.ref el1)] _
    refine Jvm.RoadKit.acmp (g := (mkF m 24 #[rv x1, rv x2, iv (2 : Int32), iv (1 : Int32), rv el1, rv el1, .unset, .unset] [(.ref el1), (.ref el1)])) X2 hx rfl rfl rfl (pc0 := 24) (pc' := 29) (same := true) rfl (hb hby d8_24) rfl (decide_eq_true rfl) (by decide) (by decide) ?_
    refine XS.aload X2.here hx rfl (hb hby d8_29) rfl rfl ?_
    refine XS.ifnullNo X2.here hx rfl (hb hby d8_31) rfl ?_
    refine XS.aload X2.here hx rfl (hb hby d8_34) rfl rfl ?_
    show oS p e below T2 m 36 #[rv x1, rv x2, iv (2 : Int32), iv (1 : Int32), rv el1, rv el1, .unset, .unset] [(.ref el1)] _
    refine st3 _ ?_
    refine XS.ifnonnullNo X3.here hx rfl (hb hby d8_39) rfl ?_
    refine XS.aload X3.here hx rfl (hb hby d8_42) rfl rfl ?_
    show oS p e below T3 m 44 #[rv x1, rv x2, iv (2 : Int32), iv (1 : Int32), rv el1, rv el1, .unset, .unset] [(.ref el1)] _
    refine st4 _ ?_
    refine XS.ifnonnullNo X4.here hx rfl (hb hby d8_47) rfl ?_
    refine XS.aload X4.here hx rfl (hb hby d8_50) rfl rfl ?_
    show oS p e below T4 m 52 #[rv x1, rv x2, iv (2 : Int32), iv (1 : Int32), rv el1, rv el1, .unset, .unset] [(.ref el1)] _
    refine st5 _ ?_
    refine XS.ifnullYes X5.here hx rfl (pc0 := 55) (pc' := 60) rfl (hb hby d8_55) rfl (by decide) (by decide) ?_
    refine XS.iloadN X5.here hx rfl (hb hby d8_60) rfl ?_
    refine XS.iconst X5.here hx rfl (hb hby d8_61) ?_
    show oS p e below T5 m 62 #[rv x1, rv x2, iv (2 : Int32), iv (1 : Int32), rv el1, rv el1, .unset, .unset] [(.int (1 : Int32)), (.int (1 : Int32))] _
    refine XS.iadd X5.here hx rfl (hb hby d8_62) rfl ?_
    show oS p e below T5 m 63 #[rv x1, rv x2, iv (2 : Int32), iv (1 : Int32), rv el1, rv el1, .unset, .unset] [(.int (2 : Int32))] _
    refine XS.iloadN X5.here hx rfl (hb hby d8_63) rfl ?_
    refine XS.icmpYes X5.here hx rfl (pc0 := 64) (pc' := 75) rfl (hb hby d8_64) rfl (flt (by decide : ¬ ((2 : Int32) < (2 : Int32)))).2.1 (by decide) (by decide) ?_
    refine XS.aconstNull X5.here hx rfl (hb hby d8_75) ?_
    refine XS.astore X5.here hx rfl (hb hby d8_76) rfl rfl (l' := #[rv x1, rv x2, iv (2 : Int32), iv (1 : Int32), rv el1, rv el1, .val .null, .unset]) rfl ?_
    show oS p e below T5 m 78 #[rv x1, rv x2, iv (2 : Int32), iv (1 : Int32), rv el1, rv el1, .val .null, .unset] [] _
    refine XS.iloadN X5.here hx rfl (hb hby d8_78) rfl ?_
    refine XS.iconst X5.here hx rfl (hb hby d8_79) ?_
    refine XS.iadd X5.here hx rfl (hb hby d8_80) rfl ?_
    show oS p e below T5 m 81 #[rv x1, rv x2, iv (2 : Int32), iv (1 : Int32), rv el1, rv el1, .val .null, .unset] [(.int (2 : Int32))] _
    refine XS.iloadN X5.here hx rfl (hb hby d8_81) rfl ?_
    refine XS.icmpYes X5.here hx rfl (pc0 := 82) (pc' := 93) rfl (hb hby d8_82) rfl (flt (by decide : ¬ ((2 : Int32) < (2 : Int32)))).2.1 (by decide) (by decide) ?_
    refine XS.aconstNull X5.here hx rfl (hb hby d8_93) ?_
    refine XS.astore X5.here hx rfl (hb hby d8_94) rfl rfl (l' := #[rv x1, rv x2, iv (2 : Int32), iv (1 : Int32), rv el1, rv el1, .val .null, .val .null]) rfl ?_
    show oS p e below T5 m 96 #[rv x1, rv x2, iv (2 : Int32), iv (1 : Int32), rv el1, rv el1, .val .null, .val .null] [] _
    refine XS.aloadN X5.here hx rfl (hb hby d8_96) rfl rfl ?_
    refine XS.aload X5.here hx rfl (hb hby d8_97) rfl rfl ?_
    refine XS.aload X5.here hx rfl (hb hby d8_99) rfl rfl ?_
    show oS p e below T5 m 101 #[rv x1, rv x2, iv (2 : Int32), iv (1 : Int32), rv el1, rv el1, .val .null, .val .null] [.null, .null, (.ref x1)] _
    refine st6 _ ?_
    exact kt
  have KP10 : Keep h0 T2.heap [x1, el1] := ((Keep.refl h0 [x1, el1]).trans K2 (allS (Or.inl (List.mem_of_getElem? (i := 0) rfl)) (allS (Or.inl (List.mem_of_getElem? (i := 1) rfl)) all0)))
  obtain ⟨fs, hr, hrun, hended, hW, hsame⟩ := X6.leave (v := some (.int (1 : Int32))) (fun h => by rw [Bd.returns] at h; cases h)
  refine ⟨_, _, pre0 _ (pre9 _ ?_), hrun, hended, _, _, rfl, ?_, ⟨_, rfl⟩, hW, hsame.mono (by decide) (by decide)⟩
  · show oS p e below T6 m 104 #[rv x1, rv x2, iv (2 : Int32), iv (1 : Int32), rv el1, rv el1, .val .null, .val .null] [(.int (1 : Int32))] _
    exact retN X6 hx (t := .boolean) Bd.returns (by simp) (hb hby d8_104) hr
  · show QT2_2_1 Z x1 x2 el0 el1 k h0 n0 _ T6.heap _
    rw [eh6]
    exact ⟨rfl, N6, KP10, pf2_0, pf2_1, pf2_2, pf2_3, pf2_4⟩
theorem efT2_2_2 (m : MethodId) (x1 : Addr) (x2 : Addr) : entryFrame m #[(.ref x1), (.ref x2), (.int (2 : Int32)), (.int (2 : Int32))] 8 = mkF m 0 #[rv x1, rv x2, iv (2 : Int32), iv (2 : Int32), .unset, .unset, .unset, .unset] [] := by first | (simp [entryFrame, mkF, argsToLocals, Value.category]; done) | rfl
def QT2_2_2 (Z : State) (x1 : Addr) (x2 : Addr) (el0 : Addr) (el1 : Addr) (k : ClassId) (h0 : Heap) (n0 : Nat) (v : Option Value) (h : Heap) (L : List Loc) : Prop := v = some (.int (1 : Int32)) ∧ Fr n0 L ∧ h = h0
set_option maxRecDepth 65536 in
set_option maxHeartbeats 40000000 in
theorem rmT2_2_2 (l : Launch) (Z : State) (a0 : Array Value) (hw : ∀ d ∈ tables_1, d.before a0 Z = true) (ws : List Jvm.Cond) (x1 : Addr) (x2 : Addr) (el0 : Addr) (el1 : Addr) (k : ClassId) (h0 : Heap) (n0 : Nat) (Z0 : n0 ≤ h0.size) (E_x1 : Exa Z h0 x1 oz1) (F_first_x1 : Fld Z h0 x1 oz1 "first" oz2 .null) (F_last_x1 : Fld Z h0 x1 oz1 "last" oz2 .null) (V_x2 : Arv Z h0 x2 k (.object oz0) (2 : Int32) [(.ref el0), (.ref el1)] .null) :
    MetFree l (⟨oz4, "step", oz3⟩ : MethodName) (head1 (Jvm.Cond.code (⟨oz4, "step", oz3⟩ : MethodName) method_3_code 8 (some .boolean) :: ws) ({ frames := 2, cells := 0, slots := 0, locals := 27 } : Room)) (fun a U => a = #[(.ref x1), (.ref x2), (.int (2 : Int32)), (.int (2 : Int32))] ∧ Z.Warmed39 U.vm ∧ U.heap = h0) (fun _ _ _ _ _ => True) (fun _ U oc U' => ∃ v L, oc = .returned v ∧ QT2_2_2 Z x1 x2 el0 el1 k h0 n0 v U'.heap L ∧ FrameEnd U oc U' L ({ frames := 2, cells := 0, slots := 0, locals := 27 } : Room).cells ({ frames := 2, cells := 0, slots := 0, locals := 27 } : Room).slots) := by
  refine MetFree.of_bodySF (plainFor_of_name own_pn2) hisR ?_
  intro p e s m args below meth c s₁ Bd hml0 hP hK
  obtain ⟨rfl, hZ, hh⟩ := hP
  have hx := Bd.exec
  have hby := Bd.bytes
  have hml : c.maxLocals = 8 := hml0
  have hown : s.vm.findClass oz4 = some m.cls := findClass_of_methodNamed Bd.named
  have hnm := (name_of_methodNamed Bd.named Bd.method).1
  have X0 : Stand p l e ({ frames := 2, cells := 0, slots := 0, locals := 27 } : Room) s m #[(.ref x1), (.ref x2), (.int (2 : Int32)), (.int (2 : Int32))] below meth c s₁ [] 0 0 := Stand.of_body Bd
  have e0 : s₁.heap = h0 := by rw [← hh, Bd.state]; rfl
  have N0 := Fr.nil n0
  have pre0 : ∀ t, Steps p.tables e below (s₁.setTop (mkF m 0 #[rv x1, rv x2, iv (2 : Int32), iv (2 : Int32), .unset, .unset, .unset, .unset] [])) t → Steps p.tables e below (s₁.setTop (entryFrame m #[(.ref x1), (.ref x2), (.int (2 : Int32)), (.int (2 : Int32))] 8)) t := fun t k => castTop (efT2_2_2 m x1 x2) k
  obtain ⟨cq1, kq1, q1a, q1b, q1c⟩ := isOf hZ e0 E_x1
  obtain ⟨_, _, ⟨T1, Lw1, kw1, nw1⟩, -, X1, ⟨Lc1, hQ1, l1, y1, z1⟩, st1⟩ := X0.virtualBack hx (y := (⟨oz1, "poll", oz7⟩ : MethodName)) (z := (⟨oz1, "poll", oz7⟩ : MethodName)) hown (mvT hZ (own_w hw 53 rfl)) (mvT hZ (own_w hw 54 rfl)) (notFace_of_selects (args := #[]) (mvT hZ (own_w hw 56 rfl))) (mvT hZ (own_w hw 56 rfl)) (mvT hZ (own_w hw 55 rfl)) (by decide) (backOf (W := 0) (rmP0 l Z a0 hw [] x1 h0 n0 Z0 E_x1 F_first_x1) hZ (own_w hw 57 rfl) (own_w hw 3 rfl) (by decide) (by decide)) q1a q1c (g := (mkF m 15 #[rv x1, rv x2, iv (2 : Int32), iv (2 : Int32), .val .null, .unset, .unset, .unset] [(.ref x1)])) rfl (by rw [hml]; rfl) (Steps.refl _) (argsL := []) (rest := []) (lenOf own_pd1 rfl) rfl (by show 2 * 0 + _ ≤ _; exact Nat.le_of_eq rfl) (hb hby d8_15) (fun _ _ => ⟨rfl, e0, (by decide : 0 + 0 ≤ _), (by decide : 0 + 0 ≤ _)⟩)
  dsimp only [Pt.U, Pt.locs, Pt.cells, Pt.slots] at X1 l1 y1 z1 st1 hQ1
  subst l1 y1 z1
  obtain ⟨rfl, Nq1, eh1⟩ := hQ1
  have N1 := Fr.app N0 Nq1
  obtain ⟨_, _, ⟨T2, Lw2, kw2, nw2⟩, -, X2, ⟨Lc2, hQ2, l2, y2, z2⟩, st2⟩ := Jvm.LawKit.callS X1 hx (y := (⟨oz4, "state", oz5⟩ : MethodName)) hown (mvT hZ (own_w hw 27 rfl)) (mvT hZ (own_w hw 28 rfl)) (mvT hZ (own_w hw 29 rfl)) (mvT hZ (own_w hw 30 rfl)) (by decide) (backOf (W := 0) (rmS0 l Z a0 hw [] x1 h0 n0 Z0 E_x1 F_first_x1 F_last_x1) hZ (own_w hw 30 rfl) (own_w hw 29 rfl) (by decide) (by decide)) (g := (mkF m 101 #[rv x1, rv x2, iv (2 : Int32), iv (2 : Int32), .val .null, .val .null, .val .null, .val .null] [.null, .null, (.ref x1)])) rfl (by rw [hml]; rfl) (argsL := [(.ref x1), .null, .null]) (rest := []) (lenOf own_pd5 rfl) rfl (by show 2 * 0 + _ ≤ _; exact Nat.le_of_eq rfl) (hb hby d8_101) (fun _ _ => ⟨rfl, eh1, (by decide : 0 + 0 ≤ _), (by decide : 0 + 0 ≤ _)⟩)
  dsimp only [Pt.U, Pt.locs, Pt.cells, Pt.slots] at X2 l2 y2 z2 st2 hQ2
  subst l2 y2 z2
  obtain ⟨rfl, Nq2, eh2⟩ := hQ2
  have N2 := Fr.app N1 Nq2
  have pre3 : ∀ tz, oS p e below T2 m 104 #[rv x1, rv x2, iv (2 : Int32), iv (2 : Int32), .val .null, .val .null, .val .null, .val .null] [(.int (1 : Int32))] tz → oS p e below s₁ m 0 #[rv x1, rv x2, iv (2 : Int32), iv (2 : Int32), .unset, .unset, .unset, .unset] [] tz := fun tz kt => by
    show oS p e below s₁ m 0 #[rv x1, rv x2, iv (2 : Int32), iv (2 : Int32), .unset, .unset, .unset, .unset] [] _
    refine XS.iloadN X0.here hx rfl (hb hby d8_0) rfl ?_
    refine XS.iloadN X0.here hx rfl (hb hby d8_1) rfl ?_
    refine XS.icmpYes X0.here hx rfl (pc0 := 2) (pc' := 11) rfl (hb hby d8_2) rfl (flt (by decide : ¬ ((2 : Int32) < (2 : Int32)))).2.1 (by decide) (by decide) ?_
    refine XS.aconstNull X0.here hx rfl (hb hby d8_11) ?_
    show oS p e below s₁ m 12 #[rv x1, rv x2, iv (2 : Int32), iv (2 : Int32), .unset, .unset, .unset, .unset] [.null] _
    refine XS.astore X0.here hx rfl (hb hby d8_12) rfl rfl (l' := #[rv x1, rv x2, iv (2 : Int32), iv (2 : Int32), .val .null, .unset, .unset, .unset]) rfl ?_
    refine XS.aloadN X0.here hx rfl (hb hby d8_14) rfl rfl ?_
    show oS p e below s₁ m 15 #[rv x1, rv x2, iv (2 : Int32), iv (2 : Int32), .val .null, .unset, .unset, .unset] [(.ref x1)] _
    refine st1.trans ?_
    refine XS.astore X1.here hx rfl (hb hby d8_18) rfl rfl (l' := #[rv x1, rv x2, iv (2 : Int32), iv (2 : Int32), .val .null, .val .null, .unset, .unset]) rfl ?_
    refine XS.aload X1.here hx rfl (hb hby d8_20) rfl rfl ?_
    refine XS.aload X1.here hx rfl (hb hby d8_22) rfl rfl ?_
    show oS p e below T1 m 24 #[rv x1, rv x2, iv (2 : Int32), iv (2 : Int32), .val .null, .val .null, .unset, .unset] [.null, .null] _
    refine Jvm.RoadKit.acmp (g := (mkF m 24 #[rv x1, rv x2, iv (2 : Int32), iv (2 : Int32), .val .null, .val .null, .unset, .unset] [.null, .null])) X1 hx rfl rfl rfl (pc0 := 24) (pc' := 29) (same := true) rfl (hb hby d8_24) rfl (decide_eq_true rfl) (by decide) (by decide) ?_
    refine XS.aload X1.here hx rfl (hb hby d8_29) rfl rfl ?_
    refine XS.ifnullYes X1.here hx rfl (pc0 := 31) (pc' := 60) rfl (hb hby d8_31) rfl (by decide) (by decide) ?_
    refine XS.iloadN X1.here hx rfl (hb hby d8_60) rfl ?_
    show oS p e below T1 m 61 #[rv x1, rv x2, iv (2 : Int32), iv (2 : Int32), .val .null, .val .null, .unset, .unset] [(.int (2 : Int32))] _
    refine XS.iconst X1.here hx rfl (hb hby d8_61) ?_
    refine XS.iadd X1.here hx rfl (hb hby d8_62) rfl ?_
    show oS p e below T1 m 63 #[rv x1, rv x2, iv (2 : Int32), iv (2 : Int32), .val .null, .val .null, .unset, .unset] [(.int (3 : Int32))] _
    refine XS.iloadN X1.here hx rfl (hb hby d8_63) rfl ?_
    refine XS.icmpYes X1.here hx rfl (pc0 := 64) (pc' := 75) rfl (hb hby d8_64) rfl (flt (by decide : ¬ ((3 : Int32) < (2 : Int32)))).2.1 (by decide) (by decide) ?_
    refine XS.aconstNull X1.here hx rfl (hb hby d8_75) ?_
    refine XS.astore X1.here hx rfl (hb hby d8_76) rfl rfl (l' := #[rv x1, rv x2, iv (2 : Int32), iv (2 : Int32), .val .null, .val .null, .val .null, .unset]) rfl ?_
    show oS p e below T1 m 78 #[rv x1, rv x2, iv (2 : Int32), iv (2 : Int32), .val .null, .val .null, .val .null, .unset] [] _
    refine XS.iloadN X1.here hx rfl (hb hby d8_78) rfl ?_
    refine XS.iconst X1.here hx rfl (hb hby d8_79) ?_
    refine XS.iadd X1.here hx rfl (hb hby d8_80) rfl ?_
    show oS p e below T1 m 81 #[rv x1, rv x2, iv (2 : Int32), iv (2 : Int32), .val .null, .val .null, .val .null, .unset] [(.int (3 : Int32))] _
    refine XS.iloadN X1.here hx rfl (hb hby d8_81) rfl ?_
    refine XS.icmpYes X1.here hx rfl (pc0 := 82) (pc' := 93) rfl (hb hby d8_82) rfl (flt (by decide : ¬ ((3 : Int32) < (2 : Int32)))).2.1 (by decide) (by decide) ?_
    refine XS.aconstNull X1.here hx rfl (hb hby d8_93) ?_
    refine XS.astore X1.here hx rfl (hb hby d8_94) rfl rfl (l' := #[rv x1, rv x2, iv (2 : Int32), iv (2 : Int32), .val .null, .val .null, .val .null, .val .null]) rfl ?_
    show oS p e below T1 m 96 #[rv x1, rv x2, iv (2 : Int32), iv (2 : Int32), .val .null, .val .null, .val .null, .val .null] [] _
    refine XS.aloadN X1.here hx rfl (hb hby d8_96) rfl rfl ?_
    refine XS.aload X1.here hx rfl (hb hby d8_97) rfl rfl ?_
    refine XS.aload X1.here hx rfl (hb hby d8_99) rfl rfl ?_
    show oS p e below T1 m 101 #[rv x1, rv x2, iv (2 : Int32), iv (2 : Int32), .val .null, .val .null, .val .null, .val .null] [.null, .null, (.ref x1)] _
    refine st2 _ ?_
    exact kt
  obtain ⟨fs, hr, hrun, hended, hW, hsame⟩ := X2.leave (v := some (.int (1 : Int32))) (fun h => by rw [Bd.returns] at h; cases h)
  refine ⟨_, _, pre0 _ (pre3 _ ?_), hrun, hended, _, _, rfl, ?_, ⟨_, rfl⟩, hW, hsame.mono (by decide) (by decide)⟩
  · show oS p e below T2 m 104 #[rv x1, rv x2, iv (2 : Int32), iv (2 : Int32), .val .null, .val .null, .val .null, .val .null] [(.int (1 : Int32))] _
    exact retN X2 hx (t := .boolean) Bd.returns (by simp) (hb hby d8_104) hr
  · show QT2_2_2 Z x1 x2 el0 el1 k h0 n0 _ T2.heap _
    rw [eh2]
    exact ⟨rfl, N2, rfl⟩
theorem ef0 (m : MethodId) (x1 : Int32) (x2 : Int32) : entryFrame m #[(.int x1), (.int x2)] maxLocals = mkF m 0 #[iv x1, iv x2, .unset, .unset, .unset, .unset, .unset, .unset, .unset, .unset, .unset, .unset, .unset, .unset, .unset, .unset, .unset] [] := by first | (simp [entryFrame, mkF, argsToLocals, Value.category, maxLocals]; done) | rfl
def Q0 (Z : State) (x1 : Int32) (x2 : Int32) (h0 : Heap) (n0 : Nat) (v : Option Value) (h : Heap) (L : List Loc) : Prop := v = some (.int (1 : Int32)) ∧ Fr n0 L
set_option maxRecDepth 65536 in
set_option maxHeartbeats 40000000 in
theorem rm0 (l : Launch) (Z : State) (a0 : Array Value) (hw : ∀ d ∈ tables_1, d.before a0 Z = true) (ws : List Jvm.Cond) (x1 : Int32) (x2 : Int32) (h0 : Heap) (n0 : Nat) (Z0 : n0 ≤ h0.size) :
    MetFree l x (head1 (Jvm.Cond.code x code maxLocals ret :: ws) room_1) (fun a U => a = #[(.int x1), (.int x2)] ∧ Z.Warmed39 U.vm ∧ U.heap = h0) (fun _ _ _ _ _ => True) (fun _ U oc U' => ∃ v L, oc = .returned v ∧ Q0 Z x1 x2 h0 n0 v U'.heap L ∧ FrameEnd U oc U' L room_1.cells room_1.slots) := by
  refine MetFree.of_bodySF (plainFor_of_name own_pn2) hisR ?_
  intro p e s m args below meth c s₁ Bd hml0 hP hK
  obtain ⟨rfl, hZ, hh⟩ := hP
  have hx := Bd.exec
  have hby := Bd.bytes
  have hml : c.maxLocals = 17 := hml0
  have hown : s.vm.findClass oz4 = some m.cls := findClass_of_methodNamed Bd.named
  have hnm := (name_of_methodNamed Bd.named Bd.method).1
  have X0 : Stand p l e room_1 s m #[(.int x1), (.int x2)] below meth c s₁ [] 0 0 := Stand.of_body Bd
  have e0 : s₁.heap = h0 := by rw [← hh, Bd.state]; rfl
  have N0 := Fr.nil n0
  have pre0 : ∀ t, Steps p.tables e below (s₁.setTop (mkF m 0 #[iv x1, iv x2, .unset, .unset, .unset, .unset, .unset, .unset, .unset, .unset, .unset, .unset, .unset, .unset, .unset, .unset, .unset] [])) t → Steps p.tables e below (s₁.setTop (entryFrame m #[(.int x1), (.int x2)] maxLocals)) t := fun t k => castTop (ef0 m x1 x2) k
  obtain ⟨y6, hy6⟩ : ∃ z, z = ((x1 &&& (2147483647 : Int32)) % (3 : Int32)) := ⟨_, rfl⟩
  obtain ⟨y13, hy13⟩ : ∃ z, z = ((x2 &&& (2147483647 : Int32)) % (4 : Int32)) := ⟨_, rfl⟩
  obtain ⟨T1, h1, X1, e1, E1, A1, D1, -, st1⟩ := newO X0 hx hZ hown (own_w hw 1 rfl) (own_w hw 2 rfl) (own_w hw 3 rfl) e0 (g := (mkF m 14 #[iv x1, iv x2, iv y6, iv y13, .unset, .unset, .unset, .unset, .unset, .unset, .unset, .unset, .unset, .unset, .unset, .unset, .unset] [])) rfl (hb hby at_14) (by decide) (by decide)
  obtain ⟨b1, g1⟩ : ∃ z, z = h0.size := ⟨_, rfl⟩
  rw [← g1] at A1 D1 st1
  have g_b1 : n0 ≤ b1 := Nat.le_trans Z0 (Nat.le_of_eq g1.symm)
  have F_first_b1 : Fld Z h1 b1 oz1 "first" oz2 .null := D1 (Or.inl (own_w hw 37 rfl)) (ty := (.object oz0)) (by decide)
  have F_last_b1 : Fld Z h1 b1 oz1 "last" oz2 .null := D1 (Or.inl (own_w hw 44 rfl)) (ty := (.object oz0)) (by decide)
  have Zc3 : n0 ≤ h1.size := (Nat.le_trans Z0 E1.1)
  obtain ⟨_, _, ⟨T2, Lw2, kw2, nw2⟩, -, X2, ⟨Lc2, hQ2, l2, y2, z2⟩, st2⟩ := X1.specialBack hx (y := (⟨oz1, "<init>", "()V"⟩ : MethodName)) rfl hown (mvT hZ (own_w hw 4 rfl)) (mvT hZ (own_w hw 5 rfl)) (mvT hZ (own_w hw 6 rfl)) (by decide) (backOf (W := 1) (rm1 l Z a0 hw [] b1 h1 n0 Zc3 ) hZ (own_w hw 6 rfl) (own_w hw 3 rfl) (by decide) (by decide)) (g := (mkF m 18 #[iv x1, iv x2, iv y6, iv y13, .unset, .unset, .unset, .unset, .unset, .unset, .unset, .unset, .unset, .unset, .unset, .unset, .unset] [(.ref b1), (.ref b1)])) rfl (by rw [hml]; rfl) (Steps.refl _) (a := b1) (argsL := []) (rest := [(.ref b1)]) (lenOf own_pd3 rfl) rfl (by show 2 * 0 + _ ≤ _; exact Nat.le_of_eq rfl) (hb hby at_18) (fun _ _ => ⟨rfl, e1, (by decide : 1 + 0 ≤ _), (by decide : 2 + 0 ≤ _)⟩)
  dsimp only [Pt.U, Pt.locs, Pt.cells, Pt.slots] at X2 l2 y2 z2 st2 hQ2
  subst l2 y2 z2
  obtain ⟨rfl, Nq2, eh2⟩ := hQ2
  have N2 := Fr.app N0 Nq2
  obtain ⟨T4, h4, X4, e4, E4, A4, D4, -, st4⟩ := newO X2 hx hZ hown (own_w hw 10 rfl) (own_w hw 11 rfl) (own_w hw 12 rfl) eh2 (g := (mkF m 23 #[iv x1, iv x2, iv y6, iv y13, rv b1, .unset, .unset, .unset, .unset, .unset, .unset, .unset, .unset, .unset, .unset, .unset, .unset] [])) rfl (hb hby at_23) (by decide) (by decide)
  obtain ⟨b4, g4⟩ : ∃ z, z = h1.size := ⟨_, rfl⟩
  rw [← g4] at A4 D4 st4
  have g_b4 : n0 ≤ b4 := Nat.le_trans Zc3 (Nat.le_of_eq g4.symm)
  have ne_b1_b4 : b1 ≠ b4 := Nat.ne_of_lt (Nat.lt_of_lt_of_le A1.lt (Nat.le_of_eq g4.symm))
  have F_sequencer_b4 : Fld Z h4 b4 oz0 "sequencer" "Lcom/example/ordered_scheduler/orderedscheduler/sequencing/Sequencer;" .null := D4 (Or.inr (own_w hw 18 rfl)) (ty := (.object "com/example/ordered_scheduler/orderedscheduler/sequencing/Sequencer")) (by decide)
  have F_key_b4 : Fld Z h4 b4 oz0 "key" "Ljava/lang/Object;" .null := D4 (Or.inr (own_w hw 20 rfl)) (ty := (.object "java/lang/Object")) (by decide)
  have F_task_b4 : Fld Z h4 b4 oz0 "task" "Ljava/lang/Runnable;" .null := D4 (Or.inl (own_w hw 22 rfl)) (ty := (.object "java/lang/Runnable")) (by decide)
  have F_tally_b4 : Fld Z h4 b4 oz0 "tally" "Lcom/example/ordered_scheduler/orderedscheduler/sequencing/Tally;" .null := D4 (Or.inr (own_w hw 24 rfl)) (ty := (.object "com/example/ordered_scheduler/orderedscheduler/sequencing/Tally")) (by decide)
  have F_in_b4 : Fld Z h4 b4 oz0 "in" oz6 .null := D4 (Or.inl (own_w hw 68 rfl)) (ty := (.object oz1)) (by decide)
  have F_before_b4 : Fld Z h4 b4 oz0 "before" oz2 .null := D4 (Or.inl (own_w hw 70 rfl)) (ty := (.object oz0)) (by decide)
  have F_after_b4 : Fld Z h4 b4 oz0 "after" oz2 .null := D4 (Or.inl (own_w hw 73 rfl)) (ty := (.object oz0)) (by decide)
  have Zc6 : n0 ≤ h4.size := (Nat.le_trans Zc3 E4.1)
  obtain ⟨_, _, ⟨T5, Lw5, kw5, nw5⟩, -, X5, ⟨Lc5, hQ5, l5, y5, z5⟩, st5⟩ := X4.specialBack hx (y := (⟨oz0, "<init>", "(Lcom/example/ordered_scheduler/orderedscheduler/sequencing/Sequencer;Ljava/lang/Object;Ljava/lang/Runnable;Lcom/example/ordered_scheduler/orderedscheduler/sequencing/Tally;)V"⟩ : MethodName)) rfl hown (mvT hZ (own_w hw 13 rfl)) (mvT hZ (own_w hw 14 rfl)) (mvT hZ (own_w hw 15 rfl)) (by decide) (backOf (W := 1) (rm3 l Z a0 hw [] b4 .null .null .null .null h4 n0 Zc6 A4 g_b4 F_in_b4 F_before_b4 F_after_b4 F_sequencer_b4 F_key_b4 F_task_b4 F_tally_b4) hZ (own_w hw 15 rfl) (own_w hw 12 rfl) (by decide) (by decide)) (g := (mkF m 31 #[iv x1, iv x2, iv y6, iv y13, rv b1, .unset, .unset, .unset, .unset, .unset, .unset, .unset, .unset, .unset, .unset, .unset, .unset] [.null, .null, .null, .null, (.ref b4), (.ref b4)])) rfl (by rw [hml]; rfl) (Steps.refl _) (a := b4) (argsL := [.null, .null, .null, .null]) (rest := [(.ref b4)]) (lenOf own_pd4 rfl) rfl (by show 2 * 0 + _ ≤ _; exact Nat.le_of_eq rfl) (hb hby at_31) (fun _ _ => ⟨rfl, e4, (by decide : 2 + 0 ≤ _), (by decide : 12 + 0 ≤ _)⟩)
  dsimp only [Pt.U, Pt.locs, Pt.cells, Pt.slots] at X5 l5 y5 z5 st5 hQ5
  subst l5 y5 z5
  obtain ⟨rfl, Nq5, K5, pf5_0, pf5_1, pf5_2⟩ := hQ5
  have N5 := Fr.app N2 Nq5
  have Zc8 : n0 ≤ T5.heap.size := (Nat.le_trans Zc6 K5.1)
  have Ec9 : Exa Z T5.heap b1 oz1 := ((A1.ext E4).keep K5)
  have Ec10 : Exa Z T5.heap b4 oz0 := (A4.keep K5)
  obtain ⟨T7, h7, X7, e7, E7, A7, D7, -, st7⟩ := newO X5 hx hZ hown (own_w hw 10 rfl) (own_w hw 11 rfl) (own_w hw 12 rfl) rfl (g := (mkF m 36 #[iv x1, iv x2, iv y6, iv y13, rv b1, rv b4, .unset, .unset, .unset, .unset, .unset, .unset, .unset, .unset, .unset, .unset, .unset] [])) rfl (hb hby at_36) (by decide) (by decide)
  obtain ⟨b7, g7⟩ : ∃ z, z = T5.heap.size := ⟨_, rfl⟩
  rw [← g7] at A7 D7 st7
  have g_b7 : n0 ≤ b7 := Nat.le_trans Zc8 (Nat.le_of_eq g7.symm)
  have ne_b1_b7 : b1 ≠ b7 := Nat.ne_of_lt (Nat.lt_of_lt_of_le Ec9.lt (Nat.le_of_eq g7.symm))
  have ne_b4_b7 : b4 ≠ b7 := Nat.ne_of_lt (Nat.lt_of_lt_of_le Ec10.lt (Nat.le_of_eq g7.symm))
  have F_sequencer_b7 : Fld Z h7 b7 oz0 "sequencer" "Lcom/example/ordered_scheduler/orderedscheduler/sequencing/Sequencer;" .null := D7 (Or.inr (own_w hw 18 rfl)) (ty := (.object "com/example/ordered_scheduler/orderedscheduler/sequencing/Sequencer")) (by decide)
  have F_key_b7 : Fld Z h7 b7 oz0 "key" "Ljava/lang/Object;" .null := D7 (Or.inr (own_w hw 20 rfl)) (ty := (.object "java/lang/Object")) (by decide)
  have F_task_b7 : Fld Z h7 b7 oz0 "task" "Ljava/lang/Runnable;" .null := D7 (Or.inl (own_w hw 22 rfl)) (ty := (.object "java/lang/Runnable")) (by decide)
  have F_tally_b7 : Fld Z h7 b7 oz0 "tally" "Lcom/example/ordered_scheduler/orderedscheduler/sequencing/Tally;" .null := D7 (Or.inr (own_w hw 24 rfl)) (ty := (.object "com/example/ordered_scheduler/orderedscheduler/sequencing/Tally")) (by decide)
  have F_in_b7 : Fld Z h7 b7 oz0 "in" oz6 .null := D7 (Or.inl (own_w hw 68 rfl)) (ty := (.object oz1)) (by decide)
  have F_before_b7 : Fld Z h7 b7 oz0 "before" oz2 .null := D7 (Or.inl (own_w hw 70 rfl)) (ty := (.object oz0)) (by decide)
  have F_after_b7 : Fld Z h7 b7 oz0 "after" oz2 .null := D7 (Or.inl (own_w hw 73 rfl)) (ty := (.object oz0)) (by decide)
  have Zc12 : n0 ≤ h7.size := (Nat.le_trans Zc8 E7.1)
  obtain ⟨_, _, ⟨T11, Lw11, kw11, nw11⟩, -, X11, ⟨Lc11, hQ11, l11, y11, z11⟩, st11⟩ := X7.specialBack hx (y := (⟨oz0, "<init>", "(Lcom/example/ordered_scheduler/orderedscheduler/sequencing/Sequencer;Ljava/lang/Object;Ljava/lang/Runnable;Lcom/example/ordered_scheduler/orderedscheduler/sequencing/Tally;)V"⟩ : MethodName)) rfl hown (mvT hZ (own_w hw 13 rfl)) (mvT hZ (own_w hw 14 rfl)) (mvT hZ (own_w hw 15 rfl)) (by decide) (backOf (W := 1) (rm3 l Z a0 hw [] b7 .null .null .null .null h7 n0 Zc12 A7 g_b7 F_in_b7 F_before_b7 F_after_b7 F_sequencer_b7 F_key_b7 F_task_b7 F_tally_b7) hZ (own_w hw 15 rfl) (own_w hw 12 rfl) (by decide) (by decide)) (g := (mkF m 44 #[iv x1, iv x2, iv y6, iv y13, rv b1, rv b4, .unset, .unset, .unset, .unset, .unset, .unset, .unset, .unset, .unset, .unset, .unset] [.null, .null, .null, .null, (.ref b7), (.ref b7)])) rfl (by rw [hml]; rfl) (Steps.refl _) (a := b7) (argsL := [.null, .null, .null, .null]) (rest := [(.ref b7)]) (lenOf own_pd4 rfl) rfl (by show 2 * 0 + _ ≤ _; exact Nat.le_of_eq rfl) (hb hby at_44) (fun _ _ => ⟨rfl, e7, (by decide : 3 + 0 ≤ _), (by decide : 22 + 0 ≤ _)⟩)
  dsimp only [Pt.U, Pt.locs, Pt.cells, Pt.slots] at X11 l11 y11 z11 st11 hQ11
  subst l11 y11 z11
  obtain ⟨rfl, Nq11, K11, pf11_0, pf11_1, pf11_2⟩ := hQ11
  have N11 := Fr.app N5 Nq11
  have Zc14 : n0 ≤ T11.heap.size := (Nat.le_trans Zc12 K11.1)
  have Ec15 : Exa Z T11.heap b1 oz1 := ((Ec9.ext E7).keep K11)
  have Ec16 : Exa Z T11.heap b4 oz0 := ((Ec10.ext E7).keep K11)
  have Ec17 : Exa Z T11.heap b7 oz0 := (A7.keep K11)
  obtain ⟨T13, h13, X13, e13, E13, A13, D13, -, st13⟩ := newO X11 hx hZ hown (own_w hw 10 rfl) (own_w hw 11 rfl) (own_w hw 12 rfl) rfl (g := (mkF m 49 #[iv x1, iv x2, iv y6, iv y13, rv b1, rv b4, rv b7, .unset, .unset, .unset, .unset, .unset, .unset, .unset, .unset, .unset, .unset] [])) rfl (hb hby at_49) (by decide) (by decide)
  obtain ⟨b13, g13⟩ : ∃ z, z = T11.heap.size := ⟨_, rfl⟩
  rw [← g13] at A13 D13 st13
  have g_b13 : n0 ≤ b13 := Nat.le_trans Zc14 (Nat.le_of_eq g13.symm)
  have ne_b1_b13 : b1 ≠ b13 := Nat.ne_of_lt (Nat.lt_of_lt_of_le Ec15.lt (Nat.le_of_eq g13.symm))
  have ne_b4_b13 : b4 ≠ b13 := Nat.ne_of_lt (Nat.lt_of_lt_of_le Ec16.lt (Nat.le_of_eq g13.symm))
  have ne_b7_b13 : b7 ≠ b13 := Nat.ne_of_lt (Nat.lt_of_lt_of_le Ec17.lt (Nat.le_of_eq g13.symm))
  have F_sequencer_b13 : Fld Z h13 b13 oz0 "sequencer" "Lcom/example/ordered_scheduler/orderedscheduler/sequencing/Sequencer;" .null := D13 (Or.inr (own_w hw 18 rfl)) (ty := (.object "com/example/ordered_scheduler/orderedscheduler/sequencing/Sequencer")) (by decide)
  have F_key_b13 : Fld Z h13 b13 oz0 "key" "Ljava/lang/Object;" .null := D13 (Or.inr (own_w hw 20 rfl)) (ty := (.object "java/lang/Object")) (by decide)
  have F_task_b13 : Fld Z h13 b13 oz0 "task" "Ljava/lang/Runnable;" .null := D13 (Or.inl (own_w hw 22 rfl)) (ty := (.object "java/lang/Runnable")) (by decide)
  have F_tally_b13 : Fld Z h13 b13 oz0 "tally" "Lcom/example/ordered_scheduler/orderedscheduler/sequencing/Tally;" .null := D13 (Or.inr (own_w hw 24 rfl)) (ty := (.object "com/example/ordered_scheduler/orderedscheduler/sequencing/Tally")) (by decide)
  have F_in_b13 : Fld Z h13 b13 oz0 "in" oz6 .null := D13 (Or.inl (own_w hw 68 rfl)) (ty := (.object oz1)) (by decide)
  have F_before_b13 : Fld Z h13 b13 oz0 "before" oz2 .null := D13 (Or.inl (own_w hw 70 rfl)) (ty := (.object oz0)) (by decide)
  have F_after_b13 : Fld Z h13 b13 oz0 "after" oz2 .null := D13 (Or.inl (own_w hw 73 rfl)) (ty := (.object oz0)) (by decide)
  have Zc19 : n0 ≤ h13.size := (Nat.le_trans Zc14 E13.1)
  obtain ⟨_, _, ⟨T18, Lw18, kw18, nw18⟩, -, X18, ⟨Lc18, hQ18, l18, y18, z18⟩, st18⟩ := X13.specialBack hx (y := (⟨oz0, "<init>", "(Lcom/example/ordered_scheduler/orderedscheduler/sequencing/Sequencer;Ljava/lang/Object;Ljava/lang/Runnable;Lcom/example/ordered_scheduler/orderedscheduler/sequencing/Tally;)V"⟩ : MethodName)) rfl hown (mvT hZ (own_w hw 13 rfl)) (mvT hZ (own_w hw 14 rfl)) (mvT hZ (own_w hw 15 rfl)) (by decide) (backOf (W := 1) (rm3 l Z a0 hw [] b13 .null .null .null .null h13 n0 Zc19 A13 g_b13 F_in_b13 F_before_b13 F_after_b13 F_sequencer_b13 F_key_b13 F_task_b13 F_tally_b13) hZ (own_w hw 15 rfl) (own_w hw 12 rfl) (by decide) (by decide)) (g := (mkF m 57 #[iv x1, iv x2, iv y6, iv y13, rv b1, rv b4, rv b7, .unset, .unset, .unset, .unset, .unset, .unset, .unset, .unset, .unset, .unset] [.null, .null, .null, .null, (.ref b13), (.ref b13)])) rfl (by rw [hml]; rfl) (Steps.refl _) (a := b13) (argsL := [.null, .null, .null, .null]) (rest := [(.ref b13)]) (lenOf own_pd4 rfl) rfl (by show 2 * 0 + _ ≤ _; exact Nat.le_of_eq rfl) (hb hby at_57) (fun _ _ => ⟨rfl, e13, (by decide : 4 + 0 ≤ _), (by decide : 32 + 0 ≤ _)⟩)
  dsimp only [Pt.U, Pt.locs, Pt.cells, Pt.slots] at X18 l18 y18 z18 st18 hQ18
  subst l18 y18 z18
  obtain ⟨rfl, Nq18, K18, pf18_0, pf18_1, pf18_2⟩ := hQ18
  have N18 := Fr.app N11 Nq18
  have Zc21 : n0 ≤ T18.heap.size := (Nat.le_trans Zc19 K18.1)
  have Ec22 : Exa Z T18.heap b1 oz1 := ((Ec15.ext E13).keep K18)
  have Ec23 : Exa Z T18.heap b4 oz0 := ((Ec16.ext E13).keep K18)
  have Ec24 : Exa Z T18.heap b7 oz0 := ((Ec17.ext E13).keep K18)
  have Ec25 : Exa Z T18.heap b13 oz0 := (A13.keep K18)
  obtain ⟨T20, h20, kk20, X20, e20, E20, A20, O20, st20⟩ := newR X18 hx hZ hown (own_w hw 10 rfl) (own_w hw 25 rfl) rfl (g := (mkF m 63 #[iv x1, iv x2, iv y6, iv y13, rv b1, rv b4, rv b7, rv b13, .unset, .unset, .unset, .unset, .unset, .unset, .unset, .unset, .unset] [(.int (2 : Int32))])) rfl (hb hby at_63) rfl (by decide) (cap := 2) (by decide) (by decide) (by decide) (by decide)
  obtain ⟨b20, g20⟩ : ∃ z, z = T18.heap.size := ⟨_, rfl⟩
  rw [← g20] at A20 st20
  have g_b20 : n0 ≤ b20 := Nat.le_trans Zc21 (Nat.le_of_eq g20.symm)
  have ne_b1_b20 : b1 ≠ b20 := Nat.ne_of_lt (Nat.lt_of_lt_of_le Ec22.lt (Nat.le_of_eq g20.symm))
  have ne_b4_b20 : b4 ≠ b20 := Nat.ne_of_lt (Nat.lt_of_lt_of_le Ec23.lt (Nat.le_of_eq g20.symm))
  have ne_b7_b20 : b7 ≠ b20 := Nat.ne_of_lt (Nat.lt_of_lt_of_le Ec24.lt (Nat.le_of_eq g20.symm))
  have ne_b13_b20 : b13 ≠ b20 := Nat.ne_of_lt (Nat.lt_of_lt_of_le Ec25.lt (Nat.le_of_eq g20.symm))
  have V_b20 : Arv Z h20 b20 kk20 (.object oz0) (2 : Int32) [.null, .null] .null := (Arv.new A20 (by decide)).pad (pad_rep [] .null 2)
  have Ec26 : Exa Z h20 b4 oz0 := (Ec23.ext E20)
  obtain ⟨cl27, Ar27, qk27, Sz27, Ng27, Hs27, Gt27⟩ := id V_b20
  have hin27 : ¬ ((0 : Int32) < 0 ∨ cl27.slots.size ≤ ((0 : Int32)).toNatClampNeg) := inb_of Sz27 ⟨by decide, by decide⟩
  obtain ⟨T28, h28, X28, e28, W28, st28⟩ := stR X20 hx hZ e20 Ar27 (j := (0 : Int32)) hin27 rfl (Sto.ofV Ar27 qk27 O20 (Ins.self Ec26)) (g := (mkF m 70 #[iv x1, iv x2, iv y6, iv y13, rv b1, rv b4, rv b7, rv b13, .unset, .unset, .unset, .unset, .unset, .unset, .unset, .unset, .unset] [(.ref b4), (.int (0 : Int32)), (.ref b20), (.ref b20)])) rfl rfl (hb hby at_70)
  have Va28 : Arv Z h28 b20 kk20 (.object oz0) (2 : Int32) [(.ref b4), .null] .null := Arv.set Ar27 qk27 Sz27 Ng27 Hs27 Gt27 rfl W28 0 rfl (Nat.le_of_ble_eq_true rfl)
  have N28 := Fr.snoc X28 N18 g_b20
  have Ec29 : Exa Z h28 b7 oz0 := ((Ec24.ext E20).wr W28)
  obtain ⟨cl30, Ar30, qk30, Sz30, Ng30, Hs30, Gt30⟩ := id Va28
  have hin30 : ¬ ((1 : Int32) < 0 ∨ cl30.slots.size ≤ ((1 : Int32)).toNatClampNeg) := inb_of Sz30 ⟨by decide, by decide⟩
  obtain ⟨T31, h31, X31, e31, W31, st31⟩ := stR X28 hx hZ e28 Ar30 (j := (1 : Int32)) hin30 rfl (Sto.ofV Ar30 qk30 O20 (Ins.self Ec29)) (g := (mkF m 75 #[iv x1, iv x2, iv y6, iv y13, rv b1, rv b4, rv b7, rv b13, .unset, .unset, .unset, .unset, .unset, .unset, .unset, .unset, .unset] [(.ref b7), (.int (1 : Int32)), (.ref b20), (.ref b20)])) rfl rfl (hb hby at_75)
  have Va31 : Arv Z h31 b20 kk20 (.object oz0) (2 : Int32) [(.ref b4), (.ref b7)] .null := Arv.set Ar30 qk30 Sz30 Ng30 Hs30 Gt30 rfl W31 1 rfl (Nat.le_of_ble_eq_true rfl)
  have N31 := Fr.snoc X31 N28 g_b20
  have pre32 : ∀ tz, oS p e below T31 m 78 #[iv x1, iv x2, iv y6, iv y13, rv b1, rv b4, rv b7, rv b13, rv b20, .unset, .unset, .unset, .unset, .unset, .unset, .unset, .unset] [] tz → oS p e below s₁ m 0 #[iv x1, iv x2, .unset, .unset, .unset, .unset, .unset, .unset, .unset, .unset, .unset, .unset, .unset, .unset, .unset, .unset, .unset] [] tz := fun tz kt => by
    show oS p e below s₁ m 0 #[iv x1, iv x2, .unset, .unset, .unset, .unset, .unset, .unset, .unset, .unset, .unset, .unset, .unset, .unset, .unset, .unset, .unset] [] _
    refine XS.iloadN X0.here hx rfl (hb hby at_0) rfl ?_
    refine X0.ldcInt hx hown (mvT hZ (own_w hw 0 rfl)) (g := (mkF m 1 #[iv x1, iv x2, .unset, .unset, .unset, .unset, .unset, .unset, .unset, .unset, .unset, .unset, .unset, .unset, .unset, .unset, .unset] [(.int x1)])) rfl (hb hby at_1) _ ?_
    refine XS.iand X0.here hx rfl (hb hby at_3) rfl ?_
    refine XS.iconst X0.here hx rfl (hb hby at_4) ?_
    refine iremM X0 hx rfl (hb hby at_5) rfl (by decide) ?_
    refine XS.istoreN X0.here hx rfl (hb hby at_6) rfl (l' := #[iv x1, iv x2, iv y6, .unset, .unset, .unset, .unset, .unset, .unset, .unset, .unset, .unset, .unset, .unset, .unset, .unset, .unset]) (by rw [hy6]; rfl) ?_
    refine XS.iloadN X0.here hx rfl (hb hby at_7) rfl ?_
    refine X0.ldcInt hx hown (mvT hZ (own_w hw 0 rfl)) (g := (mkF m 8 #[iv x1, iv x2, iv y6, .unset, .unset, .unset, .unset, .unset, .unset, .unset, .unset, .unset, .unset, .unset, .unset, .unset, .unset] [(.int x2)])) rfl (hb hby at_8) _ ?_
    show oS p e below s₁ m 10 #[iv x1, iv x2, iv y6, .unset, .unset, .unset, .unset, .unset, .unset, .unset, .unset, .unset, .unset, .unset, .unset, .unset, .unset] [(.int (2147483647 : Int32)), (.int x2)] _
    refine XS.iand X0.here hx rfl (hb hby at_10) rfl ?_
    refine XS.iconst X0.here hx rfl (hb hby at_11) ?_
    refine iremM X0 hx rfl (hb hby at_12) rfl (by decide) ?_
    refine XS.istoreN X0.here hx rfl (hb hby at_13) rfl (l' := #[iv x1, iv x2, iv y6, iv y13, .unset, .unset, .unset, .unset, .unset, .unset, .unset, .unset, .unset, .unset, .unset, .unset, .unset]) (by rw [hy13]; rfl) ?_
    show oS p e below s₁ m 14 #[iv x1, iv x2, iv y6, iv y13, .unset, .unset, .unset, .unset, .unset, .unset, .unset, .unset, .unset, .unset, .unset, .unset, .unset] [] _
    refine st1 _ ?_
    refine XS.dup X1.here hx rfl (hb hby at_17) rfl rfl ?_
    show oS p e below T1 m 18 #[iv x1, iv x2, iv y6, iv y13, .unset, .unset, .unset, .unset, .unset, .unset, .unset, .unset, .unset, .unset, .unset, .unset, .unset] [(.ref b1), (.ref b1)] _
    refine st2.trans ?_
    refine XS.astore X2.here hx rfl (hb hby at_21) rfl rfl (l' := #[iv x1, iv x2, iv y6, iv y13, rv b1, .unset, .unset, .unset, .unset, .unset, .unset, .unset, .unset, .unset, .unset, .unset, .unset]) rfl ?_
    show oS p e below T2 m 23 #[iv x1, iv x2, iv y6, iv y13, rv b1, .unset, .unset, .unset, .unset, .unset, .unset, .unset, .unset, .unset, .unset, .unset, .unset] [] _
    refine st4 _ ?_
    refine XS.dup X4.here hx rfl (hb hby at_26) rfl rfl ?_
    refine XS.aconstNull X4.here hx rfl (hb hby at_27) ?_
    refine XS.aconstNull X4.here hx rfl (hb hby at_28) ?_
    refine XS.aconstNull X4.here hx rfl (hb hby at_29) ?_
    refine XS.aconstNull X4.here hx rfl (hb hby at_30) ?_
    show oS p e below T4 m 31 #[iv x1, iv x2, iv y6, iv y13, rv b1, .unset, .unset, .unset, .unset, .unset, .unset, .unset, .unset, .unset, .unset, .unset, .unset] [.null, .null, .null, .null, (.ref b4), (.ref b4)] _
    refine st5.trans ?_
    refine XS.astore X5.here hx rfl (hb hby at_34) rfl rfl (l' := #[iv x1, iv x2, iv y6, iv y13, rv b1, rv b4, .unset, .unset, .unset, .unset, .unset, .unset, .unset, .unset, .unset, .unset, .unset]) rfl ?_
    show oS p e below T5 m 36 #[iv x1, iv x2, iv y6, iv y13, rv b1, rv b4, .unset, .unset, .unset, .unset, .unset, .unset, .unset, .unset, .unset, .unset, .unset] [] _
    refine st7 _ ?_
    refine XS.dup X7.here hx rfl (hb hby at_39) rfl rfl ?_
    refine XS.aconstNull X7.here hx rfl (hb hby at_40) ?_
    refine XS.aconstNull X7.here hx rfl (hb hby at_41) ?_
    refine XS.aconstNull X7.here hx rfl (hb hby at_42) ?_
    refine XS.aconstNull X7.here hx rfl (hb hby at_43) ?_
    show oS p e below T7 m 44 #[iv x1, iv x2, iv y6, iv y13, rv b1, rv b4, .unset, .unset, .unset, .unset, .unset, .unset, .unset, .unset, .unset, .unset, .unset] [.null, .null, .null, .null, (.ref b7), (.ref b7)] _
    refine st11.trans ?_
    refine XS.astore X11.here hx rfl (hb hby at_47) rfl rfl (l' := #[iv x1, iv x2, iv y6, iv y13, rv b1, rv b4, rv b7, .unset, .unset, .unset, .unset, .unset, .unset, .unset, .unset, .unset, .unset]) rfl ?_
    show oS p e below T11 m 49 #[iv x1, iv x2, iv y6, iv y13, rv b1, rv b4, rv b7, .unset, .unset, .unset, .unset, .unset, .unset, .unset, .unset, .unset, .unset] [] _
    refine st13 _ ?_
    refine XS.dup X13.here hx rfl (hb hby at_52) rfl rfl ?_
    refine XS.aconstNull X13.here hx rfl (hb hby at_53) ?_
    refine XS.aconstNull X13.here hx rfl (hb hby at_54) ?_
    refine XS.aconstNull X13.here hx rfl (hb hby at_55) ?_
    refine XS.aconstNull X13.here hx rfl (hb hby at_56) ?_
    show oS p e below T13 m 57 #[iv x1, iv x2, iv y6, iv y13, rv b1, rv b4, rv b7, .unset, .unset, .unset, .unset, .unset, .unset, .unset, .unset, .unset, .unset] [.null, .null, .null, .null, (.ref b13), (.ref b13)] _
    refine st18.trans ?_
    refine XS.astore X18.here hx rfl (hb hby at_60) rfl rfl (l' := #[iv x1, iv x2, iv y6, iv y13, rv b1, rv b4, rv b7, rv b13, .unset, .unset, .unset, .unset, .unset, .unset, .unset, .unset, .unset]) rfl ?_
    refine XS.iconst X18.here hx rfl (hb hby at_62) ?_
    show oS p e below T18 m 63 #[iv x1, iv x2, iv y6, iv y13, rv b1, rv b4, rv b7, rv b13, .unset, .unset, .unset, .unset, .unset, .unset, .unset, .unset, .unset] [(.int (2 : Int32))] _
    refine st20 _ ?_
    refine XS.dup X20.here hx rfl (hb hby at_66) rfl rfl ?_
    refine XS.iconst X20.here hx rfl (hb hby at_67) ?_
    refine XS.aload X20.here hx rfl (hb hby at_68) rfl rfl ?_
    show oS p e below T20 m 70 #[iv x1, iv x2, iv y6, iv y13, rv b1, rv b4, rv b7, rv b13, .unset, .unset, .unset, .unset, .unset, .unset, .unset, .unset, .unset] [(.ref b4), (.int (0 : Int32)), (.ref b20), (.ref b20)] _
    refine st28 _ ?_
    refine XS.dup X28.here hx rfl (hb hby at_71) rfl rfl ?_
    refine XS.iconst X28.here hx rfl (hb hby at_72) ?_
    refine XS.aload X28.here hx rfl (hb hby at_73) rfl rfl ?_
    show oS p e below T28 m 75 #[iv x1, iv x2, iv y6, iv y13, rv b1, rv b4, rv b7, rv b13, .unset, .unset, .unset, .unset, .unset, .unset, .unset, .unset, .unset] [(.ref b7), (.int (1 : Int32)), (.ref b20), (.ref b20)] _
    refine st31 _ ?_
    refine XS.astore X31.here hx rfl (hb hby at_76) rfl rfl (l' := #[iv x1, iv x2, iv y6, iv y13, rv b1, rv b4, rv b7, rv b13, rv b20, .unset, .unset, .unset, .unset, .unset, .unset, .unset, .unset]) rfl ?_
    exact kt
  rcases own_n3 x1 y6 hy6 with hn | hn | hn
  · subst hn
    have Ec34 : Exa Z h31 b1 oz1 := (((Ec22.ext E20).wr W28).wr W31)
    have Fc35 : Fld Z h31 b1 oz1 "first" oz2 .null := (((((((((F_first_b1.ext E4).keep K5 (ninS ne_b1_b4 nin0)).ext E7).keep K11 (ninS ne_b1_b7 nin0)).ext E13).keep K18 (ninS ne_b1_b13 nin0)).ext E20).other W28 (Or.inl ne_b1_b20)).other W31 (Or.inl ne_b1_b20))
    have Fc36 : Fld Z h31 b1 oz1 "last" oz2 .null := (((((((((F_last_b1.ext E4).keep K5 (ninS ne_b1_b4 nin0)).ext E7).keep K11 (ninS ne_b1_b7 nin0)).ext E13).keep K18 (ninS ne_b1_b13 nin0)).ext E20).other W28 (Or.inl ne_b1_b20)).other W31 (Or.inl ne_b1_b20))
    have Zc37 : n0 ≤ h31.size := (Nat.le_trans (Nat.le_trans (Nat.le_trans Zc21 E20.1) (Keep.of_wr W28).1) (Keep.of_wr W31).1)
    obtain ⟨_, _, ⟨T33, Lw33, kw33, nw33⟩, -, X33, ⟨Lc33, hQ33, l33, y33, z33⟩, st33⟩ := Jvm.LawKit.callS X31 hx (y := (⟨oz4, "state", oz5⟩ : MethodName)) hown (mvT hZ (own_w hw 27 rfl)) (mvT hZ (own_w hw 28 rfl)) (mvT hZ (own_w hw 29 rfl)) (mvT hZ (own_w hw 30 rfl)) (by decide) (backOf (W := 0) (rmS0 l Z a0 hw [] b1 h31 n0 Zc37 Ec34 Fc35 Fc36) hZ (own_w hw 30 rfl) (own_w hw 29 rfl) (by decide) (by decide)) (g := (mkF m 136 #[iv x1, iv x2, iv (0 : Int32), iv y13, rv b1, rv b4, rv b7, rv b13, rv b20, .unset, .unset, .unset, .unset, .unset, .unset, .unset, .unset] [.null, .null, (.ref b1)])) rfl (by rw [hml]; rfl) (argsL := [(.ref b1), .null, .null]) (rest := []) (lenOf own_pd5 rfl) rfl (by show 2 * 0 + _ ≤ _; exact Nat.le_of_eq rfl) (hb hby at_136) (fun _ _ => ⟨rfl, e31, (by decide : 5 + 0 ≤ _), (by decide : 34 + 0 ≤ _)⟩)
    dsimp only [Pt.U, Pt.locs, Pt.cells, Pt.slots] at X33 l33 y33 z33 st33 hQ33
    subst l33 y33 z33
    obtain ⟨rfl, Nq33, eh33⟩ := hQ33
    have N33 := Fr.app N31 Nq33
    have pre38 : ∀ tz, oS p e below T33 m 146 #[iv x1, iv x2, iv (0 : Int32), iv y13, rv b1, rv b4, rv b7, rv b13, rv b20, iv (1 : Int32), .unset, .unset, .unset, .unset, .unset, .unset, .unset] [] tz → oS p e below T31 m 78 #[iv x1, iv x2, iv (0 : Int32), iv y13, rv b1, rv b4, rv b7, rv b13, rv b20, .unset, .unset, .unset, .unset, .unset, .unset, .unset, .unset] [] tz := fun tz kt => by
      show oS p e below T31 m 78 #[iv x1, iv x2, iv (0 : Int32), iv y13, rv b1, rv b4, rv b7, rv b13, rv b20, .unset, .unset, .unset, .unset, .unset, .unset, .unset, .unset] [] _
      refine XS.iloadN X31.here hx rfl (hb hby at_78) rfl ?_
      refine XS.iconst X31.here hx rfl (hb hby at_79) ?_
      refine XS.icmpYes X31.here hx rfl (pc0 := 80) (pc' := 90) rfl (hb hby at_80) rfl (tlt (by decide : ((0 : Int32) < (1 : Int32)))).1 (by decide) (by decide) ?_
      refine XS.iloadN X31.here hx rfl (hb hby at_90) rfl ?_
      refine XS.iconst X31.here hx rfl (hb hby at_91) ?_
      refine XS.icmpYes X31.here hx rfl (pc0 := 92) (pc' := 102) rfl (hb hby at_92) rfl (tlt (by decide : ((0 : Int32) < (2 : Int32)))).1 (by decide) (by decide) ?_
      refine XS.aload X31.here hx rfl (hb hby at_102) rfl rfl ?_
      refine XS.iloadN X31.here hx rfl (hb hby at_104) rfl ?_
      show oS p e below T31 m 105 #[iv x1, iv x2, iv (0 : Int32), iv y13, rv b1, rv b4, rv b7, rv b13, rv b20, .unset, .unset, .unset, .unset, .unset, .unset, .unset, .unset] [(.int (0 : Int32)), (.ref b1)] _
      refine XS.iconst X31.here hx rfl (hb hby at_105) ?_
      refine XS.icmpYes X31.here hx rfl (pc0 := 106) (pc' := 114) rfl (hb hby at_106) rfl (tlt (by decide : ((0 : Int32) < (1 : Int32)))).1 (by decide) (by decide) ?_
      refine XS.aconstNull X31.here hx rfl (hb hby at_114) ?_
      refine XS.iloadN X31.here hx rfl (hb hby at_115) rfl ?_
      refine XS.iconst X31.here hx rfl (hb hby at_116) ?_
      refine XS.icmpYes X31.here hx rfl (pc0 := 117) (pc' := 125) rfl (hb hby at_117) rfl (feq (by decide : ¬ ((0 : Int32) = (2 : Int32)))).2 (by decide) (by decide) ?_
      refine XS.iloadN X31.here hx rfl (hb hby at_125) rfl ?_
      refine XS.iconst X31.here hx rfl (hb hby at_126) ?_
      show oS p e below T31 m 127 #[iv x1, iv x2, iv (0 : Int32), iv y13, rv b1, rv b4, rv b7, rv b13, rv b20, .unset, .unset, .unset, .unset, .unset, .unset, .unset, .unset] [(.int (1 : Int32)), (.int (0 : Int32)), .null, (.ref b1)] _
      refine XS.icmpYes X31.here hx rfl (pc0 := 127) (pc' := 135) rfl (hb hby at_127) rfl (feq (by decide : ¬ ((0 : Int32) = (1 : Int32)))).2 (by decide) (by decide) ?_
      refine XS.aconstNull X31.here hx rfl (hb hby at_135) ?_
      show oS p e below T31 m 136 #[iv x1, iv x2, iv (0 : Int32), iv y13, rv b1, rv b4, rv b7, rv b13, rv b20, .unset, .unset, .unset, .unset, .unset, .unset, .unset, .unset] [.null, .null, (.ref b1)] _
      refine st33 _ ?_
      refine XS.istore X33.here hx rfl (hb hby at_139) rfl (l' := #[iv x1, iv x2, iv (0 : Int32), iv y13, rv b1, rv b4, rv b7, rv b13, rv b20, iv (1 : Int32), .unset, .unset, .unset, .unset, .unset, .unset, .unset]) rfl ?_
      refine XS.iload X33.here hx rfl (hb hby at_141) rfl ?_
      refine XS.ifNo X33.here hx rfl (hb hby at_143) rfl ((if0 _ _).trans (feq (by decide : ¬ ((1 : Int32) = (0 : Int32)))).1) ?_
      exact kt
    rcases own_n4 x2 y13 hy13 with hn | hn | hn | hn
    · subst hn
      obtain ⟨_, _, ⟨T39, Lw39, kw39, nw39⟩, -, X39, ⟨Lc39, hQ39, l39, y39, z39⟩, st39⟩ := Jvm.LawKit.callS X33 hx (y := (⟨"java/lang/Math", "min", "(II)I"⟩ : MethodName)) hown (mvT hZ (own_w hw 58 rfl)) (mvT hZ (own_w hw 59 rfl)) (mvT hZ (own_w hw 60 rfl)) (mvT hZ (own_w hw 61 rfl)) (by decide) (backOf (W := 0) (rm10 l Z a0 hw [] (0 : Int32) (0 : Int32) h31 n0 Zc37 ) hZ (own_w hw 61 rfl) (own_w hw 60 rfl) (by decide) (by decide)) (g := (mkF m 237 #[iv x1, iv x2, iv (0 : Int32), iv (0 : Int32), rv b1, rv b4, rv b7, rv b13, rv b20, iv (1 : Int32), .unset, .unset, .unset, .unset, .unset, .unset, .unset] [(.int (0 : Int32)), (.int (0 : Int32))])) rfl (by rw [hml]; rfl) (argsL := [(.int (0 : Int32)), (.int (0 : Int32))]) (rest := []) (lenOf own_pd6 rfl) rfl (by show 2 * 0 + _ ≤ _; exact Nat.le_of_eq rfl) (hb hby at_237) (fun _ _ => ⟨rfl, eh33, (by decide : 5 + 0 ≤ _), (by decide : 34 + 0 ≤ _)⟩)
      dsimp only [Pt.U, Pt.locs, Pt.cells, Pt.slots] at X39 l39 y39 z39 st39 hQ39
      subst l39 y39 z39
      obtain ⟨rfl, Nq39, eh39⟩ := hQ39
      have N39 := Fr.app N33 Nq39
      have Ec41 : Exa Z h31 b13 oz0 := (((Ec25.ext E20).wr W28).wr W31)
      have Fc42 : Fld Z h31 b13 oz0 "in" oz6 .null := (((pf18_0.ext E20).other W28 (Or.inl ne_b13_b20)).other W31 (Or.inl ne_b13_b20))
      have Fc43 : Fld Z h31 b13 oz0 "before" oz2 .null := (((pf18_1.ext E20).other W28 (Or.inl ne_b13_b20)).other W31 (Or.inl ne_b13_b20))
      have Fc44 : Fld Z h31 b13 oz0 "after" oz2 .null := (((pf18_2.ext E20).other W28 (Or.inl ne_b13_b20)).other W31 (Or.inl ne_b13_b20))
      obtain ⟨cq40, kq40, q40a, q40b, q40c⟩ := isOf hZ eh39 Ec34
      obtain ⟨_, _, ⟨T40, Lw40, kw40, nw40⟩, -, X40, ⟨Lc40, hQ40, l40, y40, z40⟩, st40⟩ := X39.virtualBack hx (y := (⟨oz1, "add", oz8⟩ : MethodName)) (z := (⟨oz1, "add", oz8⟩ : MethodName)) hown (mvT hZ (own_w hw 62 rfl)) (mvT hZ (own_w hw 63 rfl)) (notFace_of_selects (args := #[]) (mvT hZ (own_w hw 65 rfl))) (mvT hZ (own_w hw 65 rfl)) (mvT hZ (own_w hw 64 rfl)) (by decide) (backOf (W := 0) (rmA0 l Z a0 hw [] b1 b13 .null h31 n0 Zc37 Ec34 Ec41 g_b1 g_b13 Fc35 Fc36 Fc42 Fc43 Fc44) hZ (own_w hw 66 rfl) (own_w hw 3 rfl) (by decide) (by decide)) q40a q40c (g := (mkF m 252 #[iv x1, iv x2, iv (0 : Int32), iv (0 : Int32), rv b1, rv b4, rv b7, rv b13, rv b20, iv (1 : Int32), iv (0 : Int32), iv (0 : Int32), .unset, .unset, .unset, .unset, .unset] [(.ref b13), (.ref b1)])) rfl (by rw [hml]; rfl) (Steps.refl _) (argsL := [(.ref b13)]) (rest := []) (lenOf own_pd0 rfl) rfl (by show 2 * 0 + _ ≤ _; exact Nat.le_of_eq rfl) (hb hby at_252) (fun _ _ => ⟨rfl, eh39, (by decide : 5 + 0 ≤ _), (by decide : 34 + 0 ≤ _)⟩)
      dsimp only [Pt.U, Pt.locs, Pt.cells, Pt.slots] at X40 l40 y40 z40 st40 hQ40
      subst l40 y40 z40
      obtain ⟨rfl, Nq40, K40, pf40_0, pf40_1, pf40_2, pf40_3, pf40_4⟩ := hQ40
      have N40 := Fr.app N39 Nq40
      have Zc46 : n0 ≤ T40.heap.size := (Nat.le_trans Zc37 K40.1)
      have Ec47 : Exa Z T40.heap b1 oz1 := (Ec34.keep K40)
      have Ec48 : Exa Z T40.heap b4 oz0 := (((Ec26.wr W28).wr W31).keep K40)
      have Ec49 : Exa Z T40.heap b7 oz0 := ((Ec29.wr W31).keep K40)
      have Ec50 : Exa Z T40.heap b13 oz0 := (Ec41.keep K40)
      have Vc51 : Arv Z T40.heap b20 kk20 (.object oz0) (2 : Int32) [(.ref b4), (.ref b7)] .null := (Va31.keep K40 (ninS (Ne.symm ne_b1_b20) (ninS (Ne.symm ne_b13_b20) nin0)))
      obtain ⟨T45, h45, kk45, X45, e45, E45, A45, O45, st45⟩ := newR X40 hx hZ hown (own_w hw 10 rfl) (own_w hw 25 rfl) rfl (g := (mkF m 318 #[iv x1, iv x2, iv (0 : Int32), iv (0 : Int32), rv b1, rv b4, rv b7, rv b13, rv b20, iv (1 : Int32), iv (0 : Int32), iv (0 : Int32), rv b13, .val .null, .val .null, .unset, .unset] [(.int (3 : Int32))])) rfl (hb hby at_318) rfl (by decide) (cap := 3) (by decide) (by decide) (by decide) (by decide)
      obtain ⟨b45, g45⟩ : ∃ z, z = T40.heap.size := ⟨_, rfl⟩
      rw [← g45] at A45 st45
      have g_b45 : n0 ≤ b45 := Nat.le_trans Zc46 (Nat.le_of_eq g45.symm)
      have ne_b1_b45 : b1 ≠ b45 := Nat.ne_of_lt (Nat.lt_of_lt_of_le Ec47.lt (Nat.le_of_eq g45.symm))
      have ne_b4_b45 : b4 ≠ b45 := Nat.ne_of_lt (Nat.lt_of_lt_of_le Ec48.lt (Nat.le_of_eq g45.symm))
      have ne_b7_b45 : b7 ≠ b45 := Nat.ne_of_lt (Nat.lt_of_lt_of_le Ec49.lt (Nat.le_of_eq g45.symm))
      have ne_b13_b45 : b13 ≠ b45 := Nat.ne_of_lt (Nat.lt_of_lt_of_le Ec50.lt (Nat.le_of_eq g45.symm))
      have ne_b20_b45 : b20 ≠ b45 := Nat.ne_of_lt (Nat.lt_of_lt_of_le Vc51.lt (Nat.le_of_eq g45.symm))
      have V_b45 : Arv Z h45 b45 kk45 (.object oz0) (3 : Int32) [.null, .null, .null] .null := (Arv.new A45 (by decide)).pad (pad_rep [] .null 3)
      have Ec52 : Exa Z h45 b13 oz0 := (Ec50.ext E45)
      obtain ⟨cl53, Ar53, qk53, Sz53, Ng53, Hs53, Gt53⟩ := id V_b45
      have hin53 : ¬ ((0 : Int32) < 0 ∨ cl53.slots.size ≤ ((0 : Int32)).toNatClampNeg) := inb_of Sz53 ⟨by decide, by decide⟩
      obtain ⟨T54, h54, X54, e54, W54, st54⟩ := stR X45 hx hZ e45 Ar53 (j := (0 : Int32)) hin53 rfl (Sto.ofV Ar53 qk53 O45 (Ins.self Ec52)) (g := (mkF m 325 #[iv x1, iv x2, iv (0 : Int32), iv (0 : Int32), rv b1, rv b4, rv b7, rv b13, rv b20, iv (1 : Int32), iv (0 : Int32), iv (0 : Int32), rv b13, .val .null, .val .null, .unset, .unset] [(.ref b13), (.int (0 : Int32)), (.ref b45), (.ref b45)])) rfl rfl (hb hby at_325)
      have Va54 : Arv Z h54 b45 kk45 (.object oz0) (3 : Int32) [(.ref b13), .null, .null] .null := Arv.set Ar53 qk53 Sz53 Ng53 Hs53 Gt53 rfl W54 0 rfl (Nat.le_of_ble_eq_true rfl)
      have N54 := Fr.snoc X54 N40 g_b45
      obtain ⟨cl55, Ar55, qk55, Sz55, Ng55, Hs55, Gt55⟩ := id Va54
      have hin55 : ¬ ((1 : Int32) < 0 ∨ cl55.slots.size ≤ ((1 : Int32)).toNatClampNeg) := inb_of Sz55 ⟨by decide, by decide⟩
      obtain ⟨T56, h56, X56, e56, W56, st56⟩ := stR X54 hx hZ e54 Ar55 (j := (1 : Int32)) hin55 rfl (Or.inl rfl) (g := (mkF m 330 #[iv x1, iv x2, iv (0 : Int32), iv (0 : Int32), rv b1, rv b4, rv b7, rv b13, rv b20, iv (1 : Int32), iv (0 : Int32), iv (0 : Int32), rv b13, .val .null, .val .null, .unset, .unset] [.null, (.int (1 : Int32)), (.ref b45), (.ref b45)])) rfl rfl (hb hby at_330)
      have Va56 : Arv Z h56 b45 kk45 (.object oz0) (3 : Int32) [(.ref b13), .null, .null] .null := Arv.set Ar55 qk55 Sz55 Ng55 Hs55 Gt55 rfl W56 1 rfl (Nat.le_of_ble_eq_true rfl)
      have N56 := Fr.snoc X56 N54 g_b45
      obtain ⟨cl57, Ar57, qk57, Sz57, Ng57, Hs57, Gt57⟩ := id Va56
      have hin57 : ¬ ((2 : Int32) < 0 ∨ cl57.slots.size ≤ ((2 : Int32)).toNatClampNeg) := inb_of Sz57 ⟨by decide, by decide⟩
      obtain ⟨T58, h58, X58, e58, W58, st58⟩ := stR X56 hx hZ e56 Ar57 (j := (2 : Int32)) hin57 rfl (Or.inl rfl) (g := (mkF m 335 #[iv x1, iv x2, iv (0 : Int32), iv (0 : Int32), rv b1, rv b4, rv b7, rv b13, rv b20, iv (1 : Int32), iv (0 : Int32), iv (0 : Int32), rv b13, .val .null, .val .null, .unset, .unset] [.null, (.int (2 : Int32)), (.ref b45), (.ref b45)])) rfl rfl (hb hby at_335)
      have Va58 : Arv Z h58 b45 kk45 (.object oz0) (3 : Int32) [(.ref b13), .null, .null] .null := Arv.set Ar57 qk57 Sz57 Ng57 Hs57 Gt57 rfl W58 2 rfl (Nat.le_of_ble_eq_true rfl)
      have N58 := Fr.snoc X58 N56 g_b45
      obtain ⟨cl59, Ar59, qk59, Sz59, Ng59, Hs59, Gt59⟩ := id Va58
      have hin59 : ¬ ((0 : Int32) < 0 ∨ cl59.slots.size ≤ ((0 : Int32)).toNatClampNeg) := inb_of Sz59 ⟨by decide, by decide⟩
      have hat59 : cl59.slots[((0 : Int32)).toNatClampNeg]? = some (.ref b13) := Hs59.at hin59 rfl
      have Ec61 : Exa Z h58 b1 oz1 := ((((Ec47.ext E45).wr W54).wr W56).wr W58)
      have Ec62 : Exa Z h58 b13 oz0 := (((Ec52.wr W54).wr W56).wr W58)
      have Fc63 : Fld Z h58 b1 oz1 "first" oz2 (.ref b13) := ((((pf40_0.ext E45).other W54 (Or.inl ne_b1_b45)).other W56 (Or.inl ne_b1_b45)).other W58 (Or.inl ne_b1_b45))
      have Fc64 : Fld Z h58 b1 oz1 "last" oz2 (.ref b13) := ((((pf40_1.ext E45).other W54 (Or.inl ne_b1_b45)).other W56 (Or.inl ne_b1_b45)).other W58 (Or.inl ne_b1_b45))
      have Fc65 : Fld Z h58 b13 oz0 "in" oz6 (.ref b1) := ((((pf40_2.ext E45).other W54 (Or.inl ne_b13_b45)).other W56 (Or.inl ne_b13_b45)).other W58 (Or.inl ne_b13_b45))
      have Fc66 : Fld Z h58 b13 oz0 "before" oz2 .null := ((((pf40_3.ext E45).other W54 (Or.inl ne_b13_b45)).other W56 (Or.inl ne_b13_b45)).other W58 (Or.inl ne_b13_b45))
      have Fc67 : Fld Z h58 b13 oz0 "after" oz2 .null := ((((pf40_4.ext E45).other W54 (Or.inl ne_b13_b45)).other W56 (Or.inl ne_b13_b45)).other W58 (Or.inl ne_b13_b45))
      have Zc68 : n0 ≤ h58.size := (Nat.le_trans (Nat.le_trans (Nat.le_trans (Nat.le_trans Zc46 E45.1) (Keep.of_wr W54).1) (Keep.of_wr W56).1) (Keep.of_wr W58).1)
      obtain ⟨_, _, ⟨T60, Lw60, kw60, nw60⟩, -, X60, ⟨Lc60, hQ60, l60, y60, z60⟩, st60⟩ := Jvm.LawKit.callS X58 hx (y := (⟨oz4, "state", oz5⟩ : MethodName)) hown (mvT hZ (own_w hw 27 rfl)) (mvT hZ (own_w hw 28 rfl)) (mvT hZ (own_w hw 29 rfl)) (mvT hZ (own_w hw 30 rfl)) (by decide) (backOf (W := 0) (rmS1 l Z a0 hw [] b1 b13 h58 n0 Zc68 Ec61 Ec62 Fc63 Fc64 Fc65 Fc66 Fc67) hZ (own_w hw 30 rfl) (own_w hw 29 rfl) (by decide) (by decide)) (g := (mkF m 353 #[iv x1, iv x2, iv (0 : Int32), iv (0 : Int32), rv b1, rv b4, rv b7, rv b13, rv b20, iv (1 : Int32), iv (0 : Int32), iv (0 : Int32), rv b13, .val .null, .val .null, rv b45, iv (1 : Int32)] [(.ref b13), (.ref b13), (.ref b1)])) rfl (by rw [hml]; rfl) (argsL := [(.ref b1), (.ref b13), (.ref b13)]) (rest := []) (lenOf own_pd5 rfl) rfl (by show 2 * 0 + _ ≤ _; exact Nat.le_of_eq rfl) (hb hby at_353) (fun _ _ => ⟨rfl, e58, (by decide : 6 + 0 ≤ _), (by decide : 37 + 0 ≤ _)⟩)
      dsimp only [Pt.U, Pt.locs, Pt.cells, Pt.slots] at X60 l60 y60 z60 st60 hQ60
      subst l60 y60 z60
      obtain ⟨rfl, Nq60, eh60⟩ := hQ60
      have N60 := Fr.app N58 Nq60
      obtain ⟨_, _, ⟨T69, Lw69, kw69, nw69⟩, -, X69, ⟨Lc69, hQ69, l69, y69, z69⟩, st69⟩ := Jvm.LawKit.callS X60 hx (y := (⟨oz4, "step", oz3⟩ : MethodName)) hown (mvT hZ (own_w hw 50 rfl)) (mvT hZ (own_w hw 51 rfl)) (mvT hZ (own_w hw 29 rfl)) (mvT hZ (own_w hw 52 rfl)) (by decide) (backOf (W := 0) (rmT3_1_0 l Z a0 hw [] b1 b45 b13 kk45 h58 n0 Zc68 Ec61 Ec62 g_b1 g_b13 Fc63 Fc64 Fc65 Fc66 Fc67 Va58) hZ (own_w hw 52 rfl) (own_w hw 29 rfl) (by decide) (by decide)) (g := (mkF m 370 #[iv x1, iv x2, iv (0 : Int32), iv (0 : Int32), rv b1, rv b4, rv b7, rv b13, rv b20, iv (1 : Int32), iv (0 : Int32), iv (0 : Int32), rv b13, .val .null, .val .null, rv b45, iv (1 : Int32)] [(.int (0 : Int32)), (.int (1 : Int32)), (.ref b45), (.ref b1)])) rfl (by rw [hml]; rfl) (argsL := [(.ref b1), (.ref b45), (.int (1 : Int32)), (.int (0 : Int32))]) (rest := []) (lenOf own_pd7 rfl) rfl (by show 2 * 0 + _ ≤ _; exact Nat.le_of_eq rfl) (hb hby at_370) (fun _ _ => ⟨rfl, eh60, (by decide : 6 + 0 ≤ _), (by decide : 37 + 0 ≤ _)⟩)
      dsimp only [Pt.U, Pt.locs, Pt.cells, Pt.slots] at X69 l69 y69 z69 st69 hQ69
      subst l69 y69 z69
      obtain ⟨rfl, Nq69, K69, pf69_0, pf69_1, pf69_2, pf69_3, pf69_4⟩ := hQ69
      have N69 := Fr.app N60 Nq69
      have Ec71 : Exa Z T69.heap b1 oz1 := (Ec61.keep K69)
      have Vc72 : Arv Z T69.heap b45 kk45 (.object oz0) (3 : Int32) [(.ref b13), .null, .null] .null := (Va58.keep K69 (ninS (Ne.symm ne_b1_b45) (ninS (Ne.symm ne_b13_b45) nin0)))
      have Zc73 : n0 ≤ T69.heap.size := (Nat.le_trans Zc68 K69.1)
      obtain ⟨_, _, ⟨T70, Lw70, kw70, nw70⟩, -, X70, ⟨Lc70, hQ70, l70, y70, z70⟩, st70⟩ := Jvm.LawKit.callS X69 hx (y := (⟨oz4, "step", oz3⟩ : MethodName)) hown (mvT hZ (own_w hw 50 rfl)) (mvT hZ (own_w hw 51 rfl)) (mvT hZ (own_w hw 29 rfl)) (mvT hZ (own_w hw 52 rfl)) (by decide) (backOf (W := 0) (rmT3_1_1 l Z a0 hw [] b1 b45 b13 kk45 T69.heap n0 Zc73 Ec71 pf69_0 pf69_1 Vc72) hZ (own_w hw 52 rfl) (own_w hw 29 rfl) (by decide) (by decide)) (g := (mkF m 395 #[iv x1, iv x2, iv (0 : Int32), iv (0 : Int32), rv b1, rv b4, rv b7, rv b13, rv b20, iv (1 : Int32), iv (0 : Int32), iv (0 : Int32), rv b13, .val .null, .val .null, rv b45, iv (1 : Int32)] [(.int (1 : Int32)), (.int (1 : Int32)), (.ref b45), (.ref b1)])) rfl (by rw [hml]; rfl) (argsL := [(.ref b1), (.ref b45), (.int (1 : Int32)), (.int (1 : Int32))]) (rest := []) (lenOf own_pd7 rfl) rfl (by show 2 * 0 + _ ≤ _; exact Nat.le_of_eq rfl) (hb hby at_395) (fun _ _ => ⟨rfl, rfl, (by decide : 6 + 0 ≤ _), (by decide : 37 + 0 ≤ _)⟩)
      dsimp only [Pt.U, Pt.locs, Pt.cells, Pt.slots] at X70 l70 y70 z70 st70 hQ70
      subst l70 y70 z70
      obtain ⟨rfl, Nq70, eh70⟩ := hQ70
      have N70 := Fr.app N69 Nq70
      have pre74 : ∀ tz, oS p e below T70 m 476 #[iv x1, iv x2, iv (0 : Int32), iv (0 : Int32), rv b1, rv b4, rv b7, rv b13, rv b20, iv (1 : Int32), iv (0 : Int32), iv (0 : Int32), rv b13, .val .null, .val .null, rv b45, iv (1 : Int32)] [(.int (1 : Int32))] tz → oS p e below T33 m 146 #[iv x1, iv x2, iv (0 : Int32), iv (0 : Int32), rv b1, rv b4, rv b7, rv b13, rv b20, iv (1 : Int32), .unset, .unset, .unset, .unset, .unset, .unset, .unset] [] tz := fun tz kt => by
        show oS p e below T33 m 146 #[iv x1, iv x2, iv (0 : Int32), iv (0 : Int32), rv b1, rv b4, rv b7, rv b13, rv b20, iv (1 : Int32), .unset, .unset, .unset, .unset, .unset, .unset, .unset] [] _
        refine XS.iloadN X33.here hx rfl (hb hby at_146) rfl ?_
        refine XS.iconst X33.here hx rfl (hb hby at_147) ?_
        refine XS.icmpYes X33.here hx rfl (pc0 := 148) (pc' := 163) rfl (hb hby at_148) rfl (tlt (by decide : ((0 : Int32) < (1 : Int32)))).1 (by decide) (by decide) ?_
        refine XS.iconst X33.here hx rfl (hb hby at_163) ?_
        refine XS.goto X33.here hx rfl (pc0 := 164) (pc' := 168) rfl (hb hby at_164) (by decide) (by decide) ?_
        refine XS.istore X33.here hx rfl (hb hby at_168) rfl (l' := #[iv x1, iv x2, iv (0 : Int32), iv (0 : Int32), rv b1, rv b4, rv b7, rv b13, rv b20, iv (1 : Int32), .unset, .unset, .unset, .unset, .unset, .unset, .unset]) rfl ?_
        refine XS.iload X33.here hx rfl (hb hby at_170) rfl ?_
        refine XS.ifNo X33.here hx rfl (hb hby at_172) rfl ((if0 _ _).trans (feq (by decide : ¬ ((1 : Int32) = (0 : Int32)))).1) ?_
        show oS p e below T33 m 175 #[iv x1, iv x2, iv (0 : Int32), iv (0 : Int32), rv b1, rv b4, rv b7, rv b13, rv b20, iv (1 : Int32), .unset, .unset, .unset, .unset, .unset, .unset, .unset] [] _
        refine XS.iloadN X33.here hx rfl (hb hby at_175) rfl ?_
        refine XS.iconst X33.here hx rfl (hb hby at_176) ?_
        refine XS.icmpYes X33.here hx rfl (pc0 := 177) (pc' := 192) rfl (hb hby at_177) rfl (tlt (by decide : ((0 : Int32) < (2 : Int32)))).1 (by decide) (by decide) ?_
        refine XS.iconst X33.here hx rfl (hb hby at_192) ?_
        refine XS.goto X33.here hx rfl (pc0 := 193) (pc' := 197) rfl (hb hby at_193) (by decide) (by decide) ?_
        refine XS.istore X33.here hx rfl (hb hby at_197) rfl (l' := #[iv x1, iv x2, iv (0 : Int32), iv (0 : Int32), rv b1, rv b4, rv b7, rv b13, rv b20, iv (1 : Int32), .unset, .unset, .unset, .unset, .unset, .unset, .unset]) rfl ?_
        refine XS.iload X33.here hx rfl (hb hby at_199) rfl ?_
        refine XS.ifNo X33.here hx rfl (hb hby at_201) rfl ((if0 _ _).trans (feq (by decide : ¬ ((1 : Int32) = (0 : Int32)))).1) ?_
        show oS p e below T33 m 204 #[iv x1, iv x2, iv (0 : Int32), iv (0 : Int32), rv b1, rv b4, rv b7, rv b13, rv b20, iv (1 : Int32), .unset, .unset, .unset, .unset, .unset, .unset, .unset] [] _
        refine XS.iloadN X33.here hx rfl (hb hby at_204) rfl ?_
        refine XS.iconst X33.here hx rfl (hb hby at_205) ?_
        refine XS.icmpYes X33.here hx rfl (pc0 := 206) (pc' := 221) rfl (hb hby at_206) rfl (tlt (by decide : ((0 : Int32) < (3 : Int32)))).1 (by decide) (by decide) ?_
        refine XS.iconst X33.here hx rfl (hb hby at_221) ?_
        refine XS.goto X33.here hx rfl (pc0 := 222) (pc' := 226) rfl (hb hby at_222) (by decide) (by decide) ?_
        refine XS.istore X33.here hx rfl (hb hby at_226) rfl (l' := #[iv x1, iv x2, iv (0 : Int32), iv (0 : Int32), rv b1, rv b4, rv b7, rv b13, rv b20, iv (1 : Int32), .unset, .unset, .unset, .unset, .unset, .unset, .unset]) rfl ?_
        refine XS.iload X33.here hx rfl (hb hby at_228) rfl ?_
        refine XS.ifYes X33.here hx rfl (pc0 := 230) (pc' := 235) rfl (hb hby at_230) rfl ((if0 _ _).trans (feq (by decide : ¬ ((1 : Int32) = (0 : Int32)))).2) (by decide) (by decide) ?_
        show oS p e below T33 m 235 #[iv x1, iv x2, iv (0 : Int32), iv (0 : Int32), rv b1, rv b4, rv b7, rv b13, rv b20, iv (1 : Int32), .unset, .unset, .unset, .unset, .unset, .unset, .unset] [] _
        refine XS.iloadN X33.here hx rfl (hb hby at_235) rfl ?_
        refine XS.iloadN X33.here hx rfl (hb hby at_236) rfl ?_
        show oS p e below T33 m 237 #[iv x1, iv x2, iv (0 : Int32), iv (0 : Int32), rv b1, rv b4, rv b7, rv b13, rv b20, iv (1 : Int32), .unset, .unset, .unset, .unset, .unset, .unset, .unset] [(.int (0 : Int32)), (.int (0 : Int32))] _
        refine st39 _ ?_
        rw [((if_neg (by decide : ¬ ((0 : Int32) < (0 : Int32)))) : (if (0 : Int32) < (0 : Int32) then (0 : Int32) else (0 : Int32)) = (0 : Int32))]
        show oS p e below T39 m 240 #[iv x1, iv x2, iv (0 : Int32), iv (0 : Int32), rv b1, rv b4, rv b7, rv b13, rv b20, iv (1 : Int32), .unset, .unset, .unset, .unset, .unset, .unset, .unset] [(.int (0 : Int32))] _
        refine XS.istore X39.here hx rfl (hb hby at_240) rfl (l' := #[iv x1, iv x2, iv (0 : Int32), iv (0 : Int32), rv b1, rv b4, rv b7, rv b13, rv b20, iv (1 : Int32), iv (0 : Int32), .unset, .unset, .unset, .unset, .unset, .unset]) rfl ?_
        refine XS.iloadN X39.here hx rfl (hb hby at_242) rfl ?_
        refine XS.iload X39.here hx rfl (hb hby at_243) rfl ?_
        refine XS.isub X39.here hx rfl (hb hby at_245) rfl ?_
        show oS p e below T39 m 246 #[iv x1, iv x2, iv (0 : Int32), iv (0 : Int32), rv b1, rv b4, rv b7, rv b13, rv b20, iv (1 : Int32), iv (0 : Int32), .unset, .unset, .unset, .unset, .unset, .unset] [(.int (0 : Int32))] _
        refine XS.istore X39.here hx rfl (hb hby at_246) rfl (l' := #[iv x1, iv x2, iv (0 : Int32), iv (0 : Int32), rv b1, rv b4, rv b7, rv b13, rv b20, iv (1 : Int32), iv (0 : Int32), iv (0 : Int32), .unset, .unset, .unset, .unset, .unset]) rfl ?_
        refine XS.aload X39.here hx rfl (hb hby at_248) rfl rfl ?_
        refine XS.aload X39.here hx rfl (hb hby at_250) rfl rfl ?_
        show oS p e below T39 m 252 #[iv x1, iv x2, iv (0 : Int32), iv (0 : Int32), rv b1, rv b4, rv b7, rv b13, rv b20, iv (1 : Int32), iv (0 : Int32), iv (0 : Int32), .unset, .unset, .unset, .unset, .unset] [(.ref b13), (.ref b1)] _
        refine st40.trans ?_
        refine XS.iload X40.here hx rfl (hb hby at_255) rfl ?_
        refine XS.iconst X40.here hx rfl (hb hby at_257) ?_
        refine XS.icmpYes X40.here hx rfl (pc0 := 258) (pc' := 269) rfl (hb hby at_258) rfl (tlt (by decide : ((0 : Int32) < (1 : Int32)))).1 (by decide) (by decide) ?_
        refine XS.aload X40.here hx rfl (hb hby at_269) rfl rfl ?_
        refine XS.astore X40.here hx rfl (hb hby at_271) rfl rfl (l' := #[iv x1, iv x2, iv (0 : Int32), iv (0 : Int32), rv b1, rv b4, rv b7, rv b13, rv b20, iv (1 : Int32), iv (0 : Int32), iv (0 : Int32), rv b13, .unset, .unset, .unset, .unset]) rfl ?_
        refine XS.iload X40.here hx rfl (hb hby at_273) rfl ?_
        refine XS.iconst X40.here hx rfl (hb hby at_275) ?_
        show oS p e below T40 m 276 #[iv x1, iv x2, iv (0 : Int32), iv (0 : Int32), rv b1, rv b4, rv b7, rv b13, rv b20, iv (1 : Int32), iv (0 : Int32), iv (0 : Int32), rv b13, .unset, .unset, .unset, .unset] [(.int (2 : Int32)), (.int (0 : Int32))] _
        refine XS.icmpYes X40.here hx rfl (pc0 := 276) (pc' := 289) rfl (hb hby at_276) rfl (tlt (by decide : ((0 : Int32) < (2 : Int32)))).1 (by decide) (by decide) ?_
        refine XS.iload X40.here hx rfl (hb hby at_289) rfl ?_
        refine XS.iconst X40.here hx rfl (hb hby at_291) ?_
        refine XS.icmpYes X40.here hx rfl (pc0 := 292) (pc' := 300) rfl (hb hby at_292) rfl (feq (by decide : ¬ ((0 : Int32) = (1 : Int32)))).2 (by decide) (by decide) ?_
        refine XS.aconstNull X40.here hx rfl (hb hby at_300) ?_
        refine XS.astore X40.here hx rfl (hb hby at_301) rfl rfl (l' := #[iv x1, iv x2, iv (0 : Int32), iv (0 : Int32), rv b1, rv b4, rv b7, rv b13, rv b20, iv (1 : Int32), iv (0 : Int32), iv (0 : Int32), rv b13, .val .null, .unset, .unset, .unset]) rfl ?_
        refine XS.iload X40.here hx rfl (hb hby at_303) rfl ?_
        refine XS.iconst X40.here hx rfl (hb hby at_305) ?_
        show oS p e below T40 m 306 #[iv x1, iv x2, iv (0 : Int32), iv (0 : Int32), rv b1, rv b4, rv b7, rv b13, rv b20, iv (1 : Int32), iv (0 : Int32), iv (0 : Int32), rv b13, .val .null, .unset, .unset, .unset] [(.int (2 : Int32)), (.int (0 : Int32))] _
        refine XS.icmpYes X40.here hx rfl (pc0 := 306) (pc' := 314) rfl (hb hby at_306) rfl (feq (by decide : ¬ ((0 : Int32) = (2 : Int32)))).2 (by decide) (by decide) ?_
        refine XS.aconstNull X40.here hx rfl (hb hby at_314) ?_
        refine XS.astore X40.here hx rfl (hb hby at_315) rfl rfl (l' := #[iv x1, iv x2, iv (0 : Int32), iv (0 : Int32), rv b1, rv b4, rv b7, rv b13, rv b20, iv (1 : Int32), iv (0 : Int32), iv (0 : Int32), rv b13, .val .null, .val .null, .unset, .unset]) rfl ?_
        refine XS.iconst X40.here hx rfl (hb hby at_317) ?_
        show oS p e below T40 m 318 #[iv x1, iv x2, iv (0 : Int32), iv (0 : Int32), rv b1, rv b4, rv b7, rv b13, rv b20, iv (1 : Int32), iv (0 : Int32), iv (0 : Int32), rv b13, .val .null, .val .null, .unset, .unset] [(.int (3 : Int32))] _
        refine st45 _ ?_
        refine XS.dup X45.here hx rfl (hb hby at_321) rfl rfl ?_
        refine XS.iconst X45.here hx rfl (hb hby at_322) ?_
        refine XS.aload X45.here hx rfl (hb hby at_323) rfl rfl ?_
        show oS p e below T45 m 325 #[iv x1, iv x2, iv (0 : Int32), iv (0 : Int32), rv b1, rv b4, rv b7, rv b13, rv b20, iv (1 : Int32), iv (0 : Int32), iv (0 : Int32), rv b13, .val .null, .val .null, .unset, .unset] [(.ref b13), (.int (0 : Int32)), (.ref b45), (.ref b45)] _
        refine st54 _ ?_
        refine XS.dup X54.here hx rfl (hb hby at_326) rfl rfl ?_
        refine XS.iconst X54.here hx rfl (hb hby at_327) ?_
        refine XS.aload X54.here hx rfl (hb hby at_328) rfl rfl ?_
        show oS p e below T54 m 330 #[iv x1, iv x2, iv (0 : Int32), iv (0 : Int32), rv b1, rv b4, rv b7, rv b13, rv b20, iv (1 : Int32), iv (0 : Int32), iv (0 : Int32), rv b13, .val .null, .val .null, .unset, .unset] [.null, (.int (1 : Int32)), (.ref b45), (.ref b45)] _
        refine st56 _ ?_
        refine XS.dup X56.here hx rfl (hb hby at_331) rfl rfl ?_
        refine XS.iconst X56.here hx rfl (hb hby at_332) ?_
        refine XS.aload X56.here hx rfl (hb hby at_333) rfl rfl ?_
        show oS p e below T56 m 335 #[iv x1, iv x2, iv (0 : Int32), iv (0 : Int32), rv b1, rv b4, rv b7, rv b13, rv b20, iv (1 : Int32), iv (0 : Int32), iv (0 : Int32), rv b13, .val .null, .val .null, .unset, .unset] [.null, (.int (2 : Int32)), (.ref b45), (.ref b45)] _
        refine st58 _ ?_
        refine XS.astore X58.here hx rfl (hb hby at_336) rfl rfl (l' := #[iv x1, iv x2, iv (0 : Int32), iv (0 : Int32), rv b1, rv b4, rv b7, rv b13, rv b20, iv (1 : Int32), iv (0 : Int32), iv (0 : Int32), rv b13, .val .null, .val .null, rv b45, .unset]) rfl ?_
        refine XS.iload X58.here hx rfl (hb hby at_338) rfl ?_
        refine XS.iconst X58.here hx rfl (hb hby at_340) ?_
        refine XS.iadd X58.here hx rfl (hb hby at_341) rfl ?_
        show oS p e below T58 m 342 #[iv x1, iv x2, iv (0 : Int32), iv (0 : Int32), rv b1, rv b4, rv b7, rv b13, rv b20, iv (1 : Int32), iv (0 : Int32), iv (0 : Int32), rv b13, .val .null, .val .null, rv b45, .unset] [(.int (1 : Int32))] _
        refine XS.istore X58.here hx rfl (hb hby at_342) rfl (l' := #[iv x1, iv x2, iv (0 : Int32), iv (0 : Int32), rv b1, rv b4, rv b7, rv b13, rv b20, iv (1 : Int32), iv (0 : Int32), iv (0 : Int32), rv b13, .val .null, .val .null, rv b45, iv (1 : Int32)]) rfl ?_
        refine XS.aload X58.here hx rfl (hb hby at_344) rfl rfl ?_
        refine XS.aload X58.here hx rfl (hb hby at_346) rfl rfl ?_
        refine XS.aload X58.here hx rfl (hb hby at_348) rfl rfl ?_
        refine XS.iload X58.here hx rfl (hb hby at_350) rfl ?_
        refine X58.aaload hx (j := (0 : Int32)) (v := (.ref b13)) (by rw [e58]; exact Ar59.1) (State.isArrayOf_alike hZ.alike Ar59.2.1) rfl Ar59.2.2 hin59 hat59 (g := (mkF m 352 #[iv x1, iv x2, iv (0 : Int32), iv (0 : Int32), rv b1, rv b4, rv b7, rv b13, rv b20, iv (1 : Int32), iv (0 : Int32), iv (0 : Int32), rv b13, .val .null, .val .null, rv b45, iv (1 : Int32)] [(.int (0 : Int32)), (.ref b45), (.ref b13), (.ref b1)])) rfl rfl (hb hby at_352) _ ?_
        show oS p e below T58 m 353 #[iv x1, iv x2, iv (0 : Int32), iv (0 : Int32), rv b1, rv b4, rv b7, rv b13, rv b20, iv (1 : Int32), iv (0 : Int32), iv (0 : Int32), rv b13, .val .null, .val .null, rv b45, iv (1 : Int32)] [(.ref b13), (.ref b13), (.ref b1)] _
        refine st60 _ ?_
        refine XS.istore X60.here hx rfl (hb hby at_356) rfl (l' := #[iv x1, iv x2, iv (0 : Int32), iv (0 : Int32), rv b1, rv b4, rv b7, rv b13, rv b20, iv (1 : Int32), iv (0 : Int32), iv (0 : Int32), rv b13, .val .null, .val .null, rv b45, iv (1 : Int32)]) rfl ?_
        refine XS.iload X60.here hx rfl (hb hby at_358) rfl ?_
        refine XS.ifNo X60.here hx rfl (hb hby at_360) rfl ((if0 _ _).trans (feq (by decide : ¬ ((1 : Int32) = (0 : Int32)))).1) ?_
        refine XS.aload X60.here hx rfl (hb hby at_363) rfl rfl ?_
        refine XS.aload X60.here hx rfl (hb hby at_365) rfl rfl ?_
        refine XS.iload X60.here hx rfl (hb hby at_367) rfl ?_
        refine XS.iconst X60.here hx rfl (hb hby at_369) ?_
        show oS p e below T60 m 370 #[iv x1, iv x2, iv (0 : Int32), iv (0 : Int32), rv b1, rv b4, rv b7, rv b13, rv b20, iv (1 : Int32), iv (0 : Int32), iv (0 : Int32), rv b13, .val .null, .val .null, rv b45, iv (1 : Int32)] [(.int (0 : Int32)), (.int (1 : Int32)), (.ref b45), (.ref b1)] _
        refine st69 _ ?_
        refine XS.ifNo X69.here hx rfl (hb hby at_373) rfl ((if0 _ _).trans (feq (by decide : ¬ ((1 : Int32) = (0 : Int32)))).1) ?_
        refine XS.iconst X69.here hx rfl (hb hby at_376) ?_
        refine XS.goto X69.here hx rfl (pc0 := 377) (pc' := 381) rfl (hb hby at_377) (by decide) (by decide) ?_
        refine XS.istore X69.here hx rfl (hb hby at_381) rfl (l' := #[iv x1, iv x2, iv (0 : Int32), iv (0 : Int32), rv b1, rv b4, rv b7, rv b13, rv b20, iv (1 : Int32), iv (0 : Int32), iv (0 : Int32), rv b13, .val .null, .val .null, rv b45, iv (1 : Int32)]) rfl ?_
        refine XS.iload X69.here hx rfl (hb hby at_383) rfl ?_
        refine XS.ifNo X69.here hx rfl (hb hby at_385) rfl ((if0 _ _).trans (feq (by decide : ¬ ((1 : Int32) = (0 : Int32)))).1) ?_
        refine XS.aload X69.here hx rfl (hb hby at_388) rfl rfl ?_
        show oS p e below T69 m 390 #[iv x1, iv x2, iv (0 : Int32), iv (0 : Int32), rv b1, rv b4, rv b7, rv b13, rv b20, iv (1 : Int32), iv (0 : Int32), iv (0 : Int32), rv b13, .val .null, .val .null, rv b45, iv (1 : Int32)] [(.ref b1)] _
        refine XS.aload X69.here hx rfl (hb hby at_390) rfl rfl ?_
        refine XS.iload X69.here hx rfl (hb hby at_392) rfl ?_
        refine XS.iconst X69.here hx rfl (hb hby at_394) ?_
        show oS p e below T69 m 395 #[iv x1, iv x2, iv (0 : Int32), iv (0 : Int32), rv b1, rv b4, rv b7, rv b13, rv b20, iv (1 : Int32), iv (0 : Int32), iv (0 : Int32), rv b13, .val .null, .val .null, rv b45, iv (1 : Int32)] [(.int (1 : Int32)), (.int (1 : Int32)), (.ref b45), (.ref b1)] _
        refine st70 _ ?_
        refine XS.ifNo X70.here hx rfl (hb hby at_398) rfl ((if0 _ _).trans (feq (by decide : ¬ ((1 : Int32) = (0 : Int32)))).1) ?_
        refine XS.iconst X70.here hx rfl (hb hby at_401) ?_
        refine XS.goto X70.here hx rfl (pc0 := 402) (pc' := 406) rfl (hb hby at_402) (by decide) (by decide) ?_
        refine XS.istore X70.here hx rfl (hb hby at_406) rfl (l' := #[iv x1, iv x2, iv (0 : Int32), iv (0 : Int32), rv b1, rv b4, rv b7, rv b13, rv b20, iv (1 : Int32), iv (0 : Int32), iv (0 : Int32), rv b13, .val .null, .val .null, rv b45, iv (1 : Int32)]) rfl ?_
        refine XS.iload X70.here hx rfl (hb hby at_408) rfl ?_
        refine XS.ifNo X70.here hx rfl (hb hby at_410) rfl ((if0 _ _).trans (feq (by decide : ¬ ((1 : Int32) = (0 : Int32)))).1) ?_
        refine XS.iload X70.here hx rfl (hb hby at_413) rfl ?_
        show oS p e below T70 m 415 #[iv x1, iv x2, iv (0 : Int32), iv (0 : Int32), rv b1, rv b4, rv b7, rv b13, rv b20, iv (1 : Int32), iv (0 : Int32), iv (0 : Int32), rv b13, .val .null, .val .null, rv b45, iv (1 : Int32)] [(.int (0 : Int32))] _
        refine XS.iconst X70.here hx rfl (hb hby at_415) ?_
        refine XS.iadd X70.here hx rfl (hb hby at_416) rfl ?_
        show oS p e below T70 m 417 #[iv x1, iv x2, iv (0 : Int32), iv (0 : Int32), rv b1, rv b4, rv b7, rv b13, rv b20, iv (1 : Int32), iv (0 : Int32), iv (0 : Int32), rv b13, .val .null, .val .null, rv b45, iv (1 : Int32)] [(.int (1 : Int32))] _
        refine XS.iconst X70.here hx rfl (hb hby at_417) ?_
        refine XS.icmpYes X70.here hx rfl (pc0 := 418) (pc' := 434) rfl (hb hby at_418) rfl (tlt (by decide : ((1 : Int32) < (2 : Int32)))).1 (by decide) (by decide) ?_
        refine XS.iconst X70.here hx rfl (hb hby at_434) ?_
        refine XS.goto X70.here hx rfl (pc0 := 435) (pc' := 439) rfl (hb hby at_435) (by decide) (by decide) ?_
        refine XS.istore X70.here hx rfl (hb hby at_439) rfl (l' := #[iv x1, iv x2, iv (0 : Int32), iv (0 : Int32), rv b1, rv b4, rv b7, rv b13, rv b20, iv (1 : Int32), iv (0 : Int32), iv (0 : Int32), rv b13, .val .null, .val .null, rv b45, iv (1 : Int32)]) rfl ?_
        refine XS.iload X70.here hx rfl (hb hby at_441) rfl ?_
        refine XS.ifNo X70.here hx rfl (hb hby at_443) rfl ((if0 _ _).trans (feq (by decide : ¬ ((1 : Int32) = (0 : Int32)))).1) ?_
        refine XS.iload X70.here hx rfl (hb hby at_446) rfl ?_
        show oS p e below T70 m 448 #[iv x1, iv x2, iv (0 : Int32), iv (0 : Int32), rv b1, rv b4, rv b7, rv b13, rv b20, iv (1 : Int32), iv (0 : Int32), iv (0 : Int32), rv b13, .val .null, .val .null, rv b45, iv (1 : Int32)] [(.int (0 : Int32))] _
        refine XS.iconst X70.here hx rfl (hb hby at_448) ?_
        refine XS.iadd X70.here hx rfl (hb hby at_449) rfl ?_
        show oS p e below T70 m 450 #[iv x1, iv x2, iv (0 : Int32), iv (0 : Int32), rv b1, rv b4, rv b7, rv b13, rv b20, iv (1 : Int32), iv (0 : Int32), iv (0 : Int32), rv b13, .val .null, .val .null, rv b45, iv (1 : Int32)] [(.int (1 : Int32))] _
        refine XS.iconst X70.here hx rfl (hb hby at_450) ?_
        refine XS.icmpYes X70.here hx rfl (pc0 := 451) (pc' := 467) rfl (hb hby at_451) rfl (tlt (by decide : ((1 : Int32) < (3 : Int32)))).1 (by decide) (by decide) ?_
        refine XS.iconst X70.here hx rfl (hb hby at_467) ?_
        refine XS.goto X70.here hx rfl (pc0 := 468) (pc' := 472) rfl (hb hby at_468) (by decide) (by decide) ?_
        refine XS.istore X70.here hx rfl (hb hby at_472) rfl (l' := #[iv x1, iv x2, iv (0 : Int32), iv (0 : Int32), rv b1, rv b4, rv b7, rv b13, rv b20, iv (1 : Int32), iv (0 : Int32), iv (0 : Int32), rv b13, .val .null, .val .null, rv b45, iv (1 : Int32)]) rfl ?_
        refine XS.iload X70.here hx rfl (hb hby at_474) rfl ?_
        exact kt
      obtain ⟨fs, hr, hrun, hended, hW, hsame⟩ := X70.leave (v := some (.int (1 : Int32))) (fun h => by rw [Bd.returns] at h; cases h)
      refine ⟨_, _, pre0 _ (pre32 _ (pre38 _ (pre74 _ ?_))), hrun, hended, _, _, rfl, ?_, ⟨_, rfl⟩, hW, hsame.mono (by decide) (by decide)⟩
      · show oS p e below T70 m 476 #[iv x1, iv x2, iv (0 : Int32), iv (0 : Int32), rv b1, rv b4, rv b7, rv b13, rv b20, iv (1 : Int32), iv (0 : Int32), iv (0 : Int32), rv b13, .val .null, .val .null, rv b45, iv (1 : Int32)] [(.int (1 : Int32))] _
        exact retN X70 hx (t := .boolean) Bd.returns (by simp) (hb hby at_476) hr
      · show Q0 Z x1 x2 h0 n0 _ T70.heap _
        rw [eh70]
        exact ⟨rfl, N70⟩
    · subst hn
      obtain ⟨_, _, ⟨T75, Lw75, kw75, nw75⟩, -, X75, ⟨Lc75, hQ75, l75, y75, z75⟩, st75⟩ := Jvm.LawKit.callS X33 hx (y := (⟨oz4, "step", oz3⟩ : MethodName)) hown (mvT hZ (own_w hw 50 rfl)) (mvT hZ (own_w hw 51 rfl)) (mvT hZ (own_w hw 29 rfl)) (mvT hZ (own_w hw 52 rfl)) (by decide) (backOf (W := 0) (rmT2_0_0 l Z a0 hw [] b1 b20 b4 b7 kk20 h31 n0 Zc37 Ec34 Fc35 Fc36 Va31) hZ (own_w hw 52 rfl) (own_w hw 29 rfl) (by decide) (by decide)) (g := (mkF m 157 #[iv x1, iv x2, iv (0 : Int32), iv (1 : Int32), rv b1, rv b4, rv b7, rv b13, rv b20, iv (1 : Int32), .unset, .unset, .unset, .unset, .unset, .unset, .unset] [(.int (0 : Int32)), (.int (0 : Int32)), (.ref b20), (.ref b1)])) rfl (by rw [hml]; rfl) (argsL := [(.ref b1), (.ref b20), (.int (0 : Int32)), (.int (0 : Int32))]) (rest := []) (lenOf own_pd7 rfl) rfl (by show 2 * 0 + _ ≤ _; exact Nat.le_of_eq rfl) (hb hby at_157) (fun _ _ => ⟨rfl, eh33, (by decide : 5 + 0 ≤ _), (by decide : 34 + 0 ≤ _)⟩)
      dsimp only [Pt.U, Pt.locs, Pt.cells, Pt.slots] at X75 l75 y75 z75 st75 hQ75
      subst l75 y75 z75
      obtain ⟨rfl, Nq75, eh75⟩ := hQ75
      have N75 := Fr.app N33 Nq75
      obtain ⟨_, _, ⟨T76, Lw76, kw76, nw76⟩, -, X76, ⟨Lc76, hQ76, l76, y76, z76⟩, st76⟩ := Jvm.LawKit.callS X75 hx (y := (⟨"java/lang/Math", "min", "(II)I"⟩ : MethodName)) hown (mvT hZ (own_w hw 58 rfl)) (mvT hZ (own_w hw 59 rfl)) (mvT hZ (own_w hw 60 rfl)) (mvT hZ (own_w hw 61 rfl)) (by decide) (backOf (W := 0) (rm10 l Z a0 hw [] (1 : Int32) (0 : Int32) h31 n0 Zc37 ) hZ (own_w hw 61 rfl) (own_w hw 60 rfl) (by decide) (by decide)) (g := (mkF m 237 #[iv x1, iv x2, iv (0 : Int32), iv (1 : Int32), rv b1, rv b4, rv b7, rv b13, rv b20, iv (1 : Int32), .unset, .unset, .unset, .unset, .unset, .unset, .unset] [(.int (0 : Int32)), (.int (1 : Int32))])) rfl (by rw [hml]; rfl) (argsL := [(.int (1 : Int32)), (.int (0 : Int32))]) (rest := []) (lenOf own_pd6 rfl) rfl (by show 2 * 0 + _ ≤ _; exact Nat.le_of_eq rfl) (hb hby at_237) (fun _ _ => ⟨rfl, eh75, (by decide : 5 + 0 ≤ _), (by decide : 34 + 0 ≤ _)⟩)
      dsimp only [Pt.U, Pt.locs, Pt.cells, Pt.slots] at X76 l76 y76 z76 st76 hQ76
      subst l76 y76 z76
      obtain ⟨rfl, Nq76, eh76⟩ := hQ76
      have N76 := Fr.app N75 Nq76
      have Ec78 : Exa Z h31 b13 oz0 := (((Ec25.ext E20).wr W28).wr W31)
      have Fc79 : Fld Z h31 b13 oz0 "in" oz6 .null := (((pf18_0.ext E20).other W28 (Or.inl ne_b13_b20)).other W31 (Or.inl ne_b13_b20))
      have Fc80 : Fld Z h31 b13 oz0 "before" oz2 .null := (((pf18_1.ext E20).other W28 (Or.inl ne_b13_b20)).other W31 (Or.inl ne_b13_b20))
      have Fc81 : Fld Z h31 b13 oz0 "after" oz2 .null := (((pf18_2.ext E20).other W28 (Or.inl ne_b13_b20)).other W31 (Or.inl ne_b13_b20))
      obtain ⟨cq77, kq77, q77a, q77b, q77c⟩ := isOf hZ eh76 Ec34
      obtain ⟨_, _, ⟨T77, Lw77, kw77, nw77⟩, -, X77, ⟨Lc77, hQ77, l77, y77, z77⟩, st77⟩ := X76.virtualBack hx (y := (⟨oz1, "add", oz8⟩ : MethodName)) (z := (⟨oz1, "add", oz8⟩ : MethodName)) hown (mvT hZ (own_w hw 62 rfl)) (mvT hZ (own_w hw 63 rfl)) (notFace_of_selects (args := #[]) (mvT hZ (own_w hw 65 rfl))) (mvT hZ (own_w hw 65 rfl)) (mvT hZ (own_w hw 64 rfl)) (by decide) (backOf (W := 0) (rmA0 l Z a0 hw [] b1 b13 .null h31 n0 Zc37 Ec34 Ec78 g_b1 g_b13 Fc35 Fc36 Fc79 Fc80 Fc81) hZ (own_w hw 66 rfl) (own_w hw 3 rfl) (by decide) (by decide)) q77a q77c (g := (mkF m 252 #[iv x1, iv x2, iv (0 : Int32), iv (1 : Int32), rv b1, rv b4, rv b7, rv b13, rv b20, iv (1 : Int32), iv (0 : Int32), iv (0 : Int32), .unset, .unset, .unset, .unset, .unset] [(.ref b13), (.ref b1)])) rfl (by rw [hml]; rfl) (Steps.refl _) (argsL := [(.ref b13)]) (rest := []) (lenOf own_pd0 rfl) rfl (by show 2 * 0 + _ ≤ _; exact Nat.le_of_eq rfl) (hb hby at_252) (fun _ _ => ⟨rfl, eh76, (by decide : 5 + 0 ≤ _), (by decide : 34 + 0 ≤ _)⟩)
      dsimp only [Pt.U, Pt.locs, Pt.cells, Pt.slots] at X77 l77 y77 z77 st77 hQ77
      subst l77 y77 z77
      obtain ⟨rfl, Nq77, K77, pf77_0, pf77_1, pf77_2, pf77_3, pf77_4⟩ := hQ77
      have N77 := Fr.app N76 Nq77
      have Zc83 : n0 ≤ T77.heap.size := (Nat.le_trans Zc37 K77.1)
      have Ec84 : Exa Z T77.heap b1 oz1 := (Ec34.keep K77)
      have Ec85 : Exa Z T77.heap b4 oz0 := (((Ec26.wr W28).wr W31).keep K77)
      have Ec86 : Exa Z T77.heap b7 oz0 := ((Ec29.wr W31).keep K77)
      have Ec87 : Exa Z T77.heap b13 oz0 := (Ec78.keep K77)
      have Vc88 : Arv Z T77.heap b20 kk20 (.object oz0) (2 : Int32) [(.ref b4), (.ref b7)] .null := (Va31.keep K77 (ninS (Ne.symm ne_b1_b20) (ninS (Ne.symm ne_b13_b20) nin0)))
      obtain ⟨T82, h82, kk82, X82, e82, E82, A82, O82, st82⟩ := newR X77 hx hZ hown (own_w hw 10 rfl) (own_w hw 25 rfl) rfl (g := (mkF m 318 #[iv x1, iv x2, iv (0 : Int32), iv (1 : Int32), rv b1, rv b4, rv b7, rv b13, rv b20, iv (1 : Int32), iv (0 : Int32), iv (0 : Int32), rv b13, .val .null, .val .null, .unset, .unset] [(.int (3 : Int32))])) rfl (hb hby at_318) rfl (by decide) (cap := 3) (by decide) (by decide) (by decide) (by decide)
      obtain ⟨b82, g82⟩ : ∃ z, z = T77.heap.size := ⟨_, rfl⟩
      rw [← g82] at A82 st82
      have g_b82 : n0 ≤ b82 := Nat.le_trans Zc83 (Nat.le_of_eq g82.symm)
      have ne_b1_b82 : b1 ≠ b82 := Nat.ne_of_lt (Nat.lt_of_lt_of_le Ec84.lt (Nat.le_of_eq g82.symm))
      have ne_b4_b82 : b4 ≠ b82 := Nat.ne_of_lt (Nat.lt_of_lt_of_le Ec85.lt (Nat.le_of_eq g82.symm))
      have ne_b7_b82 : b7 ≠ b82 := Nat.ne_of_lt (Nat.lt_of_lt_of_le Ec86.lt (Nat.le_of_eq g82.symm))
      have ne_b13_b82 : b13 ≠ b82 := Nat.ne_of_lt (Nat.lt_of_lt_of_le Ec87.lt (Nat.le_of_eq g82.symm))
      have ne_b20_b82 : b20 ≠ b82 := Nat.ne_of_lt (Nat.lt_of_lt_of_le Vc88.lt (Nat.le_of_eq g82.symm))
      have V_b82 : Arv Z h82 b82 kk82 (.object oz0) (3 : Int32) [.null, .null, .null] .null := (Arv.new A82 (by decide)).pad (pad_rep [] .null 3)
      have Ec89 : Exa Z h82 b13 oz0 := (Ec87.ext E82)
      obtain ⟨cl90, Ar90, qk90, Sz90, Ng90, Hs90, Gt90⟩ := id V_b82
      have hin90 : ¬ ((0 : Int32) < 0 ∨ cl90.slots.size ≤ ((0 : Int32)).toNatClampNeg) := inb_of Sz90 ⟨by decide, by decide⟩
      obtain ⟨T91, h91, X91, e91, W91, st91⟩ := stR X82 hx hZ e82 Ar90 (j := (0 : Int32)) hin90 rfl (Sto.ofV Ar90 qk90 O82 (Ins.self Ec89)) (g := (mkF m 325 #[iv x1, iv x2, iv (0 : Int32), iv (1 : Int32), rv b1, rv b4, rv b7, rv b13, rv b20, iv (1 : Int32), iv (0 : Int32), iv (0 : Int32), rv b13, .val .null, .val .null, .unset, .unset] [(.ref b13), (.int (0 : Int32)), (.ref b82), (.ref b82)])) rfl rfl (hb hby at_325)
      have Va91 : Arv Z h91 b82 kk82 (.object oz0) (3 : Int32) [(.ref b13), .null, .null] .null := Arv.set Ar90 qk90 Sz90 Ng90 Hs90 Gt90 rfl W91 0 rfl (Nat.le_of_ble_eq_true rfl)
      have N91 := Fr.snoc X91 N77 g_b82
      obtain ⟨cl92, Ar92, qk92, Sz92, Ng92, Hs92, Gt92⟩ := id Va91
      have hin92 : ¬ ((1 : Int32) < 0 ∨ cl92.slots.size ≤ ((1 : Int32)).toNatClampNeg) := inb_of Sz92 ⟨by decide, by decide⟩
      obtain ⟨T93, h93, X93, e93, W93, st93⟩ := stR X91 hx hZ e91 Ar92 (j := (1 : Int32)) hin92 rfl (Or.inl rfl) (g := (mkF m 330 #[iv x1, iv x2, iv (0 : Int32), iv (1 : Int32), rv b1, rv b4, rv b7, rv b13, rv b20, iv (1 : Int32), iv (0 : Int32), iv (0 : Int32), rv b13, .val .null, .val .null, .unset, .unset] [.null, (.int (1 : Int32)), (.ref b82), (.ref b82)])) rfl rfl (hb hby at_330)
      have Va93 : Arv Z h93 b82 kk82 (.object oz0) (3 : Int32) [(.ref b13), .null, .null] .null := Arv.set Ar92 qk92 Sz92 Ng92 Hs92 Gt92 rfl W93 1 rfl (Nat.le_of_ble_eq_true rfl)
      have N93 := Fr.snoc X93 N91 g_b82
      obtain ⟨cl94, Ar94, qk94, Sz94, Ng94, Hs94, Gt94⟩ := id Va93
      have hin94 : ¬ ((2 : Int32) < 0 ∨ cl94.slots.size ≤ ((2 : Int32)).toNatClampNeg) := inb_of Sz94 ⟨by decide, by decide⟩
      obtain ⟨T95, h95, X95, e95, W95, st95⟩ := stR X93 hx hZ e93 Ar94 (j := (2 : Int32)) hin94 rfl (Or.inl rfl) (g := (mkF m 335 #[iv x1, iv x2, iv (0 : Int32), iv (1 : Int32), rv b1, rv b4, rv b7, rv b13, rv b20, iv (1 : Int32), iv (0 : Int32), iv (0 : Int32), rv b13, .val .null, .val .null, .unset, .unset] [.null, (.int (2 : Int32)), (.ref b82), (.ref b82)])) rfl rfl (hb hby at_335)
      have Va95 : Arv Z h95 b82 kk82 (.object oz0) (3 : Int32) [(.ref b13), .null, .null] .null := Arv.set Ar94 qk94 Sz94 Ng94 Hs94 Gt94 rfl W95 2 rfl (Nat.le_of_ble_eq_true rfl)
      have N95 := Fr.snoc X95 N93 g_b82
      obtain ⟨cl96, Ar96, qk96, Sz96, Ng96, Hs96, Gt96⟩ := id Va95
      have hin96 : ¬ ((0 : Int32) < 0 ∨ cl96.slots.size ≤ ((0 : Int32)).toNatClampNeg) := inb_of Sz96 ⟨by decide, by decide⟩
      have hat96 : cl96.slots[((0 : Int32)).toNatClampNeg]? = some (.ref b13) := Hs96.at hin96 rfl
      have Ec98 : Exa Z h95 b1 oz1 := ((((Ec84.ext E82).wr W91).wr W93).wr W95)
      have Ec99 : Exa Z h95 b13 oz0 := (((Ec89.wr W91).wr W93).wr W95)
      have Fc100 : Fld Z h95 b1 oz1 "first" oz2 (.ref b13) := ((((pf77_0.ext E82).other W91 (Or.inl ne_b1_b82)).other W93 (Or.inl ne_b1_b82)).other W95 (Or.inl ne_b1_b82))
      have Fc101 : Fld Z h95 b1 oz1 "last" oz2 (.ref b13) := ((((pf77_1.ext E82).other W91 (Or.inl ne_b1_b82)).other W93 (Or.inl ne_b1_b82)).other W95 (Or.inl ne_b1_b82))
      have Fc102 : Fld Z h95 b13 oz0 "in" oz6 (.ref b1) := ((((pf77_2.ext E82).other W91 (Or.inl ne_b13_b82)).other W93 (Or.inl ne_b13_b82)).other W95 (Or.inl ne_b13_b82))
      have Fc103 : Fld Z h95 b13 oz0 "before" oz2 .null := ((((pf77_3.ext E82).other W91 (Or.inl ne_b13_b82)).other W93 (Or.inl ne_b13_b82)).other W95 (Or.inl ne_b13_b82))
      have Fc104 : Fld Z h95 b13 oz0 "after" oz2 .null := ((((pf77_4.ext E82).other W91 (Or.inl ne_b13_b82)).other W93 (Or.inl ne_b13_b82)).other W95 (Or.inl ne_b13_b82))
      have Zc105 : n0 ≤ h95.size := (Nat.le_trans (Nat.le_trans (Nat.le_trans (Nat.le_trans Zc83 E82.1) (Keep.of_wr W91).1) (Keep.of_wr W93).1) (Keep.of_wr W95).1)
      obtain ⟨_, _, ⟨T97, Lw97, kw97, nw97⟩, -, X97, ⟨Lc97, hQ97, l97, y97, z97⟩, st97⟩ := Jvm.LawKit.callS X95 hx (y := (⟨oz4, "state", oz5⟩ : MethodName)) hown (mvT hZ (own_w hw 27 rfl)) (mvT hZ (own_w hw 28 rfl)) (mvT hZ (own_w hw 29 rfl)) (mvT hZ (own_w hw 30 rfl)) (by decide) (backOf (W := 0) (rmS1 l Z a0 hw [] b1 b13 h95 n0 Zc105 Ec98 Ec99 Fc100 Fc101 Fc102 Fc103 Fc104) hZ (own_w hw 30 rfl) (own_w hw 29 rfl) (by decide) (by decide)) (g := (mkF m 353 #[iv x1, iv x2, iv (0 : Int32), iv (1 : Int32), rv b1, rv b4, rv b7, rv b13, rv b20, iv (1 : Int32), iv (0 : Int32), iv (0 : Int32), rv b13, .val .null, .val .null, rv b82, iv (1 : Int32)] [(.ref b13), (.ref b13), (.ref b1)])) rfl (by rw [hml]; rfl) (argsL := [(.ref b1), (.ref b13), (.ref b13)]) (rest := []) (lenOf own_pd5 rfl) rfl (by show 2 * 0 + _ ≤ _; exact Nat.le_of_eq rfl) (hb hby at_353) (fun _ _ => ⟨rfl, e95, (by decide : 6 + 0 ≤ _), (by decide : 37 + 0 ≤ _)⟩)
      dsimp only [Pt.U, Pt.locs, Pt.cells, Pt.slots] at X97 l97 y97 z97 st97 hQ97
      subst l97 y97 z97
      obtain ⟨rfl, Nq97, eh97⟩ := hQ97
      have N97 := Fr.app N95 Nq97
      obtain ⟨_, _, ⟨T106, Lw106, kw106, nw106⟩, -, X106, ⟨Lc106, hQ106, l106, y106, z106⟩, st106⟩ := Jvm.LawKit.callS X97 hx (y := (⟨oz4, "step", oz3⟩ : MethodName)) hown (mvT hZ (own_w hw 50 rfl)) (mvT hZ (own_w hw 51 rfl)) (mvT hZ (own_w hw 29 rfl)) (mvT hZ (own_w hw 52 rfl)) (by decide) (backOf (W := 0) (rmT3_1_0 l Z a0 hw [] b1 b82 b13 kk82 h95 n0 Zc105 Ec98 Ec99 g_b1 g_b13 Fc100 Fc101 Fc102 Fc103 Fc104 Va95) hZ (own_w hw 52 rfl) (own_w hw 29 rfl) (by decide) (by decide)) (g := (mkF m 370 #[iv x1, iv x2, iv (0 : Int32), iv (1 : Int32), rv b1, rv b4, rv b7, rv b13, rv b20, iv (1 : Int32), iv (0 : Int32), iv (0 : Int32), rv b13, .val .null, .val .null, rv b82, iv (1 : Int32)] [(.int (0 : Int32)), (.int (1 : Int32)), (.ref b82), (.ref b1)])) rfl (by rw [hml]; rfl) (argsL := [(.ref b1), (.ref b82), (.int (1 : Int32)), (.int (0 : Int32))]) (rest := []) (lenOf own_pd7 rfl) rfl (by show 2 * 0 + _ ≤ _; exact Nat.le_of_eq rfl) (hb hby at_370) (fun _ _ => ⟨rfl, eh97, (by decide : 6 + 0 ≤ _), (by decide : 37 + 0 ≤ _)⟩)
      dsimp only [Pt.U, Pt.locs, Pt.cells, Pt.slots] at X106 l106 y106 z106 st106 hQ106
      subst l106 y106 z106
      obtain ⟨rfl, Nq106, K106, pf106_0, pf106_1, pf106_2, pf106_3, pf106_4⟩ := hQ106
      have N106 := Fr.app N97 Nq106
      have Ec108 : Exa Z T106.heap b1 oz1 := (Ec98.keep K106)
      have Vc109 : Arv Z T106.heap b82 kk82 (.object oz0) (3 : Int32) [(.ref b13), .null, .null] .null := (Va95.keep K106 (ninS (Ne.symm ne_b1_b82) (ninS (Ne.symm ne_b13_b82) nin0)))
      have Zc110 : n0 ≤ T106.heap.size := (Nat.le_trans Zc105 K106.1)
      obtain ⟨_, _, ⟨T107, Lw107, kw107, nw107⟩, -, X107, ⟨Lc107, hQ107, l107, y107, z107⟩, st107⟩ := Jvm.LawKit.callS X106 hx (y := (⟨oz4, "step", oz3⟩ : MethodName)) hown (mvT hZ (own_w hw 50 rfl)) (mvT hZ (own_w hw 51 rfl)) (mvT hZ (own_w hw 29 rfl)) (mvT hZ (own_w hw 52 rfl)) (by decide) (backOf (W := 0) (rmT3_1_1 l Z a0 hw [] b1 b82 b13 kk82 T106.heap n0 Zc110 Ec108 pf106_0 pf106_1 Vc109) hZ (own_w hw 52 rfl) (own_w hw 29 rfl) (by decide) (by decide)) (g := (mkF m 395 #[iv x1, iv x2, iv (0 : Int32), iv (1 : Int32), rv b1, rv b4, rv b7, rv b13, rv b20, iv (1 : Int32), iv (0 : Int32), iv (0 : Int32), rv b13, .val .null, .val .null, rv b82, iv (1 : Int32)] [(.int (1 : Int32)), (.int (1 : Int32)), (.ref b82), (.ref b1)])) rfl (by rw [hml]; rfl) (argsL := [(.ref b1), (.ref b82), (.int (1 : Int32)), (.int (1 : Int32))]) (rest := []) (lenOf own_pd7 rfl) rfl (by show 2 * 0 + _ ≤ _; exact Nat.le_of_eq rfl) (hb hby at_395) (fun _ _ => ⟨rfl, rfl, (by decide : 6 + 0 ≤ _), (by decide : 37 + 0 ≤ _)⟩)
      dsimp only [Pt.U, Pt.locs, Pt.cells, Pt.slots] at X107 l107 y107 z107 st107 hQ107
      subst l107 y107 z107
      obtain ⟨rfl, Nq107, eh107⟩ := hQ107
      have N107 := Fr.app N106 Nq107
      have pre111 : ∀ tz, oS p e below T107 m 476 #[iv x1, iv x2, iv (0 : Int32), iv (1 : Int32), rv b1, rv b4, rv b7, rv b13, rv b20, iv (1 : Int32), iv (0 : Int32), iv (0 : Int32), rv b13, .val .null, .val .null, rv b82, iv (1 : Int32)] [(.int (1 : Int32))] tz → oS p e below T33 m 146 #[iv x1, iv x2, iv (0 : Int32), iv (1 : Int32), rv b1, rv b4, rv b7, rv b13, rv b20, iv (1 : Int32), .unset, .unset, .unset, .unset, .unset, .unset, .unset] [] tz := fun tz kt => by
        show oS p e below T33 m 146 #[iv x1, iv x2, iv (0 : Int32), iv (1 : Int32), rv b1, rv b4, rv b7, rv b13, rv b20, iv (1 : Int32), .unset, .unset, .unset, .unset, .unset, .unset, .unset] [] _
        refine XS.iloadN X33.here hx rfl (hb hby at_146) rfl ?_
        refine XS.iconst X33.here hx rfl (hb hby at_147) ?_
        refine XS.icmpNo X33.here hx rfl (hb hby at_148) rfl (flt (by decide : ¬ ((1 : Int32) < (1 : Int32)))).1 ?_
        refine XS.aload X33.here hx rfl (hb hby at_151) rfl rfl ?_
        refine XS.aload X33.here hx rfl (hb hby at_153) rfl rfl ?_
        refine XS.iloadN X33.here hx rfl (hb hby at_155) rfl ?_
        refine XS.iconst X33.here hx rfl (hb hby at_156) ?_
        show oS p e below T33 m 157 #[iv x1, iv x2, iv (0 : Int32), iv (1 : Int32), rv b1, rv b4, rv b7, rv b13, rv b20, iv (1 : Int32), .unset, .unset, .unset, .unset, .unset, .unset, .unset] [(.int (0 : Int32)), (.int (0 : Int32)), (.ref b20), (.ref b1)] _
        refine st75 _ ?_
        refine XS.ifNo X75.here hx rfl (hb hby at_160) rfl ((if0 _ _).trans (feq (by decide : ¬ ((1 : Int32) = (0 : Int32)))).1) ?_
        refine XS.iconst X75.here hx rfl (hb hby at_163) ?_
        refine XS.goto X75.here hx rfl (pc0 := 164) (pc' := 168) rfl (hb hby at_164) (by decide) (by decide) ?_
        refine XS.istore X75.here hx rfl (hb hby at_168) rfl (l' := #[iv x1, iv x2, iv (0 : Int32), iv (1 : Int32), rv b1, rv b4, rv b7, rv b13, rv b20, iv (1 : Int32), .unset, .unset, .unset, .unset, .unset, .unset, .unset]) rfl ?_
        refine XS.iload X75.here hx rfl (hb hby at_170) rfl ?_
        refine XS.ifNo X75.here hx rfl (hb hby at_172) rfl ((if0 _ _).trans (feq (by decide : ¬ ((1 : Int32) = (0 : Int32)))).1) ?_
        refine XS.iloadN X75.here hx rfl (hb hby at_175) rfl ?_
        show oS p e below T75 m 176 #[iv x1, iv x2, iv (0 : Int32), iv (1 : Int32), rv b1, rv b4, rv b7, rv b13, rv b20, iv (1 : Int32), .unset, .unset, .unset, .unset, .unset, .unset, .unset] [(.int (1 : Int32))] _
        refine XS.iconst X75.here hx rfl (hb hby at_176) ?_
        refine XS.icmpYes X75.here hx rfl (pc0 := 177) (pc' := 192) rfl (hb hby at_177) rfl (tlt (by decide : ((1 : Int32) < (2 : Int32)))).1 (by decide) (by decide) ?_
        refine XS.iconst X75.here hx rfl (hb hby at_192) ?_
        refine XS.goto X75.here hx rfl (pc0 := 193) (pc' := 197) rfl (hb hby at_193) (by decide) (by decide) ?_
        refine XS.istore X75.here hx rfl (hb hby at_197) rfl (l' := #[iv x1, iv x2, iv (0 : Int32), iv (1 : Int32), rv b1, rv b4, rv b7, rv b13, rv b20, iv (1 : Int32), .unset, .unset, .unset, .unset, .unset, .unset, .unset]) rfl ?_
        refine XS.iload X75.here hx rfl (hb hby at_199) rfl ?_
        refine XS.ifNo X75.here hx rfl (hb hby at_201) rfl ((if0 _ _).trans (feq (by decide : ¬ ((1 : Int32) = (0 : Int32)))).1) ?_
        refine XS.iloadN X75.here hx rfl (hb hby at_204) rfl ?_
        show oS p e below T75 m 205 #[iv x1, iv x2, iv (0 : Int32), iv (1 : Int32), rv b1, rv b4, rv b7, rv b13, rv b20, iv (1 : Int32), .unset, .unset, .unset, .unset, .unset, .unset, .unset] [(.int (1 : Int32))] _
        refine XS.iconst X75.here hx rfl (hb hby at_205) ?_
        refine XS.icmpYes X75.here hx rfl (pc0 := 206) (pc' := 221) rfl (hb hby at_206) rfl (tlt (by decide : ((1 : Int32) < (3 : Int32)))).1 (by decide) (by decide) ?_
        refine XS.iconst X75.here hx rfl (hb hby at_221) ?_
        refine XS.goto X75.here hx rfl (pc0 := 222) (pc' := 226) rfl (hb hby at_222) (by decide) (by decide) ?_
        refine XS.istore X75.here hx rfl (hb hby at_226) rfl (l' := #[iv x1, iv x2, iv (0 : Int32), iv (1 : Int32), rv b1, rv b4, rv b7, rv b13, rv b20, iv (1 : Int32), .unset, .unset, .unset, .unset, .unset, .unset, .unset]) rfl ?_
        refine XS.iload X75.here hx rfl (hb hby at_228) rfl ?_
        refine XS.ifYes X75.here hx rfl (pc0 := 230) (pc' := 235) rfl (hb hby at_230) rfl ((if0 _ _).trans (feq (by decide : ¬ ((1 : Int32) = (0 : Int32)))).2) (by decide) (by decide) ?_
        refine XS.iloadN X75.here hx rfl (hb hby at_235) rfl ?_
        show oS p e below T75 m 236 #[iv x1, iv x2, iv (0 : Int32), iv (1 : Int32), rv b1, rv b4, rv b7, rv b13, rv b20, iv (1 : Int32), .unset, .unset, .unset, .unset, .unset, .unset, .unset] [(.int (1 : Int32))] _
        refine XS.iloadN X75.here hx rfl (hb hby at_236) rfl ?_
        show oS p e below T75 m 237 #[iv x1, iv x2, iv (0 : Int32), iv (1 : Int32), rv b1, rv b4, rv b7, rv b13, rv b20, iv (1 : Int32), .unset, .unset, .unset, .unset, .unset, .unset, .unset] [(.int (0 : Int32)), (.int (1 : Int32))] _
        refine st76 _ ?_
        rw [((if_pos (by decide : (0 : Int32) < (1 : Int32))) : (if (0 : Int32) < (1 : Int32) then (0 : Int32) else (1 : Int32)) = (0 : Int32))]
        show oS p e below T76 m 240 #[iv x1, iv x2, iv (0 : Int32), iv (1 : Int32), rv b1, rv b4, rv b7, rv b13, rv b20, iv (1 : Int32), .unset, .unset, .unset, .unset, .unset, .unset, .unset] [(.int (0 : Int32))] _
        refine XS.istore X76.here hx rfl (hb hby at_240) rfl (l' := #[iv x1, iv x2, iv (0 : Int32), iv (1 : Int32), rv b1, rv b4, rv b7, rv b13, rv b20, iv (1 : Int32), iv (0 : Int32), .unset, .unset, .unset, .unset, .unset, .unset]) rfl ?_
        refine XS.iloadN X76.here hx rfl (hb hby at_242) rfl ?_
        refine XS.iload X76.here hx rfl (hb hby at_243) rfl ?_
        refine XS.isub X76.here hx rfl (hb hby at_245) rfl ?_
        show oS p e below T76 m 246 #[iv x1, iv x2, iv (0 : Int32), iv (1 : Int32), rv b1, rv b4, rv b7, rv b13, rv b20, iv (1 : Int32), iv (0 : Int32), .unset, .unset, .unset, .unset, .unset, .unset] [(.int (0 : Int32))] _
        refine XS.istore X76.here hx rfl (hb hby at_246) rfl (l' := #[iv x1, iv x2, iv (0 : Int32), iv (1 : Int32), rv b1, rv b4, rv b7, rv b13, rv b20, iv (1 : Int32), iv (0 : Int32), iv (0 : Int32), .unset, .unset, .unset, .unset, .unset]) rfl ?_
        refine XS.aload X76.here hx rfl (hb hby at_248) rfl rfl ?_
        refine XS.aload X76.here hx rfl (hb hby at_250) rfl rfl ?_
        show oS p e below T76 m 252 #[iv x1, iv x2, iv (0 : Int32), iv (1 : Int32), rv b1, rv b4, rv b7, rv b13, rv b20, iv (1 : Int32), iv (0 : Int32), iv (0 : Int32), .unset, .unset, .unset, .unset, .unset] [(.ref b13), (.ref b1)] _
        refine st77.trans ?_
        refine XS.iload X77.here hx rfl (hb hby at_255) rfl ?_
        refine XS.iconst X77.here hx rfl (hb hby at_257) ?_
        refine XS.icmpYes X77.here hx rfl (pc0 := 258) (pc' := 269) rfl (hb hby at_258) rfl (tlt (by decide : ((0 : Int32) < (1 : Int32)))).1 (by decide) (by decide) ?_
        refine XS.aload X77.here hx rfl (hb hby at_269) rfl rfl ?_
        refine XS.astore X77.here hx rfl (hb hby at_271) rfl rfl (l' := #[iv x1, iv x2, iv (0 : Int32), iv (1 : Int32), rv b1, rv b4, rv b7, rv b13, rv b20, iv (1 : Int32), iv (0 : Int32), iv (0 : Int32), rv b13, .unset, .unset, .unset, .unset]) rfl ?_
        refine XS.iload X77.here hx rfl (hb hby at_273) rfl ?_
        refine XS.iconst X77.here hx rfl (hb hby at_275) ?_
        show oS p e below T77 m 276 #[iv x1, iv x2, iv (0 : Int32), iv (1 : Int32), rv b1, rv b4, rv b7, rv b13, rv b20, iv (1 : Int32), iv (0 : Int32), iv (0 : Int32), rv b13, .unset, .unset, .unset, .unset] [(.int (2 : Int32)), (.int (0 : Int32))] _
        refine XS.icmpYes X77.here hx rfl (pc0 := 276) (pc' := 289) rfl (hb hby at_276) rfl (tlt (by decide : ((0 : Int32) < (2 : Int32)))).1 (by decide) (by decide) ?_
        refine XS.iload X77.here hx rfl (hb hby at_289) rfl ?_
        refine XS.iconst X77.here hx rfl (hb hby at_291) ?_
        refine XS.icmpYes X77.here hx rfl (pc0 := 292) (pc' := 300) rfl (hb hby at_292) rfl (feq (by decide : ¬ ((0 : Int32) = (1 : Int32)))).2 (by decide) (by decide) ?_
        refine XS.aconstNull X77.here hx rfl (hb hby at_300) ?_
        refine XS.astore X77.here hx rfl (hb hby at_301) rfl rfl (l' := #[iv x1, iv x2, iv (0 : Int32), iv (1 : Int32), rv b1, rv b4, rv b7, rv b13, rv b20, iv (1 : Int32), iv (0 : Int32), iv (0 : Int32), rv b13, .val .null, .unset, .unset, .unset]) rfl ?_
        refine XS.iload X77.here hx rfl (hb hby at_303) rfl ?_
        refine XS.iconst X77.here hx rfl (hb hby at_305) ?_
        show oS p e below T77 m 306 #[iv x1, iv x2, iv (0 : Int32), iv (1 : Int32), rv b1, rv b4, rv b7, rv b13, rv b20, iv (1 : Int32), iv (0 : Int32), iv (0 : Int32), rv b13, .val .null, .unset, .unset, .unset] [(.int (2 : Int32)), (.int (0 : Int32))] _
        refine XS.icmpYes X77.here hx rfl (pc0 := 306) (pc' := 314) rfl (hb hby at_306) rfl (feq (by decide : ¬ ((0 : Int32) = (2 : Int32)))).2 (by decide) (by decide) ?_
        refine XS.aconstNull X77.here hx rfl (hb hby at_314) ?_
        refine XS.astore X77.here hx rfl (hb hby at_315) rfl rfl (l' := #[iv x1, iv x2, iv (0 : Int32), iv (1 : Int32), rv b1, rv b4, rv b7, rv b13, rv b20, iv (1 : Int32), iv (0 : Int32), iv (0 : Int32), rv b13, .val .null, .val .null, .unset, .unset]) rfl ?_
        refine XS.iconst X77.here hx rfl (hb hby at_317) ?_
        show oS p e below T77 m 318 #[iv x1, iv x2, iv (0 : Int32), iv (1 : Int32), rv b1, rv b4, rv b7, rv b13, rv b20, iv (1 : Int32), iv (0 : Int32), iv (0 : Int32), rv b13, .val .null, .val .null, .unset, .unset] [(.int (3 : Int32))] _
        refine st82 _ ?_
        refine XS.dup X82.here hx rfl (hb hby at_321) rfl rfl ?_
        refine XS.iconst X82.here hx rfl (hb hby at_322) ?_
        refine XS.aload X82.here hx rfl (hb hby at_323) rfl rfl ?_
        show oS p e below T82 m 325 #[iv x1, iv x2, iv (0 : Int32), iv (1 : Int32), rv b1, rv b4, rv b7, rv b13, rv b20, iv (1 : Int32), iv (0 : Int32), iv (0 : Int32), rv b13, .val .null, .val .null, .unset, .unset] [(.ref b13), (.int (0 : Int32)), (.ref b82), (.ref b82)] _
        refine st91 _ ?_
        refine XS.dup X91.here hx rfl (hb hby at_326) rfl rfl ?_
        refine XS.iconst X91.here hx rfl (hb hby at_327) ?_
        refine XS.aload X91.here hx rfl (hb hby at_328) rfl rfl ?_
        show oS p e below T91 m 330 #[iv x1, iv x2, iv (0 : Int32), iv (1 : Int32), rv b1, rv b4, rv b7, rv b13, rv b20, iv (1 : Int32), iv (0 : Int32), iv (0 : Int32), rv b13, .val .null, .val .null, .unset, .unset] [.null, (.int (1 : Int32)), (.ref b82), (.ref b82)] _
        refine st93 _ ?_
        refine XS.dup X93.here hx rfl (hb hby at_331) rfl rfl ?_
        refine XS.iconst X93.here hx rfl (hb hby at_332) ?_
        refine XS.aload X93.here hx rfl (hb hby at_333) rfl rfl ?_
        show oS p e below T93 m 335 #[iv x1, iv x2, iv (0 : Int32), iv (1 : Int32), rv b1, rv b4, rv b7, rv b13, rv b20, iv (1 : Int32), iv (0 : Int32), iv (0 : Int32), rv b13, .val .null, .val .null, .unset, .unset] [.null, (.int (2 : Int32)), (.ref b82), (.ref b82)] _
        refine st95 _ ?_
        refine XS.astore X95.here hx rfl (hb hby at_336) rfl rfl (l' := #[iv x1, iv x2, iv (0 : Int32), iv (1 : Int32), rv b1, rv b4, rv b7, rv b13, rv b20, iv (1 : Int32), iv (0 : Int32), iv (0 : Int32), rv b13, .val .null, .val .null, rv b82, .unset]) rfl ?_
        refine XS.iload X95.here hx rfl (hb hby at_338) rfl ?_
        refine XS.iconst X95.here hx rfl (hb hby at_340) ?_
        refine XS.iadd X95.here hx rfl (hb hby at_341) rfl ?_
        show oS p e below T95 m 342 #[iv x1, iv x2, iv (0 : Int32), iv (1 : Int32), rv b1, rv b4, rv b7, rv b13, rv b20, iv (1 : Int32), iv (0 : Int32), iv (0 : Int32), rv b13, .val .null, .val .null, rv b82, .unset] [(.int (1 : Int32))] _
        refine XS.istore X95.here hx rfl (hb hby at_342) rfl (l' := #[iv x1, iv x2, iv (0 : Int32), iv (1 : Int32), rv b1, rv b4, rv b7, rv b13, rv b20, iv (1 : Int32), iv (0 : Int32), iv (0 : Int32), rv b13, .val .null, .val .null, rv b82, iv (1 : Int32)]) rfl ?_
        refine XS.aload X95.here hx rfl (hb hby at_344) rfl rfl ?_
        refine XS.aload X95.here hx rfl (hb hby at_346) rfl rfl ?_
        refine XS.aload X95.here hx rfl (hb hby at_348) rfl rfl ?_
        refine XS.iload X95.here hx rfl (hb hby at_350) rfl ?_
        refine X95.aaload hx (j := (0 : Int32)) (v := (.ref b13)) (by rw [e95]; exact Ar96.1) (State.isArrayOf_alike hZ.alike Ar96.2.1) rfl Ar96.2.2 hin96 hat96 (g := (mkF m 352 #[iv x1, iv x2, iv (0 : Int32), iv (1 : Int32), rv b1, rv b4, rv b7, rv b13, rv b20, iv (1 : Int32), iv (0 : Int32), iv (0 : Int32), rv b13, .val .null, .val .null, rv b82, iv (1 : Int32)] [(.int (0 : Int32)), (.ref b82), (.ref b13), (.ref b1)])) rfl rfl (hb hby at_352) _ ?_
        show oS p e below T95 m 353 #[iv x1, iv x2, iv (0 : Int32), iv (1 : Int32), rv b1, rv b4, rv b7, rv b13, rv b20, iv (1 : Int32), iv (0 : Int32), iv (0 : Int32), rv b13, .val .null, .val .null, rv b82, iv (1 : Int32)] [(.ref b13), (.ref b13), (.ref b1)] _
        refine st97 _ ?_
        refine XS.istore X97.here hx rfl (hb hby at_356) rfl (l' := #[iv x1, iv x2, iv (0 : Int32), iv (1 : Int32), rv b1, rv b4, rv b7, rv b13, rv b20, iv (1 : Int32), iv (0 : Int32), iv (0 : Int32), rv b13, .val .null, .val .null, rv b82, iv (1 : Int32)]) rfl ?_
        refine XS.iload X97.here hx rfl (hb hby at_358) rfl ?_
        refine XS.ifNo X97.here hx rfl (hb hby at_360) rfl ((if0 _ _).trans (feq (by decide : ¬ ((1 : Int32) = (0 : Int32)))).1) ?_
        refine XS.aload X97.here hx rfl (hb hby at_363) rfl rfl ?_
        refine XS.aload X97.here hx rfl (hb hby at_365) rfl rfl ?_
        refine XS.iload X97.here hx rfl (hb hby at_367) rfl ?_
        refine XS.iconst X97.here hx rfl (hb hby at_369) ?_
        show oS p e below T97 m 370 #[iv x1, iv x2, iv (0 : Int32), iv (1 : Int32), rv b1, rv b4, rv b7, rv b13, rv b20, iv (1 : Int32), iv (0 : Int32), iv (0 : Int32), rv b13, .val .null, .val .null, rv b82, iv (1 : Int32)] [(.int (0 : Int32)), (.int (1 : Int32)), (.ref b82), (.ref b1)] _
        refine st106 _ ?_
        refine XS.ifNo X106.here hx rfl (hb hby at_373) rfl ((if0 _ _).trans (feq (by decide : ¬ ((1 : Int32) = (0 : Int32)))).1) ?_
        refine XS.iconst X106.here hx rfl (hb hby at_376) ?_
        refine XS.goto X106.here hx rfl (pc0 := 377) (pc' := 381) rfl (hb hby at_377) (by decide) (by decide) ?_
        refine XS.istore X106.here hx rfl (hb hby at_381) rfl (l' := #[iv x1, iv x2, iv (0 : Int32), iv (1 : Int32), rv b1, rv b4, rv b7, rv b13, rv b20, iv (1 : Int32), iv (0 : Int32), iv (0 : Int32), rv b13, .val .null, .val .null, rv b82, iv (1 : Int32)]) rfl ?_
        refine XS.iload X106.here hx rfl (hb hby at_383) rfl ?_
        refine XS.ifNo X106.here hx rfl (hb hby at_385) rfl ((if0 _ _).trans (feq (by decide : ¬ ((1 : Int32) = (0 : Int32)))).1) ?_
        refine XS.aload X106.here hx rfl (hb hby at_388) rfl rfl ?_
        show oS p e below T106 m 390 #[iv x1, iv x2, iv (0 : Int32), iv (1 : Int32), rv b1, rv b4, rv b7, rv b13, rv b20, iv (1 : Int32), iv (0 : Int32), iv (0 : Int32), rv b13, .val .null, .val .null, rv b82, iv (1 : Int32)] [(.ref b1)] _
        refine XS.aload X106.here hx rfl (hb hby at_390) rfl rfl ?_
        refine XS.iload X106.here hx rfl (hb hby at_392) rfl ?_
        refine XS.iconst X106.here hx rfl (hb hby at_394) ?_
        show oS p e below T106 m 395 #[iv x1, iv x2, iv (0 : Int32), iv (1 : Int32), rv b1, rv b4, rv b7, rv b13, rv b20, iv (1 : Int32), iv (0 : Int32), iv (0 : Int32), rv b13, .val .null, .val .null, rv b82, iv (1 : Int32)] [(.int (1 : Int32)), (.int (1 : Int32)), (.ref b82), (.ref b1)] _
        refine st107 _ ?_
        refine XS.ifNo X107.here hx rfl (hb hby at_398) rfl ((if0 _ _).trans (feq (by decide : ¬ ((1 : Int32) = (0 : Int32)))).1) ?_
        refine XS.iconst X107.here hx rfl (hb hby at_401) ?_
        refine XS.goto X107.here hx rfl (pc0 := 402) (pc' := 406) rfl (hb hby at_402) (by decide) (by decide) ?_
        refine XS.istore X107.here hx rfl (hb hby at_406) rfl (l' := #[iv x1, iv x2, iv (0 : Int32), iv (1 : Int32), rv b1, rv b4, rv b7, rv b13, rv b20, iv (1 : Int32), iv (0 : Int32), iv (0 : Int32), rv b13, .val .null, .val .null, rv b82, iv (1 : Int32)]) rfl ?_
        refine XS.iload X107.here hx rfl (hb hby at_408) rfl ?_
        refine XS.ifNo X107.here hx rfl (hb hby at_410) rfl ((if0 _ _).trans (feq (by decide : ¬ ((1 : Int32) = (0 : Int32)))).1) ?_
        refine XS.iload X107.here hx rfl (hb hby at_413) rfl ?_
        show oS p e below T107 m 415 #[iv x1, iv x2, iv (0 : Int32), iv (1 : Int32), rv b1, rv b4, rv b7, rv b13, rv b20, iv (1 : Int32), iv (0 : Int32), iv (0 : Int32), rv b13, .val .null, .val .null, rv b82, iv (1 : Int32)] [(.int (0 : Int32))] _
        refine XS.iconst X107.here hx rfl (hb hby at_415) ?_
        refine XS.iadd X107.here hx rfl (hb hby at_416) rfl ?_
        show oS p e below T107 m 417 #[iv x1, iv x2, iv (0 : Int32), iv (1 : Int32), rv b1, rv b4, rv b7, rv b13, rv b20, iv (1 : Int32), iv (0 : Int32), iv (0 : Int32), rv b13, .val .null, .val .null, rv b82, iv (1 : Int32)] [(.int (1 : Int32))] _
        refine XS.iconst X107.here hx rfl (hb hby at_417) ?_
        refine XS.icmpYes X107.here hx rfl (pc0 := 418) (pc' := 434) rfl (hb hby at_418) rfl (tlt (by decide : ((1 : Int32) < (2 : Int32)))).1 (by decide) (by decide) ?_
        refine XS.iconst X107.here hx rfl (hb hby at_434) ?_
        refine XS.goto X107.here hx rfl (pc0 := 435) (pc' := 439) rfl (hb hby at_435) (by decide) (by decide) ?_
        refine XS.istore X107.here hx rfl (hb hby at_439) rfl (l' := #[iv x1, iv x2, iv (0 : Int32), iv (1 : Int32), rv b1, rv b4, rv b7, rv b13, rv b20, iv (1 : Int32), iv (0 : Int32), iv (0 : Int32), rv b13, .val .null, .val .null, rv b82, iv (1 : Int32)]) rfl ?_
        refine XS.iload X107.here hx rfl (hb hby at_441) rfl ?_
        refine XS.ifNo X107.here hx rfl (hb hby at_443) rfl ((if0 _ _).trans (feq (by decide : ¬ ((1 : Int32) = (0 : Int32)))).1) ?_
        refine XS.iload X107.here hx rfl (hb hby at_446) rfl ?_
        show oS p e below T107 m 448 #[iv x1, iv x2, iv (0 : Int32), iv (1 : Int32), rv b1, rv b4, rv b7, rv b13, rv b20, iv (1 : Int32), iv (0 : Int32), iv (0 : Int32), rv b13, .val .null, .val .null, rv b82, iv (1 : Int32)] [(.int (0 : Int32))] _
        refine XS.iconst X107.here hx rfl (hb hby at_448) ?_
        refine XS.iadd X107.here hx rfl (hb hby at_449) rfl ?_
        show oS p e below T107 m 450 #[iv x1, iv x2, iv (0 : Int32), iv (1 : Int32), rv b1, rv b4, rv b7, rv b13, rv b20, iv (1 : Int32), iv (0 : Int32), iv (0 : Int32), rv b13, .val .null, .val .null, rv b82, iv (1 : Int32)] [(.int (1 : Int32))] _
        refine XS.iconst X107.here hx rfl (hb hby at_450) ?_
        refine XS.icmpYes X107.here hx rfl (pc0 := 451) (pc' := 467) rfl (hb hby at_451) rfl (tlt (by decide : ((1 : Int32) < (3 : Int32)))).1 (by decide) (by decide) ?_
        refine XS.iconst X107.here hx rfl (hb hby at_467) ?_
        refine XS.goto X107.here hx rfl (pc0 := 468) (pc' := 472) rfl (hb hby at_468) (by decide) (by decide) ?_
        refine XS.istore X107.here hx rfl (hb hby at_472) rfl (l' := #[iv x1, iv x2, iv (0 : Int32), iv (1 : Int32), rv b1, rv b4, rv b7, rv b13, rv b20, iv (1 : Int32), iv (0 : Int32), iv (0 : Int32), rv b13, .val .null, .val .null, rv b82, iv (1 : Int32)]) rfl ?_
        refine XS.iload X107.here hx rfl (hb hby at_474) rfl ?_
        exact kt
      obtain ⟨fs, hr, hrun, hended, hW, hsame⟩ := X107.leave (v := some (.int (1 : Int32))) (fun h => by rw [Bd.returns] at h; cases h)
      refine ⟨_, _, pre0 _ (pre32 _ (pre38 _ (pre111 _ ?_))), hrun, hended, _, _, rfl, ?_, ⟨_, rfl⟩, hW, hsame.mono (by decide) (by decide)⟩
      · show oS p e below T107 m 476 #[iv x1, iv x2, iv (0 : Int32), iv (1 : Int32), rv b1, rv b4, rv b7, rv b13, rv b20, iv (1 : Int32), iv (0 : Int32), iv (0 : Int32), rv b13, .val .null, .val .null, rv b82, iv (1 : Int32)] [(.int (1 : Int32))] _
        exact retN X107 hx (t := .boolean) Bd.returns (by simp) (hb hby at_476) hr
      · show Q0 Z x1 x2 h0 n0 _ T107.heap _
        rw [eh107]
        exact ⟨rfl, N107⟩
    · subst hn
      obtain ⟨_, _, ⟨T112, Lw112, kw112, nw112⟩, -, X112, ⟨Lc112, hQ112, l112, y112, z112⟩, st112⟩ := Jvm.LawKit.callS X33 hx (y := (⟨oz4, "step", oz3⟩ : MethodName)) hown (mvT hZ (own_w hw 50 rfl)) (mvT hZ (own_w hw 51 rfl)) (mvT hZ (own_w hw 29 rfl)) (mvT hZ (own_w hw 52 rfl)) (by decide) (backOf (W := 0) (rmT2_0_0 l Z a0 hw [] b1 b20 b4 b7 kk20 h31 n0 Zc37 Ec34 Fc35 Fc36 Va31) hZ (own_w hw 52 rfl) (own_w hw 29 rfl) (by decide) (by decide)) (g := (mkF m 157 #[iv x1, iv x2, iv (0 : Int32), iv (2 : Int32), rv b1, rv b4, rv b7, rv b13, rv b20, iv (1 : Int32), .unset, .unset, .unset, .unset, .unset, .unset, .unset] [(.int (0 : Int32)), (.int (0 : Int32)), (.ref b20), (.ref b1)])) rfl (by rw [hml]; rfl) (argsL := [(.ref b1), (.ref b20), (.int (0 : Int32)), (.int (0 : Int32))]) (rest := []) (lenOf own_pd7 rfl) rfl (by show 2 * 0 + _ ≤ _; exact Nat.le_of_eq rfl) (hb hby at_157) (fun _ _ => ⟨rfl, eh33, (by decide : 5 + 0 ≤ _), (by decide : 34 + 0 ≤ _)⟩)
      dsimp only [Pt.U, Pt.locs, Pt.cells, Pt.slots] at X112 l112 y112 z112 st112 hQ112
      subst l112 y112 z112
      obtain ⟨rfl, Nq112, eh112⟩ := hQ112
      have N112 := Fr.app N33 Nq112
      obtain ⟨_, _, ⟨T113, Lw113, kw113, nw113⟩, -, X113, ⟨Lc113, hQ113, l113, y113, z113⟩, st113⟩ := Jvm.LawKit.callS X112 hx (y := (⟨oz4, "step", oz3⟩ : MethodName)) hown (mvT hZ (own_w hw 50 rfl)) (mvT hZ (own_w hw 51 rfl)) (mvT hZ (own_w hw 29 rfl)) (mvT hZ (own_w hw 52 rfl)) (by decide) (backOf (W := 0) (rmT2_0_1 l Z a0 hw [] b1 b20 b4 b7 kk20 h31 n0 Zc37 Ec34 Fc35 Fc36 Va31) hZ (own_w hw 52 rfl) (own_w hw 29 rfl) (by decide) (by decide)) (g := (mkF m 186 #[iv x1, iv x2, iv (0 : Int32), iv (2 : Int32), rv b1, rv b4, rv b7, rv b13, rv b20, iv (1 : Int32), .unset, .unset, .unset, .unset, .unset, .unset, .unset] [(.int (1 : Int32)), (.int (0 : Int32)), (.ref b20), (.ref b1)])) rfl (by rw [hml]; rfl) (argsL := [(.ref b1), (.ref b20), (.int (0 : Int32)), (.int (1 : Int32))]) (rest := []) (lenOf own_pd7 rfl) rfl (by show 2 * 0 + _ ≤ _; exact Nat.le_of_eq rfl) (hb hby at_186) (fun _ _ => ⟨rfl, eh112, (by decide : 5 + 0 ≤ _), (by decide : 34 + 0 ≤ _)⟩)
      dsimp only [Pt.U, Pt.locs, Pt.cells, Pt.slots] at X113 l113 y113 z113 st113 hQ113
      subst l113 y113 z113
      obtain ⟨rfl, Nq113, eh113⟩ := hQ113
      have N113 := Fr.app N112 Nq113
      obtain ⟨_, _, ⟨T114, Lw114, kw114, nw114⟩, -, X114, ⟨Lc114, hQ114, l114, y114, z114⟩, st114⟩ := Jvm.LawKit.callS X113 hx (y := (⟨"java/lang/Math", "min", "(II)I"⟩ : MethodName)) hown (mvT hZ (own_w hw 58 rfl)) (mvT hZ (own_w hw 59 rfl)) (mvT hZ (own_w hw 60 rfl)) (mvT hZ (own_w hw 61 rfl)) (by decide) (backOf (W := 0) (rm10 l Z a0 hw [] (2 : Int32) (0 : Int32) h31 n0 Zc37 ) hZ (own_w hw 61 rfl) (own_w hw 60 rfl) (by decide) (by decide)) (g := (mkF m 237 #[iv x1, iv x2, iv (0 : Int32), iv (2 : Int32), rv b1, rv b4, rv b7, rv b13, rv b20, iv (1 : Int32), .unset, .unset, .unset, .unset, .unset, .unset, .unset] [(.int (0 : Int32)), (.int (2 : Int32))])) rfl (by rw [hml]; rfl) (argsL := [(.int (2 : Int32)), (.int (0 : Int32))]) (rest := []) (lenOf own_pd6 rfl) rfl (by show 2 * 0 + _ ≤ _; exact Nat.le_of_eq rfl) (hb hby at_237) (fun _ _ => ⟨rfl, eh113, (by decide : 5 + 0 ≤ _), (by decide : 34 + 0 ≤ _)⟩)
      dsimp only [Pt.U, Pt.locs, Pt.cells, Pt.slots] at X114 l114 y114 z114 st114 hQ114
      subst l114 y114 z114
      obtain ⟨rfl, Nq114, eh114⟩ := hQ114
      have N114 := Fr.app N113 Nq114
      have Ec116 : Exa Z h31 b13 oz0 := (((Ec25.ext E20).wr W28).wr W31)
      have Fc117 : Fld Z h31 b13 oz0 "in" oz6 .null := (((pf18_0.ext E20).other W28 (Or.inl ne_b13_b20)).other W31 (Or.inl ne_b13_b20))
      have Fc118 : Fld Z h31 b13 oz0 "before" oz2 .null := (((pf18_1.ext E20).other W28 (Or.inl ne_b13_b20)).other W31 (Or.inl ne_b13_b20))
      have Fc119 : Fld Z h31 b13 oz0 "after" oz2 .null := (((pf18_2.ext E20).other W28 (Or.inl ne_b13_b20)).other W31 (Or.inl ne_b13_b20))
      obtain ⟨cq115, kq115, q115a, q115b, q115c⟩ := isOf hZ eh114 Ec34
      obtain ⟨_, _, ⟨T115, Lw115, kw115, nw115⟩, -, X115, ⟨Lc115, hQ115, l115, y115, z115⟩, st115⟩ := X114.virtualBack hx (y := (⟨oz1, "add", oz8⟩ : MethodName)) (z := (⟨oz1, "add", oz8⟩ : MethodName)) hown (mvT hZ (own_w hw 62 rfl)) (mvT hZ (own_w hw 63 rfl)) (notFace_of_selects (args := #[]) (mvT hZ (own_w hw 65 rfl))) (mvT hZ (own_w hw 65 rfl)) (mvT hZ (own_w hw 64 rfl)) (by decide) (backOf (W := 0) (rmA0 l Z a0 hw [] b1 b13 .null h31 n0 Zc37 Ec34 Ec116 g_b1 g_b13 Fc35 Fc36 Fc117 Fc118 Fc119) hZ (own_w hw 66 rfl) (own_w hw 3 rfl) (by decide) (by decide)) q115a q115c (g := (mkF m 252 #[iv x1, iv x2, iv (0 : Int32), iv (2 : Int32), rv b1, rv b4, rv b7, rv b13, rv b20, iv (1 : Int32), iv (0 : Int32), iv (0 : Int32), .unset, .unset, .unset, .unset, .unset] [(.ref b13), (.ref b1)])) rfl (by rw [hml]; rfl) (Steps.refl _) (argsL := [(.ref b13)]) (rest := []) (lenOf own_pd0 rfl) rfl (by show 2 * 0 + _ ≤ _; exact Nat.le_of_eq rfl) (hb hby at_252) (fun _ _ => ⟨rfl, eh114, (by decide : 5 + 0 ≤ _), (by decide : 34 + 0 ≤ _)⟩)
      dsimp only [Pt.U, Pt.locs, Pt.cells, Pt.slots] at X115 l115 y115 z115 st115 hQ115
      subst l115 y115 z115
      obtain ⟨rfl, Nq115, K115, pf115_0, pf115_1, pf115_2, pf115_3, pf115_4⟩ := hQ115
      have N115 := Fr.app N114 Nq115
      have Zc121 : n0 ≤ T115.heap.size := (Nat.le_trans Zc37 K115.1)
      have Ec122 : Exa Z T115.heap b1 oz1 := (Ec34.keep K115)
      have Ec123 : Exa Z T115.heap b4 oz0 := (((Ec26.wr W28).wr W31).keep K115)
      have Ec124 : Exa Z T115.heap b7 oz0 := ((Ec29.wr W31).keep K115)
      have Ec125 : Exa Z T115.heap b13 oz0 := (Ec116.keep K115)
      have Vc126 : Arv Z T115.heap b20 kk20 (.object oz0) (2 : Int32) [(.ref b4), (.ref b7)] .null := (Va31.keep K115 (ninS (Ne.symm ne_b1_b20) (ninS (Ne.symm ne_b13_b20) nin0)))
      obtain ⟨T120, h120, kk120, X120, e120, E120, A120, O120, st120⟩ := newR X115 hx hZ hown (own_w hw 10 rfl) (own_w hw 25 rfl) rfl (g := (mkF m 318 #[iv x1, iv x2, iv (0 : Int32), iv (2 : Int32), rv b1, rv b4, rv b7, rv b13, rv b20, iv (1 : Int32), iv (0 : Int32), iv (0 : Int32), rv b13, .val .null, .val .null, .unset, .unset] [(.int (3 : Int32))])) rfl (hb hby at_318) rfl (by decide) (cap := 3) (by decide) (by decide) (by decide) (by decide)
      obtain ⟨b120, g120⟩ : ∃ z, z = T115.heap.size := ⟨_, rfl⟩
      rw [← g120] at A120 st120
      have g_b120 : n0 ≤ b120 := Nat.le_trans Zc121 (Nat.le_of_eq g120.symm)
      have ne_b1_b120 : b1 ≠ b120 := Nat.ne_of_lt (Nat.lt_of_lt_of_le Ec122.lt (Nat.le_of_eq g120.symm))
      have ne_b4_b120 : b4 ≠ b120 := Nat.ne_of_lt (Nat.lt_of_lt_of_le Ec123.lt (Nat.le_of_eq g120.symm))
      have ne_b7_b120 : b7 ≠ b120 := Nat.ne_of_lt (Nat.lt_of_lt_of_le Ec124.lt (Nat.le_of_eq g120.symm))
      have ne_b13_b120 : b13 ≠ b120 := Nat.ne_of_lt (Nat.lt_of_lt_of_le Ec125.lt (Nat.le_of_eq g120.symm))
      have ne_b20_b120 : b20 ≠ b120 := Nat.ne_of_lt (Nat.lt_of_lt_of_le Vc126.lt (Nat.le_of_eq g120.symm))
      have V_b120 : Arv Z h120 b120 kk120 (.object oz0) (3 : Int32) [.null, .null, .null] .null := (Arv.new A120 (by decide)).pad (pad_rep [] .null 3)
      have Ec127 : Exa Z h120 b13 oz0 := (Ec125.ext E120)
      obtain ⟨cl128, Ar128, qk128, Sz128, Ng128, Hs128, Gt128⟩ := id V_b120
      have hin128 : ¬ ((0 : Int32) < 0 ∨ cl128.slots.size ≤ ((0 : Int32)).toNatClampNeg) := inb_of Sz128 ⟨by decide, by decide⟩
      obtain ⟨T129, h129, X129, e129, W129, st129⟩ := stR X120 hx hZ e120 Ar128 (j := (0 : Int32)) hin128 rfl (Sto.ofV Ar128 qk128 O120 (Ins.self Ec127)) (g := (mkF m 325 #[iv x1, iv x2, iv (0 : Int32), iv (2 : Int32), rv b1, rv b4, rv b7, rv b13, rv b20, iv (1 : Int32), iv (0 : Int32), iv (0 : Int32), rv b13, .val .null, .val .null, .unset, .unset] [(.ref b13), (.int (0 : Int32)), (.ref b120), (.ref b120)])) rfl rfl (hb hby at_325)
      have Va129 : Arv Z h129 b120 kk120 (.object oz0) (3 : Int32) [(.ref b13), .null, .null] .null := Arv.set Ar128 qk128 Sz128 Ng128 Hs128 Gt128 rfl W129 0 rfl (Nat.le_of_ble_eq_true rfl)
      have N129 := Fr.snoc X129 N115 g_b120
      obtain ⟨cl130, Ar130, qk130, Sz130, Ng130, Hs130, Gt130⟩ := id Va129
      have hin130 : ¬ ((1 : Int32) < 0 ∨ cl130.slots.size ≤ ((1 : Int32)).toNatClampNeg) := inb_of Sz130 ⟨by decide, by decide⟩
      obtain ⟨T131, h131, X131, e131, W131, st131⟩ := stR X129 hx hZ e129 Ar130 (j := (1 : Int32)) hin130 rfl (Or.inl rfl) (g := (mkF m 330 #[iv x1, iv x2, iv (0 : Int32), iv (2 : Int32), rv b1, rv b4, rv b7, rv b13, rv b20, iv (1 : Int32), iv (0 : Int32), iv (0 : Int32), rv b13, .val .null, .val .null, .unset, .unset] [.null, (.int (1 : Int32)), (.ref b120), (.ref b120)])) rfl rfl (hb hby at_330)
      have Va131 : Arv Z h131 b120 kk120 (.object oz0) (3 : Int32) [(.ref b13), .null, .null] .null := Arv.set Ar130 qk130 Sz130 Ng130 Hs130 Gt130 rfl W131 1 rfl (Nat.le_of_ble_eq_true rfl)
      have N131 := Fr.snoc X131 N129 g_b120
      obtain ⟨cl132, Ar132, qk132, Sz132, Ng132, Hs132, Gt132⟩ := id Va131
      have hin132 : ¬ ((2 : Int32) < 0 ∨ cl132.slots.size ≤ ((2 : Int32)).toNatClampNeg) := inb_of Sz132 ⟨by decide, by decide⟩
      obtain ⟨T133, h133, X133, e133, W133, st133⟩ := stR X131 hx hZ e131 Ar132 (j := (2 : Int32)) hin132 rfl (Or.inl rfl) (g := (mkF m 335 #[iv x1, iv x2, iv (0 : Int32), iv (2 : Int32), rv b1, rv b4, rv b7, rv b13, rv b20, iv (1 : Int32), iv (0 : Int32), iv (0 : Int32), rv b13, .val .null, .val .null, .unset, .unset] [.null, (.int (2 : Int32)), (.ref b120), (.ref b120)])) rfl rfl (hb hby at_335)
      have Va133 : Arv Z h133 b120 kk120 (.object oz0) (3 : Int32) [(.ref b13), .null, .null] .null := Arv.set Ar132 qk132 Sz132 Ng132 Hs132 Gt132 rfl W133 2 rfl (Nat.le_of_ble_eq_true rfl)
      have N133 := Fr.snoc X133 N131 g_b120
      obtain ⟨cl134, Ar134, qk134, Sz134, Ng134, Hs134, Gt134⟩ := id Va133
      have hin134 : ¬ ((0 : Int32) < 0 ∨ cl134.slots.size ≤ ((0 : Int32)).toNatClampNeg) := inb_of Sz134 ⟨by decide, by decide⟩
      have hat134 : cl134.slots[((0 : Int32)).toNatClampNeg]? = some (.ref b13) := Hs134.at hin134 rfl
      have Ec136 : Exa Z h133 b1 oz1 := ((((Ec122.ext E120).wr W129).wr W131).wr W133)
      have Ec137 : Exa Z h133 b13 oz0 := (((Ec127.wr W129).wr W131).wr W133)
      have Fc138 : Fld Z h133 b1 oz1 "first" oz2 (.ref b13) := ((((pf115_0.ext E120).other W129 (Or.inl ne_b1_b120)).other W131 (Or.inl ne_b1_b120)).other W133 (Or.inl ne_b1_b120))
      have Fc139 : Fld Z h133 b1 oz1 "last" oz2 (.ref b13) := ((((pf115_1.ext E120).other W129 (Or.inl ne_b1_b120)).other W131 (Or.inl ne_b1_b120)).other W133 (Or.inl ne_b1_b120))
      have Fc140 : Fld Z h133 b13 oz0 "in" oz6 (.ref b1) := ((((pf115_2.ext E120).other W129 (Or.inl ne_b13_b120)).other W131 (Or.inl ne_b13_b120)).other W133 (Or.inl ne_b13_b120))
      have Fc141 : Fld Z h133 b13 oz0 "before" oz2 .null := ((((pf115_3.ext E120).other W129 (Or.inl ne_b13_b120)).other W131 (Or.inl ne_b13_b120)).other W133 (Or.inl ne_b13_b120))
      have Fc142 : Fld Z h133 b13 oz0 "after" oz2 .null := ((((pf115_4.ext E120).other W129 (Or.inl ne_b13_b120)).other W131 (Or.inl ne_b13_b120)).other W133 (Or.inl ne_b13_b120))
      have Zc143 : n0 ≤ h133.size := (Nat.le_trans (Nat.le_trans (Nat.le_trans (Nat.le_trans Zc121 E120.1) (Keep.of_wr W129).1) (Keep.of_wr W131).1) (Keep.of_wr W133).1)
      obtain ⟨_, _, ⟨T135, Lw135, kw135, nw135⟩, -, X135, ⟨Lc135, hQ135, l135, y135, z135⟩, st135⟩ := Jvm.LawKit.callS X133 hx (y := (⟨oz4, "state", oz5⟩ : MethodName)) hown (mvT hZ (own_w hw 27 rfl)) (mvT hZ (own_w hw 28 rfl)) (mvT hZ (own_w hw 29 rfl)) (mvT hZ (own_w hw 30 rfl)) (by decide) (backOf (W := 0) (rmS1 l Z a0 hw [] b1 b13 h133 n0 Zc143 Ec136 Ec137 Fc138 Fc139 Fc140 Fc141 Fc142) hZ (own_w hw 30 rfl) (own_w hw 29 rfl) (by decide) (by decide)) (g := (mkF m 353 #[iv x1, iv x2, iv (0 : Int32), iv (2 : Int32), rv b1, rv b4, rv b7, rv b13, rv b20, iv (1 : Int32), iv (0 : Int32), iv (0 : Int32), rv b13, .val .null, .val .null, rv b120, iv (1 : Int32)] [(.ref b13), (.ref b13), (.ref b1)])) rfl (by rw [hml]; rfl) (argsL := [(.ref b1), (.ref b13), (.ref b13)]) (rest := []) (lenOf own_pd5 rfl) rfl (by show 2 * 0 + _ ≤ _; exact Nat.le_of_eq rfl) (hb hby at_353) (fun _ _ => ⟨rfl, e133, (by decide : 6 + 0 ≤ _), (by decide : 37 + 0 ≤ _)⟩)
      dsimp only [Pt.U, Pt.locs, Pt.cells, Pt.slots] at X135 l135 y135 z135 st135 hQ135
      subst l135 y135 z135
      obtain ⟨rfl, Nq135, eh135⟩ := hQ135
      have N135 := Fr.app N133 Nq135
      obtain ⟨_, _, ⟨T144, Lw144, kw144, nw144⟩, -, X144, ⟨Lc144, hQ144, l144, y144, z144⟩, st144⟩ := Jvm.LawKit.callS X135 hx (y := (⟨oz4, "step", oz3⟩ : MethodName)) hown (mvT hZ (own_w hw 50 rfl)) (mvT hZ (own_w hw 51 rfl)) (mvT hZ (own_w hw 29 rfl)) (mvT hZ (own_w hw 52 rfl)) (by decide) (backOf (W := 0) (rmT3_1_0 l Z a0 hw [] b1 b120 b13 kk120 h133 n0 Zc143 Ec136 Ec137 g_b1 g_b13 Fc138 Fc139 Fc140 Fc141 Fc142 Va133) hZ (own_w hw 52 rfl) (own_w hw 29 rfl) (by decide) (by decide)) (g := (mkF m 370 #[iv x1, iv x2, iv (0 : Int32), iv (2 : Int32), rv b1, rv b4, rv b7, rv b13, rv b20, iv (1 : Int32), iv (0 : Int32), iv (0 : Int32), rv b13, .val .null, .val .null, rv b120, iv (1 : Int32)] [(.int (0 : Int32)), (.int (1 : Int32)), (.ref b120), (.ref b1)])) rfl (by rw [hml]; rfl) (argsL := [(.ref b1), (.ref b120), (.int (1 : Int32)), (.int (0 : Int32))]) (rest := []) (lenOf own_pd7 rfl) rfl (by show 2 * 0 + _ ≤ _; exact Nat.le_of_eq rfl) (hb hby at_370) (fun _ _ => ⟨rfl, eh135, (by decide : 6 + 0 ≤ _), (by decide : 37 + 0 ≤ _)⟩)
      dsimp only [Pt.U, Pt.locs, Pt.cells, Pt.slots] at X144 l144 y144 z144 st144 hQ144
      subst l144 y144 z144
      obtain ⟨rfl, Nq144, K144, pf144_0, pf144_1, pf144_2, pf144_3, pf144_4⟩ := hQ144
      have N144 := Fr.app N135 Nq144
      have Ec146 : Exa Z T144.heap b1 oz1 := (Ec136.keep K144)
      have Vc147 : Arv Z T144.heap b120 kk120 (.object oz0) (3 : Int32) [(.ref b13), .null, .null] .null := (Va133.keep K144 (ninS (Ne.symm ne_b1_b120) (ninS (Ne.symm ne_b13_b120) nin0)))
      have Zc148 : n0 ≤ T144.heap.size := (Nat.le_trans Zc143 K144.1)
      obtain ⟨_, _, ⟨T145, Lw145, kw145, nw145⟩, -, X145, ⟨Lc145, hQ145, l145, y145, z145⟩, st145⟩ := Jvm.LawKit.callS X144 hx (y := (⟨oz4, "step", oz3⟩ : MethodName)) hown (mvT hZ (own_w hw 50 rfl)) (mvT hZ (own_w hw 51 rfl)) (mvT hZ (own_w hw 29 rfl)) (mvT hZ (own_w hw 52 rfl)) (by decide) (backOf (W := 0) (rmT3_1_1 l Z a0 hw [] b1 b120 b13 kk120 T144.heap n0 Zc148 Ec146 pf144_0 pf144_1 Vc147) hZ (own_w hw 52 rfl) (own_w hw 29 rfl) (by decide) (by decide)) (g := (mkF m 395 #[iv x1, iv x2, iv (0 : Int32), iv (2 : Int32), rv b1, rv b4, rv b7, rv b13, rv b20, iv (1 : Int32), iv (0 : Int32), iv (0 : Int32), rv b13, .val .null, .val .null, rv b120, iv (1 : Int32)] [(.int (1 : Int32)), (.int (1 : Int32)), (.ref b120), (.ref b1)])) rfl (by rw [hml]; rfl) (argsL := [(.ref b1), (.ref b120), (.int (1 : Int32)), (.int (1 : Int32))]) (rest := []) (lenOf own_pd7 rfl) rfl (by show 2 * 0 + _ ≤ _; exact Nat.le_of_eq rfl) (hb hby at_395) (fun _ _ => ⟨rfl, rfl, (by decide : 6 + 0 ≤ _), (by decide : 37 + 0 ≤ _)⟩)
      dsimp only [Pt.U, Pt.locs, Pt.cells, Pt.slots] at X145 l145 y145 z145 st145 hQ145
      subst l145 y145 z145
      obtain ⟨rfl, Nq145, eh145⟩ := hQ145
      have N145 := Fr.app N144 Nq145
      have pre149 : ∀ tz, oS p e below T145 m 476 #[iv x1, iv x2, iv (0 : Int32), iv (2 : Int32), rv b1, rv b4, rv b7, rv b13, rv b20, iv (1 : Int32), iv (0 : Int32), iv (0 : Int32), rv b13, .val .null, .val .null, rv b120, iv (1 : Int32)] [(.int (1 : Int32))] tz → oS p e below T33 m 146 #[iv x1, iv x2, iv (0 : Int32), iv (2 : Int32), rv b1, rv b4, rv b7, rv b13, rv b20, iv (1 : Int32), .unset, .unset, .unset, .unset, .unset, .unset, .unset] [] tz := fun tz kt => by
        show oS p e below T33 m 146 #[iv x1, iv x2, iv (0 : Int32), iv (2 : Int32), rv b1, rv b4, rv b7, rv b13, rv b20, iv (1 : Int32), .unset, .unset, .unset, .unset, .unset, .unset, .unset] [] _
        refine XS.iloadN X33.here hx rfl (hb hby at_146) rfl ?_
        refine XS.iconst X33.here hx rfl (hb hby at_147) ?_
        refine XS.icmpNo X33.here hx rfl (hb hby at_148) rfl (flt (by decide : ¬ ((2 : Int32) < (1 : Int32)))).1 ?_
        refine XS.aload X33.here hx rfl (hb hby at_151) rfl rfl ?_
        refine XS.aload X33.here hx rfl (hb hby at_153) rfl rfl ?_
        refine XS.iloadN X33.here hx rfl (hb hby at_155) rfl ?_
        refine XS.iconst X33.here hx rfl (hb hby at_156) ?_
        show oS p e below T33 m 157 #[iv x1, iv x2, iv (0 : Int32), iv (2 : Int32), rv b1, rv b4, rv b7, rv b13, rv b20, iv (1 : Int32), .unset, .unset, .unset, .unset, .unset, .unset, .unset] [(.int (0 : Int32)), (.int (0 : Int32)), (.ref b20), (.ref b1)] _
        refine st112 _ ?_
        refine XS.ifNo X112.here hx rfl (hb hby at_160) rfl ((if0 _ _).trans (feq (by decide : ¬ ((1 : Int32) = (0 : Int32)))).1) ?_
        refine XS.iconst X112.here hx rfl (hb hby at_163) ?_
        refine XS.goto X112.here hx rfl (pc0 := 164) (pc' := 168) rfl (hb hby at_164) (by decide) (by decide) ?_
        refine XS.istore X112.here hx rfl (hb hby at_168) rfl (l' := #[iv x1, iv x2, iv (0 : Int32), iv (2 : Int32), rv b1, rv b4, rv b7, rv b13, rv b20, iv (1 : Int32), .unset, .unset, .unset, .unset, .unset, .unset, .unset]) rfl ?_
        refine XS.iload X112.here hx rfl (hb hby at_170) rfl ?_
        refine XS.ifNo X112.here hx rfl (hb hby at_172) rfl ((if0 _ _).trans (feq (by decide : ¬ ((1 : Int32) = (0 : Int32)))).1) ?_
        refine XS.iloadN X112.here hx rfl (hb hby at_175) rfl ?_
        show oS p e below T112 m 176 #[iv x1, iv x2, iv (0 : Int32), iv (2 : Int32), rv b1, rv b4, rv b7, rv b13, rv b20, iv (1 : Int32), .unset, .unset, .unset, .unset, .unset, .unset, .unset] [(.int (2 : Int32))] _
        refine XS.iconst X112.here hx rfl (hb hby at_176) ?_
        refine XS.icmpNo X112.here hx rfl (hb hby at_177) rfl (flt (by decide : ¬ ((2 : Int32) < (2 : Int32)))).1 ?_
        refine XS.aload X112.here hx rfl (hb hby at_180) rfl rfl ?_
        refine XS.aload X112.here hx rfl (hb hby at_182) rfl rfl ?_
        refine XS.iloadN X112.here hx rfl (hb hby at_184) rfl ?_
        refine XS.iconst X112.here hx rfl (hb hby at_185) ?_
        show oS p e below T112 m 186 #[iv x1, iv x2, iv (0 : Int32), iv (2 : Int32), rv b1, rv b4, rv b7, rv b13, rv b20, iv (1 : Int32), .unset, .unset, .unset, .unset, .unset, .unset, .unset] [(.int (1 : Int32)), (.int (0 : Int32)), (.ref b20), (.ref b1)] _
        refine st113 _ ?_
        refine XS.ifNo X113.here hx rfl (hb hby at_189) rfl ((if0 _ _).trans (feq (by decide : ¬ ((1 : Int32) = (0 : Int32)))).1) ?_
        refine XS.iconst X113.here hx rfl (hb hby at_192) ?_
        refine XS.goto X113.here hx rfl (pc0 := 193) (pc' := 197) rfl (hb hby at_193) (by decide) (by decide) ?_
        refine XS.istore X113.here hx rfl (hb hby at_197) rfl (l' := #[iv x1, iv x2, iv (0 : Int32), iv (2 : Int32), rv b1, rv b4, rv b7, rv b13, rv b20, iv (1 : Int32), .unset, .unset, .unset, .unset, .unset, .unset, .unset]) rfl ?_
        refine XS.iload X113.here hx rfl (hb hby at_199) rfl ?_
        refine XS.ifNo X113.here hx rfl (hb hby at_201) rfl ((if0 _ _).trans (feq (by decide : ¬ ((1 : Int32) = (0 : Int32)))).1) ?_
        refine XS.iloadN X113.here hx rfl (hb hby at_204) rfl ?_
        show oS p e below T113 m 205 #[iv x1, iv x2, iv (0 : Int32), iv (2 : Int32), rv b1, rv b4, rv b7, rv b13, rv b20, iv (1 : Int32), .unset, .unset, .unset, .unset, .unset, .unset, .unset] [(.int (2 : Int32))] _
        refine XS.iconst X113.here hx rfl (hb hby at_205) ?_
        refine XS.icmpYes X113.here hx rfl (pc0 := 206) (pc' := 221) rfl (hb hby at_206) rfl (tlt (by decide : ((2 : Int32) < (3 : Int32)))).1 (by decide) (by decide) ?_
        refine XS.iconst X113.here hx rfl (hb hby at_221) ?_
        refine XS.goto X113.here hx rfl (pc0 := 222) (pc' := 226) rfl (hb hby at_222) (by decide) (by decide) ?_
        refine XS.istore X113.here hx rfl (hb hby at_226) rfl (l' := #[iv x1, iv x2, iv (0 : Int32), iv (2 : Int32), rv b1, rv b4, rv b7, rv b13, rv b20, iv (1 : Int32), .unset, .unset, .unset, .unset, .unset, .unset, .unset]) rfl ?_
        refine XS.iload X113.here hx rfl (hb hby at_228) rfl ?_
        refine XS.ifYes X113.here hx rfl (pc0 := 230) (pc' := 235) rfl (hb hby at_230) rfl ((if0 _ _).trans (feq (by decide : ¬ ((1 : Int32) = (0 : Int32)))).2) (by decide) (by decide) ?_
        refine XS.iloadN X113.here hx rfl (hb hby at_235) rfl ?_
        show oS p e below T113 m 236 #[iv x1, iv x2, iv (0 : Int32), iv (2 : Int32), rv b1, rv b4, rv b7, rv b13, rv b20, iv (1 : Int32), .unset, .unset, .unset, .unset, .unset, .unset, .unset] [(.int (2 : Int32))] _
        refine XS.iloadN X113.here hx rfl (hb hby at_236) rfl ?_
        show oS p e below T113 m 237 #[iv x1, iv x2, iv (0 : Int32), iv (2 : Int32), rv b1, rv b4, rv b7, rv b13, rv b20, iv (1 : Int32), .unset, .unset, .unset, .unset, .unset, .unset, .unset] [(.int (0 : Int32)), (.int (2 : Int32))] _
        refine st114 _ ?_
        rw [((if_pos (by decide : (0 : Int32) < (2 : Int32))) : (if (0 : Int32) < (2 : Int32) then (0 : Int32) else (2 : Int32)) = (0 : Int32))]
        show oS p e below T114 m 240 #[iv x1, iv x2, iv (0 : Int32), iv (2 : Int32), rv b1, rv b4, rv b7, rv b13, rv b20, iv (1 : Int32), .unset, .unset, .unset, .unset, .unset, .unset, .unset] [(.int (0 : Int32))] _
        refine XS.istore X114.here hx rfl (hb hby at_240) rfl (l' := #[iv x1, iv x2, iv (0 : Int32), iv (2 : Int32), rv b1, rv b4, rv b7, rv b13, rv b20, iv (1 : Int32), iv (0 : Int32), .unset, .unset, .unset, .unset, .unset, .unset]) rfl ?_
        refine XS.iloadN X114.here hx rfl (hb hby at_242) rfl ?_
        refine XS.iload X114.here hx rfl (hb hby at_243) rfl ?_
        refine XS.isub X114.here hx rfl (hb hby at_245) rfl ?_
        show oS p e below T114 m 246 #[iv x1, iv x2, iv (0 : Int32), iv (2 : Int32), rv b1, rv b4, rv b7, rv b13, rv b20, iv (1 : Int32), iv (0 : Int32), .unset, .unset, .unset, .unset, .unset, .unset] [(.int (0 : Int32))] _
        refine XS.istore X114.here hx rfl (hb hby at_246) rfl (l' := #[iv x1, iv x2, iv (0 : Int32), iv (2 : Int32), rv b1, rv b4, rv b7, rv b13, rv b20, iv (1 : Int32), iv (0 : Int32), iv (0 : Int32), .unset, .unset, .unset, .unset, .unset]) rfl ?_
        refine XS.aload X114.here hx rfl (hb hby at_248) rfl rfl ?_
        refine XS.aload X114.here hx rfl (hb hby at_250) rfl rfl ?_
        show oS p e below T114 m 252 #[iv x1, iv x2, iv (0 : Int32), iv (2 : Int32), rv b1, rv b4, rv b7, rv b13, rv b20, iv (1 : Int32), iv (0 : Int32), iv (0 : Int32), .unset, .unset, .unset, .unset, .unset] [(.ref b13), (.ref b1)] _
        refine st115.trans ?_
        refine XS.iload X115.here hx rfl (hb hby at_255) rfl ?_
        refine XS.iconst X115.here hx rfl (hb hby at_257) ?_
        refine XS.icmpYes X115.here hx rfl (pc0 := 258) (pc' := 269) rfl (hb hby at_258) rfl (tlt (by decide : ((0 : Int32) < (1 : Int32)))).1 (by decide) (by decide) ?_
        refine XS.aload X115.here hx rfl (hb hby at_269) rfl rfl ?_
        refine XS.astore X115.here hx rfl (hb hby at_271) rfl rfl (l' := #[iv x1, iv x2, iv (0 : Int32), iv (2 : Int32), rv b1, rv b4, rv b7, rv b13, rv b20, iv (1 : Int32), iv (0 : Int32), iv (0 : Int32), rv b13, .unset, .unset, .unset, .unset]) rfl ?_
        refine XS.iload X115.here hx rfl (hb hby at_273) rfl ?_
        refine XS.iconst X115.here hx rfl (hb hby at_275) ?_
        show oS p e below T115 m 276 #[iv x1, iv x2, iv (0 : Int32), iv (2 : Int32), rv b1, rv b4, rv b7, rv b13, rv b20, iv (1 : Int32), iv (0 : Int32), iv (0 : Int32), rv b13, .unset, .unset, .unset, .unset] [(.int (2 : Int32)), (.int (0 : Int32))] _
        refine XS.icmpYes X115.here hx rfl (pc0 := 276) (pc' := 289) rfl (hb hby at_276) rfl (tlt (by decide : ((0 : Int32) < (2 : Int32)))).1 (by decide) (by decide) ?_
        refine XS.iload X115.here hx rfl (hb hby at_289) rfl ?_
        refine XS.iconst X115.here hx rfl (hb hby at_291) ?_
        refine XS.icmpYes X115.here hx rfl (pc0 := 292) (pc' := 300) rfl (hb hby at_292) rfl (feq (by decide : ¬ ((0 : Int32) = (1 : Int32)))).2 (by decide) (by decide) ?_
        refine XS.aconstNull X115.here hx rfl (hb hby at_300) ?_
        refine XS.astore X115.here hx rfl (hb hby at_301) rfl rfl (l' := #[iv x1, iv x2, iv (0 : Int32), iv (2 : Int32), rv b1, rv b4, rv b7, rv b13, rv b20, iv (1 : Int32), iv (0 : Int32), iv (0 : Int32), rv b13, .val .null, .unset, .unset, .unset]) rfl ?_
        refine XS.iload X115.here hx rfl (hb hby at_303) rfl ?_
        refine XS.iconst X115.here hx rfl (hb hby at_305) ?_
        show oS p e below T115 m 306 #[iv x1, iv x2, iv (0 : Int32), iv (2 : Int32), rv b1, rv b4, rv b7, rv b13, rv b20, iv (1 : Int32), iv (0 : Int32), iv (0 : Int32), rv b13, .val .null, .unset, .unset, .unset] [(.int (2 : Int32)), (.int (0 : Int32))] _
        refine XS.icmpYes X115.here hx rfl (pc0 := 306) (pc' := 314) rfl (hb hby at_306) rfl (feq (by decide : ¬ ((0 : Int32) = (2 : Int32)))).2 (by decide) (by decide) ?_
        refine XS.aconstNull X115.here hx rfl (hb hby at_314) ?_
        refine XS.astore X115.here hx rfl (hb hby at_315) rfl rfl (l' := #[iv x1, iv x2, iv (0 : Int32), iv (2 : Int32), rv b1, rv b4, rv b7, rv b13, rv b20, iv (1 : Int32), iv (0 : Int32), iv (0 : Int32), rv b13, .val .null, .val .null, .unset, .unset]) rfl ?_
        refine XS.iconst X115.here hx rfl (hb hby at_317) ?_
        show oS p e below T115 m 318 #[iv x1, iv x2, iv (0 : Int32), iv (2 : Int32), rv b1, rv b4, rv b7, rv b13, rv b20, iv (1 : Int32), iv (0 : Int32), iv (0 : Int32), rv b13, .val .null, .val .null, .unset, .unset] [(.int (3 : Int32))] _
        refine st120 _ ?_
        refine XS.dup X120.here hx rfl (hb hby at_321) rfl rfl ?_
        refine XS.iconst X120.here hx rfl (hb hby at_322) ?_
        refine XS.aload X120.here hx rfl (hb hby at_323) rfl rfl ?_
        show oS p e below T120 m 325 #[iv x1, iv x2, iv (0 : Int32), iv (2 : Int32), rv b1, rv b4, rv b7, rv b13, rv b20, iv (1 : Int32), iv (0 : Int32), iv (0 : Int32), rv b13, .val .null, .val .null, .unset, .unset] [(.ref b13), (.int (0 : Int32)), (.ref b120), (.ref b120)] _
        refine st129 _ ?_
        refine XS.dup X129.here hx rfl (hb hby at_326) rfl rfl ?_
        refine XS.iconst X129.here hx rfl (hb hby at_327) ?_
        refine XS.aload X129.here hx rfl (hb hby at_328) rfl rfl ?_
        show oS p e below T129 m 330 #[iv x1, iv x2, iv (0 : Int32), iv (2 : Int32), rv b1, rv b4, rv b7, rv b13, rv b20, iv (1 : Int32), iv (0 : Int32), iv (0 : Int32), rv b13, .val .null, .val .null, .unset, .unset] [.null, (.int (1 : Int32)), (.ref b120), (.ref b120)] _
        refine st131 _ ?_
        refine XS.dup X131.here hx rfl (hb hby at_331) rfl rfl ?_
        refine XS.iconst X131.here hx rfl (hb hby at_332) ?_
        refine XS.aload X131.here hx rfl (hb hby at_333) rfl rfl ?_
        show oS p e below T131 m 335 #[iv x1, iv x2, iv (0 : Int32), iv (2 : Int32), rv b1, rv b4, rv b7, rv b13, rv b20, iv (1 : Int32), iv (0 : Int32), iv (0 : Int32), rv b13, .val .null, .val .null, .unset, .unset] [.null, (.int (2 : Int32)), (.ref b120), (.ref b120)] _
        refine st133 _ ?_
        refine XS.astore X133.here hx rfl (hb hby at_336) rfl rfl (l' := #[iv x1, iv x2, iv (0 : Int32), iv (2 : Int32), rv b1, rv b4, rv b7, rv b13, rv b20, iv (1 : Int32), iv (0 : Int32), iv (0 : Int32), rv b13, .val .null, .val .null, rv b120, .unset]) rfl ?_
        refine XS.iload X133.here hx rfl (hb hby at_338) rfl ?_
        refine XS.iconst X133.here hx rfl (hb hby at_340) ?_
        refine XS.iadd X133.here hx rfl (hb hby at_341) rfl ?_
        show oS p e below T133 m 342 #[iv x1, iv x2, iv (0 : Int32), iv (2 : Int32), rv b1, rv b4, rv b7, rv b13, rv b20, iv (1 : Int32), iv (0 : Int32), iv (0 : Int32), rv b13, .val .null, .val .null, rv b120, .unset] [(.int (1 : Int32))] _
        refine XS.istore X133.here hx rfl (hb hby at_342) rfl (l' := #[iv x1, iv x2, iv (0 : Int32), iv (2 : Int32), rv b1, rv b4, rv b7, rv b13, rv b20, iv (1 : Int32), iv (0 : Int32), iv (0 : Int32), rv b13, .val .null, .val .null, rv b120, iv (1 : Int32)]) rfl ?_
        refine XS.aload X133.here hx rfl (hb hby at_344) rfl rfl ?_
        refine XS.aload X133.here hx rfl (hb hby at_346) rfl rfl ?_
        refine XS.aload X133.here hx rfl (hb hby at_348) rfl rfl ?_
        refine XS.iload X133.here hx rfl (hb hby at_350) rfl ?_
        refine X133.aaload hx (j := (0 : Int32)) (v := (.ref b13)) (by rw [e133]; exact Ar134.1) (State.isArrayOf_alike hZ.alike Ar134.2.1) rfl Ar134.2.2 hin134 hat134 (g := (mkF m 352 #[iv x1, iv x2, iv (0 : Int32), iv (2 : Int32), rv b1, rv b4, rv b7, rv b13, rv b20, iv (1 : Int32), iv (0 : Int32), iv (0 : Int32), rv b13, .val .null, .val .null, rv b120, iv (1 : Int32)] [(.int (0 : Int32)), (.ref b120), (.ref b13), (.ref b1)])) rfl rfl (hb hby at_352) _ ?_
        show oS p e below T133 m 353 #[iv x1, iv x2, iv (0 : Int32), iv (2 : Int32), rv b1, rv b4, rv b7, rv b13, rv b20, iv (1 : Int32), iv (0 : Int32), iv (0 : Int32), rv b13, .val .null, .val .null, rv b120, iv (1 : Int32)] [(.ref b13), (.ref b13), (.ref b1)] _
        refine st135 _ ?_
        refine XS.istore X135.here hx rfl (hb hby at_356) rfl (l' := #[iv x1, iv x2, iv (0 : Int32), iv (2 : Int32), rv b1, rv b4, rv b7, rv b13, rv b20, iv (1 : Int32), iv (0 : Int32), iv (0 : Int32), rv b13, .val .null, .val .null, rv b120, iv (1 : Int32)]) rfl ?_
        refine XS.iload X135.here hx rfl (hb hby at_358) rfl ?_
        refine XS.ifNo X135.here hx rfl (hb hby at_360) rfl ((if0 _ _).trans (feq (by decide : ¬ ((1 : Int32) = (0 : Int32)))).1) ?_
        refine XS.aload X135.here hx rfl (hb hby at_363) rfl rfl ?_
        refine XS.aload X135.here hx rfl (hb hby at_365) rfl rfl ?_
        refine XS.iload X135.here hx rfl (hb hby at_367) rfl ?_
        refine XS.iconst X135.here hx rfl (hb hby at_369) ?_
        show oS p e below T135 m 370 #[iv x1, iv x2, iv (0 : Int32), iv (2 : Int32), rv b1, rv b4, rv b7, rv b13, rv b20, iv (1 : Int32), iv (0 : Int32), iv (0 : Int32), rv b13, .val .null, .val .null, rv b120, iv (1 : Int32)] [(.int (0 : Int32)), (.int (1 : Int32)), (.ref b120), (.ref b1)] _
        refine st144 _ ?_
        refine XS.ifNo X144.here hx rfl (hb hby at_373) rfl ((if0 _ _).trans (feq (by decide : ¬ ((1 : Int32) = (0 : Int32)))).1) ?_
        refine XS.iconst X144.here hx rfl (hb hby at_376) ?_
        refine XS.goto X144.here hx rfl (pc0 := 377) (pc' := 381) rfl (hb hby at_377) (by decide) (by decide) ?_
        refine XS.istore X144.here hx rfl (hb hby at_381) rfl (l' := #[iv x1, iv x2, iv (0 : Int32), iv (2 : Int32), rv b1, rv b4, rv b7, rv b13, rv b20, iv (1 : Int32), iv (0 : Int32), iv (0 : Int32), rv b13, .val .null, .val .null, rv b120, iv (1 : Int32)]) rfl ?_
        refine XS.iload X144.here hx rfl (hb hby at_383) rfl ?_
        refine XS.ifNo X144.here hx rfl (hb hby at_385) rfl ((if0 _ _).trans (feq (by decide : ¬ ((1 : Int32) = (0 : Int32)))).1) ?_
        refine XS.aload X144.here hx rfl (hb hby at_388) rfl rfl ?_
        show oS p e below T144 m 390 #[iv x1, iv x2, iv (0 : Int32), iv (2 : Int32), rv b1, rv b4, rv b7, rv b13, rv b20, iv (1 : Int32), iv (0 : Int32), iv (0 : Int32), rv b13, .val .null, .val .null, rv b120, iv (1 : Int32)] [(.ref b1)] _
        refine XS.aload X144.here hx rfl (hb hby at_390) rfl rfl ?_
        refine XS.iload X144.here hx rfl (hb hby at_392) rfl ?_
        refine XS.iconst X144.here hx rfl (hb hby at_394) ?_
        show oS p e below T144 m 395 #[iv x1, iv x2, iv (0 : Int32), iv (2 : Int32), rv b1, rv b4, rv b7, rv b13, rv b20, iv (1 : Int32), iv (0 : Int32), iv (0 : Int32), rv b13, .val .null, .val .null, rv b120, iv (1 : Int32)] [(.int (1 : Int32)), (.int (1 : Int32)), (.ref b120), (.ref b1)] _
        refine st145 _ ?_
        refine XS.ifNo X145.here hx rfl (hb hby at_398) rfl ((if0 _ _).trans (feq (by decide : ¬ ((1 : Int32) = (0 : Int32)))).1) ?_
        refine XS.iconst X145.here hx rfl (hb hby at_401) ?_
        refine XS.goto X145.here hx rfl (pc0 := 402) (pc' := 406) rfl (hb hby at_402) (by decide) (by decide) ?_
        refine XS.istore X145.here hx rfl (hb hby at_406) rfl (l' := #[iv x1, iv x2, iv (0 : Int32), iv (2 : Int32), rv b1, rv b4, rv b7, rv b13, rv b20, iv (1 : Int32), iv (0 : Int32), iv (0 : Int32), rv b13, .val .null, .val .null, rv b120, iv (1 : Int32)]) rfl ?_
        refine XS.iload X145.here hx rfl (hb hby at_408) rfl ?_
        refine XS.ifNo X145.here hx rfl (hb hby at_410) rfl ((if0 _ _).trans (feq (by decide : ¬ ((1 : Int32) = (0 : Int32)))).1) ?_
        refine XS.iload X145.here hx rfl (hb hby at_413) rfl ?_
        show oS p e below T145 m 415 #[iv x1, iv x2, iv (0 : Int32), iv (2 : Int32), rv b1, rv b4, rv b7, rv b13, rv b20, iv (1 : Int32), iv (0 : Int32), iv (0 : Int32), rv b13, .val .null, .val .null, rv b120, iv (1 : Int32)] [(.int (0 : Int32))] _
        refine XS.iconst X145.here hx rfl (hb hby at_415) ?_
        refine XS.iadd X145.here hx rfl (hb hby at_416) rfl ?_
        show oS p e below T145 m 417 #[iv x1, iv x2, iv (0 : Int32), iv (2 : Int32), rv b1, rv b4, rv b7, rv b13, rv b20, iv (1 : Int32), iv (0 : Int32), iv (0 : Int32), rv b13, .val .null, .val .null, rv b120, iv (1 : Int32)] [(.int (1 : Int32))] _
        refine XS.iconst X145.here hx rfl (hb hby at_417) ?_
        refine XS.icmpYes X145.here hx rfl (pc0 := 418) (pc' := 434) rfl (hb hby at_418) rfl (tlt (by decide : ((1 : Int32) < (2 : Int32)))).1 (by decide) (by decide) ?_
        refine XS.iconst X145.here hx rfl (hb hby at_434) ?_
        refine XS.goto X145.here hx rfl (pc0 := 435) (pc' := 439) rfl (hb hby at_435) (by decide) (by decide) ?_
        refine XS.istore X145.here hx rfl (hb hby at_439) rfl (l' := #[iv x1, iv x2, iv (0 : Int32), iv (2 : Int32), rv b1, rv b4, rv b7, rv b13, rv b20, iv (1 : Int32), iv (0 : Int32), iv (0 : Int32), rv b13, .val .null, .val .null, rv b120, iv (1 : Int32)]) rfl ?_
        refine XS.iload X145.here hx rfl (hb hby at_441) rfl ?_
        refine XS.ifNo X145.here hx rfl (hb hby at_443) rfl ((if0 _ _).trans (feq (by decide : ¬ ((1 : Int32) = (0 : Int32)))).1) ?_
        refine XS.iload X145.here hx rfl (hb hby at_446) rfl ?_
        show oS p e below T145 m 448 #[iv x1, iv x2, iv (0 : Int32), iv (2 : Int32), rv b1, rv b4, rv b7, rv b13, rv b20, iv (1 : Int32), iv (0 : Int32), iv (0 : Int32), rv b13, .val .null, .val .null, rv b120, iv (1 : Int32)] [(.int (0 : Int32))] _
        refine XS.iconst X145.here hx rfl (hb hby at_448) ?_
        refine XS.iadd X145.here hx rfl (hb hby at_449) rfl ?_
        show oS p e below T145 m 450 #[iv x1, iv x2, iv (0 : Int32), iv (2 : Int32), rv b1, rv b4, rv b7, rv b13, rv b20, iv (1 : Int32), iv (0 : Int32), iv (0 : Int32), rv b13, .val .null, .val .null, rv b120, iv (1 : Int32)] [(.int (1 : Int32))] _
        refine XS.iconst X145.here hx rfl (hb hby at_450) ?_
        refine XS.icmpYes X145.here hx rfl (pc0 := 451) (pc' := 467) rfl (hb hby at_451) rfl (tlt (by decide : ((1 : Int32) < (3 : Int32)))).1 (by decide) (by decide) ?_
        refine XS.iconst X145.here hx rfl (hb hby at_467) ?_
        refine XS.goto X145.here hx rfl (pc0 := 468) (pc' := 472) rfl (hb hby at_468) (by decide) (by decide) ?_
        refine XS.istore X145.here hx rfl (hb hby at_472) rfl (l' := #[iv x1, iv x2, iv (0 : Int32), iv (2 : Int32), rv b1, rv b4, rv b7, rv b13, rv b20, iv (1 : Int32), iv (0 : Int32), iv (0 : Int32), rv b13, .val .null, .val .null, rv b120, iv (1 : Int32)]) rfl ?_
        refine XS.iload X145.here hx rfl (hb hby at_474) rfl ?_
        exact kt
      obtain ⟨fs, hr, hrun, hended, hW, hsame⟩ := X145.leave (v := some (.int (1 : Int32))) (fun h => by rw [Bd.returns] at h; cases h)
      refine ⟨_, _, pre0 _ (pre32 _ (pre38 _ (pre149 _ ?_))), hrun, hended, _, _, rfl, ?_, ⟨_, rfl⟩, hW, hsame.mono (by decide) (by decide)⟩
      · show oS p e below T145 m 476 #[iv x1, iv x2, iv (0 : Int32), iv (2 : Int32), rv b1, rv b4, rv b7, rv b13, rv b20, iv (1 : Int32), iv (0 : Int32), iv (0 : Int32), rv b13, .val .null, .val .null, rv b120, iv (1 : Int32)] [(.int (1 : Int32))] _
        exact retN X145 hx (t := .boolean) Bd.returns (by simp) (hb hby at_476) hr
      · show Q0 Z x1 x2 h0 n0 _ T145.heap _
        rw [eh145]
        exact ⟨rfl, N145⟩
    · subst hn
      obtain ⟨_, _, ⟨T150, Lw150, kw150, nw150⟩, -, X150, ⟨Lc150, hQ150, l150, y150, z150⟩, st150⟩ := Jvm.LawKit.callS X33 hx (y := (⟨oz4, "step", oz3⟩ : MethodName)) hown (mvT hZ (own_w hw 50 rfl)) (mvT hZ (own_w hw 51 rfl)) (mvT hZ (own_w hw 29 rfl)) (mvT hZ (own_w hw 52 rfl)) (by decide) (backOf (W := 0) (rmT2_0_0 l Z a0 hw [] b1 b20 b4 b7 kk20 h31 n0 Zc37 Ec34 Fc35 Fc36 Va31) hZ (own_w hw 52 rfl) (own_w hw 29 rfl) (by decide) (by decide)) (g := (mkF m 157 #[iv x1, iv x2, iv (0 : Int32), iv (3 : Int32), rv b1, rv b4, rv b7, rv b13, rv b20, iv (1 : Int32), .unset, .unset, .unset, .unset, .unset, .unset, .unset] [(.int (0 : Int32)), (.int (0 : Int32)), (.ref b20), (.ref b1)])) rfl (by rw [hml]; rfl) (argsL := [(.ref b1), (.ref b20), (.int (0 : Int32)), (.int (0 : Int32))]) (rest := []) (lenOf own_pd7 rfl) rfl (by show 2 * 0 + _ ≤ _; exact Nat.le_of_eq rfl) (hb hby at_157) (fun _ _ => ⟨rfl, eh33, (by decide : 5 + 0 ≤ _), (by decide : 34 + 0 ≤ _)⟩)
      dsimp only [Pt.U, Pt.locs, Pt.cells, Pt.slots] at X150 l150 y150 z150 st150 hQ150
      subst l150 y150 z150
      obtain ⟨rfl, Nq150, eh150⟩ := hQ150
      have N150 := Fr.app N33 Nq150
      obtain ⟨_, _, ⟨T151, Lw151, kw151, nw151⟩, -, X151, ⟨Lc151, hQ151, l151, y151, z151⟩, st151⟩ := Jvm.LawKit.callS X150 hx (y := (⟨oz4, "step", oz3⟩ : MethodName)) hown (mvT hZ (own_w hw 50 rfl)) (mvT hZ (own_w hw 51 rfl)) (mvT hZ (own_w hw 29 rfl)) (mvT hZ (own_w hw 52 rfl)) (by decide) (backOf (W := 0) (rmT2_0_1 l Z a0 hw [] b1 b20 b4 b7 kk20 h31 n0 Zc37 Ec34 Fc35 Fc36 Va31) hZ (own_w hw 52 rfl) (own_w hw 29 rfl) (by decide) (by decide)) (g := (mkF m 186 #[iv x1, iv x2, iv (0 : Int32), iv (3 : Int32), rv b1, rv b4, rv b7, rv b13, rv b20, iv (1 : Int32), .unset, .unset, .unset, .unset, .unset, .unset, .unset] [(.int (1 : Int32)), (.int (0 : Int32)), (.ref b20), (.ref b1)])) rfl (by rw [hml]; rfl) (argsL := [(.ref b1), (.ref b20), (.int (0 : Int32)), (.int (1 : Int32))]) (rest := []) (lenOf own_pd7 rfl) rfl (by show 2 * 0 + _ ≤ _; exact Nat.le_of_eq rfl) (hb hby at_186) (fun _ _ => ⟨rfl, eh150, (by decide : 5 + 0 ≤ _), (by decide : 34 + 0 ≤ _)⟩)
      dsimp only [Pt.U, Pt.locs, Pt.cells, Pt.slots] at X151 l151 y151 z151 st151 hQ151
      subst l151 y151 z151
      obtain ⟨rfl, Nq151, eh151⟩ := hQ151
      have N151 := Fr.app N150 Nq151
      obtain ⟨_, _, ⟨T152, Lw152, kw152, nw152⟩, -, X152, ⟨Lc152, hQ152, l152, y152, z152⟩, st152⟩ := Jvm.LawKit.callS X151 hx (y := (⟨oz4, "step", oz3⟩ : MethodName)) hown (mvT hZ (own_w hw 50 rfl)) (mvT hZ (own_w hw 51 rfl)) (mvT hZ (own_w hw 29 rfl)) (mvT hZ (own_w hw 52 rfl)) (by decide) (backOf (W := 0) (rmT2_0_2 l Z a0 hw [] b1 b20 b4 b7 kk20 h31 n0 Zc37 Ec34 Fc35 Fc36 Va31) hZ (own_w hw 52 rfl) (own_w hw 29 rfl) (by decide) (by decide)) (g := (mkF m 215 #[iv x1, iv x2, iv (0 : Int32), iv (3 : Int32), rv b1, rv b4, rv b7, rv b13, rv b20, iv (1 : Int32), .unset, .unset, .unset, .unset, .unset, .unset, .unset] [(.int (2 : Int32)), (.int (0 : Int32)), (.ref b20), (.ref b1)])) rfl (by rw [hml]; rfl) (argsL := [(.ref b1), (.ref b20), (.int (0 : Int32)), (.int (2 : Int32))]) (rest := []) (lenOf own_pd7 rfl) rfl (by show 2 * 0 + _ ≤ _; exact Nat.le_of_eq rfl) (hb hby at_215) (fun _ _ => ⟨rfl, eh151, (by decide : 5 + 0 ≤ _), (by decide : 34 + 0 ≤ _)⟩)
      dsimp only [Pt.U, Pt.locs, Pt.cells, Pt.slots] at X152 l152 y152 z152 st152 hQ152
      subst l152 y152 z152
      obtain ⟨rfl, Nq152, eh152⟩ := hQ152
      have N152 := Fr.app N151 Nq152
      obtain ⟨_, _, ⟨T153, Lw153, kw153, nw153⟩, -, X153, ⟨Lc153, hQ153, l153, y153, z153⟩, st153⟩ := Jvm.LawKit.callS X152 hx (y := (⟨"java/lang/Math", "min", "(II)I"⟩ : MethodName)) hown (mvT hZ (own_w hw 58 rfl)) (mvT hZ (own_w hw 59 rfl)) (mvT hZ (own_w hw 60 rfl)) (mvT hZ (own_w hw 61 rfl)) (by decide) (backOf (W := 0) (rm10 l Z a0 hw [] (3 : Int32) (0 : Int32) h31 n0 Zc37 ) hZ (own_w hw 61 rfl) (own_w hw 60 rfl) (by decide) (by decide)) (g := (mkF m 237 #[iv x1, iv x2, iv (0 : Int32), iv (3 : Int32), rv b1, rv b4, rv b7, rv b13, rv b20, iv (1 : Int32), .unset, .unset, .unset, .unset, .unset, .unset, .unset] [(.int (0 : Int32)), (.int (3 : Int32))])) rfl (by rw [hml]; rfl) (argsL := [(.int (3 : Int32)), (.int (0 : Int32))]) (rest := []) (lenOf own_pd6 rfl) rfl (by show 2 * 0 + _ ≤ _; exact Nat.le_of_eq rfl) (hb hby at_237) (fun _ _ => ⟨rfl, eh152, (by decide : 5 + 0 ≤ _), (by decide : 34 + 0 ≤ _)⟩)
      dsimp only [Pt.U, Pt.locs, Pt.cells, Pt.slots] at X153 l153 y153 z153 st153 hQ153
      subst l153 y153 z153
      obtain ⟨rfl, Nq153, eh153⟩ := hQ153
      have N153 := Fr.app N152 Nq153
      have Ec155 : Exa Z h31 b13 oz0 := (((Ec25.ext E20).wr W28).wr W31)
      have Fc156 : Fld Z h31 b13 oz0 "in" oz6 .null := (((pf18_0.ext E20).other W28 (Or.inl ne_b13_b20)).other W31 (Or.inl ne_b13_b20))
      have Fc157 : Fld Z h31 b13 oz0 "before" oz2 .null := (((pf18_1.ext E20).other W28 (Or.inl ne_b13_b20)).other W31 (Or.inl ne_b13_b20))
      have Fc158 : Fld Z h31 b13 oz0 "after" oz2 .null := (((pf18_2.ext E20).other W28 (Or.inl ne_b13_b20)).other W31 (Or.inl ne_b13_b20))
      obtain ⟨cq154, kq154, q154a, q154b, q154c⟩ := isOf hZ eh153 Ec34
      obtain ⟨_, _, ⟨T154, Lw154, kw154, nw154⟩, -, X154, ⟨Lc154, hQ154, l154, y154, z154⟩, st154⟩ := X153.virtualBack hx (y := (⟨oz1, "add", oz8⟩ : MethodName)) (z := (⟨oz1, "add", oz8⟩ : MethodName)) hown (mvT hZ (own_w hw 62 rfl)) (mvT hZ (own_w hw 63 rfl)) (notFace_of_selects (args := #[]) (mvT hZ (own_w hw 65 rfl))) (mvT hZ (own_w hw 65 rfl)) (mvT hZ (own_w hw 64 rfl)) (by decide) (backOf (W := 0) (rmA0 l Z a0 hw [] b1 b13 .null h31 n0 Zc37 Ec34 Ec155 g_b1 g_b13 Fc35 Fc36 Fc156 Fc157 Fc158) hZ (own_w hw 66 rfl) (own_w hw 3 rfl) (by decide) (by decide)) q154a q154c (g := (mkF m 252 #[iv x1, iv x2, iv (0 : Int32), iv (3 : Int32), rv b1, rv b4, rv b7, rv b13, rv b20, iv (1 : Int32), iv (0 : Int32), iv (0 : Int32), .unset, .unset, .unset, .unset, .unset] [(.ref b13), (.ref b1)])) rfl (by rw [hml]; rfl) (Steps.refl _) (argsL := [(.ref b13)]) (rest := []) (lenOf own_pd0 rfl) rfl (by show 2 * 0 + _ ≤ _; exact Nat.le_of_eq rfl) (hb hby at_252) (fun _ _ => ⟨rfl, eh153, (by decide : 5 + 0 ≤ _), (by decide : 34 + 0 ≤ _)⟩)
      dsimp only [Pt.U, Pt.locs, Pt.cells, Pt.slots] at X154 l154 y154 z154 st154 hQ154
      subst l154 y154 z154
      obtain ⟨rfl, Nq154, K154, pf154_0, pf154_1, pf154_2, pf154_3, pf154_4⟩ := hQ154
      have N154 := Fr.app N153 Nq154
      have Zc160 : n0 ≤ T154.heap.size := (Nat.le_trans Zc37 K154.1)
      have Ec161 : Exa Z T154.heap b1 oz1 := (Ec34.keep K154)
      have Ec162 : Exa Z T154.heap b4 oz0 := (((Ec26.wr W28).wr W31).keep K154)
      have Ec163 : Exa Z T154.heap b7 oz0 := ((Ec29.wr W31).keep K154)
      have Ec164 : Exa Z T154.heap b13 oz0 := (Ec155.keep K154)
      have Vc165 : Arv Z T154.heap b20 kk20 (.object oz0) (2 : Int32) [(.ref b4), (.ref b7)] .null := (Va31.keep K154 (ninS (Ne.symm ne_b1_b20) (ninS (Ne.symm ne_b13_b20) nin0)))
      obtain ⟨T159, h159, kk159, X159, e159, E159, A159, O159, st159⟩ := newR X154 hx hZ hown (own_w hw 10 rfl) (own_w hw 25 rfl) rfl (g := (mkF m 318 #[iv x1, iv x2, iv (0 : Int32), iv (3 : Int32), rv b1, rv b4, rv b7, rv b13, rv b20, iv (1 : Int32), iv (0 : Int32), iv (0 : Int32), rv b13, .val .null, .val .null, .unset, .unset] [(.int (3 : Int32))])) rfl (hb hby at_318) rfl (by decide) (cap := 3) (by decide) (by decide) (by decide) (by decide)
      obtain ⟨b159, g159⟩ : ∃ z, z = T154.heap.size := ⟨_, rfl⟩
      rw [← g159] at A159 st159
      have g_b159 : n0 ≤ b159 := Nat.le_trans Zc160 (Nat.le_of_eq g159.symm)
      have ne_b1_b159 : b1 ≠ b159 := Nat.ne_of_lt (Nat.lt_of_lt_of_le Ec161.lt (Nat.le_of_eq g159.symm))
      have ne_b4_b159 : b4 ≠ b159 := Nat.ne_of_lt (Nat.lt_of_lt_of_le Ec162.lt (Nat.le_of_eq g159.symm))
      have ne_b7_b159 : b7 ≠ b159 := Nat.ne_of_lt (Nat.lt_of_lt_of_le Ec163.lt (Nat.le_of_eq g159.symm))
      have ne_b13_b159 : b13 ≠ b159 := Nat.ne_of_lt (Nat.lt_of_lt_of_le Ec164.lt (Nat.le_of_eq g159.symm))
      have ne_b20_b159 : b20 ≠ b159 := Nat.ne_of_lt (Nat.lt_of_lt_of_le Vc165.lt (Nat.le_of_eq g159.symm))
      have V_b159 : Arv Z h159 b159 kk159 (.object oz0) (3 : Int32) [.null, .null, .null] .null := (Arv.new A159 (by decide)).pad (pad_rep [] .null 3)
      have Ec166 : Exa Z h159 b13 oz0 := (Ec164.ext E159)
      obtain ⟨cl167, Ar167, qk167, Sz167, Ng167, Hs167, Gt167⟩ := id V_b159
      have hin167 : ¬ ((0 : Int32) < 0 ∨ cl167.slots.size ≤ ((0 : Int32)).toNatClampNeg) := inb_of Sz167 ⟨by decide, by decide⟩
      obtain ⟨T168, h168, X168, e168, W168, st168⟩ := stR X159 hx hZ e159 Ar167 (j := (0 : Int32)) hin167 rfl (Sto.ofV Ar167 qk167 O159 (Ins.self Ec166)) (g := (mkF m 325 #[iv x1, iv x2, iv (0 : Int32), iv (3 : Int32), rv b1, rv b4, rv b7, rv b13, rv b20, iv (1 : Int32), iv (0 : Int32), iv (0 : Int32), rv b13, .val .null, .val .null, .unset, .unset] [(.ref b13), (.int (0 : Int32)), (.ref b159), (.ref b159)])) rfl rfl (hb hby at_325)
      have Va168 : Arv Z h168 b159 kk159 (.object oz0) (3 : Int32) [(.ref b13), .null, .null] .null := Arv.set Ar167 qk167 Sz167 Ng167 Hs167 Gt167 rfl W168 0 rfl (Nat.le_of_ble_eq_true rfl)
      have N168 := Fr.snoc X168 N154 g_b159
      obtain ⟨cl169, Ar169, qk169, Sz169, Ng169, Hs169, Gt169⟩ := id Va168
      have hin169 : ¬ ((1 : Int32) < 0 ∨ cl169.slots.size ≤ ((1 : Int32)).toNatClampNeg) := inb_of Sz169 ⟨by decide, by decide⟩
      obtain ⟨T170, h170, X170, e170, W170, st170⟩ := stR X168 hx hZ e168 Ar169 (j := (1 : Int32)) hin169 rfl (Or.inl rfl) (g := (mkF m 330 #[iv x1, iv x2, iv (0 : Int32), iv (3 : Int32), rv b1, rv b4, rv b7, rv b13, rv b20, iv (1 : Int32), iv (0 : Int32), iv (0 : Int32), rv b13, .val .null, .val .null, .unset, .unset] [.null, (.int (1 : Int32)), (.ref b159), (.ref b159)])) rfl rfl (hb hby at_330)
      have Va170 : Arv Z h170 b159 kk159 (.object oz0) (3 : Int32) [(.ref b13), .null, .null] .null := Arv.set Ar169 qk169 Sz169 Ng169 Hs169 Gt169 rfl W170 1 rfl (Nat.le_of_ble_eq_true rfl)
      have N170 := Fr.snoc X170 N168 g_b159
      obtain ⟨cl171, Ar171, qk171, Sz171, Ng171, Hs171, Gt171⟩ := id Va170
      have hin171 : ¬ ((2 : Int32) < 0 ∨ cl171.slots.size ≤ ((2 : Int32)).toNatClampNeg) := inb_of Sz171 ⟨by decide, by decide⟩
      obtain ⟨T172, h172, X172, e172, W172, st172⟩ := stR X170 hx hZ e170 Ar171 (j := (2 : Int32)) hin171 rfl (Or.inl rfl) (g := (mkF m 335 #[iv x1, iv x2, iv (0 : Int32), iv (3 : Int32), rv b1, rv b4, rv b7, rv b13, rv b20, iv (1 : Int32), iv (0 : Int32), iv (0 : Int32), rv b13, .val .null, .val .null, .unset, .unset] [.null, (.int (2 : Int32)), (.ref b159), (.ref b159)])) rfl rfl (hb hby at_335)
      have Va172 : Arv Z h172 b159 kk159 (.object oz0) (3 : Int32) [(.ref b13), .null, .null] .null := Arv.set Ar171 qk171 Sz171 Ng171 Hs171 Gt171 rfl W172 2 rfl (Nat.le_of_ble_eq_true rfl)
      have N172 := Fr.snoc X172 N170 g_b159
      obtain ⟨cl173, Ar173, qk173, Sz173, Ng173, Hs173, Gt173⟩ := id Va172
      have hin173 : ¬ ((0 : Int32) < 0 ∨ cl173.slots.size ≤ ((0 : Int32)).toNatClampNeg) := inb_of Sz173 ⟨by decide, by decide⟩
      have hat173 : cl173.slots[((0 : Int32)).toNatClampNeg]? = some (.ref b13) := Hs173.at hin173 rfl
      have Ec175 : Exa Z h172 b1 oz1 := ((((Ec161.ext E159).wr W168).wr W170).wr W172)
      have Ec176 : Exa Z h172 b13 oz0 := (((Ec166.wr W168).wr W170).wr W172)
      have Fc177 : Fld Z h172 b1 oz1 "first" oz2 (.ref b13) := ((((pf154_0.ext E159).other W168 (Or.inl ne_b1_b159)).other W170 (Or.inl ne_b1_b159)).other W172 (Or.inl ne_b1_b159))
      have Fc178 : Fld Z h172 b1 oz1 "last" oz2 (.ref b13) := ((((pf154_1.ext E159).other W168 (Or.inl ne_b1_b159)).other W170 (Or.inl ne_b1_b159)).other W172 (Or.inl ne_b1_b159))
      have Fc179 : Fld Z h172 b13 oz0 "in" oz6 (.ref b1) := ((((pf154_2.ext E159).other W168 (Or.inl ne_b13_b159)).other W170 (Or.inl ne_b13_b159)).other W172 (Or.inl ne_b13_b159))
      have Fc180 : Fld Z h172 b13 oz0 "before" oz2 .null := ((((pf154_3.ext E159).other W168 (Or.inl ne_b13_b159)).other W170 (Or.inl ne_b13_b159)).other W172 (Or.inl ne_b13_b159))
      have Fc181 : Fld Z h172 b13 oz0 "after" oz2 .null := ((((pf154_4.ext E159).other W168 (Or.inl ne_b13_b159)).other W170 (Or.inl ne_b13_b159)).other W172 (Or.inl ne_b13_b159))
      have Zc182 : n0 ≤ h172.size := (Nat.le_trans (Nat.le_trans (Nat.le_trans (Nat.le_trans Zc160 E159.1) (Keep.of_wr W168).1) (Keep.of_wr W170).1) (Keep.of_wr W172).1)
      obtain ⟨_, _, ⟨T174, Lw174, kw174, nw174⟩, -, X174, ⟨Lc174, hQ174, l174, y174, z174⟩, st174⟩ := Jvm.LawKit.callS X172 hx (y := (⟨oz4, "state", oz5⟩ : MethodName)) hown (mvT hZ (own_w hw 27 rfl)) (mvT hZ (own_w hw 28 rfl)) (mvT hZ (own_w hw 29 rfl)) (mvT hZ (own_w hw 30 rfl)) (by decide) (backOf (W := 0) (rmS1 l Z a0 hw [] b1 b13 h172 n0 Zc182 Ec175 Ec176 Fc177 Fc178 Fc179 Fc180 Fc181) hZ (own_w hw 30 rfl) (own_w hw 29 rfl) (by decide) (by decide)) (g := (mkF m 353 #[iv x1, iv x2, iv (0 : Int32), iv (3 : Int32), rv b1, rv b4, rv b7, rv b13, rv b20, iv (1 : Int32), iv (0 : Int32), iv (0 : Int32), rv b13, .val .null, .val .null, rv b159, iv (1 : Int32)] [(.ref b13), (.ref b13), (.ref b1)])) rfl (by rw [hml]; rfl) (argsL := [(.ref b1), (.ref b13), (.ref b13)]) (rest := []) (lenOf own_pd5 rfl) rfl (by show 2 * 0 + _ ≤ _; exact Nat.le_of_eq rfl) (hb hby at_353) (fun _ _ => ⟨rfl, e172, (by decide : 6 + 0 ≤ _), (by decide : 37 + 0 ≤ _)⟩)
      dsimp only [Pt.U, Pt.locs, Pt.cells, Pt.slots] at X174 l174 y174 z174 st174 hQ174
      subst l174 y174 z174
      obtain ⟨rfl, Nq174, eh174⟩ := hQ174
      have N174 := Fr.app N172 Nq174
      obtain ⟨_, _, ⟨T183, Lw183, kw183, nw183⟩, -, X183, ⟨Lc183, hQ183, l183, y183, z183⟩, st183⟩ := Jvm.LawKit.callS X174 hx (y := (⟨oz4, "step", oz3⟩ : MethodName)) hown (mvT hZ (own_w hw 50 rfl)) (mvT hZ (own_w hw 51 rfl)) (mvT hZ (own_w hw 29 rfl)) (mvT hZ (own_w hw 52 rfl)) (by decide) (backOf (W := 0) (rmT3_1_0 l Z a0 hw [] b1 b159 b13 kk159 h172 n0 Zc182 Ec175 Ec176 g_b1 g_b13 Fc177 Fc178 Fc179 Fc180 Fc181 Va172) hZ (own_w hw 52 rfl) (own_w hw 29 rfl) (by decide) (by decide)) (g := (mkF m 370 #[iv x1, iv x2, iv (0 : Int32), iv (3 : Int32), rv b1, rv b4, rv b7, rv b13, rv b20, iv (1 : Int32), iv (0 : Int32), iv (0 : Int32), rv b13, .val .null, .val .null, rv b159, iv (1 : Int32)] [(.int (0 : Int32)), (.int (1 : Int32)), (.ref b159), (.ref b1)])) rfl (by rw [hml]; rfl) (argsL := [(.ref b1), (.ref b159), (.int (1 : Int32)), (.int (0 : Int32))]) (rest := []) (lenOf own_pd7 rfl) rfl (by show 2 * 0 + _ ≤ _; exact Nat.le_of_eq rfl) (hb hby at_370) (fun _ _ => ⟨rfl, eh174, (by decide : 6 + 0 ≤ _), (by decide : 37 + 0 ≤ _)⟩)
      dsimp only [Pt.U, Pt.locs, Pt.cells, Pt.slots] at X183 l183 y183 z183 st183 hQ183
      subst l183 y183 z183
      obtain ⟨rfl, Nq183, K183, pf183_0, pf183_1, pf183_2, pf183_3, pf183_4⟩ := hQ183
      have N183 := Fr.app N174 Nq183
      have Ec185 : Exa Z T183.heap b1 oz1 := (Ec175.keep K183)
      have Vc186 : Arv Z T183.heap b159 kk159 (.object oz0) (3 : Int32) [(.ref b13), .null, .null] .null := (Va172.keep K183 (ninS (Ne.symm ne_b1_b159) (ninS (Ne.symm ne_b13_b159) nin0)))
      have Zc187 : n0 ≤ T183.heap.size := (Nat.le_trans Zc182 K183.1)
      obtain ⟨_, _, ⟨T184, Lw184, kw184, nw184⟩, -, X184, ⟨Lc184, hQ184, l184, y184, z184⟩, st184⟩ := Jvm.LawKit.callS X183 hx (y := (⟨oz4, "step", oz3⟩ : MethodName)) hown (mvT hZ (own_w hw 50 rfl)) (mvT hZ (own_w hw 51 rfl)) (mvT hZ (own_w hw 29 rfl)) (mvT hZ (own_w hw 52 rfl)) (by decide) (backOf (W := 0) (rmT3_1_1 l Z a0 hw [] b1 b159 b13 kk159 T183.heap n0 Zc187 Ec185 pf183_0 pf183_1 Vc186) hZ (own_w hw 52 rfl) (own_w hw 29 rfl) (by decide) (by decide)) (g := (mkF m 395 #[iv x1, iv x2, iv (0 : Int32), iv (3 : Int32), rv b1, rv b4, rv b7, rv b13, rv b20, iv (1 : Int32), iv (0 : Int32), iv (0 : Int32), rv b13, .val .null, .val .null, rv b159, iv (1 : Int32)] [(.int (1 : Int32)), (.int (1 : Int32)), (.ref b159), (.ref b1)])) rfl (by rw [hml]; rfl) (argsL := [(.ref b1), (.ref b159), (.int (1 : Int32)), (.int (1 : Int32))]) (rest := []) (lenOf own_pd7 rfl) rfl (by show 2 * 0 + _ ≤ _; exact Nat.le_of_eq rfl) (hb hby at_395) (fun _ _ => ⟨rfl, rfl, (by decide : 6 + 0 ≤ _), (by decide : 37 + 0 ≤ _)⟩)
      dsimp only [Pt.U, Pt.locs, Pt.cells, Pt.slots] at X184 l184 y184 z184 st184 hQ184
      subst l184 y184 z184
      obtain ⟨rfl, Nq184, eh184⟩ := hQ184
      have N184 := Fr.app N183 Nq184
      have pre188 : ∀ tz, oS p e below T184 m 476 #[iv x1, iv x2, iv (0 : Int32), iv (3 : Int32), rv b1, rv b4, rv b7, rv b13, rv b20, iv (1 : Int32), iv (0 : Int32), iv (0 : Int32), rv b13, .val .null, .val .null, rv b159, iv (1 : Int32)] [(.int (1 : Int32))] tz → oS p e below T33 m 146 #[iv x1, iv x2, iv (0 : Int32), iv (3 : Int32), rv b1, rv b4, rv b7, rv b13, rv b20, iv (1 : Int32), .unset, .unset, .unset, .unset, .unset, .unset, .unset] [] tz := fun tz kt => by
        show oS p e below T33 m 146 #[iv x1, iv x2, iv (0 : Int32), iv (3 : Int32), rv b1, rv b4, rv b7, rv b13, rv b20, iv (1 : Int32), .unset, .unset, .unset, .unset, .unset, .unset, .unset] [] _
        refine XS.iloadN X33.here hx rfl (hb hby at_146) rfl ?_
        refine XS.iconst X33.here hx rfl (hb hby at_147) ?_
        refine XS.icmpNo X33.here hx rfl (hb hby at_148) rfl (flt (by decide : ¬ ((3 : Int32) < (1 : Int32)))).1 ?_
        refine XS.aload X33.here hx rfl (hb hby at_151) rfl rfl ?_
        refine XS.aload X33.here hx rfl (hb hby at_153) rfl rfl ?_
        refine XS.iloadN X33.here hx rfl (hb hby at_155) rfl ?_
        refine XS.iconst X33.here hx rfl (hb hby at_156) ?_
        show oS p e below T33 m 157 #[iv x1, iv x2, iv (0 : Int32), iv (3 : Int32), rv b1, rv b4, rv b7, rv b13, rv b20, iv (1 : Int32), .unset, .unset, .unset, .unset, .unset, .unset, .unset] [(.int (0 : Int32)), (.int (0 : Int32)), (.ref b20), (.ref b1)] _
        refine st150 _ ?_
        refine XS.ifNo X150.here hx rfl (hb hby at_160) rfl ((if0 _ _).trans (feq (by decide : ¬ ((1 : Int32) = (0 : Int32)))).1) ?_
        refine XS.iconst X150.here hx rfl (hb hby at_163) ?_
        refine XS.goto X150.here hx rfl (pc0 := 164) (pc' := 168) rfl (hb hby at_164) (by decide) (by decide) ?_
        refine XS.istore X150.here hx rfl (hb hby at_168) rfl (l' := #[iv x1, iv x2, iv (0 : Int32), iv (3 : Int32), rv b1, rv b4, rv b7, rv b13, rv b20, iv (1 : Int32), .unset, .unset, .unset, .unset, .unset, .unset, .unset]) rfl ?_
        refine XS.iload X150.here hx rfl (hb hby at_170) rfl ?_
        refine XS.ifNo X150.here hx rfl (hb hby at_172) rfl ((if0 _ _).trans (feq (by decide : ¬ ((1 : Int32) = (0 : Int32)))).1) ?_
        refine XS.iloadN X150.here hx rfl (hb hby at_175) rfl ?_
        show oS p e below T150 m 176 #[iv x1, iv x2, iv (0 : Int32), iv (3 : Int32), rv b1, rv b4, rv b7, rv b13, rv b20, iv (1 : Int32), .unset, .unset, .unset, .unset, .unset, .unset, .unset] [(.int (3 : Int32))] _
        refine XS.iconst X150.here hx rfl (hb hby at_176) ?_
        refine XS.icmpNo X150.here hx rfl (hb hby at_177) rfl (flt (by decide : ¬ ((3 : Int32) < (2 : Int32)))).1 ?_
        refine XS.aload X150.here hx rfl (hb hby at_180) rfl rfl ?_
        refine XS.aload X150.here hx rfl (hb hby at_182) rfl rfl ?_
        refine XS.iloadN X150.here hx rfl (hb hby at_184) rfl ?_
        refine XS.iconst X150.here hx rfl (hb hby at_185) ?_
        show oS p e below T150 m 186 #[iv x1, iv x2, iv (0 : Int32), iv (3 : Int32), rv b1, rv b4, rv b7, rv b13, rv b20, iv (1 : Int32), .unset, .unset, .unset, .unset, .unset, .unset, .unset] [(.int (1 : Int32)), (.int (0 : Int32)), (.ref b20), (.ref b1)] _
        refine st151 _ ?_
        refine XS.ifNo X151.here hx rfl (hb hby at_189) rfl ((if0 _ _).trans (feq (by decide : ¬ ((1 : Int32) = (0 : Int32)))).1) ?_
        refine XS.iconst X151.here hx rfl (hb hby at_192) ?_
        refine XS.goto X151.here hx rfl (pc0 := 193) (pc' := 197) rfl (hb hby at_193) (by decide) (by decide) ?_
        refine XS.istore X151.here hx rfl (hb hby at_197) rfl (l' := #[iv x1, iv x2, iv (0 : Int32), iv (3 : Int32), rv b1, rv b4, rv b7, rv b13, rv b20, iv (1 : Int32), .unset, .unset, .unset, .unset, .unset, .unset, .unset]) rfl ?_
        refine XS.iload X151.here hx rfl (hb hby at_199) rfl ?_
        refine XS.ifNo X151.here hx rfl (hb hby at_201) rfl ((if0 _ _).trans (feq (by decide : ¬ ((1 : Int32) = (0 : Int32)))).1) ?_
        refine XS.iloadN X151.here hx rfl (hb hby at_204) rfl ?_
        show oS p e below T151 m 205 #[iv x1, iv x2, iv (0 : Int32), iv (3 : Int32), rv b1, rv b4, rv b7, rv b13, rv b20, iv (1 : Int32), .unset, .unset, .unset, .unset, .unset, .unset, .unset] [(.int (3 : Int32))] _
        refine XS.iconst X151.here hx rfl (hb hby at_205) ?_
        refine XS.icmpNo X151.here hx rfl (hb hby at_206) rfl (flt (by decide : ¬ ((3 : Int32) < (3 : Int32)))).1 ?_
        refine XS.aload X151.here hx rfl (hb hby at_209) rfl rfl ?_
        refine XS.aload X151.here hx rfl (hb hby at_211) rfl rfl ?_
        refine XS.iloadN X151.here hx rfl (hb hby at_213) rfl ?_
        refine XS.iconst X151.here hx rfl (hb hby at_214) ?_
        show oS p e below T151 m 215 #[iv x1, iv x2, iv (0 : Int32), iv (3 : Int32), rv b1, rv b4, rv b7, rv b13, rv b20, iv (1 : Int32), .unset, .unset, .unset, .unset, .unset, .unset, .unset] [(.int (2 : Int32)), (.int (0 : Int32)), (.ref b20), (.ref b1)] _
        refine st152 _ ?_
        refine XS.ifNo X152.here hx rfl (hb hby at_218) rfl ((if0 _ _).trans (feq (by decide : ¬ ((1 : Int32) = (0 : Int32)))).1) ?_
        refine XS.iconst X152.here hx rfl (hb hby at_221) ?_
        refine XS.goto X152.here hx rfl (pc0 := 222) (pc' := 226) rfl (hb hby at_222) (by decide) (by decide) ?_
        refine XS.istore X152.here hx rfl (hb hby at_226) rfl (l' := #[iv x1, iv x2, iv (0 : Int32), iv (3 : Int32), rv b1, rv b4, rv b7, rv b13, rv b20, iv (1 : Int32), .unset, .unset, .unset, .unset, .unset, .unset, .unset]) rfl ?_
        refine XS.iload X152.here hx rfl (hb hby at_228) rfl ?_
        refine XS.ifYes X152.here hx rfl (pc0 := 230) (pc' := 235) rfl (hb hby at_230) rfl ((if0 _ _).trans (feq (by decide : ¬ ((1 : Int32) = (0 : Int32)))).2) (by decide) (by decide) ?_
        refine XS.iloadN X152.here hx rfl (hb hby at_235) rfl ?_
        show oS p e below T152 m 236 #[iv x1, iv x2, iv (0 : Int32), iv (3 : Int32), rv b1, rv b4, rv b7, rv b13, rv b20, iv (1 : Int32), .unset, .unset, .unset, .unset, .unset, .unset, .unset] [(.int (3 : Int32))] _
        refine XS.iloadN X152.here hx rfl (hb hby at_236) rfl ?_
        show oS p e below T152 m 237 #[iv x1, iv x2, iv (0 : Int32), iv (3 : Int32), rv b1, rv b4, rv b7, rv b13, rv b20, iv (1 : Int32), .unset, .unset, .unset, .unset, .unset, .unset, .unset] [(.int (0 : Int32)), (.int (3 : Int32))] _
        refine st153 _ ?_
        rw [((if_pos (by decide : (0 : Int32) < (3 : Int32))) : (if (0 : Int32) < (3 : Int32) then (0 : Int32) else (3 : Int32)) = (0 : Int32))]
        show oS p e below T153 m 240 #[iv x1, iv x2, iv (0 : Int32), iv (3 : Int32), rv b1, rv b4, rv b7, rv b13, rv b20, iv (1 : Int32), .unset, .unset, .unset, .unset, .unset, .unset, .unset] [(.int (0 : Int32))] _
        refine XS.istore X153.here hx rfl (hb hby at_240) rfl (l' := #[iv x1, iv x2, iv (0 : Int32), iv (3 : Int32), rv b1, rv b4, rv b7, rv b13, rv b20, iv (1 : Int32), iv (0 : Int32), .unset, .unset, .unset, .unset, .unset, .unset]) rfl ?_
        refine XS.iloadN X153.here hx rfl (hb hby at_242) rfl ?_
        refine XS.iload X153.here hx rfl (hb hby at_243) rfl ?_
        refine XS.isub X153.here hx rfl (hb hby at_245) rfl ?_
        show oS p e below T153 m 246 #[iv x1, iv x2, iv (0 : Int32), iv (3 : Int32), rv b1, rv b4, rv b7, rv b13, rv b20, iv (1 : Int32), iv (0 : Int32), .unset, .unset, .unset, .unset, .unset, .unset] [(.int (0 : Int32))] _
        refine XS.istore X153.here hx rfl (hb hby at_246) rfl (l' := #[iv x1, iv x2, iv (0 : Int32), iv (3 : Int32), rv b1, rv b4, rv b7, rv b13, rv b20, iv (1 : Int32), iv (0 : Int32), iv (0 : Int32), .unset, .unset, .unset, .unset, .unset]) rfl ?_
        refine XS.aload X153.here hx rfl (hb hby at_248) rfl rfl ?_
        refine XS.aload X153.here hx rfl (hb hby at_250) rfl rfl ?_
        show oS p e below T153 m 252 #[iv x1, iv x2, iv (0 : Int32), iv (3 : Int32), rv b1, rv b4, rv b7, rv b13, rv b20, iv (1 : Int32), iv (0 : Int32), iv (0 : Int32), .unset, .unset, .unset, .unset, .unset] [(.ref b13), (.ref b1)] _
        refine st154.trans ?_
        refine XS.iload X154.here hx rfl (hb hby at_255) rfl ?_
        refine XS.iconst X154.here hx rfl (hb hby at_257) ?_
        refine XS.icmpYes X154.here hx rfl (pc0 := 258) (pc' := 269) rfl (hb hby at_258) rfl (tlt (by decide : ((0 : Int32) < (1 : Int32)))).1 (by decide) (by decide) ?_
        refine XS.aload X154.here hx rfl (hb hby at_269) rfl rfl ?_
        refine XS.astore X154.here hx rfl (hb hby at_271) rfl rfl (l' := #[iv x1, iv x2, iv (0 : Int32), iv (3 : Int32), rv b1, rv b4, rv b7, rv b13, rv b20, iv (1 : Int32), iv (0 : Int32), iv (0 : Int32), rv b13, .unset, .unset, .unset, .unset]) rfl ?_
        refine XS.iload X154.here hx rfl (hb hby at_273) rfl ?_
        refine XS.iconst X154.here hx rfl (hb hby at_275) ?_
        show oS p e below T154 m 276 #[iv x1, iv x2, iv (0 : Int32), iv (3 : Int32), rv b1, rv b4, rv b7, rv b13, rv b20, iv (1 : Int32), iv (0 : Int32), iv (0 : Int32), rv b13, .unset, .unset, .unset, .unset] [(.int (2 : Int32)), (.int (0 : Int32))] _
        refine XS.icmpYes X154.here hx rfl (pc0 := 276) (pc' := 289) rfl (hb hby at_276) rfl (tlt (by decide : ((0 : Int32) < (2 : Int32)))).1 (by decide) (by decide) ?_
        refine XS.iload X154.here hx rfl (hb hby at_289) rfl ?_
        refine XS.iconst X154.here hx rfl (hb hby at_291) ?_
        refine XS.icmpYes X154.here hx rfl (pc0 := 292) (pc' := 300) rfl (hb hby at_292) rfl (feq (by decide : ¬ ((0 : Int32) = (1 : Int32)))).2 (by decide) (by decide) ?_
        refine XS.aconstNull X154.here hx rfl (hb hby at_300) ?_
        refine XS.astore X154.here hx rfl (hb hby at_301) rfl rfl (l' := #[iv x1, iv x2, iv (0 : Int32), iv (3 : Int32), rv b1, rv b4, rv b7, rv b13, rv b20, iv (1 : Int32), iv (0 : Int32), iv (0 : Int32), rv b13, .val .null, .unset, .unset, .unset]) rfl ?_
        refine XS.iload X154.here hx rfl (hb hby at_303) rfl ?_
        refine XS.iconst X154.here hx rfl (hb hby at_305) ?_
        show oS p e below T154 m 306 #[iv x1, iv x2, iv (0 : Int32), iv (3 : Int32), rv b1, rv b4, rv b7, rv b13, rv b20, iv (1 : Int32), iv (0 : Int32), iv (0 : Int32), rv b13, .val .null, .unset, .unset, .unset] [(.int (2 : Int32)), (.int (0 : Int32))] _
        refine XS.icmpYes X154.here hx rfl (pc0 := 306) (pc' := 314) rfl (hb hby at_306) rfl (feq (by decide : ¬ ((0 : Int32) = (2 : Int32)))).2 (by decide) (by decide) ?_
        refine XS.aconstNull X154.here hx rfl (hb hby at_314) ?_
        refine XS.astore X154.here hx rfl (hb hby at_315) rfl rfl (l' := #[iv x1, iv x2, iv (0 : Int32), iv (3 : Int32), rv b1, rv b4, rv b7, rv b13, rv b20, iv (1 : Int32), iv (0 : Int32), iv (0 : Int32), rv b13, .val .null, .val .null, .unset, .unset]) rfl ?_
        refine XS.iconst X154.here hx rfl (hb hby at_317) ?_
        show oS p e below T154 m 318 #[iv x1, iv x2, iv (0 : Int32), iv (3 : Int32), rv b1, rv b4, rv b7, rv b13, rv b20, iv (1 : Int32), iv (0 : Int32), iv (0 : Int32), rv b13, .val .null, .val .null, .unset, .unset] [(.int (3 : Int32))] _
        refine st159 _ ?_
        refine XS.dup X159.here hx rfl (hb hby at_321) rfl rfl ?_
        refine XS.iconst X159.here hx rfl (hb hby at_322) ?_
        refine XS.aload X159.here hx rfl (hb hby at_323) rfl rfl ?_
        show oS p e below T159 m 325 #[iv x1, iv x2, iv (0 : Int32), iv (3 : Int32), rv b1, rv b4, rv b7, rv b13, rv b20, iv (1 : Int32), iv (0 : Int32), iv (0 : Int32), rv b13, .val .null, .val .null, .unset, .unset] [(.ref b13), (.int (0 : Int32)), (.ref b159), (.ref b159)] _
        refine st168 _ ?_
        refine XS.dup X168.here hx rfl (hb hby at_326) rfl rfl ?_
        refine XS.iconst X168.here hx rfl (hb hby at_327) ?_
        refine XS.aload X168.here hx rfl (hb hby at_328) rfl rfl ?_
        show oS p e below T168 m 330 #[iv x1, iv x2, iv (0 : Int32), iv (3 : Int32), rv b1, rv b4, rv b7, rv b13, rv b20, iv (1 : Int32), iv (0 : Int32), iv (0 : Int32), rv b13, .val .null, .val .null, .unset, .unset] [.null, (.int (1 : Int32)), (.ref b159), (.ref b159)] _
        refine st170 _ ?_
        refine XS.dup X170.here hx rfl (hb hby at_331) rfl rfl ?_
        refine XS.iconst X170.here hx rfl (hb hby at_332) ?_
        refine XS.aload X170.here hx rfl (hb hby at_333) rfl rfl ?_
        show oS p e below T170 m 335 #[iv x1, iv x2, iv (0 : Int32), iv (3 : Int32), rv b1, rv b4, rv b7, rv b13, rv b20, iv (1 : Int32), iv (0 : Int32), iv (0 : Int32), rv b13, .val .null, .val .null, .unset, .unset] [.null, (.int (2 : Int32)), (.ref b159), (.ref b159)] _
        refine st172 _ ?_
        refine XS.astore X172.here hx rfl (hb hby at_336) rfl rfl (l' := #[iv x1, iv x2, iv (0 : Int32), iv (3 : Int32), rv b1, rv b4, rv b7, rv b13, rv b20, iv (1 : Int32), iv (0 : Int32), iv (0 : Int32), rv b13, .val .null, .val .null, rv b159, .unset]) rfl ?_
        refine XS.iload X172.here hx rfl (hb hby at_338) rfl ?_
        refine XS.iconst X172.here hx rfl (hb hby at_340) ?_
        refine XS.iadd X172.here hx rfl (hb hby at_341) rfl ?_
        show oS p e below T172 m 342 #[iv x1, iv x2, iv (0 : Int32), iv (3 : Int32), rv b1, rv b4, rv b7, rv b13, rv b20, iv (1 : Int32), iv (0 : Int32), iv (0 : Int32), rv b13, .val .null, .val .null, rv b159, .unset] [(.int (1 : Int32))] _
        refine XS.istore X172.here hx rfl (hb hby at_342) rfl (l' := #[iv x1, iv x2, iv (0 : Int32), iv (3 : Int32), rv b1, rv b4, rv b7, rv b13, rv b20, iv (1 : Int32), iv (0 : Int32), iv (0 : Int32), rv b13, .val .null, .val .null, rv b159, iv (1 : Int32)]) rfl ?_
        refine XS.aload X172.here hx rfl (hb hby at_344) rfl rfl ?_
        refine XS.aload X172.here hx rfl (hb hby at_346) rfl rfl ?_
        refine XS.aload X172.here hx rfl (hb hby at_348) rfl rfl ?_
        refine XS.iload X172.here hx rfl (hb hby at_350) rfl ?_
        refine X172.aaload hx (j := (0 : Int32)) (v := (.ref b13)) (by rw [e172]; exact Ar173.1) (State.isArrayOf_alike hZ.alike Ar173.2.1) rfl Ar173.2.2 hin173 hat173 (g := (mkF m 352 #[iv x1, iv x2, iv (0 : Int32), iv (3 : Int32), rv b1, rv b4, rv b7, rv b13, rv b20, iv (1 : Int32), iv (0 : Int32), iv (0 : Int32), rv b13, .val .null, .val .null, rv b159, iv (1 : Int32)] [(.int (0 : Int32)), (.ref b159), (.ref b13), (.ref b1)])) rfl rfl (hb hby at_352) _ ?_
        show oS p e below T172 m 353 #[iv x1, iv x2, iv (0 : Int32), iv (3 : Int32), rv b1, rv b4, rv b7, rv b13, rv b20, iv (1 : Int32), iv (0 : Int32), iv (0 : Int32), rv b13, .val .null, .val .null, rv b159, iv (1 : Int32)] [(.ref b13), (.ref b13), (.ref b1)] _
        refine st174 _ ?_
        refine XS.istore X174.here hx rfl (hb hby at_356) rfl (l' := #[iv x1, iv x2, iv (0 : Int32), iv (3 : Int32), rv b1, rv b4, rv b7, rv b13, rv b20, iv (1 : Int32), iv (0 : Int32), iv (0 : Int32), rv b13, .val .null, .val .null, rv b159, iv (1 : Int32)]) rfl ?_
        refine XS.iload X174.here hx rfl (hb hby at_358) rfl ?_
        refine XS.ifNo X174.here hx rfl (hb hby at_360) rfl ((if0 _ _).trans (feq (by decide : ¬ ((1 : Int32) = (0 : Int32)))).1) ?_
        refine XS.aload X174.here hx rfl (hb hby at_363) rfl rfl ?_
        refine XS.aload X174.here hx rfl (hb hby at_365) rfl rfl ?_
        refine XS.iload X174.here hx rfl (hb hby at_367) rfl ?_
        refine XS.iconst X174.here hx rfl (hb hby at_369) ?_
        show oS p e below T174 m 370 #[iv x1, iv x2, iv (0 : Int32), iv (3 : Int32), rv b1, rv b4, rv b7, rv b13, rv b20, iv (1 : Int32), iv (0 : Int32), iv (0 : Int32), rv b13, .val .null, .val .null, rv b159, iv (1 : Int32)] [(.int (0 : Int32)), (.int (1 : Int32)), (.ref b159), (.ref b1)] _
        refine st183 _ ?_
        refine XS.ifNo X183.here hx rfl (hb hby at_373) rfl ((if0 _ _).trans (feq (by decide : ¬ ((1 : Int32) = (0 : Int32)))).1) ?_
        refine XS.iconst X183.here hx rfl (hb hby at_376) ?_
        refine XS.goto X183.here hx rfl (pc0 := 377) (pc' := 381) rfl (hb hby at_377) (by decide) (by decide) ?_
        refine XS.istore X183.here hx rfl (hb hby at_381) rfl (l' := #[iv x1, iv x2, iv (0 : Int32), iv (3 : Int32), rv b1, rv b4, rv b7, rv b13, rv b20, iv (1 : Int32), iv (0 : Int32), iv (0 : Int32), rv b13, .val .null, .val .null, rv b159, iv (1 : Int32)]) rfl ?_
        refine XS.iload X183.here hx rfl (hb hby at_383) rfl ?_
        refine XS.ifNo X183.here hx rfl (hb hby at_385) rfl ((if0 _ _).trans (feq (by decide : ¬ ((1 : Int32) = (0 : Int32)))).1) ?_
        refine XS.aload X183.here hx rfl (hb hby at_388) rfl rfl ?_
        show oS p e below T183 m 390 #[iv x1, iv x2, iv (0 : Int32), iv (3 : Int32), rv b1, rv b4, rv b7, rv b13, rv b20, iv (1 : Int32), iv (0 : Int32), iv (0 : Int32), rv b13, .val .null, .val .null, rv b159, iv (1 : Int32)] [(.ref b1)] _
        refine XS.aload X183.here hx rfl (hb hby at_390) rfl rfl ?_
        refine XS.iload X183.here hx rfl (hb hby at_392) rfl ?_
        refine XS.iconst X183.here hx rfl (hb hby at_394) ?_
        show oS p e below T183 m 395 #[iv x1, iv x2, iv (0 : Int32), iv (3 : Int32), rv b1, rv b4, rv b7, rv b13, rv b20, iv (1 : Int32), iv (0 : Int32), iv (0 : Int32), rv b13, .val .null, .val .null, rv b159, iv (1 : Int32)] [(.int (1 : Int32)), (.int (1 : Int32)), (.ref b159), (.ref b1)] _
        refine st184 _ ?_
        refine XS.ifNo X184.here hx rfl (hb hby at_398) rfl ((if0 _ _).trans (feq (by decide : ¬ ((1 : Int32) = (0 : Int32)))).1) ?_
        refine XS.iconst X184.here hx rfl (hb hby at_401) ?_
        refine XS.goto X184.here hx rfl (pc0 := 402) (pc' := 406) rfl (hb hby at_402) (by decide) (by decide) ?_
        refine XS.istore X184.here hx rfl (hb hby at_406) rfl (l' := #[iv x1, iv x2, iv (0 : Int32), iv (3 : Int32), rv b1, rv b4, rv b7, rv b13, rv b20, iv (1 : Int32), iv (0 : Int32), iv (0 : Int32), rv b13, .val .null, .val .null, rv b159, iv (1 : Int32)]) rfl ?_
        refine XS.iload X184.here hx rfl (hb hby at_408) rfl ?_
        refine XS.ifNo X184.here hx rfl (hb hby at_410) rfl ((if0 _ _).trans (feq (by decide : ¬ ((1 : Int32) = (0 : Int32)))).1) ?_
        refine XS.iload X184.here hx rfl (hb hby at_413) rfl ?_
        show oS p e below T184 m 415 #[iv x1, iv x2, iv (0 : Int32), iv (3 : Int32), rv b1, rv b4, rv b7, rv b13, rv b20, iv (1 : Int32), iv (0 : Int32), iv (0 : Int32), rv b13, .val .null, .val .null, rv b159, iv (1 : Int32)] [(.int (0 : Int32))] _
        refine XS.iconst X184.here hx rfl (hb hby at_415) ?_
        refine XS.iadd X184.here hx rfl (hb hby at_416) rfl ?_
        show oS p e below T184 m 417 #[iv x1, iv x2, iv (0 : Int32), iv (3 : Int32), rv b1, rv b4, rv b7, rv b13, rv b20, iv (1 : Int32), iv (0 : Int32), iv (0 : Int32), rv b13, .val .null, .val .null, rv b159, iv (1 : Int32)] [(.int (1 : Int32))] _
        refine XS.iconst X184.here hx rfl (hb hby at_417) ?_
        refine XS.icmpYes X184.here hx rfl (pc0 := 418) (pc' := 434) rfl (hb hby at_418) rfl (tlt (by decide : ((1 : Int32) < (2 : Int32)))).1 (by decide) (by decide) ?_
        refine XS.iconst X184.here hx rfl (hb hby at_434) ?_
        refine XS.goto X184.here hx rfl (pc0 := 435) (pc' := 439) rfl (hb hby at_435) (by decide) (by decide) ?_
        refine XS.istore X184.here hx rfl (hb hby at_439) rfl (l' := #[iv x1, iv x2, iv (0 : Int32), iv (3 : Int32), rv b1, rv b4, rv b7, rv b13, rv b20, iv (1 : Int32), iv (0 : Int32), iv (0 : Int32), rv b13, .val .null, .val .null, rv b159, iv (1 : Int32)]) rfl ?_
        refine XS.iload X184.here hx rfl (hb hby at_441) rfl ?_
        refine XS.ifNo X184.here hx rfl (hb hby at_443) rfl ((if0 _ _).trans (feq (by decide : ¬ ((1 : Int32) = (0 : Int32)))).1) ?_
        refine XS.iload X184.here hx rfl (hb hby at_446) rfl ?_
        show oS p e below T184 m 448 #[iv x1, iv x2, iv (0 : Int32), iv (3 : Int32), rv b1, rv b4, rv b7, rv b13, rv b20, iv (1 : Int32), iv (0 : Int32), iv (0 : Int32), rv b13, .val .null, .val .null, rv b159, iv (1 : Int32)] [(.int (0 : Int32))] _
        refine XS.iconst X184.here hx rfl (hb hby at_448) ?_
        refine XS.iadd X184.here hx rfl (hb hby at_449) rfl ?_
        show oS p e below T184 m 450 #[iv x1, iv x2, iv (0 : Int32), iv (3 : Int32), rv b1, rv b4, rv b7, rv b13, rv b20, iv (1 : Int32), iv (0 : Int32), iv (0 : Int32), rv b13, .val .null, .val .null, rv b159, iv (1 : Int32)] [(.int (1 : Int32))] _
        refine XS.iconst X184.here hx rfl (hb hby at_450) ?_
        refine XS.icmpYes X184.here hx rfl (pc0 := 451) (pc' := 467) rfl (hb hby at_451) rfl (tlt (by decide : ((1 : Int32) < (3 : Int32)))).1 (by decide) (by decide) ?_
        refine XS.iconst X184.here hx rfl (hb hby at_467) ?_
        refine XS.goto X184.here hx rfl (pc0 := 468) (pc' := 472) rfl (hb hby at_468) (by decide) (by decide) ?_
        refine XS.istore X184.here hx rfl (hb hby at_472) rfl (l' := #[iv x1, iv x2, iv (0 : Int32), iv (3 : Int32), rv b1, rv b4, rv b7, rv b13, rv b20, iv (1 : Int32), iv (0 : Int32), iv (0 : Int32), rv b13, .val .null, .val .null, rv b159, iv (1 : Int32)]) rfl ?_
        refine XS.iload X184.here hx rfl (hb hby at_474) rfl ?_
        exact kt
      obtain ⟨fs, hr, hrun, hended, hW, hsame⟩ := X184.leave (v := some (.int (1 : Int32))) (fun h => by rw [Bd.returns] at h; cases h)
      refine ⟨_, _, pre0 _ (pre32 _ (pre38 _ (pre188 _ ?_))), hrun, hended, _, _, rfl, ?_, ⟨_, rfl⟩, hW, hsame.mono (by decide) (by decide)⟩
      · show oS p e below T184 m 476 #[iv x1, iv x2, iv (0 : Int32), iv (3 : Int32), rv b1, rv b4, rv b7, rv b13, rv b20, iv (1 : Int32), iv (0 : Int32), iv (0 : Int32), rv b13, .val .null, .val .null, rv b159, iv (1 : Int32)] [(.int (1 : Int32))] _
        exact retN X184 hx (t := .boolean) Bd.returns (by simp) (hb hby at_476) hr
      · show Q0 Z x1 x2 h0 n0 _ T184.heap _
        rw [eh184]
        exact ⟨rfl, N184⟩
  · subst hn
    have Ec190 : Exa Z h31 b1 oz1 := (((Ec22.ext E20).wr W28).wr W31)
    have Ec191 : Exa Z h31 b4 oz0 := ((Ec26.wr W28).wr W31)
    have Fc192 : Fld Z h31 b1 oz1 "first" oz2 .null := (((((((((F_first_b1.ext E4).keep K5 (ninS ne_b1_b4 nin0)).ext E7).keep K11 (ninS ne_b1_b7 nin0)).ext E13).keep K18 (ninS ne_b1_b13 nin0)).ext E20).other W28 (Or.inl ne_b1_b20)).other W31 (Or.inl ne_b1_b20))
    have Fc193 : Fld Z h31 b1 oz1 "last" oz2 .null := (((((((((F_last_b1.ext E4).keep K5 (ninS ne_b1_b4 nin0)).ext E7).keep K11 (ninS ne_b1_b7 nin0)).ext E13).keep K18 (ninS ne_b1_b13 nin0)).ext E20).other W28 (Or.inl ne_b1_b20)).other W31 (Or.inl ne_b1_b20))
    have Fc194 : Fld Z h31 b4 oz0 "in" oz6 .null := (((((((pf5_0.ext E7).keep K11 (ninS ne_b4_b7 nin0)).ext E13).keep K18 (ninS ne_b4_b13 nin0)).ext E20).other W28 (Or.inl ne_b4_b20)).other W31 (Or.inl ne_b4_b20))
    have Fc195 : Fld Z h31 b4 oz0 "before" oz2 .null := (((((((pf5_1.ext E7).keep K11 (ninS ne_b4_b7 nin0)).ext E13).keep K18 (ninS ne_b4_b13 nin0)).ext E20).other W28 (Or.inl ne_b4_b20)).other W31 (Or.inl ne_b4_b20))
    have Fc196 : Fld Z h31 b4 oz0 "after" oz2 .null := (((((((pf5_2.ext E7).keep K11 (ninS ne_b4_b7 nin0)).ext E13).keep K18 (ninS ne_b4_b13 nin0)).ext E20).other W28 (Or.inl ne_b4_b20)).other W31 (Or.inl ne_b4_b20))
    have Zc197 : n0 ≤ h31.size := (Nat.le_trans (Nat.le_trans (Nat.le_trans Zc21 E20.1) (Keep.of_wr W28).1) (Keep.of_wr W31).1)
    obtain ⟨cq189, kq189, q189a, q189b, q189c⟩ := isOf hZ e31 Ec190
    obtain ⟨_, _, ⟨T189, Lw189, kw189, nw189⟩, -, X189, ⟨Lc189, hQ189, l189, y189, z189⟩, st189⟩ := X31.virtualBack hx (y := (⟨oz1, "add", oz8⟩ : MethodName)) (z := (⟨oz1, "add", oz8⟩ : MethodName)) hown (mvT hZ (own_w hw 62 rfl)) (mvT hZ (own_w hw 63 rfl)) (notFace_of_selects (args := #[]) (mvT hZ (own_w hw 65 rfl))) (mvT hZ (own_w hw 65 rfl)) (mvT hZ (own_w hw 64 rfl)) (by decide) (backOf (W := 0) (rmA0 l Z a0 hw [] b1 b4 .null h31 n0 Zc197 Ec190 Ec191 g_b1 g_b4 Fc192 Fc193 Fc194 Fc195 Fc196) hZ (own_w hw 66 rfl) (own_w hw 3 rfl) (by decide) (by decide)) q189a q189c (g := (mkF m 87 #[iv x1, iv x2, iv (1 : Int32), iv y13, rv b1, rv b4, rv b7, rv b13, rv b20, .unset, .unset, .unset, .unset, .unset, .unset, .unset, .unset] [(.ref b4), (.ref b1)])) rfl (by rw [hml]; rfl) (Steps.refl _) (argsL := [(.ref b4)]) (rest := []) (lenOf own_pd0 rfl) rfl (by show 2 * 0 + _ ≤ _; exact Nat.le_of_eq rfl) (hb hby at_87) (fun _ _ => ⟨rfl, e31, (by decide : 5 + 0 ≤ _), (by decide : 34 + 0 ≤ _)⟩)
    dsimp only [Pt.U, Pt.locs, Pt.cells, Pt.slots] at X189 l189 y189 z189 st189 hQ189
    subst l189 y189 z189
    obtain ⟨rfl, Nq189, K189, pf189_0, pf189_1, pf189_2, pf189_3, pf189_4⟩ := hQ189
    have N189 := Fr.app N31 Nq189
    have Ec199 : Exa Z T189.heap b1 oz1 := (Ec190.keep K189)
    have Ec200 : Exa Z T189.heap b4 oz0 := (Ec191.keep K189)
    have Zc201 : n0 ≤ T189.heap.size := (Nat.le_trans Zc197 K189.1)
    obtain ⟨_, _, ⟨T198, Lw198, kw198, nw198⟩, -, X198, ⟨Lc198, hQ198, l198, y198, z198⟩, st198⟩ := Jvm.LawKit.callS X189 hx (y := (⟨oz4, "state", oz5⟩ : MethodName)) hown (mvT hZ (own_w hw 27 rfl)) (mvT hZ (own_w hw 28 rfl)) (mvT hZ (own_w hw 29 rfl)) (mvT hZ (own_w hw 30 rfl)) (by decide) (backOf (W := 0) (rmS1 l Z a0 hw [] b1 b4 T189.heap n0 Zc201 Ec199 Ec200 pf189_0 pf189_1 pf189_2 pf189_3 pf189_4) hZ (own_w hw 30 rfl) (own_w hw 29 rfl) (by decide) (by decide)) (g := (mkF m 136 #[iv x1, iv x2, iv (1 : Int32), iv y13, rv b1, rv b4, rv b7, rv b13, rv b20, .unset, .unset, .unset, .unset, .unset, .unset, .unset, .unset] [(.ref b4), (.ref b4), (.ref b1)])) rfl (by rw [hml]; rfl) (argsL := [(.ref b1), (.ref b4), (.ref b4)]) (rest := []) (lenOf own_pd5 rfl) rfl (by show 2 * 0 + _ ≤ _; exact Nat.le_of_eq rfl) (hb hby at_136) (fun _ _ => ⟨rfl, rfl, (by decide : 5 + 0 ≤ _), (by decide : 34 + 0 ≤ _)⟩)
    dsimp only [Pt.U, Pt.locs, Pt.cells, Pt.slots] at X198 l198 y198 z198 st198 hQ198
    subst l198 y198 z198
    obtain ⟨rfl, Nq198, eh198⟩ := hQ198
    have N198 := Fr.app N189 Nq198
    have pre202 : ∀ tz, oS p e below T198 m 146 #[iv x1, iv x2, iv (1 : Int32), iv y13, rv b1, rv b4, rv b7, rv b13, rv b20, iv (1 : Int32), .unset, .unset, .unset, .unset, .unset, .unset, .unset] [] tz → oS p e below T31 m 78 #[iv x1, iv x2, iv (1 : Int32), iv y13, rv b1, rv b4, rv b7, rv b13, rv b20, .unset, .unset, .unset, .unset, .unset, .unset, .unset, .unset] [] tz := fun tz kt => by
      show oS p e below T31 m 78 #[iv x1, iv x2, iv (1 : Int32), iv y13, rv b1, rv b4, rv b7, rv b13, rv b20, .unset, .unset, .unset, .unset, .unset, .unset, .unset, .unset] [] _
      refine XS.iloadN X31.here hx rfl (hb hby at_78) rfl ?_
      refine XS.iconst X31.here hx rfl (hb hby at_79) ?_
      refine XS.icmpNo X31.here hx rfl (hb hby at_80) rfl (flt (by decide : ¬ ((1 : Int32) < (1 : Int32)))).1 ?_
      refine XS.aload X31.here hx rfl (hb hby at_83) rfl rfl ?_
      refine XS.aload X31.here hx rfl (hb hby at_85) rfl rfl ?_
      show oS p e below T31 m 87 #[iv x1, iv x2, iv (1 : Int32), iv y13, rv b1, rv b4, rv b7, rv b13, rv b20, .unset, .unset, .unset, .unset, .unset, .unset, .unset, .unset] [(.ref b4), (.ref b1)] _
      refine st189.trans ?_
      refine XS.iloadN X189.here hx rfl (hb hby at_90) rfl ?_
      refine XS.iconst X189.here hx rfl (hb hby at_91) ?_
      refine XS.icmpYes X189.here hx rfl (pc0 := 92) (pc' := 102) rfl (hb hby at_92) rfl (tlt (by decide : ((1 : Int32) < (2 : Int32)))).1 (by decide) (by decide) ?_
      refine XS.aload X189.here hx rfl (hb hby at_102) rfl rfl ?_
      refine XS.iloadN X189.here hx rfl (hb hby at_104) rfl ?_
      refine XS.iconst X189.here hx rfl (hb hby at_105) ?_
      refine XS.icmpNo X189.here hx rfl (hb hby at_106) rfl (flt (by decide : ¬ ((1 : Int32) < (1 : Int32)))).1 ?_
      show oS p e below T189 m 109 #[iv x1, iv x2, iv (1 : Int32), iv y13, rv b1, rv b4, rv b7, rv b13, rv b20, .unset, .unset, .unset, .unset, .unset, .unset, .unset, .unset] [(.ref b1)] _
      refine XS.aload X189.here hx rfl (hb hby at_109) rfl rfl ?_
      refine XS.goto X189.here hx rfl (pc0 := 111) (pc' := 115) rfl (hb hby at_111) (by decide) (by decide) ?_
      refine XS.iloadN X189.here hx rfl (hb hby at_115) rfl ?_
      refine XS.iconst X189.here hx rfl (hb hby at_116) ?_
      refine XS.icmpYes X189.here hx rfl (pc0 := 117) (pc' := 125) rfl (hb hby at_117) rfl (feq (by decide : ¬ ((1 : Int32) = (2 : Int32)))).2 (by decide) (by decide) ?_
      refine XS.iloadN X189.here hx rfl (hb hby at_125) rfl ?_
      refine XS.iconst X189.here hx rfl (hb hby at_126) ?_
      refine XS.icmpNo X189.here hx rfl (hb hby at_127) rfl (teq (by decide : ((1 : Int32) = (1 : Int32)))).2 ?_
      show oS p e below T189 m 130 #[iv x1, iv x2, iv (1 : Int32), iv y13, rv b1, rv b4, rv b7, rv b13, rv b20, .unset, .unset, .unset, .unset, .unset, .unset, .unset, .unset] [(.ref b4), (.ref b1)] _
      refine XS.aload X189.here hx rfl (hb hby at_130) rfl rfl ?_
      refine XS.goto X189.here hx rfl (pc0 := 132) (pc' := 136) rfl (hb hby at_132) (by decide) (by decide) ?_
      show oS p e below T189 m 136 #[iv x1, iv x2, iv (1 : Int32), iv y13, rv b1, rv b4, rv b7, rv b13, rv b20, .unset, .unset, .unset, .unset, .unset, .unset, .unset, .unset] [(.ref b4), (.ref b4), (.ref b1)] _
      refine st198 _ ?_
      refine XS.istore X198.here hx rfl (hb hby at_139) rfl (l' := #[iv x1, iv x2, iv (1 : Int32), iv y13, rv b1, rv b4, rv b7, rv b13, rv b20, iv (1 : Int32), .unset, .unset, .unset, .unset, .unset, .unset, .unset]) rfl ?_
      refine XS.iload X198.here hx rfl (hb hby at_141) rfl ?_
      refine XS.ifNo X198.here hx rfl (hb hby at_143) rfl ((if0 _ _).trans (feq (by decide : ¬ ((1 : Int32) = (0 : Int32)))).1) ?_
      exact kt
    rcases own_n4 x2 y13 hy13 with hn | hn | hn | hn
    · subst hn
      obtain ⟨_, _, ⟨T203, Lw203, kw203, nw203⟩, -, X203, ⟨Lc203, hQ203, l203, y203, z203⟩, st203⟩ := Jvm.LawKit.callS X198 hx (y := (⟨"java/lang/Math", "min", "(II)I"⟩ : MethodName)) hown (mvT hZ (own_w hw 58 rfl)) (mvT hZ (own_w hw 59 rfl)) (mvT hZ (own_w hw 60 rfl)) (mvT hZ (own_w hw 61 rfl)) (by decide) (backOf (W := 0) (rm10 l Z a0 hw [] (0 : Int32) (1 : Int32) T189.heap n0 Zc201 ) hZ (own_w hw 61 rfl) (own_w hw 60 rfl) (by decide) (by decide)) (g := (mkF m 237 #[iv x1, iv x2, iv (1 : Int32), iv (0 : Int32), rv b1, rv b4, rv b7, rv b13, rv b20, iv (1 : Int32), .unset, .unset, .unset, .unset, .unset, .unset, .unset] [(.int (1 : Int32)), (.int (0 : Int32))])) rfl (by rw [hml]; rfl) (argsL := [(.int (0 : Int32)), (.int (1 : Int32))]) (rest := []) (lenOf own_pd6 rfl) rfl (by show 2 * 0 + _ ≤ _; exact Nat.le_of_eq rfl) (hb hby at_237) (fun _ _ => ⟨rfl, eh198, (by decide : 5 + 0 ≤ _), (by decide : 34 + 0 ≤ _)⟩)
      dsimp only [Pt.U, Pt.locs, Pt.cells, Pt.slots] at X203 l203 y203 z203 st203 hQ203
      subst l203 y203 z203
      obtain ⟨rfl, Nq203, eh203⟩ := hQ203
      have N203 := Fr.app N198 Nq203
      have Ec205 : Exa Z T189.heap b13 oz0 := ((((Ec25.ext E20).wr W28).wr W31).keep K189)
      have Fc206 : Fld Z T189.heap b13 oz0 "in" oz6 .null := ((((pf18_0.ext E20).other W28 (Or.inl ne_b13_b20)).other W31 (Or.inl ne_b13_b20)).keep K189 (ninS (Ne.symm ne_b1_b13) (ninS (Ne.symm ne_b4_b13) nin0)))
      have Fc207 : Fld Z T189.heap b13 oz0 "before" oz2 .null := ((((pf18_1.ext E20).other W28 (Or.inl ne_b13_b20)).other W31 (Or.inl ne_b13_b20)).keep K189 (ninS (Ne.symm ne_b1_b13) (ninS (Ne.symm ne_b4_b13) nin0)))
      have Fc208 : Fld Z T189.heap b13 oz0 "after" oz2 .null := ((((pf18_2.ext E20).other W28 (Or.inl ne_b13_b20)).other W31 (Or.inl ne_b13_b20)).keep K189 (ninS (Ne.symm ne_b1_b13) (ninS (Ne.symm ne_b4_b13) nin0)))
      obtain ⟨cq204, kq204, q204a, q204b, q204c⟩ := isOf hZ eh203 Ec199
      obtain ⟨_, _, ⟨T204, Lw204, kw204, nw204⟩, -, X204, ⟨Lc204, hQ204, l204, y204, z204⟩, st204⟩ := X203.virtualBack hx (y := (⟨oz1, "add", oz8⟩ : MethodName)) (z := (⟨oz1, "add", oz8⟩ : MethodName)) hown (mvT hZ (own_w hw 62 rfl)) (mvT hZ (own_w hw 63 rfl)) (notFace_of_selects (args := #[]) (mvT hZ (own_w hw 65 rfl))) (mvT hZ (own_w hw 65 rfl)) (mvT hZ (own_w hw 64 rfl)) (by decide) (backOf (W := 0) (rmA1 l Z a0 hw [] b1 b13 (.ref b4) (.ref b1) .null .null b4 T189.heap n0 Zc201 Ec199 Ec205 Ec200 g_b1 g_b13 g_b4 (Ne.symm ne_b4_b13) pf189_0 pf189_1 Fc206 Fc207 Fc208 pf189_2 pf189_3 pf189_4) hZ (own_w hw 66 rfl) (own_w hw 3 rfl) (by decide) (by decide)) q204a q204c (g := (mkF m 252 #[iv x1, iv x2, iv (1 : Int32), iv (0 : Int32), rv b1, rv b4, rv b7, rv b13, rv b20, iv (1 : Int32), iv (0 : Int32), iv (1 : Int32), .unset, .unset, .unset, .unset, .unset] [(.ref b13), (.ref b1)])) rfl (by rw [hml]; rfl) (Steps.refl _) (argsL := [(.ref b13)]) (rest := []) (lenOf own_pd0 rfl) rfl (by show 2 * 0 + _ ≤ _; exact Nat.le_of_eq rfl) (hb hby at_252) (fun _ _ => ⟨rfl, eh203, (by decide : 5 + 0 ≤ _), (by decide : 34 + 0 ≤ _)⟩)
      dsimp only [Pt.U, Pt.locs, Pt.cells, Pt.slots] at X204 l204 y204 z204 st204 hQ204
      subst l204 y204 z204
      obtain ⟨rfl, Nq204, K204, pf204_0, pf204_1, pf204_2, pf204_3, pf204_4, pf204_5, pf204_6, pf204_7⟩ := hQ204
      have N204 := Fr.app N203 Nq204
      have Vc209 : Arv Z T204.heap b20 kk20 (.object oz0) (2 : Int32) [(.ref b4), (.ref b7)] .null := ((Va31.keep K189 (ninS (Ne.symm ne_b1_b20) (ninS (Ne.symm ne_b4_b20) nin0))).keep K204 (ninS (Ne.symm ne_b1_b20) (ninS (Ne.symm ne_b13_b20) (ninS (Ne.symm ne_b4_b20) nin0))))
      obtain ⟨cl210, Ar210, qk210, Sz210, Ng210, Hs210, Gt210⟩ := id Vc209
      have hin210 : ¬ ((0 : Int32) < 0 ∨ cl210.slots.size ≤ ((0 : Int32)).toNatClampNeg) := inb_of Sz210 ⟨by decide, by decide⟩
      have hat210 : cl210.slots[((0 : Int32)).toNatClampNeg]? = some (.ref b4) := Hs210.at hin210 rfl
      have Zc212 : n0 ≤ T204.heap.size := (Nat.le_trans Zc201 K204.1)
      have Ec213 : Exa Z T204.heap b1 oz1 := (Ec199.keep K204)
      have Ec214 : Exa Z T204.heap b4 oz0 := (Ec200.keep K204)
      have Ec215 : Exa Z T204.heap b7 oz0 := (((Ec29.wr W31).keep K189).keep K204)
      have Ec216 : Exa Z T204.heap b13 oz0 := (Ec205.keep K204)
      obtain ⟨T211, h211, kk211, X211, e211, E211, A211, O211, st211⟩ := newR X204 hx hZ hown (own_w hw 10 rfl) (own_w hw 25 rfl) rfl (g := (mkF m 318 #[iv x1, iv x2, iv (1 : Int32), iv (0 : Int32), rv b1, rv b4, rv b7, rv b13, rv b20, iv (1 : Int32), iv (0 : Int32), iv (1 : Int32), rv b4, rv b13, .val .null, .unset, .unset] [(.int (3 : Int32))])) rfl (hb hby at_318) rfl (by decide) (cap := 3) (by decide) (by decide) (by decide) (by decide)
      obtain ⟨b211, g211⟩ : ∃ z, z = T204.heap.size := ⟨_, rfl⟩
      rw [← g211] at A211 st211
      have g_b211 : n0 ≤ b211 := Nat.le_trans Zc212 (Nat.le_of_eq g211.symm)
      have ne_b1_b211 : b1 ≠ b211 := Nat.ne_of_lt (Nat.lt_of_lt_of_le Ec213.lt (Nat.le_of_eq g211.symm))
      have ne_b4_b211 : b4 ≠ b211 := Nat.ne_of_lt (Nat.lt_of_lt_of_le Ec214.lt (Nat.le_of_eq g211.symm))
      have ne_b7_b211 : b7 ≠ b211 := Nat.ne_of_lt (Nat.lt_of_lt_of_le Ec215.lt (Nat.le_of_eq g211.symm))
      have ne_b13_b211 : b13 ≠ b211 := Nat.ne_of_lt (Nat.lt_of_lt_of_le Ec216.lt (Nat.le_of_eq g211.symm))
      have ne_b20_b211 : b20 ≠ b211 := Nat.ne_of_lt (Nat.lt_of_lt_of_le Vc209.lt (Nat.le_of_eq g211.symm))
      have V_b211 : Arv Z h211 b211 kk211 (.object oz0) (3 : Int32) [.null, .null, .null] .null := (Arv.new A211 (by decide)).pad (pad_rep [] .null 3)
      have Ec217 : Exa Z h211 b4 oz0 := (Ec214.ext E211)
      obtain ⟨cl218, Ar218, qk218, Sz218, Ng218, Hs218, Gt218⟩ := id V_b211
      have hin218 : ¬ ((0 : Int32) < 0 ∨ cl218.slots.size ≤ ((0 : Int32)).toNatClampNeg) := inb_of Sz218 ⟨by decide, by decide⟩
      obtain ⟨T219, h219, X219, e219, W219, st219⟩ := stR X211 hx hZ e211 Ar218 (j := (0 : Int32)) hin218 rfl (Sto.ofV Ar218 qk218 O211 (Ins.self Ec217)) (g := (mkF m 325 #[iv x1, iv x2, iv (1 : Int32), iv (0 : Int32), rv b1, rv b4, rv b7, rv b13, rv b20, iv (1 : Int32), iv (0 : Int32), iv (1 : Int32), rv b4, rv b13, .val .null, .unset, .unset] [(.ref b4), (.int (0 : Int32)), (.ref b211), (.ref b211)])) rfl rfl (hb hby at_325)
      have Va219 : Arv Z h219 b211 kk211 (.object oz0) (3 : Int32) [(.ref b4), .null, .null] .null := Arv.set Ar218 qk218 Sz218 Ng218 Hs218 Gt218 rfl W219 0 rfl (Nat.le_of_ble_eq_true rfl)
      have N219 := Fr.snoc X219 N204 g_b211
      have Ec220 : Exa Z h219 b13 oz0 := ((Ec216.ext E211).wr W219)
      obtain ⟨cl221, Ar221, qk221, Sz221, Ng221, Hs221, Gt221⟩ := id Va219
      have hin221 : ¬ ((1 : Int32) < 0 ∨ cl221.slots.size ≤ ((1 : Int32)).toNatClampNeg) := inb_of Sz221 ⟨by decide, by decide⟩
      obtain ⟨T222, h222, X222, e222, W222, st222⟩ := stR X219 hx hZ e219 Ar221 (j := (1 : Int32)) hin221 rfl (Sto.ofV Ar221 qk221 O211 (Ins.self Ec220)) (g := (mkF m 330 #[iv x1, iv x2, iv (1 : Int32), iv (0 : Int32), rv b1, rv b4, rv b7, rv b13, rv b20, iv (1 : Int32), iv (0 : Int32), iv (1 : Int32), rv b4, rv b13, .val .null, .unset, .unset] [(.ref b13), (.int (1 : Int32)), (.ref b211), (.ref b211)])) rfl rfl (hb hby at_330)
      have Va222 : Arv Z h222 b211 kk211 (.object oz0) (3 : Int32) [(.ref b4), (.ref b13), .null] .null := Arv.set Ar221 qk221 Sz221 Ng221 Hs221 Gt221 rfl W222 1 rfl (Nat.le_of_ble_eq_true rfl)
      have N222 := Fr.snoc X222 N219 g_b211
      obtain ⟨cl223, Ar223, qk223, Sz223, Ng223, Hs223, Gt223⟩ := id Va222
      have hin223 : ¬ ((2 : Int32) < 0 ∨ cl223.slots.size ≤ ((2 : Int32)).toNatClampNeg) := inb_of Sz223 ⟨by decide, by decide⟩
      obtain ⟨T224, h224, X224, e224, W224, st224⟩ := stR X222 hx hZ e222 Ar223 (j := (2 : Int32)) hin223 rfl (Or.inl rfl) (g := (mkF m 335 #[iv x1, iv x2, iv (1 : Int32), iv (0 : Int32), rv b1, rv b4, rv b7, rv b13, rv b20, iv (1 : Int32), iv (0 : Int32), iv (1 : Int32), rv b4, rv b13, .val .null, .unset, .unset] [.null, (.int (2 : Int32)), (.ref b211), (.ref b211)])) rfl rfl (hb hby at_335)
      have Va224 : Arv Z h224 b211 kk211 (.object oz0) (3 : Int32) [(.ref b4), (.ref b13), .null] .null := Arv.set Ar223 qk223 Sz223 Ng223 Hs223 Gt223 rfl W224 2 rfl (Nat.le_of_ble_eq_true rfl)
      have N224 := Fr.snoc X224 N222 g_b211
      obtain ⟨cl225, Ar225, qk225, Sz225, Ng225, Hs225, Gt225⟩ := id Va224
      have hin225 : ¬ ((1 : Int32) < 0 ∨ cl225.slots.size ≤ ((1 : Int32)).toNatClampNeg) := inb_of Sz225 ⟨by decide, by decide⟩
      have hat225 : cl225.slots[((1 : Int32)).toNatClampNeg]? = some (.ref b13) := Hs225.at hin225 rfl
      have Ec227 : Exa Z h224 b1 oz1 := ((((Ec213.ext E211).wr W219).wr W222).wr W224)
      have Ec228 : Exa Z h224 b4 oz0 := (((Ec217.wr W219).wr W222).wr W224)
      have Ec229 : Exa Z h224 b13 oz0 := ((Ec220.wr W222).wr W224)
      have Fc230 : Fld Z h224 b1 oz1 "first" oz2 (.ref b4) := ((((pf204_0.ext E211).other W219 (Or.inl ne_b1_b211)).other W222 (Or.inl ne_b1_b211)).other W224 (Or.inl ne_b1_b211))
      have Fc231 : Fld Z h224 b1 oz1 "last" oz2 (.ref b13) := ((((pf204_1.ext E211).other W219 (Or.inl ne_b1_b211)).other W222 (Or.inl ne_b1_b211)).other W224 (Or.inl ne_b1_b211))
      have Fc232 : Fld Z h224 b4 oz0 "in" oz6 (.ref b1) := ((((pf204_5.ext E211).other W219 (Or.inl ne_b4_b211)).other W222 (Or.inl ne_b4_b211)).other W224 (Or.inl ne_b4_b211))
      have Fc233 : Fld Z h224 b4 oz0 "before" oz2 .null := ((((pf204_6.ext E211).other W219 (Or.inl ne_b4_b211)).other W222 (Or.inl ne_b4_b211)).other W224 (Or.inl ne_b4_b211))
      have Fc234 : Fld Z h224 b4 oz0 "after" oz2 (.ref b13) := ((((pf204_7.ext E211).other W219 (Or.inl ne_b4_b211)).other W222 (Or.inl ne_b4_b211)).other W224 (Or.inl ne_b4_b211))
      have Fc235 : Fld Z h224 b13 oz0 "in" oz6 (.ref b1) := ((((pf204_2.ext E211).other W219 (Or.inl ne_b13_b211)).other W222 (Or.inl ne_b13_b211)).other W224 (Or.inl ne_b13_b211))
      have Fc236 : Fld Z h224 b13 oz0 "before" oz2 (.ref b4) := ((((pf204_3.ext E211).other W219 (Or.inl ne_b13_b211)).other W222 (Or.inl ne_b13_b211)).other W224 (Or.inl ne_b13_b211))
      have Fc237 : Fld Z h224 b13 oz0 "after" oz2 .null := ((((pf204_4.ext E211).other W219 (Or.inl ne_b13_b211)).other W222 (Or.inl ne_b13_b211)).other W224 (Or.inl ne_b13_b211))
      have Zc238 : n0 ≤ h224.size := (Nat.le_trans (Nat.le_trans (Nat.le_trans (Nat.le_trans Zc212 E211.1) (Keep.of_wr W219).1) (Keep.of_wr W222).1) (Keep.of_wr W224).1)
      obtain ⟨_, _, ⟨T226, Lw226, kw226, nw226⟩, -, X226, ⟨Lc226, hQ226, l226, y226, z226⟩, st226⟩ := Jvm.LawKit.callS X224 hx (y := (⟨oz4, "state", oz5⟩ : MethodName)) hown (mvT hZ (own_w hw 27 rfl)) (mvT hZ (own_w hw 28 rfl)) (mvT hZ (own_w hw 29 rfl)) (mvT hZ (own_w hw 30 rfl)) (by decide) (backOf (W := 0) (rmS2 l Z a0 hw [] b1 b4 b13 h224 n0 Zc238 Ec227 Ec228 Ec229 ne_b4_b13 Fc230 Fc231 Fc232 Fc233 Fc234 Fc235 Fc236 Fc237) hZ (own_w hw 30 rfl) (own_w hw 29 rfl) (by decide) (by decide)) (g := (mkF m 353 #[iv x1, iv x2, iv (1 : Int32), iv (0 : Int32), rv b1, rv b4, rv b7, rv b13, rv b20, iv (1 : Int32), iv (0 : Int32), iv (1 : Int32), rv b4, rv b13, .val .null, rv b211, iv (2 : Int32)] [(.ref b13), (.ref b4), (.ref b1)])) rfl (by rw [hml]; rfl) (argsL := [(.ref b1), (.ref b4), (.ref b13)]) (rest := []) (lenOf own_pd5 rfl) rfl (by show 2 * 0 + _ ≤ _; exact Nat.le_of_eq rfl) (hb hby at_353) (fun _ _ => ⟨rfl, e224, (by decide : 6 + 0 ≤ _), (by decide : 37 + 0 ≤ _)⟩)
      dsimp only [Pt.U, Pt.locs, Pt.cells, Pt.slots] at X226 l226 y226 z226 st226 hQ226
      subst l226 y226 z226
      obtain ⟨rfl, Nq226, eh226⟩ := hQ226
      have N226 := Fr.app N224 Nq226
      obtain ⟨_, _, ⟨T239, Lw239, kw239, nw239⟩, -, X239, ⟨Lc239, hQ239, l239, y239, z239⟩, st239⟩ := Jvm.LawKit.callS X226 hx (y := (⟨oz4, "step", oz3⟩ : MethodName)) hown (mvT hZ (own_w hw 50 rfl)) (mvT hZ (own_w hw 51 rfl)) (mvT hZ (own_w hw 29 rfl)) (mvT hZ (own_w hw 52 rfl)) (by decide) (backOf (W := 0) (rmT3_2_0 l Z a0 hw [] b1 b211 b4 b13 kk211 h224 n0 Zc238 Ec227 Ec228 Ec229 g_b1 g_b4 g_b13 ne_b4_b13 Fc230 Fc231 Fc232 Fc233 Fc234 Fc235 Fc236 Fc237 Va224) hZ (own_w hw 52 rfl) (own_w hw 29 rfl) (by decide) (by decide)) (g := (mkF m 370 #[iv x1, iv x2, iv (1 : Int32), iv (0 : Int32), rv b1, rv b4, rv b7, rv b13, rv b20, iv (1 : Int32), iv (0 : Int32), iv (1 : Int32), rv b4, rv b13, .val .null, rv b211, iv (2 : Int32)] [(.int (0 : Int32)), (.int (2 : Int32)), (.ref b211), (.ref b1)])) rfl (by rw [hml]; rfl) (argsL := [(.ref b1), (.ref b211), (.int (2 : Int32)), (.int (0 : Int32))]) (rest := []) (lenOf own_pd7 rfl) rfl (by show 2 * 0 + _ ≤ _; exact Nat.le_of_eq rfl) (hb hby at_370) (fun _ _ => ⟨rfl, eh226, (by decide : 6 + 0 ≤ _), (by decide : 37 + 0 ≤ _)⟩)
      dsimp only [Pt.U, Pt.locs, Pt.cells, Pt.slots] at X239 l239 y239 z239 st239 hQ239
      subst l239 y239 z239
      obtain ⟨rfl, Nq239, K239, pf239_0, pf239_1, pf239_2, pf239_3, pf239_4, pf239_5, pf239_6, pf239_7⟩ := hQ239
      have N239 := Fr.app N226 Nq239
      have Ec241 : Exa Z T239.heap b1 oz1 := (Ec227.keep K239)
      have Ec242 : Exa Z T239.heap b13 oz0 := (Ec229.keep K239)
      have Vc243 : Arv Z T239.heap b211 kk211 (.object oz0) (3 : Int32) [(.ref b4), (.ref b13), .null] .null := (Va224.keep K239 (ninS (Ne.symm ne_b1_b211) (ninS (Ne.symm ne_b4_b211) (ninS (Ne.symm ne_b13_b211) nin0))))
      have Zc244 : n0 ≤ T239.heap.size := (Nat.le_trans Zc238 K239.1)
      obtain ⟨_, _, ⟨T240, Lw240, kw240, nw240⟩, -, X240, ⟨Lc240, hQ240, l240, y240, z240⟩, st240⟩ := Jvm.LawKit.callS X239 hx (y := (⟨oz4, "step", oz3⟩ : MethodName)) hown (mvT hZ (own_w hw 50 rfl)) (mvT hZ (own_w hw 51 rfl)) (mvT hZ (own_w hw 29 rfl)) (mvT hZ (own_w hw 52 rfl)) (by decide) (backOf (W := 0) (rmT3_2_1 l Z a0 hw [] b1 b211 b4 b13 kk211 T239.heap n0 Zc244 Ec241 Ec242 g_b1 g_b13 pf239_0 pf239_1 pf239_2 pf239_3 pf239_4 Vc243) hZ (own_w hw 52 rfl) (own_w hw 29 rfl) (by decide) (by decide)) (g := (mkF m 395 #[iv x1, iv x2, iv (1 : Int32), iv (0 : Int32), rv b1, rv b4, rv b7, rv b13, rv b20, iv (1 : Int32), iv (0 : Int32), iv (1 : Int32), rv b4, rv b13, .val .null, rv b211, iv (2 : Int32)] [(.int (1 : Int32)), (.int (2 : Int32)), (.ref b211), (.ref b1)])) rfl (by rw [hml]; rfl) (argsL := [(.ref b1), (.ref b211), (.int (2 : Int32)), (.int (1 : Int32))]) (rest := []) (lenOf own_pd7 rfl) rfl (by show 2 * 0 + _ ≤ _; exact Nat.le_of_eq rfl) (hb hby at_395) (fun _ _ => ⟨rfl, rfl, (by decide : 6 + 0 ≤ _), (by decide : 37 + 0 ≤ _)⟩)
      dsimp only [Pt.U, Pt.locs, Pt.cells, Pt.slots] at X240 l240 y240 z240 st240 hQ240
      subst l240 y240 z240
      obtain ⟨rfl, Nq240, K240, pf240_0, pf240_1, pf240_2, pf240_3, pf240_4⟩ := hQ240
      have N240 := Fr.app N239 Nq240
      have Ec246 : Exa Z T240.heap b1 oz1 := (Ec241.keep K240)
      have Vc247 : Arv Z T240.heap b211 kk211 (.object oz0) (3 : Int32) [(.ref b4), (.ref b13), .null] .null := (Vc243.keep K240 (ninS (Ne.symm ne_b1_b211) (ninS (Ne.symm ne_b13_b211) nin0)))
      have Zc248 : n0 ≤ T240.heap.size := (Nat.le_trans Zc244 K240.1)
      obtain ⟨_, _, ⟨T245, Lw245, kw245, nw245⟩, -, X245, ⟨Lc245, hQ245, l245, y245, z245⟩, st245⟩ := Jvm.LawKit.callS X240 hx (y := (⟨oz4, "step", oz3⟩ : MethodName)) hown (mvT hZ (own_w hw 50 rfl)) (mvT hZ (own_w hw 51 rfl)) (mvT hZ (own_w hw 29 rfl)) (mvT hZ (own_w hw 52 rfl)) (by decide) (backOf (W := 0) (rmT3_2_2 l Z a0 hw [] b1 b211 b4 b13 kk211 T240.heap n0 Zc248 Ec246 pf240_0 pf240_1 Vc247) hZ (own_w hw 52 rfl) (own_w hw 29 rfl) (by decide) (by decide)) (g := (mkF m 428 #[iv x1, iv x2, iv (1 : Int32), iv (0 : Int32), rv b1, rv b4, rv b7, rv b13, rv b20, iv (1 : Int32), iv (0 : Int32), iv (1 : Int32), rv b4, rv b13, .val .null, rv b211, iv (2 : Int32)] [(.int (2 : Int32)), (.int (2 : Int32)), (.ref b211), (.ref b1)])) rfl (by rw [hml]; rfl) (argsL := [(.ref b1), (.ref b211), (.int (2 : Int32)), (.int (2 : Int32))]) (rest := []) (lenOf own_pd7 rfl) rfl (by show 2 * 0 + _ ≤ _; exact Nat.le_of_eq rfl) (hb hby at_428) (fun _ _ => ⟨rfl, rfl, (by decide : 6 + 0 ≤ _), (by decide : 37 + 0 ≤ _)⟩)
      dsimp only [Pt.U, Pt.locs, Pt.cells, Pt.slots] at X245 l245 y245 z245 st245 hQ245
      subst l245 y245 z245
      obtain ⟨rfl, Nq245, eh245⟩ := hQ245
      have N245 := Fr.app N240 Nq245
      have pre249 : ∀ tz, oS p e below T245 m 476 #[iv x1, iv x2, iv (1 : Int32), iv (0 : Int32), rv b1, rv b4, rv b7, rv b13, rv b20, iv (1 : Int32), iv (0 : Int32), iv (1 : Int32), rv b4, rv b13, .val .null, rv b211, iv (2 : Int32)] [(.int (1 : Int32))] tz → oS p e below T198 m 146 #[iv x1, iv x2, iv (1 : Int32), iv (0 : Int32), rv b1, rv b4, rv b7, rv b13, rv b20, iv (1 : Int32), .unset, .unset, .unset, .unset, .unset, .unset, .unset] [] tz := fun tz kt => by
        show oS p e below T198 m 146 #[iv x1, iv x2, iv (1 : Int32), iv (0 : Int32), rv b1, rv b4, rv b7, rv b13, rv b20, iv (1 : Int32), .unset, .unset, .unset, .unset, .unset, .unset, .unset] [] _
        refine XS.iloadN X198.here hx rfl (hb hby at_146) rfl ?_
        refine XS.iconst X198.here hx rfl (hb hby at_147) ?_
        refine XS.icmpYes X198.here hx rfl (pc0 := 148) (pc' := 163) rfl (hb hby at_148) rfl (tlt (by decide : ((0 : Int32) < (1 : Int32)))).1 (by decide) (by decide) ?_
        refine XS.iconst X198.here hx rfl (hb hby at_163) ?_
        refine XS.goto X198.here hx rfl (pc0 := 164) (pc' := 168) rfl (hb hby at_164) (by decide) (by decide) ?_
        refine XS.istore X198.here hx rfl (hb hby at_168) rfl (l' := #[iv x1, iv x2, iv (1 : Int32), iv (0 : Int32), rv b1, rv b4, rv b7, rv b13, rv b20, iv (1 : Int32), .unset, .unset, .unset, .unset, .unset, .unset, .unset]) rfl ?_
        refine XS.iload X198.here hx rfl (hb hby at_170) rfl ?_
        refine XS.ifNo X198.here hx rfl (hb hby at_172) rfl ((if0 _ _).trans (feq (by decide : ¬ ((1 : Int32) = (0 : Int32)))).1) ?_
        show oS p e below T198 m 175 #[iv x1, iv x2, iv (1 : Int32), iv (0 : Int32), rv b1, rv b4, rv b7, rv b13, rv b20, iv (1 : Int32), .unset, .unset, .unset, .unset, .unset, .unset, .unset] [] _
        refine XS.iloadN X198.here hx rfl (hb hby at_175) rfl ?_
        refine XS.iconst X198.here hx rfl (hb hby at_176) ?_
        refine XS.icmpYes X198.here hx rfl (pc0 := 177) (pc' := 192) rfl (hb hby at_177) rfl (tlt (by decide : ((0 : Int32) < (2 : Int32)))).1 (by decide) (by decide) ?_
        refine XS.iconst X198.here hx rfl (hb hby at_192) ?_
        refine XS.goto X198.here hx rfl (pc0 := 193) (pc' := 197) rfl (hb hby at_193) (by decide) (by decide) ?_
        refine XS.istore X198.here hx rfl (hb hby at_197) rfl (l' := #[iv x1, iv x2, iv (1 : Int32), iv (0 : Int32), rv b1, rv b4, rv b7, rv b13, rv b20, iv (1 : Int32), .unset, .unset, .unset, .unset, .unset, .unset, .unset]) rfl ?_
        refine XS.iload X198.here hx rfl (hb hby at_199) rfl ?_
        refine XS.ifNo X198.here hx rfl (hb hby at_201) rfl ((if0 _ _).trans (feq (by decide : ¬ ((1 : Int32) = (0 : Int32)))).1) ?_
        show oS p e below T198 m 204 #[iv x1, iv x2, iv (1 : Int32), iv (0 : Int32), rv b1, rv b4, rv b7, rv b13, rv b20, iv (1 : Int32), .unset, .unset, .unset, .unset, .unset, .unset, .unset] [] _
        refine XS.iloadN X198.here hx rfl (hb hby at_204) rfl ?_
        refine XS.iconst X198.here hx rfl (hb hby at_205) ?_
        refine XS.icmpYes X198.here hx rfl (pc0 := 206) (pc' := 221) rfl (hb hby at_206) rfl (tlt (by decide : ((0 : Int32) < (3 : Int32)))).1 (by decide) (by decide) ?_
        refine XS.iconst X198.here hx rfl (hb hby at_221) ?_
        refine XS.goto X198.here hx rfl (pc0 := 222) (pc' := 226) rfl (hb hby at_222) (by decide) (by decide) ?_
        refine XS.istore X198.here hx rfl (hb hby at_226) rfl (l' := #[iv x1, iv x2, iv (1 : Int32), iv (0 : Int32), rv b1, rv b4, rv b7, rv b13, rv b20, iv (1 : Int32), .unset, .unset, .unset, .unset, .unset, .unset, .unset]) rfl ?_
        refine XS.iload X198.here hx rfl (hb hby at_228) rfl ?_
        refine XS.ifYes X198.here hx rfl (pc0 := 230) (pc' := 235) rfl (hb hby at_230) rfl ((if0 _ _).trans (feq (by decide : ¬ ((1 : Int32) = (0 : Int32)))).2) (by decide) (by decide) ?_
        show oS p e below T198 m 235 #[iv x1, iv x2, iv (1 : Int32), iv (0 : Int32), rv b1, rv b4, rv b7, rv b13, rv b20, iv (1 : Int32), .unset, .unset, .unset, .unset, .unset, .unset, .unset] [] _
        refine XS.iloadN X198.here hx rfl (hb hby at_235) rfl ?_
        refine XS.iloadN X198.here hx rfl (hb hby at_236) rfl ?_
        show oS p e below T198 m 237 #[iv x1, iv x2, iv (1 : Int32), iv (0 : Int32), rv b1, rv b4, rv b7, rv b13, rv b20, iv (1 : Int32), .unset, .unset, .unset, .unset, .unset, .unset, .unset] [(.int (1 : Int32)), (.int (0 : Int32))] _
        refine st203 _ ?_
        rw [((if_neg (by decide : ¬ ((1 : Int32) < (0 : Int32)))) : (if (1 : Int32) < (0 : Int32) then (1 : Int32) else (0 : Int32)) = (0 : Int32))]
        show oS p e below T203 m 240 #[iv x1, iv x2, iv (1 : Int32), iv (0 : Int32), rv b1, rv b4, rv b7, rv b13, rv b20, iv (1 : Int32), .unset, .unset, .unset, .unset, .unset, .unset, .unset] [(.int (0 : Int32))] _
        refine XS.istore X203.here hx rfl (hb hby at_240) rfl (l' := #[iv x1, iv x2, iv (1 : Int32), iv (0 : Int32), rv b1, rv b4, rv b7, rv b13, rv b20, iv (1 : Int32), iv (0 : Int32), .unset, .unset, .unset, .unset, .unset, .unset]) rfl ?_
        refine XS.iloadN X203.here hx rfl (hb hby at_242) rfl ?_
        refine XS.iload X203.here hx rfl (hb hby at_243) rfl ?_
        refine XS.isub X203.here hx rfl (hb hby at_245) rfl ?_
        show oS p e below T203 m 246 #[iv x1, iv x2, iv (1 : Int32), iv (0 : Int32), rv b1, rv b4, rv b7, rv b13, rv b20, iv (1 : Int32), iv (0 : Int32), .unset, .unset, .unset, .unset, .unset, .unset] [(.int (1 : Int32))] _
        refine XS.istore X203.here hx rfl (hb hby at_246) rfl (l' := #[iv x1, iv x2, iv (1 : Int32), iv (0 : Int32), rv b1, rv b4, rv b7, rv b13, rv b20, iv (1 : Int32), iv (0 : Int32), iv (1 : Int32), .unset, .unset, .unset, .unset, .unset]) rfl ?_
        refine XS.aload X203.here hx rfl (hb hby at_248) rfl rfl ?_
        refine XS.aload X203.here hx rfl (hb hby at_250) rfl rfl ?_
        show oS p e below T203 m 252 #[iv x1, iv x2, iv (1 : Int32), iv (0 : Int32), rv b1, rv b4, rv b7, rv b13, rv b20, iv (1 : Int32), iv (0 : Int32), iv (1 : Int32), .unset, .unset, .unset, .unset, .unset] [(.ref b13), (.ref b1)] _
        refine st204.trans ?_
        refine XS.iload X204.here hx rfl (hb hby at_255) rfl ?_
        refine XS.iconst X204.here hx rfl (hb hby at_257) ?_
        refine XS.icmpNo X204.here hx rfl (hb hby at_258) rfl (flt (by decide : ¬ ((1 : Int32) < (1 : Int32)))).1 ?_
        refine XS.aload X204.here hx rfl (hb hby at_261) rfl rfl ?_
        refine XS.iload X204.here hx rfl (hb hby at_263) rfl ?_
        refine X204.aaload hx (j := (0 : Int32)) (v := (.ref b4)) Ar210.1 (State.isArrayOf_alike hZ.alike Ar210.2.1) rfl Ar210.2.2 hin210 hat210 (g := (mkF m 265 #[iv x1, iv x2, iv (1 : Int32), iv (0 : Int32), rv b1, rv b4, rv b7, rv b13, rv b20, iv (1 : Int32), iv (0 : Int32), iv (1 : Int32), .unset, .unset, .unset, .unset, .unset] [(.int (0 : Int32)), (.ref b20)])) rfl rfl (hb hby at_265) _ ?_
        refine XS.goto X204.here hx rfl (pc0 := 266) (pc' := 271) rfl (hb hby at_266) (by decide) (by decide) ?_
        show oS p e below T204 m 271 #[iv x1, iv x2, iv (1 : Int32), iv (0 : Int32), rv b1, rv b4, rv b7, rv b13, rv b20, iv (1 : Int32), iv (0 : Int32), iv (1 : Int32), .unset, .unset, .unset, .unset, .unset] [(.ref b4)] _
        refine XS.astore X204.here hx rfl (hb hby at_271) rfl rfl (l' := #[iv x1, iv x2, iv (1 : Int32), iv (0 : Int32), rv b1, rv b4, rv b7, rv b13, rv b20, iv (1 : Int32), iv (0 : Int32), iv (1 : Int32), rv b4, .unset, .unset, .unset, .unset]) rfl ?_
        refine XS.iload X204.here hx rfl (hb hby at_273) rfl ?_
        refine XS.iconst X204.here hx rfl (hb hby at_275) ?_
        refine XS.icmpYes X204.here hx rfl (pc0 := 276) (pc' := 289) rfl (hb hby at_276) rfl (tlt (by decide : ((1 : Int32) < (2 : Int32)))).1 (by decide) (by decide) ?_
        refine XS.iload X204.here hx rfl (hb hby at_289) rfl ?_
        refine XS.iconst X204.here hx rfl (hb hby at_291) ?_
        refine XS.icmpNo X204.here hx rfl (hb hby at_292) rfl (teq (by decide : ((1 : Int32) = (1 : Int32)))).2 ?_
        refine XS.aload X204.here hx rfl (hb hby at_295) rfl rfl ?_
        show oS p e below T204 m 297 #[iv x1, iv x2, iv (1 : Int32), iv (0 : Int32), rv b1, rv b4, rv b7, rv b13, rv b20, iv (1 : Int32), iv (0 : Int32), iv (1 : Int32), rv b4, .unset, .unset, .unset, .unset] [(.ref b13)] _
        refine XS.goto X204.here hx rfl (pc0 := 297) (pc' := 301) rfl (hb hby at_297) (by decide) (by decide) ?_
        refine XS.astore X204.here hx rfl (hb hby at_301) rfl rfl (l' := #[iv x1, iv x2, iv (1 : Int32), iv (0 : Int32), rv b1, rv b4, rv b7, rv b13, rv b20, iv (1 : Int32), iv (0 : Int32), iv (1 : Int32), rv b4, rv b13, .unset, .unset, .unset]) rfl ?_
        refine XS.iload X204.here hx rfl (hb hby at_303) rfl ?_
        refine XS.iconst X204.here hx rfl (hb hby at_305) ?_
        refine XS.icmpYes X204.here hx rfl (pc0 := 306) (pc' := 314) rfl (hb hby at_306) rfl (feq (by decide : ¬ ((1 : Int32) = (2 : Int32)))).2 (by decide) (by decide) ?_
        refine XS.aconstNull X204.here hx rfl (hb hby at_314) ?_
        refine XS.astore X204.here hx rfl (hb hby at_315) rfl rfl (l' := #[iv x1, iv x2, iv (1 : Int32), iv (0 : Int32), rv b1, rv b4, rv b7, rv b13, rv b20, iv (1 : Int32), iv (0 : Int32), iv (1 : Int32), rv b4, rv b13, .val .null, .unset, .unset]) rfl ?_
        refine XS.iconst X204.here hx rfl (hb hby at_317) ?_
        show oS p e below T204 m 318 #[iv x1, iv x2, iv (1 : Int32), iv (0 : Int32), rv b1, rv b4, rv b7, rv b13, rv b20, iv (1 : Int32), iv (0 : Int32), iv (1 : Int32), rv b4, rv b13, .val .null, .unset, .unset] [(.int (3 : Int32))] _
        refine st211 _ ?_
        refine XS.dup X211.here hx rfl (hb hby at_321) rfl rfl ?_
        refine XS.iconst X211.here hx rfl (hb hby at_322) ?_
        refine XS.aload X211.here hx rfl (hb hby at_323) rfl rfl ?_
        show oS p e below T211 m 325 #[iv x1, iv x2, iv (1 : Int32), iv (0 : Int32), rv b1, rv b4, rv b7, rv b13, rv b20, iv (1 : Int32), iv (0 : Int32), iv (1 : Int32), rv b4, rv b13, .val .null, .unset, .unset] [(.ref b4), (.int (0 : Int32)), (.ref b211), (.ref b211)] _
        refine st219 _ ?_
        refine XS.dup X219.here hx rfl (hb hby at_326) rfl rfl ?_
        refine XS.iconst X219.here hx rfl (hb hby at_327) ?_
        refine XS.aload X219.here hx rfl (hb hby at_328) rfl rfl ?_
        show oS p e below T219 m 330 #[iv x1, iv x2, iv (1 : Int32), iv (0 : Int32), rv b1, rv b4, rv b7, rv b13, rv b20, iv (1 : Int32), iv (0 : Int32), iv (1 : Int32), rv b4, rv b13, .val .null, .unset, .unset] [(.ref b13), (.int (1 : Int32)), (.ref b211), (.ref b211)] _
        refine st222 _ ?_
        refine XS.dup X222.here hx rfl (hb hby at_331) rfl rfl ?_
        refine XS.iconst X222.here hx rfl (hb hby at_332) ?_
        refine XS.aload X222.here hx rfl (hb hby at_333) rfl rfl ?_
        show oS p e below T222 m 335 #[iv x1, iv x2, iv (1 : Int32), iv (0 : Int32), rv b1, rv b4, rv b7, rv b13, rv b20, iv (1 : Int32), iv (0 : Int32), iv (1 : Int32), rv b4, rv b13, .val .null, .unset, .unset] [.null, (.int (2 : Int32)), (.ref b211), (.ref b211)] _
        refine st224 _ ?_
        refine XS.astore X224.here hx rfl (hb hby at_336) rfl rfl (l' := #[iv x1, iv x2, iv (1 : Int32), iv (0 : Int32), rv b1, rv b4, rv b7, rv b13, rv b20, iv (1 : Int32), iv (0 : Int32), iv (1 : Int32), rv b4, rv b13, .val .null, rv b211, .unset]) rfl ?_
        refine XS.iload X224.here hx rfl (hb hby at_338) rfl ?_
        refine XS.iconst X224.here hx rfl (hb hby at_340) ?_
        refine XS.iadd X224.here hx rfl (hb hby at_341) rfl ?_
        show oS p e below T224 m 342 #[iv x1, iv x2, iv (1 : Int32), iv (0 : Int32), rv b1, rv b4, rv b7, rv b13, rv b20, iv (1 : Int32), iv (0 : Int32), iv (1 : Int32), rv b4, rv b13, .val .null, rv b211, .unset] [(.int (2 : Int32))] _
        refine XS.istore X224.here hx rfl (hb hby at_342) rfl (l' := #[iv x1, iv x2, iv (1 : Int32), iv (0 : Int32), rv b1, rv b4, rv b7, rv b13, rv b20, iv (1 : Int32), iv (0 : Int32), iv (1 : Int32), rv b4, rv b13, .val .null, rv b211, iv (2 : Int32)]) rfl ?_
        refine XS.aload X224.here hx rfl (hb hby at_344) rfl rfl ?_
        refine XS.aload X224.here hx rfl (hb hby at_346) rfl rfl ?_
        refine XS.aload X224.here hx rfl (hb hby at_348) rfl rfl ?_
        refine XS.iload X224.here hx rfl (hb hby at_350) rfl ?_
        refine X224.aaload hx (j := (1 : Int32)) (v := (.ref b13)) (by rw [e224]; exact Ar225.1) (State.isArrayOf_alike hZ.alike Ar225.2.1) rfl Ar225.2.2 hin225 hat225 (g := (mkF m 352 #[iv x1, iv x2, iv (1 : Int32), iv (0 : Int32), rv b1, rv b4, rv b7, rv b13, rv b20, iv (1 : Int32), iv (0 : Int32), iv (1 : Int32), rv b4, rv b13, .val .null, rv b211, iv (2 : Int32)] [(.int (1 : Int32)), (.ref b211), (.ref b4), (.ref b1)])) rfl rfl (hb hby at_352) _ ?_
        show oS p e below T224 m 353 #[iv x1, iv x2, iv (1 : Int32), iv (0 : Int32), rv b1, rv b4, rv b7, rv b13, rv b20, iv (1 : Int32), iv (0 : Int32), iv (1 : Int32), rv b4, rv b13, .val .null, rv b211, iv (2 : Int32)] [(.ref b13), (.ref b4), (.ref b1)] _
        refine st226 _ ?_
        refine XS.istore X226.here hx rfl (hb hby at_356) rfl (l' := #[iv x1, iv x2, iv (1 : Int32), iv (0 : Int32), rv b1, rv b4, rv b7, rv b13, rv b20, iv (1 : Int32), iv (0 : Int32), iv (1 : Int32), rv b4, rv b13, .val .null, rv b211, iv (2 : Int32)]) rfl ?_
        refine XS.iload X226.here hx rfl (hb hby at_358) rfl ?_
        refine XS.ifNo X226.here hx rfl (hb hby at_360) rfl ((if0 _ _).trans (feq (by decide : ¬ ((1 : Int32) = (0 : Int32)))).1) ?_
        refine XS.aload X226.here hx rfl (hb hby at_363) rfl rfl ?_
        refine XS.aload X226.here hx rfl (hb hby at_365) rfl rfl ?_
        refine XS.iload X226.here hx rfl (hb hby at_367) rfl ?_
        refine XS.iconst X226.here hx rfl (hb hby at_369) ?_
        show oS p e below T226 m 370 #[iv x1, iv x2, iv (1 : Int32), iv (0 : Int32), rv b1, rv b4, rv b7, rv b13, rv b20, iv (1 : Int32), iv (0 : Int32), iv (1 : Int32), rv b4, rv b13, .val .null, rv b211, iv (2 : Int32)] [(.int (0 : Int32)), (.int (2 : Int32)), (.ref b211), (.ref b1)] _
        refine st239 _ ?_
        refine XS.ifNo X239.here hx rfl (hb hby at_373) rfl ((if0 _ _).trans (feq (by decide : ¬ ((1 : Int32) = (0 : Int32)))).1) ?_
        refine XS.iconst X239.here hx rfl (hb hby at_376) ?_
        refine XS.goto X239.here hx rfl (pc0 := 377) (pc' := 381) rfl (hb hby at_377) (by decide) (by decide) ?_
        refine XS.istore X239.here hx rfl (hb hby at_381) rfl (l' := #[iv x1, iv x2, iv (1 : Int32), iv (0 : Int32), rv b1, rv b4, rv b7, rv b13, rv b20, iv (1 : Int32), iv (0 : Int32), iv (1 : Int32), rv b4, rv b13, .val .null, rv b211, iv (2 : Int32)]) rfl ?_
        refine XS.iload X239.here hx rfl (hb hby at_383) rfl ?_
        refine XS.ifNo X239.here hx rfl (hb hby at_385) rfl ((if0 _ _).trans (feq (by decide : ¬ ((1 : Int32) = (0 : Int32)))).1) ?_
        refine XS.aload X239.here hx rfl (hb hby at_388) rfl rfl ?_
        show oS p e below T239 m 390 #[iv x1, iv x2, iv (1 : Int32), iv (0 : Int32), rv b1, rv b4, rv b7, rv b13, rv b20, iv (1 : Int32), iv (0 : Int32), iv (1 : Int32), rv b4, rv b13, .val .null, rv b211, iv (2 : Int32)] [(.ref b1)] _
        refine XS.aload X239.here hx rfl (hb hby at_390) rfl rfl ?_
        refine XS.iload X239.here hx rfl (hb hby at_392) rfl ?_
        refine XS.iconst X239.here hx rfl (hb hby at_394) ?_
        show oS p e below T239 m 395 #[iv x1, iv x2, iv (1 : Int32), iv (0 : Int32), rv b1, rv b4, rv b7, rv b13, rv b20, iv (1 : Int32), iv (0 : Int32), iv (1 : Int32), rv b4, rv b13, .val .null, rv b211, iv (2 : Int32)] [(.int (1 : Int32)), (.int (2 : Int32)), (.ref b211), (.ref b1)] _
        refine st240 _ ?_
        refine XS.ifNo X240.here hx rfl (hb hby at_398) rfl ((if0 _ _).trans (feq (by decide : ¬ ((1 : Int32) = (0 : Int32)))).1) ?_
        refine XS.iconst X240.here hx rfl (hb hby at_401) ?_
        refine XS.goto X240.here hx rfl (pc0 := 402) (pc' := 406) rfl (hb hby at_402) (by decide) (by decide) ?_
        refine XS.istore X240.here hx rfl (hb hby at_406) rfl (l' := #[iv x1, iv x2, iv (1 : Int32), iv (0 : Int32), rv b1, rv b4, rv b7, rv b13, rv b20, iv (1 : Int32), iv (0 : Int32), iv (1 : Int32), rv b4, rv b13, .val .null, rv b211, iv (2 : Int32)]) rfl ?_
        refine XS.iload X240.here hx rfl (hb hby at_408) rfl ?_
        refine XS.ifNo X240.here hx rfl (hb hby at_410) rfl ((if0 _ _).trans (feq (by decide : ¬ ((1 : Int32) = (0 : Int32)))).1) ?_
        refine XS.iload X240.here hx rfl (hb hby at_413) rfl ?_
        show oS p e below T240 m 415 #[iv x1, iv x2, iv (1 : Int32), iv (0 : Int32), rv b1, rv b4, rv b7, rv b13, rv b20, iv (1 : Int32), iv (0 : Int32), iv (1 : Int32), rv b4, rv b13, .val .null, rv b211, iv (2 : Int32)] [(.int (1 : Int32))] _
        refine XS.iconst X240.here hx rfl (hb hby at_415) ?_
        refine XS.iadd X240.here hx rfl (hb hby at_416) rfl ?_
        show oS p e below T240 m 417 #[iv x1, iv x2, iv (1 : Int32), iv (0 : Int32), rv b1, rv b4, rv b7, rv b13, rv b20, iv (1 : Int32), iv (0 : Int32), iv (1 : Int32), rv b4, rv b13, .val .null, rv b211, iv (2 : Int32)] [(.int (2 : Int32))] _
        refine XS.iconst X240.here hx rfl (hb hby at_417) ?_
        refine XS.icmpNo X240.here hx rfl (hb hby at_418) rfl (flt (by decide : ¬ ((2 : Int32) < (2 : Int32)))).1 ?_
        refine XS.aload X240.here hx rfl (hb hby at_421) rfl rfl ?_
        refine XS.aload X240.here hx rfl (hb hby at_423) rfl rfl ?_
        refine XS.iload X240.here hx rfl (hb hby at_425) rfl ?_
        refine XS.iconst X240.here hx rfl (hb hby at_427) ?_
        show oS p e below T240 m 428 #[iv x1, iv x2, iv (1 : Int32), iv (0 : Int32), rv b1, rv b4, rv b7, rv b13, rv b20, iv (1 : Int32), iv (0 : Int32), iv (1 : Int32), rv b4, rv b13, .val .null, rv b211, iv (2 : Int32)] [(.int (2 : Int32)), (.int (2 : Int32)), (.ref b211), (.ref b1)] _
        refine st245 _ ?_
        refine XS.ifNo X245.here hx rfl (hb hby at_431) rfl ((if0 _ _).trans (feq (by decide : ¬ ((1 : Int32) = (0 : Int32)))).1) ?_
        refine XS.iconst X245.here hx rfl (hb hby at_434) ?_
        refine XS.goto X245.here hx rfl (pc0 := 435) (pc' := 439) rfl (hb hby at_435) (by decide) (by decide) ?_
        refine XS.istore X245.here hx rfl (hb hby at_439) rfl (l' := #[iv x1, iv x2, iv (1 : Int32), iv (0 : Int32), rv b1, rv b4, rv b7, rv b13, rv b20, iv (1 : Int32), iv (0 : Int32), iv (1 : Int32), rv b4, rv b13, .val .null, rv b211, iv (2 : Int32)]) rfl ?_
        refine XS.iload X245.here hx rfl (hb hby at_441) rfl ?_
        refine XS.ifNo X245.here hx rfl (hb hby at_443) rfl ((if0 _ _).trans (feq (by decide : ¬ ((1 : Int32) = (0 : Int32)))).1) ?_
        refine XS.iload X245.here hx rfl (hb hby at_446) rfl ?_
        show oS p e below T245 m 448 #[iv x1, iv x2, iv (1 : Int32), iv (0 : Int32), rv b1, rv b4, rv b7, rv b13, rv b20, iv (1 : Int32), iv (0 : Int32), iv (1 : Int32), rv b4, rv b13, .val .null, rv b211, iv (2 : Int32)] [(.int (1 : Int32))] _
        refine XS.iconst X245.here hx rfl (hb hby at_448) ?_
        refine XS.iadd X245.here hx rfl (hb hby at_449) rfl ?_
        show oS p e below T245 m 450 #[iv x1, iv x2, iv (1 : Int32), iv (0 : Int32), rv b1, rv b4, rv b7, rv b13, rv b20, iv (1 : Int32), iv (0 : Int32), iv (1 : Int32), rv b4, rv b13, .val .null, rv b211, iv (2 : Int32)] [(.int (2 : Int32))] _
        refine XS.iconst X245.here hx rfl (hb hby at_450) ?_
        refine XS.icmpYes X245.here hx rfl (pc0 := 451) (pc' := 467) rfl (hb hby at_451) rfl (tlt (by decide : ((2 : Int32) < (3 : Int32)))).1 (by decide) (by decide) ?_
        refine XS.iconst X245.here hx rfl (hb hby at_467) ?_
        refine XS.goto X245.here hx rfl (pc0 := 468) (pc' := 472) rfl (hb hby at_468) (by decide) (by decide) ?_
        refine XS.istore X245.here hx rfl (hb hby at_472) rfl (l' := #[iv x1, iv x2, iv (1 : Int32), iv (0 : Int32), rv b1, rv b4, rv b7, rv b13, rv b20, iv (1 : Int32), iv (0 : Int32), iv (1 : Int32), rv b4, rv b13, .val .null, rv b211, iv (2 : Int32)]) rfl ?_
        refine XS.iload X245.here hx rfl (hb hby at_474) rfl ?_
        exact kt
      obtain ⟨fs, hr, hrun, hended, hW, hsame⟩ := X245.leave (v := some (.int (1 : Int32))) (fun h => by rw [Bd.returns] at h; cases h)
      refine ⟨_, _, pre0 _ (pre32 _ (pre202 _ (pre249 _ ?_))), hrun, hended, _, _, rfl, ?_, ⟨_, rfl⟩, hW, hsame.mono (by decide) (by decide)⟩
      · show oS p e below T245 m 476 #[iv x1, iv x2, iv (1 : Int32), iv (0 : Int32), rv b1, rv b4, rv b7, rv b13, rv b20, iv (1 : Int32), iv (0 : Int32), iv (1 : Int32), rv b4, rv b13, .val .null, rv b211, iv (2 : Int32)] [(.int (1 : Int32))] _
        exact retN X245 hx (t := .boolean) Bd.returns (by simp) (hb hby at_476) hr
      · show Q0 Z x1 x2 h0 n0 _ T245.heap _
        rw [eh245]
        exact ⟨rfl, N245⟩
    · subst hn
      have Vc251 : Arv Z T189.heap b20 kk20 (.object oz0) (2 : Int32) [(.ref b4), (.ref b7)] .null := (Va31.keep K189 (ninS (Ne.symm ne_b1_b20) (ninS (Ne.symm ne_b4_b20) nin0)))
      obtain ⟨_, _, ⟨T250, Lw250, kw250, nw250⟩, -, X250, ⟨Lc250, hQ250, l250, y250, z250⟩, st250⟩ := Jvm.LawKit.callS X198 hx (y := (⟨oz4, "step", oz3⟩ : MethodName)) hown (mvT hZ (own_w hw 50 rfl)) (mvT hZ (own_w hw 51 rfl)) (mvT hZ (own_w hw 29 rfl)) (mvT hZ (own_w hw 52 rfl)) (by decide) (backOf (W := 0) (rmT2_1_0 l Z a0 hw [] b1 b20 b4 b7 kk20 T189.heap n0 Zc201 Ec199 Ec200 g_b1 g_b4 pf189_0 pf189_1 pf189_2 pf189_3 pf189_4 Vc251) hZ (own_w hw 52 rfl) (own_w hw 29 rfl) (by decide) (by decide)) (g := (mkF m 157 #[iv x1, iv x2, iv (1 : Int32), iv (1 : Int32), rv b1, rv b4, rv b7, rv b13, rv b20, iv (1 : Int32), .unset, .unset, .unset, .unset, .unset, .unset, .unset] [(.int (0 : Int32)), (.int (1 : Int32)), (.ref b20), (.ref b1)])) rfl (by rw [hml]; rfl) (argsL := [(.ref b1), (.ref b20), (.int (1 : Int32)), (.int (0 : Int32))]) (rest := []) (lenOf own_pd7 rfl) rfl (by show 2 * 0 + _ ≤ _; exact Nat.le_of_eq rfl) (hb hby at_157) (fun _ _ => ⟨rfl, eh198, (by decide : 5 + 0 ≤ _), (by decide : 34 + 0 ≤ _)⟩)
      dsimp only [Pt.U, Pt.locs, Pt.cells, Pt.slots] at X250 l250 y250 z250 st250 hQ250
      subst l250 y250 z250
      obtain ⟨rfl, Nq250, K250, pf250_0, pf250_1, pf250_2, pf250_3, pf250_4⟩ := hQ250
      have N250 := Fr.app N198 Nq250
      have Zc253 : n0 ≤ T250.heap.size := (Nat.le_trans Zc201 K250.1)
      obtain ⟨_, _, ⟨T252, Lw252, kw252, nw252⟩, -, X252, ⟨Lc252, hQ252, l252, y252, z252⟩, st252⟩ := Jvm.LawKit.callS X250 hx (y := (⟨"java/lang/Math", "min", "(II)I"⟩ : MethodName)) hown (mvT hZ (own_w hw 58 rfl)) (mvT hZ (own_w hw 59 rfl)) (mvT hZ (own_w hw 60 rfl)) (mvT hZ (own_w hw 61 rfl)) (by decide) (backOf (W := 0) (rm10 l Z a0 hw [] (1 : Int32) (1 : Int32) T250.heap n0 Zc253 ) hZ (own_w hw 61 rfl) (own_w hw 60 rfl) (by decide) (by decide)) (g := (mkF m 237 #[iv x1, iv x2, iv (1 : Int32), iv (1 : Int32), rv b1, rv b4, rv b7, rv b13, rv b20, iv (1 : Int32), .unset, .unset, .unset, .unset, .unset, .unset, .unset] [(.int (1 : Int32)), (.int (1 : Int32))])) rfl (by rw [hml]; rfl) (argsL := [(.int (1 : Int32)), (.int (1 : Int32))]) (rest := []) (lenOf own_pd6 rfl) rfl (by show 2 * 0 + _ ≤ _; exact Nat.le_of_eq rfl) (hb hby at_237) (fun _ _ => ⟨rfl, rfl, (by decide : 5 + 0 ≤ _), (by decide : 34 + 0 ≤ _)⟩)
      dsimp only [Pt.U, Pt.locs, Pt.cells, Pt.slots] at X252 l252 y252 z252 st252 hQ252
      subst l252 y252 z252
      obtain ⟨rfl, Nq252, eh252⟩ := hQ252
      have N252 := Fr.app N250 Nq252
      have Ec255 : Exa Z T250.heap b1 oz1 := (Ec199.keep K250)
      have Ec256 : Exa Z T250.heap b13 oz0 := (((((Ec25.ext E20).wr W28).wr W31).keep K189).keep K250)
      have Fc257 : Fld Z T250.heap b13 oz0 "in" oz6 .null := (((((pf18_0.ext E20).other W28 (Or.inl ne_b13_b20)).other W31 (Or.inl ne_b13_b20)).keep K189 (ninS (Ne.symm ne_b1_b13) (ninS (Ne.symm ne_b4_b13) nin0))).keep K250 (ninS (Ne.symm ne_b1_b13) (ninS (Ne.symm ne_b4_b13) nin0)))
      have Fc258 : Fld Z T250.heap b13 oz0 "before" oz2 .null := (((((pf18_1.ext E20).other W28 (Or.inl ne_b13_b20)).other W31 (Or.inl ne_b13_b20)).keep K189 (ninS (Ne.symm ne_b1_b13) (ninS (Ne.symm ne_b4_b13) nin0))).keep K250 (ninS (Ne.symm ne_b1_b13) (ninS (Ne.symm ne_b4_b13) nin0)))
      have Fc259 : Fld Z T250.heap b13 oz0 "after" oz2 .null := (((((pf18_2.ext E20).other W28 (Or.inl ne_b13_b20)).other W31 (Or.inl ne_b13_b20)).keep K189 (ninS (Ne.symm ne_b1_b13) (ninS (Ne.symm ne_b4_b13) nin0))).keep K250 (ninS (Ne.symm ne_b1_b13) (ninS (Ne.symm ne_b4_b13) nin0)))
      obtain ⟨cq254, kq254, q254a, q254b, q254c⟩ := isOf hZ eh252 Ec255
      obtain ⟨_, _, ⟨T254, Lw254, kw254, nw254⟩, -, X254, ⟨Lc254, hQ254, l254, y254, z254⟩, st254⟩ := X252.virtualBack hx (y := (⟨oz1, "add", oz8⟩ : MethodName)) (z := (⟨oz1, "add", oz8⟩ : MethodName)) hown (mvT hZ (own_w hw 62 rfl)) (mvT hZ (own_w hw 63 rfl)) (notFace_of_selects (args := #[]) (mvT hZ (own_w hw 65 rfl))) (mvT hZ (own_w hw 65 rfl)) (mvT hZ (own_w hw 64 rfl)) (by decide) (backOf (W := 0) (rmA0 l Z a0 hw [] b1 b13 .null T250.heap n0 Zc253 Ec255 Ec256 g_b1 g_b13 pf250_0 pf250_1 Fc257 Fc258 Fc259) hZ (own_w hw 66 rfl) (own_w hw 3 rfl) (by decide) (by decide)) q254a q254c (g := (mkF m 252 #[iv x1, iv x2, iv (1 : Int32), iv (1 : Int32), rv b1, rv b4, rv b7, rv b13, rv b20, iv (1 : Int32), iv (1 : Int32), iv (0 : Int32), .unset, .unset, .unset, .unset, .unset] [(.ref b13), (.ref b1)])) rfl (by rw [hml]; rfl) (Steps.refl _) (argsL := [(.ref b13)]) (rest := []) (lenOf own_pd0 rfl) rfl (by show 2 * 0 + _ ≤ _; exact Nat.le_of_eq rfl) (hb hby at_252) (fun _ _ => ⟨rfl, eh252, (by decide : 5 + 0 ≤ _), (by decide : 34 + 0 ≤ _)⟩)
      dsimp only [Pt.U, Pt.locs, Pt.cells, Pt.slots] at X254 l254 y254 z254 st254 hQ254
      subst l254 y254 z254
      obtain ⟨rfl, Nq254, K254, pf254_0, pf254_1, pf254_2, pf254_3, pf254_4⟩ := hQ254
      have N254 := Fr.app N252 Nq254
      have Zc261 : n0 ≤ T254.heap.size := (Nat.le_trans Zc253 K254.1)
      have Ec262 : Exa Z T254.heap b1 oz1 := (Ec255.keep K254)
      have Ec263 : Exa Z T254.heap b4 oz0 := ((Ec200.keep K250).keep K254)
      have Ec264 : Exa Z T254.heap b7 oz0 := ((((Ec29.wr W31).keep K189).keep K250).keep K254)
      have Ec265 : Exa Z T254.heap b13 oz0 := (Ec256.keep K254)
      have Vc266 : Arv Z T254.heap b20 kk20 (.object oz0) (2 : Int32) [(.ref b4), (.ref b7)] .null := ((Vc251.keep K250 (ninS (Ne.symm ne_b1_b20) (ninS (Ne.symm ne_b4_b20) nin0))).keep K254 (ninS (Ne.symm ne_b1_b20) (ninS (Ne.symm ne_b13_b20) nin0)))
      obtain ⟨T260, h260, kk260, X260, e260, E260, A260, O260, st260⟩ := newR X254 hx hZ hown (own_w hw 10 rfl) (own_w hw 25 rfl) rfl (g := (mkF m 318 #[iv x1, iv x2, iv (1 : Int32), iv (1 : Int32), rv b1, rv b4, rv b7, rv b13, rv b20, iv (1 : Int32), iv (1 : Int32), iv (0 : Int32), rv b13, .val .null, .val .null, .unset, .unset] [(.int (3 : Int32))])) rfl (hb hby at_318) rfl (by decide) (cap := 3) (by decide) (by decide) (by decide) (by decide)
      obtain ⟨b260, g260⟩ : ∃ z, z = T254.heap.size := ⟨_, rfl⟩
      rw [← g260] at A260 st260
      have g_b260 : n0 ≤ b260 := Nat.le_trans Zc261 (Nat.le_of_eq g260.symm)
      have ne_b1_b260 : b1 ≠ b260 := Nat.ne_of_lt (Nat.lt_of_lt_of_le Ec262.lt (Nat.le_of_eq g260.symm))
      have ne_b4_b260 : b4 ≠ b260 := Nat.ne_of_lt (Nat.lt_of_lt_of_le Ec263.lt (Nat.le_of_eq g260.symm))
      have ne_b7_b260 : b7 ≠ b260 := Nat.ne_of_lt (Nat.lt_of_lt_of_le Ec264.lt (Nat.le_of_eq g260.symm))
      have ne_b13_b260 : b13 ≠ b260 := Nat.ne_of_lt (Nat.lt_of_lt_of_le Ec265.lt (Nat.le_of_eq g260.symm))
      have ne_b20_b260 : b20 ≠ b260 := Nat.ne_of_lt (Nat.lt_of_lt_of_le Vc266.lt (Nat.le_of_eq g260.symm))
      have V_b260 : Arv Z h260 b260 kk260 (.object oz0) (3 : Int32) [.null, .null, .null] .null := (Arv.new A260 (by decide)).pad (pad_rep [] .null 3)
      have Ec267 : Exa Z h260 b13 oz0 := (Ec265.ext E260)
      obtain ⟨cl268, Ar268, qk268, Sz268, Ng268, Hs268, Gt268⟩ := id V_b260
      have hin268 : ¬ ((0 : Int32) < 0 ∨ cl268.slots.size ≤ ((0 : Int32)).toNatClampNeg) := inb_of Sz268 ⟨by decide, by decide⟩
      obtain ⟨T269, h269, X269, e269, W269, st269⟩ := stR X260 hx hZ e260 Ar268 (j := (0 : Int32)) hin268 rfl (Sto.ofV Ar268 qk268 O260 (Ins.self Ec267)) (g := (mkF m 325 #[iv x1, iv x2, iv (1 : Int32), iv (1 : Int32), rv b1, rv b4, rv b7, rv b13, rv b20, iv (1 : Int32), iv (1 : Int32), iv (0 : Int32), rv b13, .val .null, .val .null, .unset, .unset] [(.ref b13), (.int (0 : Int32)), (.ref b260), (.ref b260)])) rfl rfl (hb hby at_325)
      have Va269 : Arv Z h269 b260 kk260 (.object oz0) (3 : Int32) [(.ref b13), .null, .null] .null := Arv.set Ar268 qk268 Sz268 Ng268 Hs268 Gt268 rfl W269 0 rfl (Nat.le_of_ble_eq_true rfl)
      have N269 := Fr.snoc X269 N254 g_b260
      obtain ⟨cl270, Ar270, qk270, Sz270, Ng270, Hs270, Gt270⟩ := id Va269
      have hin270 : ¬ ((1 : Int32) < 0 ∨ cl270.slots.size ≤ ((1 : Int32)).toNatClampNeg) := inb_of Sz270 ⟨by decide, by decide⟩
      obtain ⟨T271, h271, X271, e271, W271, st271⟩ := stR X269 hx hZ e269 Ar270 (j := (1 : Int32)) hin270 rfl (Or.inl rfl) (g := (mkF m 330 #[iv x1, iv x2, iv (1 : Int32), iv (1 : Int32), rv b1, rv b4, rv b7, rv b13, rv b20, iv (1 : Int32), iv (1 : Int32), iv (0 : Int32), rv b13, .val .null, .val .null, .unset, .unset] [.null, (.int (1 : Int32)), (.ref b260), (.ref b260)])) rfl rfl (hb hby at_330)
      have Va271 : Arv Z h271 b260 kk260 (.object oz0) (3 : Int32) [(.ref b13), .null, .null] .null := Arv.set Ar270 qk270 Sz270 Ng270 Hs270 Gt270 rfl W271 1 rfl (Nat.le_of_ble_eq_true rfl)
      have N271 := Fr.snoc X271 N269 g_b260
      obtain ⟨cl272, Ar272, qk272, Sz272, Ng272, Hs272, Gt272⟩ := id Va271
      have hin272 : ¬ ((2 : Int32) < 0 ∨ cl272.slots.size ≤ ((2 : Int32)).toNatClampNeg) := inb_of Sz272 ⟨by decide, by decide⟩
      obtain ⟨T273, h273, X273, e273, W273, st273⟩ := stR X271 hx hZ e271 Ar272 (j := (2 : Int32)) hin272 rfl (Or.inl rfl) (g := (mkF m 335 #[iv x1, iv x2, iv (1 : Int32), iv (1 : Int32), rv b1, rv b4, rv b7, rv b13, rv b20, iv (1 : Int32), iv (1 : Int32), iv (0 : Int32), rv b13, .val .null, .val .null, .unset, .unset] [.null, (.int (2 : Int32)), (.ref b260), (.ref b260)])) rfl rfl (hb hby at_335)
      have Va273 : Arv Z h273 b260 kk260 (.object oz0) (3 : Int32) [(.ref b13), .null, .null] .null := Arv.set Ar272 qk272 Sz272 Ng272 Hs272 Gt272 rfl W273 2 rfl (Nat.le_of_ble_eq_true rfl)
      have N273 := Fr.snoc X273 N271 g_b260
      obtain ⟨cl274, Ar274, qk274, Sz274, Ng274, Hs274, Gt274⟩ := id Va273
      have hin274 : ¬ ((0 : Int32) < 0 ∨ cl274.slots.size ≤ ((0 : Int32)).toNatClampNeg) := inb_of Sz274 ⟨by decide, by decide⟩
      have hat274 : cl274.slots[((0 : Int32)).toNatClampNeg]? = some (.ref b13) := Hs274.at hin274 rfl
      have Ec276 : Exa Z h273 b1 oz1 := ((((Ec262.ext E260).wr W269).wr W271).wr W273)
      have Ec277 : Exa Z h273 b13 oz0 := (((Ec267.wr W269).wr W271).wr W273)
      have Fc278 : Fld Z h273 b1 oz1 "first" oz2 (.ref b13) := ((((pf254_0.ext E260).other W269 (Or.inl ne_b1_b260)).other W271 (Or.inl ne_b1_b260)).other W273 (Or.inl ne_b1_b260))
      have Fc279 : Fld Z h273 b1 oz1 "last" oz2 (.ref b13) := ((((pf254_1.ext E260).other W269 (Or.inl ne_b1_b260)).other W271 (Or.inl ne_b1_b260)).other W273 (Or.inl ne_b1_b260))
      have Fc280 : Fld Z h273 b13 oz0 "in" oz6 (.ref b1) := ((((pf254_2.ext E260).other W269 (Or.inl ne_b13_b260)).other W271 (Or.inl ne_b13_b260)).other W273 (Or.inl ne_b13_b260))
      have Fc281 : Fld Z h273 b13 oz0 "before" oz2 .null := ((((pf254_3.ext E260).other W269 (Or.inl ne_b13_b260)).other W271 (Or.inl ne_b13_b260)).other W273 (Or.inl ne_b13_b260))
      have Fc282 : Fld Z h273 b13 oz0 "after" oz2 .null := ((((pf254_4.ext E260).other W269 (Or.inl ne_b13_b260)).other W271 (Or.inl ne_b13_b260)).other W273 (Or.inl ne_b13_b260))
      have Zc283 : n0 ≤ h273.size := (Nat.le_trans (Nat.le_trans (Nat.le_trans (Nat.le_trans Zc261 E260.1) (Keep.of_wr W269).1) (Keep.of_wr W271).1) (Keep.of_wr W273).1)
      obtain ⟨_, _, ⟨T275, Lw275, kw275, nw275⟩, -, X275, ⟨Lc275, hQ275, l275, y275, z275⟩, st275⟩ := Jvm.LawKit.callS X273 hx (y := (⟨oz4, "state", oz5⟩ : MethodName)) hown (mvT hZ (own_w hw 27 rfl)) (mvT hZ (own_w hw 28 rfl)) (mvT hZ (own_w hw 29 rfl)) (mvT hZ (own_w hw 30 rfl)) (by decide) (backOf (W := 0) (rmS1 l Z a0 hw [] b1 b13 h273 n0 Zc283 Ec276 Ec277 Fc278 Fc279 Fc280 Fc281 Fc282) hZ (own_w hw 30 rfl) (own_w hw 29 rfl) (by decide) (by decide)) (g := (mkF m 353 #[iv x1, iv x2, iv (1 : Int32), iv (1 : Int32), rv b1, rv b4, rv b7, rv b13, rv b20, iv (1 : Int32), iv (1 : Int32), iv (0 : Int32), rv b13, .val .null, .val .null, rv b260, iv (1 : Int32)] [(.ref b13), (.ref b13), (.ref b1)])) rfl (by rw [hml]; rfl) (argsL := [(.ref b1), (.ref b13), (.ref b13)]) (rest := []) (lenOf own_pd5 rfl) rfl (by show 2 * 0 + _ ≤ _; exact Nat.le_of_eq rfl) (hb hby at_353) (fun _ _ => ⟨rfl, e273, (by decide : 6 + 0 ≤ _), (by decide : 37 + 0 ≤ _)⟩)
      dsimp only [Pt.U, Pt.locs, Pt.cells, Pt.slots] at X275 l275 y275 z275 st275 hQ275
      subst l275 y275 z275
      obtain ⟨rfl, Nq275, eh275⟩ := hQ275
      have N275 := Fr.app N273 Nq275
      obtain ⟨_, _, ⟨T284, Lw284, kw284, nw284⟩, -, X284, ⟨Lc284, hQ284, l284, y284, z284⟩, st284⟩ := Jvm.LawKit.callS X275 hx (y := (⟨oz4, "step", oz3⟩ : MethodName)) hown (mvT hZ (own_w hw 50 rfl)) (mvT hZ (own_w hw 51 rfl)) (mvT hZ (own_w hw 29 rfl)) (mvT hZ (own_w hw 52 rfl)) (by decide) (backOf (W := 0) (rmT3_1_0 l Z a0 hw [] b1 b260 b13 kk260 h273 n0 Zc283 Ec276 Ec277 g_b1 g_b13 Fc278 Fc279 Fc280 Fc281 Fc282 Va273) hZ (own_w hw 52 rfl) (own_w hw 29 rfl) (by decide) (by decide)) (g := (mkF m 370 #[iv x1, iv x2, iv (1 : Int32), iv (1 : Int32), rv b1, rv b4, rv b7, rv b13, rv b20, iv (1 : Int32), iv (1 : Int32), iv (0 : Int32), rv b13, .val .null, .val .null, rv b260, iv (1 : Int32)] [(.int (0 : Int32)), (.int (1 : Int32)), (.ref b260), (.ref b1)])) rfl (by rw [hml]; rfl) (argsL := [(.ref b1), (.ref b260), (.int (1 : Int32)), (.int (0 : Int32))]) (rest := []) (lenOf own_pd7 rfl) rfl (by show 2 * 0 + _ ≤ _; exact Nat.le_of_eq rfl) (hb hby at_370) (fun _ _ => ⟨rfl, eh275, (by decide : 6 + 0 ≤ _), (by decide : 37 + 0 ≤ _)⟩)
      dsimp only [Pt.U, Pt.locs, Pt.cells, Pt.slots] at X284 l284 y284 z284 st284 hQ284
      subst l284 y284 z284
      obtain ⟨rfl, Nq284, K284, pf284_0, pf284_1, pf284_2, pf284_3, pf284_4⟩ := hQ284
      have N284 := Fr.app N275 Nq284
      have Ec286 : Exa Z T284.heap b1 oz1 := (Ec276.keep K284)
      have Vc287 : Arv Z T284.heap b260 kk260 (.object oz0) (3 : Int32) [(.ref b13), .null, .null] .null := (Va273.keep K284 (ninS (Ne.symm ne_b1_b260) (ninS (Ne.symm ne_b13_b260) nin0)))
      have Zc288 : n0 ≤ T284.heap.size := (Nat.le_trans Zc283 K284.1)
      obtain ⟨_, _, ⟨T285, Lw285, kw285, nw285⟩, -, X285, ⟨Lc285, hQ285, l285, y285, z285⟩, st285⟩ := Jvm.LawKit.callS X284 hx (y := (⟨oz4, "step", oz3⟩ : MethodName)) hown (mvT hZ (own_w hw 50 rfl)) (mvT hZ (own_w hw 51 rfl)) (mvT hZ (own_w hw 29 rfl)) (mvT hZ (own_w hw 52 rfl)) (by decide) (backOf (W := 0) (rmT3_1_1 l Z a0 hw [] b1 b260 b13 kk260 T284.heap n0 Zc288 Ec286 pf284_0 pf284_1 Vc287) hZ (own_w hw 52 rfl) (own_w hw 29 rfl) (by decide) (by decide)) (g := (mkF m 395 #[iv x1, iv x2, iv (1 : Int32), iv (1 : Int32), rv b1, rv b4, rv b7, rv b13, rv b20, iv (1 : Int32), iv (1 : Int32), iv (0 : Int32), rv b13, .val .null, .val .null, rv b260, iv (1 : Int32)] [(.int (1 : Int32)), (.int (1 : Int32)), (.ref b260), (.ref b1)])) rfl (by rw [hml]; rfl) (argsL := [(.ref b1), (.ref b260), (.int (1 : Int32)), (.int (1 : Int32))]) (rest := []) (lenOf own_pd7 rfl) rfl (by show 2 * 0 + _ ≤ _; exact Nat.le_of_eq rfl) (hb hby at_395) (fun _ _ => ⟨rfl, rfl, (by decide : 6 + 0 ≤ _), (by decide : 37 + 0 ≤ _)⟩)
      dsimp only [Pt.U, Pt.locs, Pt.cells, Pt.slots] at X285 l285 y285 z285 st285 hQ285
      subst l285 y285 z285
      obtain ⟨rfl, Nq285, eh285⟩ := hQ285
      have N285 := Fr.app N284 Nq285
      have pre289 : ∀ tz, oS p e below T285 m 476 #[iv x1, iv x2, iv (1 : Int32), iv (1 : Int32), rv b1, rv b4, rv b7, rv b13, rv b20, iv (1 : Int32), iv (1 : Int32), iv (0 : Int32), rv b13, .val .null, .val .null, rv b260, iv (1 : Int32)] [(.int (1 : Int32))] tz → oS p e below T198 m 146 #[iv x1, iv x2, iv (1 : Int32), iv (1 : Int32), rv b1, rv b4, rv b7, rv b13, rv b20, iv (1 : Int32), .unset, .unset, .unset, .unset, .unset, .unset, .unset] [] tz := fun tz kt => by
        show oS p e below T198 m 146 #[iv x1, iv x2, iv (1 : Int32), iv (1 : Int32), rv b1, rv b4, rv b7, rv b13, rv b20, iv (1 : Int32), .unset, .unset, .unset, .unset, .unset, .unset, .unset] [] _
        refine XS.iloadN X198.here hx rfl (hb hby at_146) rfl ?_
        refine XS.iconst X198.here hx rfl (hb hby at_147) ?_
        refine XS.icmpNo X198.here hx rfl (hb hby at_148) rfl (flt (by decide : ¬ ((1 : Int32) < (1 : Int32)))).1 ?_
        refine XS.aload X198.here hx rfl (hb hby at_151) rfl rfl ?_
        refine XS.aload X198.here hx rfl (hb hby at_153) rfl rfl ?_
        refine XS.iloadN X198.here hx rfl (hb hby at_155) rfl ?_
        refine XS.iconst X198.here hx rfl (hb hby at_156) ?_
        show oS p e below T198 m 157 #[iv x1, iv x2, iv (1 : Int32), iv (1 : Int32), rv b1, rv b4, rv b7, rv b13, rv b20, iv (1 : Int32), .unset, .unset, .unset, .unset, .unset, .unset, .unset] [(.int (0 : Int32)), (.int (1 : Int32)), (.ref b20), (.ref b1)] _
        refine st250 _ ?_
        refine XS.ifNo X250.here hx rfl (hb hby at_160) rfl ((if0 _ _).trans (feq (by decide : ¬ ((1 : Int32) = (0 : Int32)))).1) ?_
        refine XS.iconst X250.here hx rfl (hb hby at_163) ?_
        refine XS.goto X250.here hx rfl (pc0 := 164) (pc' := 168) rfl (hb hby at_164) (by decide) (by decide) ?_
        refine XS.istore X250.here hx rfl (hb hby at_168) rfl (l' := #[iv x1, iv x2, iv (1 : Int32), iv (1 : Int32), rv b1, rv b4, rv b7, rv b13, rv b20, iv (1 : Int32), .unset, .unset, .unset, .unset, .unset, .unset, .unset]) rfl ?_
        refine XS.iload X250.here hx rfl (hb hby at_170) rfl ?_
        refine XS.ifNo X250.here hx rfl (hb hby at_172) rfl ((if0 _ _).trans (feq (by decide : ¬ ((1 : Int32) = (0 : Int32)))).1) ?_
        refine XS.iloadN X250.here hx rfl (hb hby at_175) rfl ?_
        show oS p e below T250 m 176 #[iv x1, iv x2, iv (1 : Int32), iv (1 : Int32), rv b1, rv b4, rv b7, rv b13, rv b20, iv (1 : Int32), .unset, .unset, .unset, .unset, .unset, .unset, .unset] [(.int (1 : Int32))] _
        refine XS.iconst X250.here hx rfl (hb hby at_176) ?_
        refine XS.icmpYes X250.here hx rfl (pc0 := 177) (pc' := 192) rfl (hb hby at_177) rfl (tlt (by decide : ((1 : Int32) < (2 : Int32)))).1 (by decide) (by decide) ?_
        refine XS.iconst X250.here hx rfl (hb hby at_192) ?_
        refine XS.goto X250.here hx rfl (pc0 := 193) (pc' := 197) rfl (hb hby at_193) (by decide) (by decide) ?_
        refine XS.istore X250.here hx rfl (hb hby at_197) rfl (l' := #[iv x1, iv x2, iv (1 : Int32), iv (1 : Int32), rv b1, rv b4, rv b7, rv b13, rv b20, iv (1 : Int32), .unset, .unset, .unset, .unset, .unset, .unset, .unset]) rfl ?_
        refine XS.iload X250.here hx rfl (hb hby at_199) rfl ?_
        refine XS.ifNo X250.here hx rfl (hb hby at_201) rfl ((if0 _ _).trans (feq (by decide : ¬ ((1 : Int32) = (0 : Int32)))).1) ?_
        refine XS.iloadN X250.here hx rfl (hb hby at_204) rfl ?_
        show oS p e below T250 m 205 #[iv x1, iv x2, iv (1 : Int32), iv (1 : Int32), rv b1, rv b4, rv b7, rv b13, rv b20, iv (1 : Int32), .unset, .unset, .unset, .unset, .unset, .unset, .unset] [(.int (1 : Int32))] _
        refine XS.iconst X250.here hx rfl (hb hby at_205) ?_
        refine XS.icmpYes X250.here hx rfl (pc0 := 206) (pc' := 221) rfl (hb hby at_206) rfl (tlt (by decide : ((1 : Int32) < (3 : Int32)))).1 (by decide) (by decide) ?_
        refine XS.iconst X250.here hx rfl (hb hby at_221) ?_
        refine XS.goto X250.here hx rfl (pc0 := 222) (pc' := 226) rfl (hb hby at_222) (by decide) (by decide) ?_
        refine XS.istore X250.here hx rfl (hb hby at_226) rfl (l' := #[iv x1, iv x2, iv (1 : Int32), iv (1 : Int32), rv b1, rv b4, rv b7, rv b13, rv b20, iv (1 : Int32), .unset, .unset, .unset, .unset, .unset, .unset, .unset]) rfl ?_
        refine XS.iload X250.here hx rfl (hb hby at_228) rfl ?_
        refine XS.ifYes X250.here hx rfl (pc0 := 230) (pc' := 235) rfl (hb hby at_230) rfl ((if0 _ _).trans (feq (by decide : ¬ ((1 : Int32) = (0 : Int32)))).2) (by decide) (by decide) ?_
        refine XS.iloadN X250.here hx rfl (hb hby at_235) rfl ?_
        show oS p e below T250 m 236 #[iv x1, iv x2, iv (1 : Int32), iv (1 : Int32), rv b1, rv b4, rv b7, rv b13, rv b20, iv (1 : Int32), .unset, .unset, .unset, .unset, .unset, .unset, .unset] [(.int (1 : Int32))] _
        refine XS.iloadN X250.here hx rfl (hb hby at_236) rfl ?_
        show oS p e below T250 m 237 #[iv x1, iv x2, iv (1 : Int32), iv (1 : Int32), rv b1, rv b4, rv b7, rv b13, rv b20, iv (1 : Int32), .unset, .unset, .unset, .unset, .unset, .unset, .unset] [(.int (1 : Int32)), (.int (1 : Int32))] _
        refine st252 _ ?_
        rw [((if_neg (by decide : ¬ ((1 : Int32) < (1 : Int32)))) : (if (1 : Int32) < (1 : Int32) then (1 : Int32) else (1 : Int32)) = (1 : Int32))]
        show oS p e below T252 m 240 #[iv x1, iv x2, iv (1 : Int32), iv (1 : Int32), rv b1, rv b4, rv b7, rv b13, rv b20, iv (1 : Int32), .unset, .unset, .unset, .unset, .unset, .unset, .unset] [(.int (1 : Int32))] _
        refine XS.istore X252.here hx rfl (hb hby at_240) rfl (l' := #[iv x1, iv x2, iv (1 : Int32), iv (1 : Int32), rv b1, rv b4, rv b7, rv b13, rv b20, iv (1 : Int32), iv (1 : Int32), .unset, .unset, .unset, .unset, .unset, .unset]) rfl ?_
        refine XS.iloadN X252.here hx rfl (hb hby at_242) rfl ?_
        refine XS.iload X252.here hx rfl (hb hby at_243) rfl ?_
        refine XS.isub X252.here hx rfl (hb hby at_245) rfl ?_
        show oS p e below T252 m 246 #[iv x1, iv x2, iv (1 : Int32), iv (1 : Int32), rv b1, rv b4, rv b7, rv b13, rv b20, iv (1 : Int32), iv (1 : Int32), .unset, .unset, .unset, .unset, .unset, .unset] [(.int (0 : Int32))] _
        refine XS.istore X252.here hx rfl (hb hby at_246) rfl (l' := #[iv x1, iv x2, iv (1 : Int32), iv (1 : Int32), rv b1, rv b4, rv b7, rv b13, rv b20, iv (1 : Int32), iv (1 : Int32), iv (0 : Int32), .unset, .unset, .unset, .unset, .unset]) rfl ?_
        refine XS.aload X252.here hx rfl (hb hby at_248) rfl rfl ?_
        refine XS.aload X252.here hx rfl (hb hby at_250) rfl rfl ?_
        show oS p e below T252 m 252 #[iv x1, iv x2, iv (1 : Int32), iv (1 : Int32), rv b1, rv b4, rv b7, rv b13, rv b20, iv (1 : Int32), iv (1 : Int32), iv (0 : Int32), .unset, .unset, .unset, .unset, .unset] [(.ref b13), (.ref b1)] _
        refine st254.trans ?_
        refine XS.iload X254.here hx rfl (hb hby at_255) rfl ?_
        refine XS.iconst X254.here hx rfl (hb hby at_257) ?_
        refine XS.icmpYes X254.here hx rfl (pc0 := 258) (pc' := 269) rfl (hb hby at_258) rfl (tlt (by decide : ((0 : Int32) < (1 : Int32)))).1 (by decide) (by decide) ?_
        refine XS.aload X254.here hx rfl (hb hby at_269) rfl rfl ?_
        refine XS.astore X254.here hx rfl (hb hby at_271) rfl rfl (l' := #[iv x1, iv x2, iv (1 : Int32), iv (1 : Int32), rv b1, rv b4, rv b7, rv b13, rv b20, iv (1 : Int32), iv (1 : Int32), iv (0 : Int32), rv b13, .unset, .unset, .unset, .unset]) rfl ?_
        refine XS.iload X254.here hx rfl (hb hby at_273) rfl ?_
        refine XS.iconst X254.here hx rfl (hb hby at_275) ?_
        show oS p e below T254 m 276 #[iv x1, iv x2, iv (1 : Int32), iv (1 : Int32), rv b1, rv b4, rv b7, rv b13, rv b20, iv (1 : Int32), iv (1 : Int32), iv (0 : Int32), rv b13, .unset, .unset, .unset, .unset] [(.int (2 : Int32)), (.int (0 : Int32))] _
        refine XS.icmpYes X254.here hx rfl (pc0 := 276) (pc' := 289) rfl (hb hby at_276) rfl (tlt (by decide : ((0 : Int32) < (2 : Int32)))).1 (by decide) (by decide) ?_
        refine XS.iload X254.here hx rfl (hb hby at_289) rfl ?_
        refine XS.iconst X254.here hx rfl (hb hby at_291) ?_
        refine XS.icmpYes X254.here hx rfl (pc0 := 292) (pc' := 300) rfl (hb hby at_292) rfl (feq (by decide : ¬ ((0 : Int32) = (1 : Int32)))).2 (by decide) (by decide) ?_
        refine XS.aconstNull X254.here hx rfl (hb hby at_300) ?_
        refine XS.astore X254.here hx rfl (hb hby at_301) rfl rfl (l' := #[iv x1, iv x2, iv (1 : Int32), iv (1 : Int32), rv b1, rv b4, rv b7, rv b13, rv b20, iv (1 : Int32), iv (1 : Int32), iv (0 : Int32), rv b13, .val .null, .unset, .unset, .unset]) rfl ?_
        refine XS.iload X254.here hx rfl (hb hby at_303) rfl ?_
        refine XS.iconst X254.here hx rfl (hb hby at_305) ?_
        show oS p e below T254 m 306 #[iv x1, iv x2, iv (1 : Int32), iv (1 : Int32), rv b1, rv b4, rv b7, rv b13, rv b20, iv (1 : Int32), iv (1 : Int32), iv (0 : Int32), rv b13, .val .null, .unset, .unset, .unset] [(.int (2 : Int32)), (.int (0 : Int32))] _
        refine XS.icmpYes X254.here hx rfl (pc0 := 306) (pc' := 314) rfl (hb hby at_306) rfl (feq (by decide : ¬ ((0 : Int32) = (2 : Int32)))).2 (by decide) (by decide) ?_
        refine XS.aconstNull X254.here hx rfl (hb hby at_314) ?_
        refine XS.astore X254.here hx rfl (hb hby at_315) rfl rfl (l' := #[iv x1, iv x2, iv (1 : Int32), iv (1 : Int32), rv b1, rv b4, rv b7, rv b13, rv b20, iv (1 : Int32), iv (1 : Int32), iv (0 : Int32), rv b13, .val .null, .val .null, .unset, .unset]) rfl ?_
        refine XS.iconst X254.here hx rfl (hb hby at_317) ?_
        show oS p e below T254 m 318 #[iv x1, iv x2, iv (1 : Int32), iv (1 : Int32), rv b1, rv b4, rv b7, rv b13, rv b20, iv (1 : Int32), iv (1 : Int32), iv (0 : Int32), rv b13, .val .null, .val .null, .unset, .unset] [(.int (3 : Int32))] _
        refine st260 _ ?_
        refine XS.dup X260.here hx rfl (hb hby at_321) rfl rfl ?_
        refine XS.iconst X260.here hx rfl (hb hby at_322) ?_
        refine XS.aload X260.here hx rfl (hb hby at_323) rfl rfl ?_
        show oS p e below T260 m 325 #[iv x1, iv x2, iv (1 : Int32), iv (1 : Int32), rv b1, rv b4, rv b7, rv b13, rv b20, iv (1 : Int32), iv (1 : Int32), iv (0 : Int32), rv b13, .val .null, .val .null, .unset, .unset] [(.ref b13), (.int (0 : Int32)), (.ref b260), (.ref b260)] _
        refine st269 _ ?_
        refine XS.dup X269.here hx rfl (hb hby at_326) rfl rfl ?_
        refine XS.iconst X269.here hx rfl (hb hby at_327) ?_
        refine XS.aload X269.here hx rfl (hb hby at_328) rfl rfl ?_
        show oS p e below T269 m 330 #[iv x1, iv x2, iv (1 : Int32), iv (1 : Int32), rv b1, rv b4, rv b7, rv b13, rv b20, iv (1 : Int32), iv (1 : Int32), iv (0 : Int32), rv b13, .val .null, .val .null, .unset, .unset] [.null, (.int (1 : Int32)), (.ref b260), (.ref b260)] _
        refine st271 _ ?_
        refine XS.dup X271.here hx rfl (hb hby at_331) rfl rfl ?_
        refine XS.iconst X271.here hx rfl (hb hby at_332) ?_
        refine XS.aload X271.here hx rfl (hb hby at_333) rfl rfl ?_
        show oS p e below T271 m 335 #[iv x1, iv x2, iv (1 : Int32), iv (1 : Int32), rv b1, rv b4, rv b7, rv b13, rv b20, iv (1 : Int32), iv (1 : Int32), iv (0 : Int32), rv b13, .val .null, .val .null, .unset, .unset] [.null, (.int (2 : Int32)), (.ref b260), (.ref b260)] _
        refine st273 _ ?_
        refine XS.astore X273.here hx rfl (hb hby at_336) rfl rfl (l' := #[iv x1, iv x2, iv (1 : Int32), iv (1 : Int32), rv b1, rv b4, rv b7, rv b13, rv b20, iv (1 : Int32), iv (1 : Int32), iv (0 : Int32), rv b13, .val .null, .val .null, rv b260, .unset]) rfl ?_
        refine XS.iload X273.here hx rfl (hb hby at_338) rfl ?_
        refine XS.iconst X273.here hx rfl (hb hby at_340) ?_
        refine XS.iadd X273.here hx rfl (hb hby at_341) rfl ?_
        show oS p e below T273 m 342 #[iv x1, iv x2, iv (1 : Int32), iv (1 : Int32), rv b1, rv b4, rv b7, rv b13, rv b20, iv (1 : Int32), iv (1 : Int32), iv (0 : Int32), rv b13, .val .null, .val .null, rv b260, .unset] [(.int (1 : Int32))] _
        refine XS.istore X273.here hx rfl (hb hby at_342) rfl (l' := #[iv x1, iv x2, iv (1 : Int32), iv (1 : Int32), rv b1, rv b4, rv b7, rv b13, rv b20, iv (1 : Int32), iv (1 : Int32), iv (0 : Int32), rv b13, .val .null, .val .null, rv b260, iv (1 : Int32)]) rfl ?_
        refine XS.aload X273.here hx rfl (hb hby at_344) rfl rfl ?_
        refine XS.aload X273.here hx rfl (hb hby at_346) rfl rfl ?_
        refine XS.aload X273.here hx rfl (hb hby at_348) rfl rfl ?_
        refine XS.iload X273.here hx rfl (hb hby at_350) rfl ?_
        refine X273.aaload hx (j := (0 : Int32)) (v := (.ref b13)) (by rw [e273]; exact Ar274.1) (State.isArrayOf_alike hZ.alike Ar274.2.1) rfl Ar274.2.2 hin274 hat274 (g := (mkF m 352 #[iv x1, iv x2, iv (1 : Int32), iv (1 : Int32), rv b1, rv b4, rv b7, rv b13, rv b20, iv (1 : Int32), iv (1 : Int32), iv (0 : Int32), rv b13, .val .null, .val .null, rv b260, iv (1 : Int32)] [(.int (0 : Int32)), (.ref b260), (.ref b13), (.ref b1)])) rfl rfl (hb hby at_352) _ ?_
        show oS p e below T273 m 353 #[iv x1, iv x2, iv (1 : Int32), iv (1 : Int32), rv b1, rv b4, rv b7, rv b13, rv b20, iv (1 : Int32), iv (1 : Int32), iv (0 : Int32), rv b13, .val .null, .val .null, rv b260, iv (1 : Int32)] [(.ref b13), (.ref b13), (.ref b1)] _
        refine st275 _ ?_
        refine XS.istore X275.here hx rfl (hb hby at_356) rfl (l' := #[iv x1, iv x2, iv (1 : Int32), iv (1 : Int32), rv b1, rv b4, rv b7, rv b13, rv b20, iv (1 : Int32), iv (1 : Int32), iv (0 : Int32), rv b13, .val .null, .val .null, rv b260, iv (1 : Int32)]) rfl ?_
        refine XS.iload X275.here hx rfl (hb hby at_358) rfl ?_
        refine XS.ifNo X275.here hx rfl (hb hby at_360) rfl ((if0 _ _).trans (feq (by decide : ¬ ((1 : Int32) = (0 : Int32)))).1) ?_
        refine XS.aload X275.here hx rfl (hb hby at_363) rfl rfl ?_
        refine XS.aload X275.here hx rfl (hb hby at_365) rfl rfl ?_
        refine XS.iload X275.here hx rfl (hb hby at_367) rfl ?_
        refine XS.iconst X275.here hx rfl (hb hby at_369) ?_
        show oS p e below T275 m 370 #[iv x1, iv x2, iv (1 : Int32), iv (1 : Int32), rv b1, rv b4, rv b7, rv b13, rv b20, iv (1 : Int32), iv (1 : Int32), iv (0 : Int32), rv b13, .val .null, .val .null, rv b260, iv (1 : Int32)] [(.int (0 : Int32)), (.int (1 : Int32)), (.ref b260), (.ref b1)] _
        refine st284 _ ?_
        refine XS.ifNo X284.here hx rfl (hb hby at_373) rfl ((if0 _ _).trans (feq (by decide : ¬ ((1 : Int32) = (0 : Int32)))).1) ?_
        refine XS.iconst X284.here hx rfl (hb hby at_376) ?_
        refine XS.goto X284.here hx rfl (pc0 := 377) (pc' := 381) rfl (hb hby at_377) (by decide) (by decide) ?_
        refine XS.istore X284.here hx rfl (hb hby at_381) rfl (l' := #[iv x1, iv x2, iv (1 : Int32), iv (1 : Int32), rv b1, rv b4, rv b7, rv b13, rv b20, iv (1 : Int32), iv (1 : Int32), iv (0 : Int32), rv b13, .val .null, .val .null, rv b260, iv (1 : Int32)]) rfl ?_
        refine XS.iload X284.here hx rfl (hb hby at_383) rfl ?_
        refine XS.ifNo X284.here hx rfl (hb hby at_385) rfl ((if0 _ _).trans (feq (by decide : ¬ ((1 : Int32) = (0 : Int32)))).1) ?_
        refine XS.aload X284.here hx rfl (hb hby at_388) rfl rfl ?_
        show oS p e below T284 m 390 #[iv x1, iv x2, iv (1 : Int32), iv (1 : Int32), rv b1, rv b4, rv b7, rv b13, rv b20, iv (1 : Int32), iv (1 : Int32), iv (0 : Int32), rv b13, .val .null, .val .null, rv b260, iv (1 : Int32)] [(.ref b1)] _
        refine XS.aload X284.here hx rfl (hb hby at_390) rfl rfl ?_
        refine XS.iload X284.here hx rfl (hb hby at_392) rfl ?_
        refine XS.iconst X284.here hx rfl (hb hby at_394) ?_
        show oS p e below T284 m 395 #[iv x1, iv x2, iv (1 : Int32), iv (1 : Int32), rv b1, rv b4, rv b7, rv b13, rv b20, iv (1 : Int32), iv (1 : Int32), iv (0 : Int32), rv b13, .val .null, .val .null, rv b260, iv (1 : Int32)] [(.int (1 : Int32)), (.int (1 : Int32)), (.ref b260), (.ref b1)] _
        refine st285 _ ?_
        refine XS.ifNo X285.here hx rfl (hb hby at_398) rfl ((if0 _ _).trans (feq (by decide : ¬ ((1 : Int32) = (0 : Int32)))).1) ?_
        refine XS.iconst X285.here hx rfl (hb hby at_401) ?_
        refine XS.goto X285.here hx rfl (pc0 := 402) (pc' := 406) rfl (hb hby at_402) (by decide) (by decide) ?_
        refine XS.istore X285.here hx rfl (hb hby at_406) rfl (l' := #[iv x1, iv x2, iv (1 : Int32), iv (1 : Int32), rv b1, rv b4, rv b7, rv b13, rv b20, iv (1 : Int32), iv (1 : Int32), iv (0 : Int32), rv b13, .val .null, .val .null, rv b260, iv (1 : Int32)]) rfl ?_
        refine XS.iload X285.here hx rfl (hb hby at_408) rfl ?_
        refine XS.ifNo X285.here hx rfl (hb hby at_410) rfl ((if0 _ _).trans (feq (by decide : ¬ ((1 : Int32) = (0 : Int32)))).1) ?_
        refine XS.iload X285.here hx rfl (hb hby at_413) rfl ?_
        show oS p e below T285 m 415 #[iv x1, iv x2, iv (1 : Int32), iv (1 : Int32), rv b1, rv b4, rv b7, rv b13, rv b20, iv (1 : Int32), iv (1 : Int32), iv (0 : Int32), rv b13, .val .null, .val .null, rv b260, iv (1 : Int32)] [(.int (0 : Int32))] _
        refine XS.iconst X285.here hx rfl (hb hby at_415) ?_
        refine XS.iadd X285.here hx rfl (hb hby at_416) rfl ?_
        show oS p e below T285 m 417 #[iv x1, iv x2, iv (1 : Int32), iv (1 : Int32), rv b1, rv b4, rv b7, rv b13, rv b20, iv (1 : Int32), iv (1 : Int32), iv (0 : Int32), rv b13, .val .null, .val .null, rv b260, iv (1 : Int32)] [(.int (1 : Int32))] _
        refine XS.iconst X285.here hx rfl (hb hby at_417) ?_
        refine XS.icmpYes X285.here hx rfl (pc0 := 418) (pc' := 434) rfl (hb hby at_418) rfl (tlt (by decide : ((1 : Int32) < (2 : Int32)))).1 (by decide) (by decide) ?_
        refine XS.iconst X285.here hx rfl (hb hby at_434) ?_
        refine XS.goto X285.here hx rfl (pc0 := 435) (pc' := 439) rfl (hb hby at_435) (by decide) (by decide) ?_
        refine XS.istore X285.here hx rfl (hb hby at_439) rfl (l' := #[iv x1, iv x2, iv (1 : Int32), iv (1 : Int32), rv b1, rv b4, rv b7, rv b13, rv b20, iv (1 : Int32), iv (1 : Int32), iv (0 : Int32), rv b13, .val .null, .val .null, rv b260, iv (1 : Int32)]) rfl ?_
        refine XS.iload X285.here hx rfl (hb hby at_441) rfl ?_
        refine XS.ifNo X285.here hx rfl (hb hby at_443) rfl ((if0 _ _).trans (feq (by decide : ¬ ((1 : Int32) = (0 : Int32)))).1) ?_
        refine XS.iload X285.here hx rfl (hb hby at_446) rfl ?_
        show oS p e below T285 m 448 #[iv x1, iv x2, iv (1 : Int32), iv (1 : Int32), rv b1, rv b4, rv b7, rv b13, rv b20, iv (1 : Int32), iv (1 : Int32), iv (0 : Int32), rv b13, .val .null, .val .null, rv b260, iv (1 : Int32)] [(.int (0 : Int32))] _
        refine XS.iconst X285.here hx rfl (hb hby at_448) ?_
        refine XS.iadd X285.here hx rfl (hb hby at_449) rfl ?_
        show oS p e below T285 m 450 #[iv x1, iv x2, iv (1 : Int32), iv (1 : Int32), rv b1, rv b4, rv b7, rv b13, rv b20, iv (1 : Int32), iv (1 : Int32), iv (0 : Int32), rv b13, .val .null, .val .null, rv b260, iv (1 : Int32)] [(.int (1 : Int32))] _
        refine XS.iconst X285.here hx rfl (hb hby at_450) ?_
        refine XS.icmpYes X285.here hx rfl (pc0 := 451) (pc' := 467) rfl (hb hby at_451) rfl (tlt (by decide : ((1 : Int32) < (3 : Int32)))).1 (by decide) (by decide) ?_
        refine XS.iconst X285.here hx rfl (hb hby at_467) ?_
        refine XS.goto X285.here hx rfl (pc0 := 468) (pc' := 472) rfl (hb hby at_468) (by decide) (by decide) ?_
        refine XS.istore X285.here hx rfl (hb hby at_472) rfl (l' := #[iv x1, iv x2, iv (1 : Int32), iv (1 : Int32), rv b1, rv b4, rv b7, rv b13, rv b20, iv (1 : Int32), iv (1 : Int32), iv (0 : Int32), rv b13, .val .null, .val .null, rv b260, iv (1 : Int32)]) rfl ?_
        refine XS.iload X285.here hx rfl (hb hby at_474) rfl ?_
        exact kt
      obtain ⟨fs, hr, hrun, hended, hW, hsame⟩ := X285.leave (v := some (.int (1 : Int32))) (fun h => by rw [Bd.returns] at h; cases h)
      refine ⟨_, _, pre0 _ (pre32 _ (pre202 _ (pre289 _ ?_))), hrun, hended, _, _, rfl, ?_, ⟨_, rfl⟩, hW, hsame.mono (by decide) (by decide)⟩
      · show oS p e below T285 m 476 #[iv x1, iv x2, iv (1 : Int32), iv (1 : Int32), rv b1, rv b4, rv b7, rv b13, rv b20, iv (1 : Int32), iv (1 : Int32), iv (0 : Int32), rv b13, .val .null, .val .null, rv b260, iv (1 : Int32)] [(.int (1 : Int32))] _
        exact retN X285 hx (t := .boolean) Bd.returns (by simp) (hb hby at_476) hr
      · show Q0 Z x1 x2 h0 n0 _ T285.heap _
        rw [eh285]
        exact ⟨rfl, N285⟩
    · subst hn
      have Vc291 : Arv Z T189.heap b20 kk20 (.object oz0) (2 : Int32) [(.ref b4), (.ref b7)] .null := (Va31.keep K189 (ninS (Ne.symm ne_b1_b20) (ninS (Ne.symm ne_b4_b20) nin0)))
      obtain ⟨_, _, ⟨T290, Lw290, kw290, nw290⟩, -, X290, ⟨Lc290, hQ290, l290, y290, z290⟩, st290⟩ := Jvm.LawKit.callS X198 hx (y := (⟨oz4, "step", oz3⟩ : MethodName)) hown (mvT hZ (own_w hw 50 rfl)) (mvT hZ (own_w hw 51 rfl)) (mvT hZ (own_w hw 29 rfl)) (mvT hZ (own_w hw 52 rfl)) (by decide) (backOf (W := 0) (rmT2_1_0 l Z a0 hw [] b1 b20 b4 b7 kk20 T189.heap n0 Zc201 Ec199 Ec200 g_b1 g_b4 pf189_0 pf189_1 pf189_2 pf189_3 pf189_4 Vc291) hZ (own_w hw 52 rfl) (own_w hw 29 rfl) (by decide) (by decide)) (g := (mkF m 157 #[iv x1, iv x2, iv (1 : Int32), iv (2 : Int32), rv b1, rv b4, rv b7, rv b13, rv b20, iv (1 : Int32), .unset, .unset, .unset, .unset, .unset, .unset, .unset] [(.int (0 : Int32)), (.int (1 : Int32)), (.ref b20), (.ref b1)])) rfl (by rw [hml]; rfl) (argsL := [(.ref b1), (.ref b20), (.int (1 : Int32)), (.int (0 : Int32))]) (rest := []) (lenOf own_pd7 rfl) rfl (by show 2 * 0 + _ ≤ _; exact Nat.le_of_eq rfl) (hb hby at_157) (fun _ _ => ⟨rfl, eh198, (by decide : 5 + 0 ≤ _), (by decide : 34 + 0 ≤ _)⟩)
      dsimp only [Pt.U, Pt.locs, Pt.cells, Pt.slots] at X290 l290 y290 z290 st290 hQ290
      subst l290 y290 z290
      obtain ⟨rfl, Nq290, K290, pf290_0, pf290_1, pf290_2, pf290_3, pf290_4⟩ := hQ290
      have N290 := Fr.app N198 Nq290
      have Ec293 : Exa Z T290.heap b1 oz1 := (Ec199.keep K290)
      have Vc294 : Arv Z T290.heap b20 kk20 (.object oz0) (2 : Int32) [(.ref b4), (.ref b7)] .null := (Vc291.keep K290 (ninS (Ne.symm ne_b1_b20) (ninS (Ne.symm ne_b4_b20) nin0)))
      have Zc295 : n0 ≤ T290.heap.size := (Nat.le_trans Zc201 K290.1)
      obtain ⟨_, _, ⟨T292, Lw292, kw292, nw292⟩, -, X292, ⟨Lc292, hQ292, l292, y292, z292⟩, st292⟩ := Jvm.LawKit.callS X290 hx (y := (⟨oz4, "step", oz3⟩ : MethodName)) hown (mvT hZ (own_w hw 50 rfl)) (mvT hZ (own_w hw 51 rfl)) (mvT hZ (own_w hw 29 rfl)) (mvT hZ (own_w hw 52 rfl)) (by decide) (backOf (W := 0) (rmT2_1_1 l Z a0 hw [] b1 b20 b4 b7 kk20 T290.heap n0 Zc295 Ec293 pf290_0 pf290_1 Vc294) hZ (own_w hw 52 rfl) (own_w hw 29 rfl) (by decide) (by decide)) (g := (mkF m 186 #[iv x1, iv x2, iv (1 : Int32), iv (2 : Int32), rv b1, rv b4, rv b7, rv b13, rv b20, iv (1 : Int32), .unset, .unset, .unset, .unset, .unset, .unset, .unset] [(.int (1 : Int32)), (.int (1 : Int32)), (.ref b20), (.ref b1)])) rfl (by rw [hml]; rfl) (argsL := [(.ref b1), (.ref b20), (.int (1 : Int32)), (.int (1 : Int32))]) (rest := []) (lenOf own_pd7 rfl) rfl (by show 2 * 0 + _ ≤ _; exact Nat.le_of_eq rfl) (hb hby at_186) (fun _ _ => ⟨rfl, rfl, (by decide : 5 + 0 ≤ _), (by decide : 34 + 0 ≤ _)⟩)
      dsimp only [Pt.U, Pt.locs, Pt.cells, Pt.slots] at X292 l292 y292 z292 st292 hQ292
      subst l292 y292 z292
      obtain ⟨rfl, Nq292, eh292⟩ := hQ292
      have N292 := Fr.app N290 Nq292
      obtain ⟨_, _, ⟨T296, Lw296, kw296, nw296⟩, -, X296, ⟨Lc296, hQ296, l296, y296, z296⟩, st296⟩ := Jvm.LawKit.callS X292 hx (y := (⟨"java/lang/Math", "min", "(II)I"⟩ : MethodName)) hown (mvT hZ (own_w hw 58 rfl)) (mvT hZ (own_w hw 59 rfl)) (mvT hZ (own_w hw 60 rfl)) (mvT hZ (own_w hw 61 rfl)) (by decide) (backOf (W := 0) (rm10 l Z a0 hw [] (2 : Int32) (1 : Int32) T290.heap n0 Zc295 ) hZ (own_w hw 61 rfl) (own_w hw 60 rfl) (by decide) (by decide)) (g := (mkF m 237 #[iv x1, iv x2, iv (1 : Int32), iv (2 : Int32), rv b1, rv b4, rv b7, rv b13, rv b20, iv (1 : Int32), .unset, .unset, .unset, .unset, .unset, .unset, .unset] [(.int (1 : Int32)), (.int (2 : Int32))])) rfl (by rw [hml]; rfl) (argsL := [(.int (2 : Int32)), (.int (1 : Int32))]) (rest := []) (lenOf own_pd6 rfl) rfl (by show 2 * 0 + _ ≤ _; exact Nat.le_of_eq rfl) (hb hby at_237) (fun _ _ => ⟨rfl, eh292, (by decide : 5 + 0 ≤ _), (by decide : 34 + 0 ≤ _)⟩)
      dsimp only [Pt.U, Pt.locs, Pt.cells, Pt.slots] at X296 l296 y296 z296 st296 hQ296
      subst l296 y296 z296
      obtain ⟨rfl, Nq296, eh296⟩ := hQ296
      have N296 := Fr.app N292 Nq296
      have Ec298 : Exa Z T290.heap b13 oz0 := (((((Ec25.ext E20).wr W28).wr W31).keep K189).keep K290)
      have Fc299 : Fld Z T290.heap b13 oz0 "in" oz6 .null := (((((pf18_0.ext E20).other W28 (Or.inl ne_b13_b20)).other W31 (Or.inl ne_b13_b20)).keep K189 (ninS (Ne.symm ne_b1_b13) (ninS (Ne.symm ne_b4_b13) nin0))).keep K290 (ninS (Ne.symm ne_b1_b13) (ninS (Ne.symm ne_b4_b13) nin0)))
      have Fc300 : Fld Z T290.heap b13 oz0 "before" oz2 .null := (((((pf18_1.ext E20).other W28 (Or.inl ne_b13_b20)).other W31 (Or.inl ne_b13_b20)).keep K189 (ninS (Ne.symm ne_b1_b13) (ninS (Ne.symm ne_b4_b13) nin0))).keep K290 (ninS (Ne.symm ne_b1_b13) (ninS (Ne.symm ne_b4_b13) nin0)))
      have Fc301 : Fld Z T290.heap b13 oz0 "after" oz2 .null := (((((pf18_2.ext E20).other W28 (Or.inl ne_b13_b20)).other W31 (Or.inl ne_b13_b20)).keep K189 (ninS (Ne.symm ne_b1_b13) (ninS (Ne.symm ne_b4_b13) nin0))).keep K290 (ninS (Ne.symm ne_b1_b13) (ninS (Ne.symm ne_b4_b13) nin0)))
      obtain ⟨cq297, kq297, q297a, q297b, q297c⟩ := isOf hZ eh296 Ec293
      obtain ⟨_, _, ⟨T297, Lw297, kw297, nw297⟩, -, X297, ⟨Lc297, hQ297, l297, y297, z297⟩, st297⟩ := X296.virtualBack hx (y := (⟨oz1, "add", oz8⟩ : MethodName)) (z := (⟨oz1, "add", oz8⟩ : MethodName)) hown (mvT hZ (own_w hw 62 rfl)) (mvT hZ (own_w hw 63 rfl)) (notFace_of_selects (args := #[]) (mvT hZ (own_w hw 65 rfl))) (mvT hZ (own_w hw 65 rfl)) (mvT hZ (own_w hw 64 rfl)) (by decide) (backOf (W := 0) (rmA0 l Z a0 hw [] b1 b13 .null T290.heap n0 Zc295 Ec293 Ec298 g_b1 g_b13 pf290_0 pf290_1 Fc299 Fc300 Fc301) hZ (own_w hw 66 rfl) (own_w hw 3 rfl) (by decide) (by decide)) q297a q297c (g := (mkF m 252 #[iv x1, iv x2, iv (1 : Int32), iv (2 : Int32), rv b1, rv b4, rv b7, rv b13, rv b20, iv (1 : Int32), iv (1 : Int32), iv (0 : Int32), .unset, .unset, .unset, .unset, .unset] [(.ref b13), (.ref b1)])) rfl (by rw [hml]; rfl) (Steps.refl _) (argsL := [(.ref b13)]) (rest := []) (lenOf own_pd0 rfl) rfl (by show 2 * 0 + _ ≤ _; exact Nat.le_of_eq rfl) (hb hby at_252) (fun _ _ => ⟨rfl, eh296, (by decide : 5 + 0 ≤ _), (by decide : 34 + 0 ≤ _)⟩)
      dsimp only [Pt.U, Pt.locs, Pt.cells, Pt.slots] at X297 l297 y297 z297 st297 hQ297
      subst l297 y297 z297
      obtain ⟨rfl, Nq297, K297, pf297_0, pf297_1, pf297_2, pf297_3, pf297_4⟩ := hQ297
      have N297 := Fr.app N296 Nq297
      have Zc303 : n0 ≤ T297.heap.size := (Nat.le_trans Zc295 K297.1)
      have Ec304 : Exa Z T297.heap b1 oz1 := (Ec293.keep K297)
      have Ec305 : Exa Z T297.heap b4 oz0 := ((Ec200.keep K290).keep K297)
      have Ec306 : Exa Z T297.heap b7 oz0 := ((((Ec29.wr W31).keep K189).keep K290).keep K297)
      have Ec307 : Exa Z T297.heap b13 oz0 := (Ec298.keep K297)
      have Vc308 : Arv Z T297.heap b20 kk20 (.object oz0) (2 : Int32) [(.ref b4), (.ref b7)] .null := (Vc294.keep K297 (ninS (Ne.symm ne_b1_b20) (ninS (Ne.symm ne_b13_b20) nin0)))
      obtain ⟨T302, h302, kk302, X302, e302, E302, A302, O302, st302⟩ := newR X297 hx hZ hown (own_w hw 10 rfl) (own_w hw 25 rfl) rfl (g := (mkF m 318 #[iv x1, iv x2, iv (1 : Int32), iv (2 : Int32), rv b1, rv b4, rv b7, rv b13, rv b20, iv (1 : Int32), iv (1 : Int32), iv (0 : Int32), rv b13, .val .null, .val .null, .unset, .unset] [(.int (3 : Int32))])) rfl (hb hby at_318) rfl (by decide) (cap := 3) (by decide) (by decide) (by decide) (by decide)
      obtain ⟨b302, g302⟩ : ∃ z, z = T297.heap.size := ⟨_, rfl⟩
      rw [← g302] at A302 st302
      have g_b302 : n0 ≤ b302 := Nat.le_trans Zc303 (Nat.le_of_eq g302.symm)
      have ne_b1_b302 : b1 ≠ b302 := Nat.ne_of_lt (Nat.lt_of_lt_of_le Ec304.lt (Nat.le_of_eq g302.symm))
      have ne_b4_b302 : b4 ≠ b302 := Nat.ne_of_lt (Nat.lt_of_lt_of_le Ec305.lt (Nat.le_of_eq g302.symm))
      have ne_b7_b302 : b7 ≠ b302 := Nat.ne_of_lt (Nat.lt_of_lt_of_le Ec306.lt (Nat.le_of_eq g302.symm))
      have ne_b13_b302 : b13 ≠ b302 := Nat.ne_of_lt (Nat.lt_of_lt_of_le Ec307.lt (Nat.le_of_eq g302.symm))
      have ne_b20_b302 : b20 ≠ b302 := Nat.ne_of_lt (Nat.lt_of_lt_of_le Vc308.lt (Nat.le_of_eq g302.symm))
      have V_b302 : Arv Z h302 b302 kk302 (.object oz0) (3 : Int32) [.null, .null, .null] .null := (Arv.new A302 (by decide)).pad (pad_rep [] .null 3)
      have Ec309 : Exa Z h302 b13 oz0 := (Ec307.ext E302)
      obtain ⟨cl310, Ar310, qk310, Sz310, Ng310, Hs310, Gt310⟩ := id V_b302
      have hin310 : ¬ ((0 : Int32) < 0 ∨ cl310.slots.size ≤ ((0 : Int32)).toNatClampNeg) := inb_of Sz310 ⟨by decide, by decide⟩
      obtain ⟨T311, h311, X311, e311, W311, st311⟩ := stR X302 hx hZ e302 Ar310 (j := (0 : Int32)) hin310 rfl (Sto.ofV Ar310 qk310 O302 (Ins.self Ec309)) (g := (mkF m 325 #[iv x1, iv x2, iv (1 : Int32), iv (2 : Int32), rv b1, rv b4, rv b7, rv b13, rv b20, iv (1 : Int32), iv (1 : Int32), iv (0 : Int32), rv b13, .val .null, .val .null, .unset, .unset] [(.ref b13), (.int (0 : Int32)), (.ref b302), (.ref b302)])) rfl rfl (hb hby at_325)
      have Va311 : Arv Z h311 b302 kk302 (.object oz0) (3 : Int32) [(.ref b13), .null, .null] .null := Arv.set Ar310 qk310 Sz310 Ng310 Hs310 Gt310 rfl W311 0 rfl (Nat.le_of_ble_eq_true rfl)
      have N311 := Fr.snoc X311 N297 g_b302
      obtain ⟨cl312, Ar312, qk312, Sz312, Ng312, Hs312, Gt312⟩ := id Va311
      have hin312 : ¬ ((1 : Int32) < 0 ∨ cl312.slots.size ≤ ((1 : Int32)).toNatClampNeg) := inb_of Sz312 ⟨by decide, by decide⟩
      obtain ⟨T313, h313, X313, e313, W313, st313⟩ := stR X311 hx hZ e311 Ar312 (j := (1 : Int32)) hin312 rfl (Or.inl rfl) (g := (mkF m 330 #[iv x1, iv x2, iv (1 : Int32), iv (2 : Int32), rv b1, rv b4, rv b7, rv b13, rv b20, iv (1 : Int32), iv (1 : Int32), iv (0 : Int32), rv b13, .val .null, .val .null, .unset, .unset] [.null, (.int (1 : Int32)), (.ref b302), (.ref b302)])) rfl rfl (hb hby at_330)
      have Va313 : Arv Z h313 b302 kk302 (.object oz0) (3 : Int32) [(.ref b13), .null, .null] .null := Arv.set Ar312 qk312 Sz312 Ng312 Hs312 Gt312 rfl W313 1 rfl (Nat.le_of_ble_eq_true rfl)
      have N313 := Fr.snoc X313 N311 g_b302
      obtain ⟨cl314, Ar314, qk314, Sz314, Ng314, Hs314, Gt314⟩ := id Va313
      have hin314 : ¬ ((2 : Int32) < 0 ∨ cl314.slots.size ≤ ((2 : Int32)).toNatClampNeg) := inb_of Sz314 ⟨by decide, by decide⟩
      obtain ⟨T315, h315, X315, e315, W315, st315⟩ := stR X313 hx hZ e313 Ar314 (j := (2 : Int32)) hin314 rfl (Or.inl rfl) (g := (mkF m 335 #[iv x1, iv x2, iv (1 : Int32), iv (2 : Int32), rv b1, rv b4, rv b7, rv b13, rv b20, iv (1 : Int32), iv (1 : Int32), iv (0 : Int32), rv b13, .val .null, .val .null, .unset, .unset] [.null, (.int (2 : Int32)), (.ref b302), (.ref b302)])) rfl rfl (hb hby at_335)
      have Va315 : Arv Z h315 b302 kk302 (.object oz0) (3 : Int32) [(.ref b13), .null, .null] .null := Arv.set Ar314 qk314 Sz314 Ng314 Hs314 Gt314 rfl W315 2 rfl (Nat.le_of_ble_eq_true rfl)
      have N315 := Fr.snoc X315 N313 g_b302
      obtain ⟨cl316, Ar316, qk316, Sz316, Ng316, Hs316, Gt316⟩ := id Va315
      have hin316 : ¬ ((0 : Int32) < 0 ∨ cl316.slots.size ≤ ((0 : Int32)).toNatClampNeg) := inb_of Sz316 ⟨by decide, by decide⟩
      have hat316 : cl316.slots[((0 : Int32)).toNatClampNeg]? = some (.ref b13) := Hs316.at hin316 rfl
      have Ec318 : Exa Z h315 b1 oz1 := ((((Ec304.ext E302).wr W311).wr W313).wr W315)
      have Ec319 : Exa Z h315 b13 oz0 := (((Ec309.wr W311).wr W313).wr W315)
      have Fc320 : Fld Z h315 b1 oz1 "first" oz2 (.ref b13) := ((((pf297_0.ext E302).other W311 (Or.inl ne_b1_b302)).other W313 (Or.inl ne_b1_b302)).other W315 (Or.inl ne_b1_b302))
      have Fc321 : Fld Z h315 b1 oz1 "last" oz2 (.ref b13) := ((((pf297_1.ext E302).other W311 (Or.inl ne_b1_b302)).other W313 (Or.inl ne_b1_b302)).other W315 (Or.inl ne_b1_b302))
      have Fc322 : Fld Z h315 b13 oz0 "in" oz6 (.ref b1) := ((((pf297_2.ext E302).other W311 (Or.inl ne_b13_b302)).other W313 (Or.inl ne_b13_b302)).other W315 (Or.inl ne_b13_b302))
      have Fc323 : Fld Z h315 b13 oz0 "before" oz2 .null := ((((pf297_3.ext E302).other W311 (Or.inl ne_b13_b302)).other W313 (Or.inl ne_b13_b302)).other W315 (Or.inl ne_b13_b302))
      have Fc324 : Fld Z h315 b13 oz0 "after" oz2 .null := ((((pf297_4.ext E302).other W311 (Or.inl ne_b13_b302)).other W313 (Or.inl ne_b13_b302)).other W315 (Or.inl ne_b13_b302))
      have Zc325 : n0 ≤ h315.size := (Nat.le_trans (Nat.le_trans (Nat.le_trans (Nat.le_trans Zc303 E302.1) (Keep.of_wr W311).1) (Keep.of_wr W313).1) (Keep.of_wr W315).1)
      obtain ⟨_, _, ⟨T317, Lw317, kw317, nw317⟩, -, X317, ⟨Lc317, hQ317, l317, y317, z317⟩, st317⟩ := Jvm.LawKit.callS X315 hx (y := (⟨oz4, "state", oz5⟩ : MethodName)) hown (mvT hZ (own_w hw 27 rfl)) (mvT hZ (own_w hw 28 rfl)) (mvT hZ (own_w hw 29 rfl)) (mvT hZ (own_w hw 30 rfl)) (by decide) (backOf (W := 0) (rmS1 l Z a0 hw [] b1 b13 h315 n0 Zc325 Ec318 Ec319 Fc320 Fc321 Fc322 Fc323 Fc324) hZ (own_w hw 30 rfl) (own_w hw 29 rfl) (by decide) (by decide)) (g := (mkF m 353 #[iv x1, iv x2, iv (1 : Int32), iv (2 : Int32), rv b1, rv b4, rv b7, rv b13, rv b20, iv (1 : Int32), iv (1 : Int32), iv (0 : Int32), rv b13, .val .null, .val .null, rv b302, iv (1 : Int32)] [(.ref b13), (.ref b13), (.ref b1)])) rfl (by rw [hml]; rfl) (argsL := [(.ref b1), (.ref b13), (.ref b13)]) (rest := []) (lenOf own_pd5 rfl) rfl (by show 2 * 0 + _ ≤ _; exact Nat.le_of_eq rfl) (hb hby at_353) (fun _ _ => ⟨rfl, e315, (by decide : 6 + 0 ≤ _), (by decide : 37 + 0 ≤ _)⟩)
      dsimp only [Pt.U, Pt.locs, Pt.cells, Pt.slots] at X317 l317 y317 z317 st317 hQ317
      subst l317 y317 z317
      obtain ⟨rfl, Nq317, eh317⟩ := hQ317
      have N317 := Fr.app N315 Nq317
      obtain ⟨_, _, ⟨T326, Lw326, kw326, nw326⟩, -, X326, ⟨Lc326, hQ326, l326, y326, z326⟩, st326⟩ := Jvm.LawKit.callS X317 hx (y := (⟨oz4, "step", oz3⟩ : MethodName)) hown (mvT hZ (own_w hw 50 rfl)) (mvT hZ (own_w hw 51 rfl)) (mvT hZ (own_w hw 29 rfl)) (mvT hZ (own_w hw 52 rfl)) (by decide) (backOf (W := 0) (rmT3_1_0 l Z a0 hw [] b1 b302 b13 kk302 h315 n0 Zc325 Ec318 Ec319 g_b1 g_b13 Fc320 Fc321 Fc322 Fc323 Fc324 Va315) hZ (own_w hw 52 rfl) (own_w hw 29 rfl) (by decide) (by decide)) (g := (mkF m 370 #[iv x1, iv x2, iv (1 : Int32), iv (2 : Int32), rv b1, rv b4, rv b7, rv b13, rv b20, iv (1 : Int32), iv (1 : Int32), iv (0 : Int32), rv b13, .val .null, .val .null, rv b302, iv (1 : Int32)] [(.int (0 : Int32)), (.int (1 : Int32)), (.ref b302), (.ref b1)])) rfl (by rw [hml]; rfl) (argsL := [(.ref b1), (.ref b302), (.int (1 : Int32)), (.int (0 : Int32))]) (rest := []) (lenOf own_pd7 rfl) rfl (by show 2 * 0 + _ ≤ _; exact Nat.le_of_eq rfl) (hb hby at_370) (fun _ _ => ⟨rfl, eh317, (by decide : 6 + 0 ≤ _), (by decide : 37 + 0 ≤ _)⟩)
      dsimp only [Pt.U, Pt.locs, Pt.cells, Pt.slots] at X326 l326 y326 z326 st326 hQ326
      subst l326 y326 z326
      obtain ⟨rfl, Nq326, K326, pf326_0, pf326_1, pf326_2, pf326_3, pf326_4⟩ := hQ326
      have N326 := Fr.app N317 Nq326
      have Ec328 : Exa Z T326.heap b1 oz1 := (Ec318.keep K326)
      have Vc329 : Arv Z T326.heap b302 kk302 (.object oz0) (3 : Int32) [(.ref b13), .null, .null] .null := (Va315.keep K326 (ninS (Ne.symm ne_b1_b302) (ninS (Ne.symm ne_b13_b302) nin0)))
      have Zc330 : n0 ≤ T326.heap.size := (Nat.le_trans Zc325 K326.1)
      obtain ⟨_, _, ⟨T327, Lw327, kw327, nw327⟩, -, X327, ⟨Lc327, hQ327, l327, y327, z327⟩, st327⟩ := Jvm.LawKit.callS X326 hx (y := (⟨oz4, "step", oz3⟩ : MethodName)) hown (mvT hZ (own_w hw 50 rfl)) (mvT hZ (own_w hw 51 rfl)) (mvT hZ (own_w hw 29 rfl)) (mvT hZ (own_w hw 52 rfl)) (by decide) (backOf (W := 0) (rmT3_1_1 l Z a0 hw [] b1 b302 b13 kk302 T326.heap n0 Zc330 Ec328 pf326_0 pf326_1 Vc329) hZ (own_w hw 52 rfl) (own_w hw 29 rfl) (by decide) (by decide)) (g := (mkF m 395 #[iv x1, iv x2, iv (1 : Int32), iv (2 : Int32), rv b1, rv b4, rv b7, rv b13, rv b20, iv (1 : Int32), iv (1 : Int32), iv (0 : Int32), rv b13, .val .null, .val .null, rv b302, iv (1 : Int32)] [(.int (1 : Int32)), (.int (1 : Int32)), (.ref b302), (.ref b1)])) rfl (by rw [hml]; rfl) (argsL := [(.ref b1), (.ref b302), (.int (1 : Int32)), (.int (1 : Int32))]) (rest := []) (lenOf own_pd7 rfl) rfl (by show 2 * 0 + _ ≤ _; exact Nat.le_of_eq rfl) (hb hby at_395) (fun _ _ => ⟨rfl, rfl, (by decide : 6 + 0 ≤ _), (by decide : 37 + 0 ≤ _)⟩)
      dsimp only [Pt.U, Pt.locs, Pt.cells, Pt.slots] at X327 l327 y327 z327 st327 hQ327
      subst l327 y327 z327
      obtain ⟨rfl, Nq327, eh327⟩ := hQ327
      have N327 := Fr.app N326 Nq327
      have pre331 : ∀ tz, oS p e below T327 m 476 #[iv x1, iv x2, iv (1 : Int32), iv (2 : Int32), rv b1, rv b4, rv b7, rv b13, rv b20, iv (1 : Int32), iv (1 : Int32), iv (0 : Int32), rv b13, .val .null, .val .null, rv b302, iv (1 : Int32)] [(.int (1 : Int32))] tz → oS p e below T198 m 146 #[iv x1, iv x2, iv (1 : Int32), iv (2 : Int32), rv b1, rv b4, rv b7, rv b13, rv b20, iv (1 : Int32), .unset, .unset, .unset, .unset, .unset, .unset, .unset] [] tz := fun tz kt => by
        show oS p e below T198 m 146 #[iv x1, iv x2, iv (1 : Int32), iv (2 : Int32), rv b1, rv b4, rv b7, rv b13, rv b20, iv (1 : Int32), .unset, .unset, .unset, .unset, .unset, .unset, .unset] [] _
        refine XS.iloadN X198.here hx rfl (hb hby at_146) rfl ?_
        refine XS.iconst X198.here hx rfl (hb hby at_147) ?_
        refine XS.icmpNo X198.here hx rfl (hb hby at_148) rfl (flt (by decide : ¬ ((2 : Int32) < (1 : Int32)))).1 ?_
        refine XS.aload X198.here hx rfl (hb hby at_151) rfl rfl ?_
        refine XS.aload X198.here hx rfl (hb hby at_153) rfl rfl ?_
        refine XS.iloadN X198.here hx rfl (hb hby at_155) rfl ?_
        refine XS.iconst X198.here hx rfl (hb hby at_156) ?_
        show oS p e below T198 m 157 #[iv x1, iv x2, iv (1 : Int32), iv (2 : Int32), rv b1, rv b4, rv b7, rv b13, rv b20, iv (1 : Int32), .unset, .unset, .unset, .unset, .unset, .unset, .unset] [(.int (0 : Int32)), (.int (1 : Int32)), (.ref b20), (.ref b1)] _
        refine st290 _ ?_
        refine XS.ifNo X290.here hx rfl (hb hby at_160) rfl ((if0 _ _).trans (feq (by decide : ¬ ((1 : Int32) = (0 : Int32)))).1) ?_
        refine XS.iconst X290.here hx rfl (hb hby at_163) ?_
        refine XS.goto X290.here hx rfl (pc0 := 164) (pc' := 168) rfl (hb hby at_164) (by decide) (by decide) ?_
        refine XS.istore X290.here hx rfl (hb hby at_168) rfl (l' := #[iv x1, iv x2, iv (1 : Int32), iv (2 : Int32), rv b1, rv b4, rv b7, rv b13, rv b20, iv (1 : Int32), .unset, .unset, .unset, .unset, .unset, .unset, .unset]) rfl ?_
        refine XS.iload X290.here hx rfl (hb hby at_170) rfl ?_
        refine XS.ifNo X290.here hx rfl (hb hby at_172) rfl ((if0 _ _).trans (feq (by decide : ¬ ((1 : Int32) = (0 : Int32)))).1) ?_
        refine XS.iloadN X290.here hx rfl (hb hby at_175) rfl ?_
        show oS p e below T290 m 176 #[iv x1, iv x2, iv (1 : Int32), iv (2 : Int32), rv b1, rv b4, rv b7, rv b13, rv b20, iv (1 : Int32), .unset, .unset, .unset, .unset, .unset, .unset, .unset] [(.int (2 : Int32))] _
        refine XS.iconst X290.here hx rfl (hb hby at_176) ?_
        refine XS.icmpNo X290.here hx rfl (hb hby at_177) rfl (flt (by decide : ¬ ((2 : Int32) < (2 : Int32)))).1 ?_
        refine XS.aload X290.here hx rfl (hb hby at_180) rfl rfl ?_
        refine XS.aload X290.here hx rfl (hb hby at_182) rfl rfl ?_
        refine XS.iloadN X290.here hx rfl (hb hby at_184) rfl ?_
        refine XS.iconst X290.here hx rfl (hb hby at_185) ?_
        show oS p e below T290 m 186 #[iv x1, iv x2, iv (1 : Int32), iv (2 : Int32), rv b1, rv b4, rv b7, rv b13, rv b20, iv (1 : Int32), .unset, .unset, .unset, .unset, .unset, .unset, .unset] [(.int (1 : Int32)), (.int (1 : Int32)), (.ref b20), (.ref b1)] _
        refine st292 _ ?_
        refine XS.ifNo X292.here hx rfl (hb hby at_189) rfl ((if0 _ _).trans (feq (by decide : ¬ ((1 : Int32) = (0 : Int32)))).1) ?_
        refine XS.iconst X292.here hx rfl (hb hby at_192) ?_
        refine XS.goto X292.here hx rfl (pc0 := 193) (pc' := 197) rfl (hb hby at_193) (by decide) (by decide) ?_
        refine XS.istore X292.here hx rfl (hb hby at_197) rfl (l' := #[iv x1, iv x2, iv (1 : Int32), iv (2 : Int32), rv b1, rv b4, rv b7, rv b13, rv b20, iv (1 : Int32), .unset, .unset, .unset, .unset, .unset, .unset, .unset]) rfl ?_
        refine XS.iload X292.here hx rfl (hb hby at_199) rfl ?_
        refine XS.ifNo X292.here hx rfl (hb hby at_201) rfl ((if0 _ _).trans (feq (by decide : ¬ ((1 : Int32) = (0 : Int32)))).1) ?_
        refine XS.iloadN X292.here hx rfl (hb hby at_204) rfl ?_
        show oS p e below T292 m 205 #[iv x1, iv x2, iv (1 : Int32), iv (2 : Int32), rv b1, rv b4, rv b7, rv b13, rv b20, iv (1 : Int32), .unset, .unset, .unset, .unset, .unset, .unset, .unset] [(.int (2 : Int32))] _
        refine XS.iconst X292.here hx rfl (hb hby at_205) ?_
        refine XS.icmpYes X292.here hx rfl (pc0 := 206) (pc' := 221) rfl (hb hby at_206) rfl (tlt (by decide : ((2 : Int32) < (3 : Int32)))).1 (by decide) (by decide) ?_
        refine XS.iconst X292.here hx rfl (hb hby at_221) ?_
        refine XS.goto X292.here hx rfl (pc0 := 222) (pc' := 226) rfl (hb hby at_222) (by decide) (by decide) ?_
        refine XS.istore X292.here hx rfl (hb hby at_226) rfl (l' := #[iv x1, iv x2, iv (1 : Int32), iv (2 : Int32), rv b1, rv b4, rv b7, rv b13, rv b20, iv (1 : Int32), .unset, .unset, .unset, .unset, .unset, .unset, .unset]) rfl ?_
        refine XS.iload X292.here hx rfl (hb hby at_228) rfl ?_
        refine XS.ifYes X292.here hx rfl (pc0 := 230) (pc' := 235) rfl (hb hby at_230) rfl ((if0 _ _).trans (feq (by decide : ¬ ((1 : Int32) = (0 : Int32)))).2) (by decide) (by decide) ?_
        refine XS.iloadN X292.here hx rfl (hb hby at_235) rfl ?_
        show oS p e below T292 m 236 #[iv x1, iv x2, iv (1 : Int32), iv (2 : Int32), rv b1, rv b4, rv b7, rv b13, rv b20, iv (1 : Int32), .unset, .unset, .unset, .unset, .unset, .unset, .unset] [(.int (2 : Int32))] _
        refine XS.iloadN X292.here hx rfl (hb hby at_236) rfl ?_
        show oS p e below T292 m 237 #[iv x1, iv x2, iv (1 : Int32), iv (2 : Int32), rv b1, rv b4, rv b7, rv b13, rv b20, iv (1 : Int32), .unset, .unset, .unset, .unset, .unset, .unset, .unset] [(.int (1 : Int32)), (.int (2 : Int32))] _
        refine st296 _ ?_
        rw [((if_pos (by decide : (1 : Int32) < (2 : Int32))) : (if (1 : Int32) < (2 : Int32) then (1 : Int32) else (2 : Int32)) = (1 : Int32))]
        show oS p e below T296 m 240 #[iv x1, iv x2, iv (1 : Int32), iv (2 : Int32), rv b1, rv b4, rv b7, rv b13, rv b20, iv (1 : Int32), .unset, .unset, .unset, .unset, .unset, .unset, .unset] [(.int (1 : Int32))] _
        refine XS.istore X296.here hx rfl (hb hby at_240) rfl (l' := #[iv x1, iv x2, iv (1 : Int32), iv (2 : Int32), rv b1, rv b4, rv b7, rv b13, rv b20, iv (1 : Int32), iv (1 : Int32), .unset, .unset, .unset, .unset, .unset, .unset]) rfl ?_
        refine XS.iloadN X296.here hx rfl (hb hby at_242) rfl ?_
        refine XS.iload X296.here hx rfl (hb hby at_243) rfl ?_
        refine XS.isub X296.here hx rfl (hb hby at_245) rfl ?_
        show oS p e below T296 m 246 #[iv x1, iv x2, iv (1 : Int32), iv (2 : Int32), rv b1, rv b4, rv b7, rv b13, rv b20, iv (1 : Int32), iv (1 : Int32), .unset, .unset, .unset, .unset, .unset, .unset] [(.int (0 : Int32))] _
        refine XS.istore X296.here hx rfl (hb hby at_246) rfl (l' := #[iv x1, iv x2, iv (1 : Int32), iv (2 : Int32), rv b1, rv b4, rv b7, rv b13, rv b20, iv (1 : Int32), iv (1 : Int32), iv (0 : Int32), .unset, .unset, .unset, .unset, .unset]) rfl ?_
        refine XS.aload X296.here hx rfl (hb hby at_248) rfl rfl ?_
        refine XS.aload X296.here hx rfl (hb hby at_250) rfl rfl ?_
        show oS p e below T296 m 252 #[iv x1, iv x2, iv (1 : Int32), iv (2 : Int32), rv b1, rv b4, rv b7, rv b13, rv b20, iv (1 : Int32), iv (1 : Int32), iv (0 : Int32), .unset, .unset, .unset, .unset, .unset] [(.ref b13), (.ref b1)] _
        refine st297.trans ?_
        refine XS.iload X297.here hx rfl (hb hby at_255) rfl ?_
        refine XS.iconst X297.here hx rfl (hb hby at_257) ?_
        refine XS.icmpYes X297.here hx rfl (pc0 := 258) (pc' := 269) rfl (hb hby at_258) rfl (tlt (by decide : ((0 : Int32) < (1 : Int32)))).1 (by decide) (by decide) ?_
        refine XS.aload X297.here hx rfl (hb hby at_269) rfl rfl ?_
        refine XS.astore X297.here hx rfl (hb hby at_271) rfl rfl (l' := #[iv x1, iv x2, iv (1 : Int32), iv (2 : Int32), rv b1, rv b4, rv b7, rv b13, rv b20, iv (1 : Int32), iv (1 : Int32), iv (0 : Int32), rv b13, .unset, .unset, .unset, .unset]) rfl ?_
        refine XS.iload X297.here hx rfl (hb hby at_273) rfl ?_
        refine XS.iconst X297.here hx rfl (hb hby at_275) ?_
        show oS p e below T297 m 276 #[iv x1, iv x2, iv (1 : Int32), iv (2 : Int32), rv b1, rv b4, rv b7, rv b13, rv b20, iv (1 : Int32), iv (1 : Int32), iv (0 : Int32), rv b13, .unset, .unset, .unset, .unset] [(.int (2 : Int32)), (.int (0 : Int32))] _
        refine XS.icmpYes X297.here hx rfl (pc0 := 276) (pc' := 289) rfl (hb hby at_276) rfl (tlt (by decide : ((0 : Int32) < (2 : Int32)))).1 (by decide) (by decide) ?_
        refine XS.iload X297.here hx rfl (hb hby at_289) rfl ?_
        refine XS.iconst X297.here hx rfl (hb hby at_291) ?_
        refine XS.icmpYes X297.here hx rfl (pc0 := 292) (pc' := 300) rfl (hb hby at_292) rfl (feq (by decide : ¬ ((0 : Int32) = (1 : Int32)))).2 (by decide) (by decide) ?_
        refine XS.aconstNull X297.here hx rfl (hb hby at_300) ?_
        refine XS.astore X297.here hx rfl (hb hby at_301) rfl rfl (l' := #[iv x1, iv x2, iv (1 : Int32), iv (2 : Int32), rv b1, rv b4, rv b7, rv b13, rv b20, iv (1 : Int32), iv (1 : Int32), iv (0 : Int32), rv b13, .val .null, .unset, .unset, .unset]) rfl ?_
        refine XS.iload X297.here hx rfl (hb hby at_303) rfl ?_
        refine XS.iconst X297.here hx rfl (hb hby at_305) ?_
        show oS p e below T297 m 306 #[iv x1, iv x2, iv (1 : Int32), iv (2 : Int32), rv b1, rv b4, rv b7, rv b13, rv b20, iv (1 : Int32), iv (1 : Int32), iv (0 : Int32), rv b13, .val .null, .unset, .unset, .unset] [(.int (2 : Int32)), (.int (0 : Int32))] _
        refine XS.icmpYes X297.here hx rfl (pc0 := 306) (pc' := 314) rfl (hb hby at_306) rfl (feq (by decide : ¬ ((0 : Int32) = (2 : Int32)))).2 (by decide) (by decide) ?_
        refine XS.aconstNull X297.here hx rfl (hb hby at_314) ?_
        refine XS.astore X297.here hx rfl (hb hby at_315) rfl rfl (l' := #[iv x1, iv x2, iv (1 : Int32), iv (2 : Int32), rv b1, rv b4, rv b7, rv b13, rv b20, iv (1 : Int32), iv (1 : Int32), iv (0 : Int32), rv b13, .val .null, .val .null, .unset, .unset]) rfl ?_
        refine XS.iconst X297.here hx rfl (hb hby at_317) ?_
        show oS p e below T297 m 318 #[iv x1, iv x2, iv (1 : Int32), iv (2 : Int32), rv b1, rv b4, rv b7, rv b13, rv b20, iv (1 : Int32), iv (1 : Int32), iv (0 : Int32), rv b13, .val .null, .val .null, .unset, .unset] [(.int (3 : Int32))] _
        refine st302 _ ?_
        refine XS.dup X302.here hx rfl (hb hby at_321) rfl rfl ?_
        refine XS.iconst X302.here hx rfl (hb hby at_322) ?_
        refine XS.aload X302.here hx rfl (hb hby at_323) rfl rfl ?_
        show oS p e below T302 m 325 #[iv x1, iv x2, iv (1 : Int32), iv (2 : Int32), rv b1, rv b4, rv b7, rv b13, rv b20, iv (1 : Int32), iv (1 : Int32), iv (0 : Int32), rv b13, .val .null, .val .null, .unset, .unset] [(.ref b13), (.int (0 : Int32)), (.ref b302), (.ref b302)] _
        refine st311 _ ?_
        refine XS.dup X311.here hx rfl (hb hby at_326) rfl rfl ?_
        refine XS.iconst X311.here hx rfl (hb hby at_327) ?_
        refine XS.aload X311.here hx rfl (hb hby at_328) rfl rfl ?_
        show oS p e below T311 m 330 #[iv x1, iv x2, iv (1 : Int32), iv (2 : Int32), rv b1, rv b4, rv b7, rv b13, rv b20, iv (1 : Int32), iv (1 : Int32), iv (0 : Int32), rv b13, .val .null, .val .null, .unset, .unset] [.null, (.int (1 : Int32)), (.ref b302), (.ref b302)] _
        refine st313 _ ?_
        refine XS.dup X313.here hx rfl (hb hby at_331) rfl rfl ?_
        refine XS.iconst X313.here hx rfl (hb hby at_332) ?_
        refine XS.aload X313.here hx rfl (hb hby at_333) rfl rfl ?_
        show oS p e below T313 m 335 #[iv x1, iv x2, iv (1 : Int32), iv (2 : Int32), rv b1, rv b4, rv b7, rv b13, rv b20, iv (1 : Int32), iv (1 : Int32), iv (0 : Int32), rv b13, .val .null, .val .null, .unset, .unset] [.null, (.int (2 : Int32)), (.ref b302), (.ref b302)] _
        refine st315 _ ?_
        refine XS.astore X315.here hx rfl (hb hby at_336) rfl rfl (l' := #[iv x1, iv x2, iv (1 : Int32), iv (2 : Int32), rv b1, rv b4, rv b7, rv b13, rv b20, iv (1 : Int32), iv (1 : Int32), iv (0 : Int32), rv b13, .val .null, .val .null, rv b302, .unset]) rfl ?_
        refine XS.iload X315.here hx rfl (hb hby at_338) rfl ?_
        refine XS.iconst X315.here hx rfl (hb hby at_340) ?_
        refine XS.iadd X315.here hx rfl (hb hby at_341) rfl ?_
        show oS p e below T315 m 342 #[iv x1, iv x2, iv (1 : Int32), iv (2 : Int32), rv b1, rv b4, rv b7, rv b13, rv b20, iv (1 : Int32), iv (1 : Int32), iv (0 : Int32), rv b13, .val .null, .val .null, rv b302, .unset] [(.int (1 : Int32))] _
        refine XS.istore X315.here hx rfl (hb hby at_342) rfl (l' := #[iv x1, iv x2, iv (1 : Int32), iv (2 : Int32), rv b1, rv b4, rv b7, rv b13, rv b20, iv (1 : Int32), iv (1 : Int32), iv (0 : Int32), rv b13, .val .null, .val .null, rv b302, iv (1 : Int32)]) rfl ?_
        refine XS.aload X315.here hx rfl (hb hby at_344) rfl rfl ?_
        refine XS.aload X315.here hx rfl (hb hby at_346) rfl rfl ?_
        refine XS.aload X315.here hx rfl (hb hby at_348) rfl rfl ?_
        refine XS.iload X315.here hx rfl (hb hby at_350) rfl ?_
        refine X315.aaload hx (j := (0 : Int32)) (v := (.ref b13)) (by rw [e315]; exact Ar316.1) (State.isArrayOf_alike hZ.alike Ar316.2.1) rfl Ar316.2.2 hin316 hat316 (g := (mkF m 352 #[iv x1, iv x2, iv (1 : Int32), iv (2 : Int32), rv b1, rv b4, rv b7, rv b13, rv b20, iv (1 : Int32), iv (1 : Int32), iv (0 : Int32), rv b13, .val .null, .val .null, rv b302, iv (1 : Int32)] [(.int (0 : Int32)), (.ref b302), (.ref b13), (.ref b1)])) rfl rfl (hb hby at_352) _ ?_
        show oS p e below T315 m 353 #[iv x1, iv x2, iv (1 : Int32), iv (2 : Int32), rv b1, rv b4, rv b7, rv b13, rv b20, iv (1 : Int32), iv (1 : Int32), iv (0 : Int32), rv b13, .val .null, .val .null, rv b302, iv (1 : Int32)] [(.ref b13), (.ref b13), (.ref b1)] _
        refine st317 _ ?_
        refine XS.istore X317.here hx rfl (hb hby at_356) rfl (l' := #[iv x1, iv x2, iv (1 : Int32), iv (2 : Int32), rv b1, rv b4, rv b7, rv b13, rv b20, iv (1 : Int32), iv (1 : Int32), iv (0 : Int32), rv b13, .val .null, .val .null, rv b302, iv (1 : Int32)]) rfl ?_
        refine XS.iload X317.here hx rfl (hb hby at_358) rfl ?_
        refine XS.ifNo X317.here hx rfl (hb hby at_360) rfl ((if0 _ _).trans (feq (by decide : ¬ ((1 : Int32) = (0 : Int32)))).1) ?_
        refine XS.aload X317.here hx rfl (hb hby at_363) rfl rfl ?_
        refine XS.aload X317.here hx rfl (hb hby at_365) rfl rfl ?_
        refine XS.iload X317.here hx rfl (hb hby at_367) rfl ?_
        refine XS.iconst X317.here hx rfl (hb hby at_369) ?_
        show oS p e below T317 m 370 #[iv x1, iv x2, iv (1 : Int32), iv (2 : Int32), rv b1, rv b4, rv b7, rv b13, rv b20, iv (1 : Int32), iv (1 : Int32), iv (0 : Int32), rv b13, .val .null, .val .null, rv b302, iv (1 : Int32)] [(.int (0 : Int32)), (.int (1 : Int32)), (.ref b302), (.ref b1)] _
        refine st326 _ ?_
        refine XS.ifNo X326.here hx rfl (hb hby at_373) rfl ((if0 _ _).trans (feq (by decide : ¬ ((1 : Int32) = (0 : Int32)))).1) ?_
        refine XS.iconst X326.here hx rfl (hb hby at_376) ?_
        refine XS.goto X326.here hx rfl (pc0 := 377) (pc' := 381) rfl (hb hby at_377) (by decide) (by decide) ?_
        refine XS.istore X326.here hx rfl (hb hby at_381) rfl (l' := #[iv x1, iv x2, iv (1 : Int32), iv (2 : Int32), rv b1, rv b4, rv b7, rv b13, rv b20, iv (1 : Int32), iv (1 : Int32), iv (0 : Int32), rv b13, .val .null, .val .null, rv b302, iv (1 : Int32)]) rfl ?_
        refine XS.iload X326.here hx rfl (hb hby at_383) rfl ?_
        refine XS.ifNo X326.here hx rfl (hb hby at_385) rfl ((if0 _ _).trans (feq (by decide : ¬ ((1 : Int32) = (0 : Int32)))).1) ?_
        refine XS.aload X326.here hx rfl (hb hby at_388) rfl rfl ?_
        show oS p e below T326 m 390 #[iv x1, iv x2, iv (1 : Int32), iv (2 : Int32), rv b1, rv b4, rv b7, rv b13, rv b20, iv (1 : Int32), iv (1 : Int32), iv (0 : Int32), rv b13, .val .null, .val .null, rv b302, iv (1 : Int32)] [(.ref b1)] _
        refine XS.aload X326.here hx rfl (hb hby at_390) rfl rfl ?_
        refine XS.iload X326.here hx rfl (hb hby at_392) rfl ?_
        refine XS.iconst X326.here hx rfl (hb hby at_394) ?_
        show oS p e below T326 m 395 #[iv x1, iv x2, iv (1 : Int32), iv (2 : Int32), rv b1, rv b4, rv b7, rv b13, rv b20, iv (1 : Int32), iv (1 : Int32), iv (0 : Int32), rv b13, .val .null, .val .null, rv b302, iv (1 : Int32)] [(.int (1 : Int32)), (.int (1 : Int32)), (.ref b302), (.ref b1)] _
        refine st327 _ ?_
        refine XS.ifNo X327.here hx rfl (hb hby at_398) rfl ((if0 _ _).trans (feq (by decide : ¬ ((1 : Int32) = (0 : Int32)))).1) ?_
        refine XS.iconst X327.here hx rfl (hb hby at_401) ?_
        refine XS.goto X327.here hx rfl (pc0 := 402) (pc' := 406) rfl (hb hby at_402) (by decide) (by decide) ?_
        refine XS.istore X327.here hx rfl (hb hby at_406) rfl (l' := #[iv x1, iv x2, iv (1 : Int32), iv (2 : Int32), rv b1, rv b4, rv b7, rv b13, rv b20, iv (1 : Int32), iv (1 : Int32), iv (0 : Int32), rv b13, .val .null, .val .null, rv b302, iv (1 : Int32)]) rfl ?_
        refine XS.iload X327.here hx rfl (hb hby at_408) rfl ?_
        refine XS.ifNo X327.here hx rfl (hb hby at_410) rfl ((if0 _ _).trans (feq (by decide : ¬ ((1 : Int32) = (0 : Int32)))).1) ?_
        refine XS.iload X327.here hx rfl (hb hby at_413) rfl ?_
        show oS p e below T327 m 415 #[iv x1, iv x2, iv (1 : Int32), iv (2 : Int32), rv b1, rv b4, rv b7, rv b13, rv b20, iv (1 : Int32), iv (1 : Int32), iv (0 : Int32), rv b13, .val .null, .val .null, rv b302, iv (1 : Int32)] [(.int (0 : Int32))] _
        refine XS.iconst X327.here hx rfl (hb hby at_415) ?_
        refine XS.iadd X327.here hx rfl (hb hby at_416) rfl ?_
        show oS p e below T327 m 417 #[iv x1, iv x2, iv (1 : Int32), iv (2 : Int32), rv b1, rv b4, rv b7, rv b13, rv b20, iv (1 : Int32), iv (1 : Int32), iv (0 : Int32), rv b13, .val .null, .val .null, rv b302, iv (1 : Int32)] [(.int (1 : Int32))] _
        refine XS.iconst X327.here hx rfl (hb hby at_417) ?_
        refine XS.icmpYes X327.here hx rfl (pc0 := 418) (pc' := 434) rfl (hb hby at_418) rfl (tlt (by decide : ((1 : Int32) < (2 : Int32)))).1 (by decide) (by decide) ?_
        refine XS.iconst X327.here hx rfl (hb hby at_434) ?_
        refine XS.goto X327.here hx rfl (pc0 := 435) (pc' := 439) rfl (hb hby at_435) (by decide) (by decide) ?_
        refine XS.istore X327.here hx rfl (hb hby at_439) rfl (l' := #[iv x1, iv x2, iv (1 : Int32), iv (2 : Int32), rv b1, rv b4, rv b7, rv b13, rv b20, iv (1 : Int32), iv (1 : Int32), iv (0 : Int32), rv b13, .val .null, .val .null, rv b302, iv (1 : Int32)]) rfl ?_
        refine XS.iload X327.here hx rfl (hb hby at_441) rfl ?_
        refine XS.ifNo X327.here hx rfl (hb hby at_443) rfl ((if0 _ _).trans (feq (by decide : ¬ ((1 : Int32) = (0 : Int32)))).1) ?_
        refine XS.iload X327.here hx rfl (hb hby at_446) rfl ?_
        show oS p e below T327 m 448 #[iv x1, iv x2, iv (1 : Int32), iv (2 : Int32), rv b1, rv b4, rv b7, rv b13, rv b20, iv (1 : Int32), iv (1 : Int32), iv (0 : Int32), rv b13, .val .null, .val .null, rv b302, iv (1 : Int32)] [(.int (0 : Int32))] _
        refine XS.iconst X327.here hx rfl (hb hby at_448) ?_
        refine XS.iadd X327.here hx rfl (hb hby at_449) rfl ?_
        show oS p e below T327 m 450 #[iv x1, iv x2, iv (1 : Int32), iv (2 : Int32), rv b1, rv b4, rv b7, rv b13, rv b20, iv (1 : Int32), iv (1 : Int32), iv (0 : Int32), rv b13, .val .null, .val .null, rv b302, iv (1 : Int32)] [(.int (1 : Int32))] _
        refine XS.iconst X327.here hx rfl (hb hby at_450) ?_
        refine XS.icmpYes X327.here hx rfl (pc0 := 451) (pc' := 467) rfl (hb hby at_451) rfl (tlt (by decide : ((1 : Int32) < (3 : Int32)))).1 (by decide) (by decide) ?_
        refine XS.iconst X327.here hx rfl (hb hby at_467) ?_
        refine XS.goto X327.here hx rfl (pc0 := 468) (pc' := 472) rfl (hb hby at_468) (by decide) (by decide) ?_
        refine XS.istore X327.here hx rfl (hb hby at_472) rfl (l' := #[iv x1, iv x2, iv (1 : Int32), iv (2 : Int32), rv b1, rv b4, rv b7, rv b13, rv b20, iv (1 : Int32), iv (1 : Int32), iv (0 : Int32), rv b13, .val .null, .val .null, rv b302, iv (1 : Int32)]) rfl ?_
        refine XS.iload X327.here hx rfl (hb hby at_474) rfl ?_
        exact kt
      obtain ⟨fs, hr, hrun, hended, hW, hsame⟩ := X327.leave (v := some (.int (1 : Int32))) (fun h => by rw [Bd.returns] at h; cases h)
      refine ⟨_, _, pre0 _ (pre32 _ (pre202 _ (pre331 _ ?_))), hrun, hended, _, _, rfl, ?_, ⟨_, rfl⟩, hW, hsame.mono (by decide) (by decide)⟩
      · show oS p e below T327 m 476 #[iv x1, iv x2, iv (1 : Int32), iv (2 : Int32), rv b1, rv b4, rv b7, rv b13, rv b20, iv (1 : Int32), iv (1 : Int32), iv (0 : Int32), rv b13, .val .null, .val .null, rv b302, iv (1 : Int32)] [(.int (1 : Int32))] _
        exact retN X327 hx (t := .boolean) Bd.returns (by simp) (hb hby at_476) hr
      · show Q0 Z x1 x2 h0 n0 _ T327.heap _
        rw [eh327]
        exact ⟨rfl, N327⟩
    · subst hn
      have Vc333 : Arv Z T189.heap b20 kk20 (.object oz0) (2 : Int32) [(.ref b4), (.ref b7)] .null := (Va31.keep K189 (ninS (Ne.symm ne_b1_b20) (ninS (Ne.symm ne_b4_b20) nin0)))
      obtain ⟨_, _, ⟨T332, Lw332, kw332, nw332⟩, -, X332, ⟨Lc332, hQ332, l332, y332, z332⟩, st332⟩ := Jvm.LawKit.callS X198 hx (y := (⟨oz4, "step", oz3⟩ : MethodName)) hown (mvT hZ (own_w hw 50 rfl)) (mvT hZ (own_w hw 51 rfl)) (mvT hZ (own_w hw 29 rfl)) (mvT hZ (own_w hw 52 rfl)) (by decide) (backOf (W := 0) (rmT2_1_0 l Z a0 hw [] b1 b20 b4 b7 kk20 T189.heap n0 Zc201 Ec199 Ec200 g_b1 g_b4 pf189_0 pf189_1 pf189_2 pf189_3 pf189_4 Vc333) hZ (own_w hw 52 rfl) (own_w hw 29 rfl) (by decide) (by decide)) (g := (mkF m 157 #[iv x1, iv x2, iv (1 : Int32), iv (3 : Int32), rv b1, rv b4, rv b7, rv b13, rv b20, iv (1 : Int32), .unset, .unset, .unset, .unset, .unset, .unset, .unset] [(.int (0 : Int32)), (.int (1 : Int32)), (.ref b20), (.ref b1)])) rfl (by rw [hml]; rfl) (argsL := [(.ref b1), (.ref b20), (.int (1 : Int32)), (.int (0 : Int32))]) (rest := []) (lenOf own_pd7 rfl) rfl (by show 2 * 0 + _ ≤ _; exact Nat.le_of_eq rfl) (hb hby at_157) (fun _ _ => ⟨rfl, eh198, (by decide : 5 + 0 ≤ _), (by decide : 34 + 0 ≤ _)⟩)
      dsimp only [Pt.U, Pt.locs, Pt.cells, Pt.slots] at X332 l332 y332 z332 st332 hQ332
      subst l332 y332 z332
      obtain ⟨rfl, Nq332, K332, pf332_0, pf332_1, pf332_2, pf332_3, pf332_4⟩ := hQ332
      have N332 := Fr.app N198 Nq332
      have Ec335 : Exa Z T332.heap b1 oz1 := (Ec199.keep K332)
      have Vc336 : Arv Z T332.heap b20 kk20 (.object oz0) (2 : Int32) [(.ref b4), (.ref b7)] .null := (Vc333.keep K332 (ninS (Ne.symm ne_b1_b20) (ninS (Ne.symm ne_b4_b20) nin0)))
      have Zc337 : n0 ≤ T332.heap.size := (Nat.le_trans Zc201 K332.1)
      obtain ⟨_, _, ⟨T334, Lw334, kw334, nw334⟩, -, X334, ⟨Lc334, hQ334, l334, y334, z334⟩, st334⟩ := Jvm.LawKit.callS X332 hx (y := (⟨oz4, "step", oz3⟩ : MethodName)) hown (mvT hZ (own_w hw 50 rfl)) (mvT hZ (own_w hw 51 rfl)) (mvT hZ (own_w hw 29 rfl)) (mvT hZ (own_w hw 52 rfl)) (by decide) (backOf (W := 0) (rmT2_1_1 l Z a0 hw [] b1 b20 b4 b7 kk20 T332.heap n0 Zc337 Ec335 pf332_0 pf332_1 Vc336) hZ (own_w hw 52 rfl) (own_w hw 29 rfl) (by decide) (by decide)) (g := (mkF m 186 #[iv x1, iv x2, iv (1 : Int32), iv (3 : Int32), rv b1, rv b4, rv b7, rv b13, rv b20, iv (1 : Int32), .unset, .unset, .unset, .unset, .unset, .unset, .unset] [(.int (1 : Int32)), (.int (1 : Int32)), (.ref b20), (.ref b1)])) rfl (by rw [hml]; rfl) (argsL := [(.ref b1), (.ref b20), (.int (1 : Int32)), (.int (1 : Int32))]) (rest := []) (lenOf own_pd7 rfl) rfl (by show 2 * 0 + _ ≤ _; exact Nat.le_of_eq rfl) (hb hby at_186) (fun _ _ => ⟨rfl, rfl, (by decide : 5 + 0 ≤ _), (by decide : 34 + 0 ≤ _)⟩)
      dsimp only [Pt.U, Pt.locs, Pt.cells, Pt.slots] at X334 l334 y334 z334 st334 hQ334
      subst l334 y334 z334
      obtain ⟨rfl, Nq334, eh334⟩ := hQ334
      have N334 := Fr.app N332 Nq334
      obtain ⟨_, _, ⟨T338, Lw338, kw338, nw338⟩, -, X338, ⟨Lc338, hQ338, l338, y338, z338⟩, st338⟩ := Jvm.LawKit.callS X334 hx (y := (⟨oz4, "step", oz3⟩ : MethodName)) hown (mvT hZ (own_w hw 50 rfl)) (mvT hZ (own_w hw 51 rfl)) (mvT hZ (own_w hw 29 rfl)) (mvT hZ (own_w hw 52 rfl)) (by decide) (backOf (W := 0) (rmT2_1_2 l Z a0 hw [] b1 b20 b4 b7 kk20 T332.heap n0 Zc337 Ec335 pf332_0 pf332_1 Vc336) hZ (own_w hw 52 rfl) (own_w hw 29 rfl) (by decide) (by decide)) (g := (mkF m 215 #[iv x1, iv x2, iv (1 : Int32), iv (3 : Int32), rv b1, rv b4, rv b7, rv b13, rv b20, iv (1 : Int32), .unset, .unset, .unset, .unset, .unset, .unset, .unset] [(.int (2 : Int32)), (.int (1 : Int32)), (.ref b20), (.ref b1)])) rfl (by rw [hml]; rfl) (argsL := [(.ref b1), (.ref b20), (.int (1 : Int32)), (.int (2 : Int32))]) (rest := []) (lenOf own_pd7 rfl) rfl (by show 2 * 0 + _ ≤ _; exact Nat.le_of_eq rfl) (hb hby at_215) (fun _ _ => ⟨rfl, eh334, (by decide : 5 + 0 ≤ _), (by decide : 34 + 0 ≤ _)⟩)
      dsimp only [Pt.U, Pt.locs, Pt.cells, Pt.slots] at X338 l338 y338 z338 st338 hQ338
      subst l338 y338 z338
      obtain ⟨rfl, Nq338, eh338⟩ := hQ338
      have N338 := Fr.app N334 Nq338
      obtain ⟨_, _, ⟨T339, Lw339, kw339, nw339⟩, -, X339, ⟨Lc339, hQ339, l339, y339, z339⟩, st339⟩ := Jvm.LawKit.callS X338 hx (y := (⟨"java/lang/Math", "min", "(II)I"⟩ : MethodName)) hown (mvT hZ (own_w hw 58 rfl)) (mvT hZ (own_w hw 59 rfl)) (mvT hZ (own_w hw 60 rfl)) (mvT hZ (own_w hw 61 rfl)) (by decide) (backOf (W := 0) (rm10 l Z a0 hw [] (3 : Int32) (1 : Int32) T332.heap n0 Zc337 ) hZ (own_w hw 61 rfl) (own_w hw 60 rfl) (by decide) (by decide)) (g := (mkF m 237 #[iv x1, iv x2, iv (1 : Int32), iv (3 : Int32), rv b1, rv b4, rv b7, rv b13, rv b20, iv (1 : Int32), .unset, .unset, .unset, .unset, .unset, .unset, .unset] [(.int (1 : Int32)), (.int (3 : Int32))])) rfl (by rw [hml]; rfl) (argsL := [(.int (3 : Int32)), (.int (1 : Int32))]) (rest := []) (lenOf own_pd6 rfl) rfl (by show 2 * 0 + _ ≤ _; exact Nat.le_of_eq rfl) (hb hby at_237) (fun _ _ => ⟨rfl, eh338, (by decide : 5 + 0 ≤ _), (by decide : 34 + 0 ≤ _)⟩)
      dsimp only [Pt.U, Pt.locs, Pt.cells, Pt.slots] at X339 l339 y339 z339 st339 hQ339
      subst l339 y339 z339
      obtain ⟨rfl, Nq339, eh339⟩ := hQ339
      have N339 := Fr.app N338 Nq339
      have Ec341 : Exa Z T332.heap b13 oz0 := (((((Ec25.ext E20).wr W28).wr W31).keep K189).keep K332)
      have Fc342 : Fld Z T332.heap b13 oz0 "in" oz6 .null := (((((pf18_0.ext E20).other W28 (Or.inl ne_b13_b20)).other W31 (Or.inl ne_b13_b20)).keep K189 (ninS (Ne.symm ne_b1_b13) (ninS (Ne.symm ne_b4_b13) nin0))).keep K332 (ninS (Ne.symm ne_b1_b13) (ninS (Ne.symm ne_b4_b13) nin0)))
      have Fc343 : Fld Z T332.heap b13 oz0 "before" oz2 .null := (((((pf18_1.ext E20).other W28 (Or.inl ne_b13_b20)).other W31 (Or.inl ne_b13_b20)).keep K189 (ninS (Ne.symm ne_b1_b13) (ninS (Ne.symm ne_b4_b13) nin0))).keep K332 (ninS (Ne.symm ne_b1_b13) (ninS (Ne.symm ne_b4_b13) nin0)))
      have Fc344 : Fld Z T332.heap b13 oz0 "after" oz2 .null := (((((pf18_2.ext E20).other W28 (Or.inl ne_b13_b20)).other W31 (Or.inl ne_b13_b20)).keep K189 (ninS (Ne.symm ne_b1_b13) (ninS (Ne.symm ne_b4_b13) nin0))).keep K332 (ninS (Ne.symm ne_b1_b13) (ninS (Ne.symm ne_b4_b13) nin0)))
      obtain ⟨cq340, kq340, q340a, q340b, q340c⟩ := isOf hZ eh339 Ec335
      obtain ⟨_, _, ⟨T340, Lw340, kw340, nw340⟩, -, X340, ⟨Lc340, hQ340, l340, y340, z340⟩, st340⟩ := X339.virtualBack hx (y := (⟨oz1, "add", oz8⟩ : MethodName)) (z := (⟨oz1, "add", oz8⟩ : MethodName)) hown (mvT hZ (own_w hw 62 rfl)) (mvT hZ (own_w hw 63 rfl)) (notFace_of_selects (args := #[]) (mvT hZ (own_w hw 65 rfl))) (mvT hZ (own_w hw 65 rfl)) (mvT hZ (own_w hw 64 rfl)) (by decide) (backOf (W := 0) (rmA0 l Z a0 hw [] b1 b13 .null T332.heap n0 Zc337 Ec335 Ec341 g_b1 g_b13 pf332_0 pf332_1 Fc342 Fc343 Fc344) hZ (own_w hw 66 rfl) (own_w hw 3 rfl) (by decide) (by decide)) q340a q340c (g := (mkF m 252 #[iv x1, iv x2, iv (1 : Int32), iv (3 : Int32), rv b1, rv b4, rv b7, rv b13, rv b20, iv (1 : Int32), iv (1 : Int32), iv (0 : Int32), .unset, .unset, .unset, .unset, .unset] [(.ref b13), (.ref b1)])) rfl (by rw [hml]; rfl) (Steps.refl _) (argsL := [(.ref b13)]) (rest := []) (lenOf own_pd0 rfl) rfl (by show 2 * 0 + _ ≤ _; exact Nat.le_of_eq rfl) (hb hby at_252) (fun _ _ => ⟨rfl, eh339, (by decide : 5 + 0 ≤ _), (by decide : 34 + 0 ≤ _)⟩)
      dsimp only [Pt.U, Pt.locs, Pt.cells, Pt.slots] at X340 l340 y340 z340 st340 hQ340
      subst l340 y340 z340
      obtain ⟨rfl, Nq340, K340, pf340_0, pf340_1, pf340_2, pf340_3, pf340_4⟩ := hQ340
      have N340 := Fr.app N339 Nq340
      have Zc346 : n0 ≤ T340.heap.size := (Nat.le_trans Zc337 K340.1)
      have Ec347 : Exa Z T340.heap b1 oz1 := (Ec335.keep K340)
      have Ec348 : Exa Z T340.heap b4 oz0 := ((Ec200.keep K332).keep K340)
      have Ec349 : Exa Z T340.heap b7 oz0 := ((((Ec29.wr W31).keep K189).keep K332).keep K340)
      have Ec350 : Exa Z T340.heap b13 oz0 := (Ec341.keep K340)
      have Vc351 : Arv Z T340.heap b20 kk20 (.object oz0) (2 : Int32) [(.ref b4), (.ref b7)] .null := (Vc336.keep K340 (ninS (Ne.symm ne_b1_b20) (ninS (Ne.symm ne_b13_b20) nin0)))
      obtain ⟨T345, h345, kk345, X345, e345, E345, A345, O345, st345⟩ := newR X340 hx hZ hown (own_w hw 10 rfl) (own_w hw 25 rfl) rfl (g := (mkF m 318 #[iv x1, iv x2, iv (1 : Int32), iv (3 : Int32), rv b1, rv b4, rv b7, rv b13, rv b20, iv (1 : Int32), iv (1 : Int32), iv (0 : Int32), rv b13, .val .null, .val .null, .unset, .unset] [(.int (3 : Int32))])) rfl (hb hby at_318) rfl (by decide) (cap := 3) (by decide) (by decide) (by decide) (by decide)
      obtain ⟨b345, g345⟩ : ∃ z, z = T340.heap.size := ⟨_, rfl⟩
      rw [← g345] at A345 st345
      have g_b345 : n0 ≤ b345 := Nat.le_trans Zc346 (Nat.le_of_eq g345.symm)
      have ne_b1_b345 : b1 ≠ b345 := Nat.ne_of_lt (Nat.lt_of_lt_of_le Ec347.lt (Nat.le_of_eq g345.symm))
      have ne_b4_b345 : b4 ≠ b345 := Nat.ne_of_lt (Nat.lt_of_lt_of_le Ec348.lt (Nat.le_of_eq g345.symm))
      have ne_b7_b345 : b7 ≠ b345 := Nat.ne_of_lt (Nat.lt_of_lt_of_le Ec349.lt (Nat.le_of_eq g345.symm))
      have ne_b13_b345 : b13 ≠ b345 := Nat.ne_of_lt (Nat.lt_of_lt_of_le Ec350.lt (Nat.le_of_eq g345.symm))
      have ne_b20_b345 : b20 ≠ b345 := Nat.ne_of_lt (Nat.lt_of_lt_of_le Vc351.lt (Nat.le_of_eq g345.symm))
      have V_b345 : Arv Z h345 b345 kk345 (.object oz0) (3 : Int32) [.null, .null, .null] .null := (Arv.new A345 (by decide)).pad (pad_rep [] .null 3)
      have Ec352 : Exa Z h345 b13 oz0 := (Ec350.ext E345)
      obtain ⟨cl353, Ar353, qk353, Sz353, Ng353, Hs353, Gt353⟩ := id V_b345
      have hin353 : ¬ ((0 : Int32) < 0 ∨ cl353.slots.size ≤ ((0 : Int32)).toNatClampNeg) := inb_of Sz353 ⟨by decide, by decide⟩
      obtain ⟨T354, h354, X354, e354, W354, st354⟩ := stR X345 hx hZ e345 Ar353 (j := (0 : Int32)) hin353 rfl (Sto.ofV Ar353 qk353 O345 (Ins.self Ec352)) (g := (mkF m 325 #[iv x1, iv x2, iv (1 : Int32), iv (3 : Int32), rv b1, rv b4, rv b7, rv b13, rv b20, iv (1 : Int32), iv (1 : Int32), iv (0 : Int32), rv b13, .val .null, .val .null, .unset, .unset] [(.ref b13), (.int (0 : Int32)), (.ref b345), (.ref b345)])) rfl rfl (hb hby at_325)
      have Va354 : Arv Z h354 b345 kk345 (.object oz0) (3 : Int32) [(.ref b13), .null, .null] .null := Arv.set Ar353 qk353 Sz353 Ng353 Hs353 Gt353 rfl W354 0 rfl (Nat.le_of_ble_eq_true rfl)
      have N354 := Fr.snoc X354 N340 g_b345
      obtain ⟨cl355, Ar355, qk355, Sz355, Ng355, Hs355, Gt355⟩ := id Va354
      have hin355 : ¬ ((1 : Int32) < 0 ∨ cl355.slots.size ≤ ((1 : Int32)).toNatClampNeg) := inb_of Sz355 ⟨by decide, by decide⟩
      obtain ⟨T356, h356, X356, e356, W356, st356⟩ := stR X354 hx hZ e354 Ar355 (j := (1 : Int32)) hin355 rfl (Or.inl rfl) (g := (mkF m 330 #[iv x1, iv x2, iv (1 : Int32), iv (3 : Int32), rv b1, rv b4, rv b7, rv b13, rv b20, iv (1 : Int32), iv (1 : Int32), iv (0 : Int32), rv b13, .val .null, .val .null, .unset, .unset] [.null, (.int (1 : Int32)), (.ref b345), (.ref b345)])) rfl rfl (hb hby at_330)
      have Va356 : Arv Z h356 b345 kk345 (.object oz0) (3 : Int32) [(.ref b13), .null, .null] .null := Arv.set Ar355 qk355 Sz355 Ng355 Hs355 Gt355 rfl W356 1 rfl (Nat.le_of_ble_eq_true rfl)
      have N356 := Fr.snoc X356 N354 g_b345
      obtain ⟨cl357, Ar357, qk357, Sz357, Ng357, Hs357, Gt357⟩ := id Va356
      have hin357 : ¬ ((2 : Int32) < 0 ∨ cl357.slots.size ≤ ((2 : Int32)).toNatClampNeg) := inb_of Sz357 ⟨by decide, by decide⟩
      obtain ⟨T358, h358, X358, e358, W358, st358⟩ := stR X356 hx hZ e356 Ar357 (j := (2 : Int32)) hin357 rfl (Or.inl rfl) (g := (mkF m 335 #[iv x1, iv x2, iv (1 : Int32), iv (3 : Int32), rv b1, rv b4, rv b7, rv b13, rv b20, iv (1 : Int32), iv (1 : Int32), iv (0 : Int32), rv b13, .val .null, .val .null, .unset, .unset] [.null, (.int (2 : Int32)), (.ref b345), (.ref b345)])) rfl rfl (hb hby at_335)
      have Va358 : Arv Z h358 b345 kk345 (.object oz0) (3 : Int32) [(.ref b13), .null, .null] .null := Arv.set Ar357 qk357 Sz357 Ng357 Hs357 Gt357 rfl W358 2 rfl (Nat.le_of_ble_eq_true rfl)
      have N358 := Fr.snoc X358 N356 g_b345
      obtain ⟨cl359, Ar359, qk359, Sz359, Ng359, Hs359, Gt359⟩ := id Va358
      have hin359 : ¬ ((0 : Int32) < 0 ∨ cl359.slots.size ≤ ((0 : Int32)).toNatClampNeg) := inb_of Sz359 ⟨by decide, by decide⟩
      have hat359 : cl359.slots[((0 : Int32)).toNatClampNeg]? = some (.ref b13) := Hs359.at hin359 rfl
      have Ec361 : Exa Z h358 b1 oz1 := ((((Ec347.ext E345).wr W354).wr W356).wr W358)
      have Ec362 : Exa Z h358 b13 oz0 := (((Ec352.wr W354).wr W356).wr W358)
      have Fc363 : Fld Z h358 b1 oz1 "first" oz2 (.ref b13) := ((((pf340_0.ext E345).other W354 (Or.inl ne_b1_b345)).other W356 (Or.inl ne_b1_b345)).other W358 (Or.inl ne_b1_b345))
      have Fc364 : Fld Z h358 b1 oz1 "last" oz2 (.ref b13) := ((((pf340_1.ext E345).other W354 (Or.inl ne_b1_b345)).other W356 (Or.inl ne_b1_b345)).other W358 (Or.inl ne_b1_b345))
      have Fc365 : Fld Z h358 b13 oz0 "in" oz6 (.ref b1) := ((((pf340_2.ext E345).other W354 (Or.inl ne_b13_b345)).other W356 (Or.inl ne_b13_b345)).other W358 (Or.inl ne_b13_b345))
      have Fc366 : Fld Z h358 b13 oz0 "before" oz2 .null := ((((pf340_3.ext E345).other W354 (Or.inl ne_b13_b345)).other W356 (Or.inl ne_b13_b345)).other W358 (Or.inl ne_b13_b345))
      have Fc367 : Fld Z h358 b13 oz0 "after" oz2 .null := ((((pf340_4.ext E345).other W354 (Or.inl ne_b13_b345)).other W356 (Or.inl ne_b13_b345)).other W358 (Or.inl ne_b13_b345))
      have Zc368 : n0 ≤ h358.size := (Nat.le_trans (Nat.le_trans (Nat.le_trans (Nat.le_trans Zc346 E345.1) (Keep.of_wr W354).1) (Keep.of_wr W356).1) (Keep.of_wr W358).1)
      obtain ⟨_, _, ⟨T360, Lw360, kw360, nw360⟩, -, X360, ⟨Lc360, hQ360, l360, y360, z360⟩, st360⟩ := Jvm.LawKit.callS X358 hx (y := (⟨oz4, "state", oz5⟩ : MethodName)) hown (mvT hZ (own_w hw 27 rfl)) (mvT hZ (own_w hw 28 rfl)) (mvT hZ (own_w hw 29 rfl)) (mvT hZ (own_w hw 30 rfl)) (by decide) (backOf (W := 0) (rmS1 l Z a0 hw [] b1 b13 h358 n0 Zc368 Ec361 Ec362 Fc363 Fc364 Fc365 Fc366 Fc367) hZ (own_w hw 30 rfl) (own_w hw 29 rfl) (by decide) (by decide)) (g := (mkF m 353 #[iv x1, iv x2, iv (1 : Int32), iv (3 : Int32), rv b1, rv b4, rv b7, rv b13, rv b20, iv (1 : Int32), iv (1 : Int32), iv (0 : Int32), rv b13, .val .null, .val .null, rv b345, iv (1 : Int32)] [(.ref b13), (.ref b13), (.ref b1)])) rfl (by rw [hml]; rfl) (argsL := [(.ref b1), (.ref b13), (.ref b13)]) (rest := []) (lenOf own_pd5 rfl) rfl (by show 2 * 0 + _ ≤ _; exact Nat.le_of_eq rfl) (hb hby at_353) (fun _ _ => ⟨rfl, e358, (by decide : 6 + 0 ≤ _), (by decide : 37 + 0 ≤ _)⟩)
      dsimp only [Pt.U, Pt.locs, Pt.cells, Pt.slots] at X360 l360 y360 z360 st360 hQ360
      subst l360 y360 z360
      obtain ⟨rfl, Nq360, eh360⟩ := hQ360
      have N360 := Fr.app N358 Nq360
      obtain ⟨_, _, ⟨T369, Lw369, kw369, nw369⟩, -, X369, ⟨Lc369, hQ369, l369, y369, z369⟩, st369⟩ := Jvm.LawKit.callS X360 hx (y := (⟨oz4, "step", oz3⟩ : MethodName)) hown (mvT hZ (own_w hw 50 rfl)) (mvT hZ (own_w hw 51 rfl)) (mvT hZ (own_w hw 29 rfl)) (mvT hZ (own_w hw 52 rfl)) (by decide) (backOf (W := 0) (rmT3_1_0 l Z a0 hw [] b1 b345 b13 kk345 h358 n0 Zc368 Ec361 Ec362 g_b1 g_b13 Fc363 Fc364 Fc365 Fc366 Fc367 Va358) hZ (own_w hw 52 rfl) (own_w hw 29 rfl) (by decide) (by decide)) (g := (mkF m 370 #[iv x1, iv x2, iv (1 : Int32), iv (3 : Int32), rv b1, rv b4, rv b7, rv b13, rv b20, iv (1 : Int32), iv (1 : Int32), iv (0 : Int32), rv b13, .val .null, .val .null, rv b345, iv (1 : Int32)] [(.int (0 : Int32)), (.int (1 : Int32)), (.ref b345), (.ref b1)])) rfl (by rw [hml]; rfl) (argsL := [(.ref b1), (.ref b345), (.int (1 : Int32)), (.int (0 : Int32))]) (rest := []) (lenOf own_pd7 rfl) rfl (by show 2 * 0 + _ ≤ _; exact Nat.le_of_eq rfl) (hb hby at_370) (fun _ _ => ⟨rfl, eh360, (by decide : 6 + 0 ≤ _), (by decide : 37 + 0 ≤ _)⟩)
      dsimp only [Pt.U, Pt.locs, Pt.cells, Pt.slots] at X369 l369 y369 z369 st369 hQ369
      subst l369 y369 z369
      obtain ⟨rfl, Nq369, K369, pf369_0, pf369_1, pf369_2, pf369_3, pf369_4⟩ := hQ369
      have N369 := Fr.app N360 Nq369
      have Ec371 : Exa Z T369.heap b1 oz1 := (Ec361.keep K369)
      have Vc372 : Arv Z T369.heap b345 kk345 (.object oz0) (3 : Int32) [(.ref b13), .null, .null] .null := (Va358.keep K369 (ninS (Ne.symm ne_b1_b345) (ninS (Ne.symm ne_b13_b345) nin0)))
      have Zc373 : n0 ≤ T369.heap.size := (Nat.le_trans Zc368 K369.1)
      obtain ⟨_, _, ⟨T370, Lw370, kw370, nw370⟩, -, X370, ⟨Lc370, hQ370, l370, y370, z370⟩, st370⟩ := Jvm.LawKit.callS X369 hx (y := (⟨oz4, "step", oz3⟩ : MethodName)) hown (mvT hZ (own_w hw 50 rfl)) (mvT hZ (own_w hw 51 rfl)) (mvT hZ (own_w hw 29 rfl)) (mvT hZ (own_w hw 52 rfl)) (by decide) (backOf (W := 0) (rmT3_1_1 l Z a0 hw [] b1 b345 b13 kk345 T369.heap n0 Zc373 Ec371 pf369_0 pf369_1 Vc372) hZ (own_w hw 52 rfl) (own_w hw 29 rfl) (by decide) (by decide)) (g := (mkF m 395 #[iv x1, iv x2, iv (1 : Int32), iv (3 : Int32), rv b1, rv b4, rv b7, rv b13, rv b20, iv (1 : Int32), iv (1 : Int32), iv (0 : Int32), rv b13, .val .null, .val .null, rv b345, iv (1 : Int32)] [(.int (1 : Int32)), (.int (1 : Int32)), (.ref b345), (.ref b1)])) rfl (by rw [hml]; rfl) (argsL := [(.ref b1), (.ref b345), (.int (1 : Int32)), (.int (1 : Int32))]) (rest := []) (lenOf own_pd7 rfl) rfl (by show 2 * 0 + _ ≤ _; exact Nat.le_of_eq rfl) (hb hby at_395) (fun _ _ => ⟨rfl, rfl, (by decide : 6 + 0 ≤ _), (by decide : 37 + 0 ≤ _)⟩)
      dsimp only [Pt.U, Pt.locs, Pt.cells, Pt.slots] at X370 l370 y370 z370 st370 hQ370
      subst l370 y370 z370
      obtain ⟨rfl, Nq370, eh370⟩ := hQ370
      have N370 := Fr.app N369 Nq370
      have pre374 : ∀ tz, oS p e below T370 m 476 #[iv x1, iv x2, iv (1 : Int32), iv (3 : Int32), rv b1, rv b4, rv b7, rv b13, rv b20, iv (1 : Int32), iv (1 : Int32), iv (0 : Int32), rv b13, .val .null, .val .null, rv b345, iv (1 : Int32)] [(.int (1 : Int32))] tz → oS p e below T198 m 146 #[iv x1, iv x2, iv (1 : Int32), iv (3 : Int32), rv b1, rv b4, rv b7, rv b13, rv b20, iv (1 : Int32), .unset, .unset, .unset, .unset, .unset, .unset, .unset] [] tz := fun tz kt => by
        show oS p e below T198 m 146 #[iv x1, iv x2, iv (1 : Int32), iv (3 : Int32), rv b1, rv b4, rv b7, rv b13, rv b20, iv (1 : Int32), .unset, .unset, .unset, .unset, .unset, .unset, .unset] [] _
        refine XS.iloadN X198.here hx rfl (hb hby at_146) rfl ?_
        refine XS.iconst X198.here hx rfl (hb hby at_147) ?_
        refine XS.icmpNo X198.here hx rfl (hb hby at_148) rfl (flt (by decide : ¬ ((3 : Int32) < (1 : Int32)))).1 ?_
        refine XS.aload X198.here hx rfl (hb hby at_151) rfl rfl ?_
        refine XS.aload X198.here hx rfl (hb hby at_153) rfl rfl ?_
        refine XS.iloadN X198.here hx rfl (hb hby at_155) rfl ?_
        refine XS.iconst X198.here hx rfl (hb hby at_156) ?_
        show oS p e below T198 m 157 #[iv x1, iv x2, iv (1 : Int32), iv (3 : Int32), rv b1, rv b4, rv b7, rv b13, rv b20, iv (1 : Int32), .unset, .unset, .unset, .unset, .unset, .unset, .unset] [(.int (0 : Int32)), (.int (1 : Int32)), (.ref b20), (.ref b1)] _
        refine st332 _ ?_
        refine XS.ifNo X332.here hx rfl (hb hby at_160) rfl ((if0 _ _).trans (feq (by decide : ¬ ((1 : Int32) = (0 : Int32)))).1) ?_
        refine XS.iconst X332.here hx rfl (hb hby at_163) ?_
        refine XS.goto X332.here hx rfl (pc0 := 164) (pc' := 168) rfl (hb hby at_164) (by decide) (by decide) ?_
        refine XS.istore X332.here hx rfl (hb hby at_168) rfl (l' := #[iv x1, iv x2, iv (1 : Int32), iv (3 : Int32), rv b1, rv b4, rv b7, rv b13, rv b20, iv (1 : Int32), .unset, .unset, .unset, .unset, .unset, .unset, .unset]) rfl ?_
        refine XS.iload X332.here hx rfl (hb hby at_170) rfl ?_
        refine XS.ifNo X332.here hx rfl (hb hby at_172) rfl ((if0 _ _).trans (feq (by decide : ¬ ((1 : Int32) = (0 : Int32)))).1) ?_
        refine XS.iloadN X332.here hx rfl (hb hby at_175) rfl ?_
        show oS p e below T332 m 176 #[iv x1, iv x2, iv (1 : Int32), iv (3 : Int32), rv b1, rv b4, rv b7, rv b13, rv b20, iv (1 : Int32), .unset, .unset, .unset, .unset, .unset, .unset, .unset] [(.int (3 : Int32))] _
        refine XS.iconst X332.here hx rfl (hb hby at_176) ?_
        refine XS.icmpNo X332.here hx rfl (hb hby at_177) rfl (flt (by decide : ¬ ((3 : Int32) < (2 : Int32)))).1 ?_
        refine XS.aload X332.here hx rfl (hb hby at_180) rfl rfl ?_
        refine XS.aload X332.here hx rfl (hb hby at_182) rfl rfl ?_
        refine XS.iloadN X332.here hx rfl (hb hby at_184) rfl ?_
        refine XS.iconst X332.here hx rfl (hb hby at_185) ?_
        show oS p e below T332 m 186 #[iv x1, iv x2, iv (1 : Int32), iv (3 : Int32), rv b1, rv b4, rv b7, rv b13, rv b20, iv (1 : Int32), .unset, .unset, .unset, .unset, .unset, .unset, .unset] [(.int (1 : Int32)), (.int (1 : Int32)), (.ref b20), (.ref b1)] _
        refine st334 _ ?_
        refine XS.ifNo X334.here hx rfl (hb hby at_189) rfl ((if0 _ _).trans (feq (by decide : ¬ ((1 : Int32) = (0 : Int32)))).1) ?_
        refine XS.iconst X334.here hx rfl (hb hby at_192) ?_
        refine XS.goto X334.here hx rfl (pc0 := 193) (pc' := 197) rfl (hb hby at_193) (by decide) (by decide) ?_
        refine XS.istore X334.here hx rfl (hb hby at_197) rfl (l' := #[iv x1, iv x2, iv (1 : Int32), iv (3 : Int32), rv b1, rv b4, rv b7, rv b13, rv b20, iv (1 : Int32), .unset, .unset, .unset, .unset, .unset, .unset, .unset]) rfl ?_
        refine XS.iload X334.here hx rfl (hb hby at_199) rfl ?_
        refine XS.ifNo X334.here hx rfl (hb hby at_201) rfl ((if0 _ _).trans (feq (by decide : ¬ ((1 : Int32) = (0 : Int32)))).1) ?_
        refine XS.iloadN X334.here hx rfl (hb hby at_204) rfl ?_
        show oS p e below T334 m 205 #[iv x1, iv x2, iv (1 : Int32), iv (3 : Int32), rv b1, rv b4, rv b7, rv b13, rv b20, iv (1 : Int32), .unset, .unset, .unset, .unset, .unset, .unset, .unset] [(.int (3 : Int32))] _
        refine XS.iconst X334.here hx rfl (hb hby at_205) ?_
        refine XS.icmpNo X334.here hx rfl (hb hby at_206) rfl (flt (by decide : ¬ ((3 : Int32) < (3 : Int32)))).1 ?_
        refine XS.aload X334.here hx rfl (hb hby at_209) rfl rfl ?_
        refine XS.aload X334.here hx rfl (hb hby at_211) rfl rfl ?_
        refine XS.iloadN X334.here hx rfl (hb hby at_213) rfl ?_
        refine XS.iconst X334.here hx rfl (hb hby at_214) ?_
        show oS p e below T334 m 215 #[iv x1, iv x2, iv (1 : Int32), iv (3 : Int32), rv b1, rv b4, rv b7, rv b13, rv b20, iv (1 : Int32), .unset, .unset, .unset, .unset, .unset, .unset, .unset] [(.int (2 : Int32)), (.int (1 : Int32)), (.ref b20), (.ref b1)] _
        refine st338 _ ?_
        refine XS.ifNo X338.here hx rfl (hb hby at_218) rfl ((if0 _ _).trans (feq (by decide : ¬ ((1 : Int32) = (0 : Int32)))).1) ?_
        refine XS.iconst X338.here hx rfl (hb hby at_221) ?_
        refine XS.goto X338.here hx rfl (pc0 := 222) (pc' := 226) rfl (hb hby at_222) (by decide) (by decide) ?_
        refine XS.istore X338.here hx rfl (hb hby at_226) rfl (l' := #[iv x1, iv x2, iv (1 : Int32), iv (3 : Int32), rv b1, rv b4, rv b7, rv b13, rv b20, iv (1 : Int32), .unset, .unset, .unset, .unset, .unset, .unset, .unset]) rfl ?_
        refine XS.iload X338.here hx rfl (hb hby at_228) rfl ?_
        refine XS.ifYes X338.here hx rfl (pc0 := 230) (pc' := 235) rfl (hb hby at_230) rfl ((if0 _ _).trans (feq (by decide : ¬ ((1 : Int32) = (0 : Int32)))).2) (by decide) (by decide) ?_
        refine XS.iloadN X338.here hx rfl (hb hby at_235) rfl ?_
        show oS p e below T338 m 236 #[iv x1, iv x2, iv (1 : Int32), iv (3 : Int32), rv b1, rv b4, rv b7, rv b13, rv b20, iv (1 : Int32), .unset, .unset, .unset, .unset, .unset, .unset, .unset] [(.int (3 : Int32))] _
        refine XS.iloadN X338.here hx rfl (hb hby at_236) rfl ?_
        show oS p e below T338 m 237 #[iv x1, iv x2, iv (1 : Int32), iv (3 : Int32), rv b1, rv b4, rv b7, rv b13, rv b20, iv (1 : Int32), .unset, .unset, .unset, .unset, .unset, .unset, .unset] [(.int (1 : Int32)), (.int (3 : Int32))] _
        refine st339 _ ?_
        rw [((if_pos (by decide : (1 : Int32) < (3 : Int32))) : (if (1 : Int32) < (3 : Int32) then (1 : Int32) else (3 : Int32)) = (1 : Int32))]
        show oS p e below T339 m 240 #[iv x1, iv x2, iv (1 : Int32), iv (3 : Int32), rv b1, rv b4, rv b7, rv b13, rv b20, iv (1 : Int32), .unset, .unset, .unset, .unset, .unset, .unset, .unset] [(.int (1 : Int32))] _
        refine XS.istore X339.here hx rfl (hb hby at_240) rfl (l' := #[iv x1, iv x2, iv (1 : Int32), iv (3 : Int32), rv b1, rv b4, rv b7, rv b13, rv b20, iv (1 : Int32), iv (1 : Int32), .unset, .unset, .unset, .unset, .unset, .unset]) rfl ?_
        refine XS.iloadN X339.here hx rfl (hb hby at_242) rfl ?_
        refine XS.iload X339.here hx rfl (hb hby at_243) rfl ?_
        refine XS.isub X339.here hx rfl (hb hby at_245) rfl ?_
        show oS p e below T339 m 246 #[iv x1, iv x2, iv (1 : Int32), iv (3 : Int32), rv b1, rv b4, rv b7, rv b13, rv b20, iv (1 : Int32), iv (1 : Int32), .unset, .unset, .unset, .unset, .unset, .unset] [(.int (0 : Int32))] _
        refine XS.istore X339.here hx rfl (hb hby at_246) rfl (l' := #[iv x1, iv x2, iv (1 : Int32), iv (3 : Int32), rv b1, rv b4, rv b7, rv b13, rv b20, iv (1 : Int32), iv (1 : Int32), iv (0 : Int32), .unset, .unset, .unset, .unset, .unset]) rfl ?_
        refine XS.aload X339.here hx rfl (hb hby at_248) rfl rfl ?_
        refine XS.aload X339.here hx rfl (hb hby at_250) rfl rfl ?_
        show oS p e below T339 m 252 #[iv x1, iv x2, iv (1 : Int32), iv (3 : Int32), rv b1, rv b4, rv b7, rv b13, rv b20, iv (1 : Int32), iv (1 : Int32), iv (0 : Int32), .unset, .unset, .unset, .unset, .unset] [(.ref b13), (.ref b1)] _
        refine st340.trans ?_
        refine XS.iload X340.here hx rfl (hb hby at_255) rfl ?_
        refine XS.iconst X340.here hx rfl (hb hby at_257) ?_
        refine XS.icmpYes X340.here hx rfl (pc0 := 258) (pc' := 269) rfl (hb hby at_258) rfl (tlt (by decide : ((0 : Int32) < (1 : Int32)))).1 (by decide) (by decide) ?_
        refine XS.aload X340.here hx rfl (hb hby at_269) rfl rfl ?_
        refine XS.astore X340.here hx rfl (hb hby at_271) rfl rfl (l' := #[iv x1, iv x2, iv (1 : Int32), iv (3 : Int32), rv b1, rv b4, rv b7, rv b13, rv b20, iv (1 : Int32), iv (1 : Int32), iv (0 : Int32), rv b13, .unset, .unset, .unset, .unset]) rfl ?_
        refine XS.iload X340.here hx rfl (hb hby at_273) rfl ?_
        refine XS.iconst X340.here hx rfl (hb hby at_275) ?_
        show oS p e below T340 m 276 #[iv x1, iv x2, iv (1 : Int32), iv (3 : Int32), rv b1, rv b4, rv b7, rv b13, rv b20, iv (1 : Int32), iv (1 : Int32), iv (0 : Int32), rv b13, .unset, .unset, .unset, .unset] [(.int (2 : Int32)), (.int (0 : Int32))] _
        refine XS.icmpYes X340.here hx rfl (pc0 := 276) (pc' := 289) rfl (hb hby at_276) rfl (tlt (by decide : ((0 : Int32) < (2 : Int32)))).1 (by decide) (by decide) ?_
        refine XS.iload X340.here hx rfl (hb hby at_289) rfl ?_
        refine XS.iconst X340.here hx rfl (hb hby at_291) ?_
        refine XS.icmpYes X340.here hx rfl (pc0 := 292) (pc' := 300) rfl (hb hby at_292) rfl (feq (by decide : ¬ ((0 : Int32) = (1 : Int32)))).2 (by decide) (by decide) ?_
        refine XS.aconstNull X340.here hx rfl (hb hby at_300) ?_
        refine XS.astore X340.here hx rfl (hb hby at_301) rfl rfl (l' := #[iv x1, iv x2, iv (1 : Int32), iv (3 : Int32), rv b1, rv b4, rv b7, rv b13, rv b20, iv (1 : Int32), iv (1 : Int32), iv (0 : Int32), rv b13, .val .null, .unset, .unset, .unset]) rfl ?_
        refine XS.iload X340.here hx rfl (hb hby at_303) rfl ?_
        refine XS.iconst X340.here hx rfl (hb hby at_305) ?_
        show oS p e below T340 m 306 #[iv x1, iv x2, iv (1 : Int32), iv (3 : Int32), rv b1, rv b4, rv b7, rv b13, rv b20, iv (1 : Int32), iv (1 : Int32), iv (0 : Int32), rv b13, .val .null, .unset, .unset, .unset] [(.int (2 : Int32)), (.int (0 : Int32))] _
        refine XS.icmpYes X340.here hx rfl (pc0 := 306) (pc' := 314) rfl (hb hby at_306) rfl (feq (by decide : ¬ ((0 : Int32) = (2 : Int32)))).2 (by decide) (by decide) ?_
        refine XS.aconstNull X340.here hx rfl (hb hby at_314) ?_
        refine XS.astore X340.here hx rfl (hb hby at_315) rfl rfl (l' := #[iv x1, iv x2, iv (1 : Int32), iv (3 : Int32), rv b1, rv b4, rv b7, rv b13, rv b20, iv (1 : Int32), iv (1 : Int32), iv (0 : Int32), rv b13, .val .null, .val .null, .unset, .unset]) rfl ?_
        refine XS.iconst X340.here hx rfl (hb hby at_317) ?_
        show oS p e below T340 m 318 #[iv x1, iv x2, iv (1 : Int32), iv (3 : Int32), rv b1, rv b4, rv b7, rv b13, rv b20, iv (1 : Int32), iv (1 : Int32), iv (0 : Int32), rv b13, .val .null, .val .null, .unset, .unset] [(.int (3 : Int32))] _
        refine st345 _ ?_
        refine XS.dup X345.here hx rfl (hb hby at_321) rfl rfl ?_
        refine XS.iconst X345.here hx rfl (hb hby at_322) ?_
        refine XS.aload X345.here hx rfl (hb hby at_323) rfl rfl ?_
        show oS p e below T345 m 325 #[iv x1, iv x2, iv (1 : Int32), iv (3 : Int32), rv b1, rv b4, rv b7, rv b13, rv b20, iv (1 : Int32), iv (1 : Int32), iv (0 : Int32), rv b13, .val .null, .val .null, .unset, .unset] [(.ref b13), (.int (0 : Int32)), (.ref b345), (.ref b345)] _
        refine st354 _ ?_
        refine XS.dup X354.here hx rfl (hb hby at_326) rfl rfl ?_
        refine XS.iconst X354.here hx rfl (hb hby at_327) ?_
        refine XS.aload X354.here hx rfl (hb hby at_328) rfl rfl ?_
        show oS p e below T354 m 330 #[iv x1, iv x2, iv (1 : Int32), iv (3 : Int32), rv b1, rv b4, rv b7, rv b13, rv b20, iv (1 : Int32), iv (1 : Int32), iv (0 : Int32), rv b13, .val .null, .val .null, .unset, .unset] [.null, (.int (1 : Int32)), (.ref b345), (.ref b345)] _
        refine st356 _ ?_
        refine XS.dup X356.here hx rfl (hb hby at_331) rfl rfl ?_
        refine XS.iconst X356.here hx rfl (hb hby at_332) ?_
        refine XS.aload X356.here hx rfl (hb hby at_333) rfl rfl ?_
        show oS p e below T356 m 335 #[iv x1, iv x2, iv (1 : Int32), iv (3 : Int32), rv b1, rv b4, rv b7, rv b13, rv b20, iv (1 : Int32), iv (1 : Int32), iv (0 : Int32), rv b13, .val .null, .val .null, .unset, .unset] [.null, (.int (2 : Int32)), (.ref b345), (.ref b345)] _
        refine st358 _ ?_
        refine XS.astore X358.here hx rfl (hb hby at_336) rfl rfl (l' := #[iv x1, iv x2, iv (1 : Int32), iv (3 : Int32), rv b1, rv b4, rv b7, rv b13, rv b20, iv (1 : Int32), iv (1 : Int32), iv (0 : Int32), rv b13, .val .null, .val .null, rv b345, .unset]) rfl ?_
        refine XS.iload X358.here hx rfl (hb hby at_338) rfl ?_
        refine XS.iconst X358.here hx rfl (hb hby at_340) ?_
        refine XS.iadd X358.here hx rfl (hb hby at_341) rfl ?_
        show oS p e below T358 m 342 #[iv x1, iv x2, iv (1 : Int32), iv (3 : Int32), rv b1, rv b4, rv b7, rv b13, rv b20, iv (1 : Int32), iv (1 : Int32), iv (0 : Int32), rv b13, .val .null, .val .null, rv b345, .unset] [(.int (1 : Int32))] _
        refine XS.istore X358.here hx rfl (hb hby at_342) rfl (l' := #[iv x1, iv x2, iv (1 : Int32), iv (3 : Int32), rv b1, rv b4, rv b7, rv b13, rv b20, iv (1 : Int32), iv (1 : Int32), iv (0 : Int32), rv b13, .val .null, .val .null, rv b345, iv (1 : Int32)]) rfl ?_
        refine XS.aload X358.here hx rfl (hb hby at_344) rfl rfl ?_
        refine XS.aload X358.here hx rfl (hb hby at_346) rfl rfl ?_
        refine XS.aload X358.here hx rfl (hb hby at_348) rfl rfl ?_
        refine XS.iload X358.here hx rfl (hb hby at_350) rfl ?_
        refine X358.aaload hx (j := (0 : Int32)) (v := (.ref b13)) (by rw [e358]; exact Ar359.1) (State.isArrayOf_alike hZ.alike Ar359.2.1) rfl Ar359.2.2 hin359 hat359 (g := (mkF m 352 #[iv x1, iv x2, iv (1 : Int32), iv (3 : Int32), rv b1, rv b4, rv b7, rv b13, rv b20, iv (1 : Int32), iv (1 : Int32), iv (0 : Int32), rv b13, .val .null, .val .null, rv b345, iv (1 : Int32)] [(.int (0 : Int32)), (.ref b345), (.ref b13), (.ref b1)])) rfl rfl (hb hby at_352) _ ?_
        show oS p e below T358 m 353 #[iv x1, iv x2, iv (1 : Int32), iv (3 : Int32), rv b1, rv b4, rv b7, rv b13, rv b20, iv (1 : Int32), iv (1 : Int32), iv (0 : Int32), rv b13, .val .null, .val .null, rv b345, iv (1 : Int32)] [(.ref b13), (.ref b13), (.ref b1)] _
        refine st360 _ ?_
        refine XS.istore X360.here hx rfl (hb hby at_356) rfl (l' := #[iv x1, iv x2, iv (1 : Int32), iv (3 : Int32), rv b1, rv b4, rv b7, rv b13, rv b20, iv (1 : Int32), iv (1 : Int32), iv (0 : Int32), rv b13, .val .null, .val .null, rv b345, iv (1 : Int32)]) rfl ?_
        refine XS.iload X360.here hx rfl (hb hby at_358) rfl ?_
        refine XS.ifNo X360.here hx rfl (hb hby at_360) rfl ((if0 _ _).trans (feq (by decide : ¬ ((1 : Int32) = (0 : Int32)))).1) ?_
        refine XS.aload X360.here hx rfl (hb hby at_363) rfl rfl ?_
        refine XS.aload X360.here hx rfl (hb hby at_365) rfl rfl ?_
        refine XS.iload X360.here hx rfl (hb hby at_367) rfl ?_
        refine XS.iconst X360.here hx rfl (hb hby at_369) ?_
        show oS p e below T360 m 370 #[iv x1, iv x2, iv (1 : Int32), iv (3 : Int32), rv b1, rv b4, rv b7, rv b13, rv b20, iv (1 : Int32), iv (1 : Int32), iv (0 : Int32), rv b13, .val .null, .val .null, rv b345, iv (1 : Int32)] [(.int (0 : Int32)), (.int (1 : Int32)), (.ref b345), (.ref b1)] _
        refine st369 _ ?_
        refine XS.ifNo X369.here hx rfl (hb hby at_373) rfl ((if0 _ _).trans (feq (by decide : ¬ ((1 : Int32) = (0 : Int32)))).1) ?_
        refine XS.iconst X369.here hx rfl (hb hby at_376) ?_
        refine XS.goto X369.here hx rfl (pc0 := 377) (pc' := 381) rfl (hb hby at_377) (by decide) (by decide) ?_
        refine XS.istore X369.here hx rfl (hb hby at_381) rfl (l' := #[iv x1, iv x2, iv (1 : Int32), iv (3 : Int32), rv b1, rv b4, rv b7, rv b13, rv b20, iv (1 : Int32), iv (1 : Int32), iv (0 : Int32), rv b13, .val .null, .val .null, rv b345, iv (1 : Int32)]) rfl ?_
        refine XS.iload X369.here hx rfl (hb hby at_383) rfl ?_
        refine XS.ifNo X369.here hx rfl (hb hby at_385) rfl ((if0 _ _).trans (feq (by decide : ¬ ((1 : Int32) = (0 : Int32)))).1) ?_
        refine XS.aload X369.here hx rfl (hb hby at_388) rfl rfl ?_
        show oS p e below T369 m 390 #[iv x1, iv x2, iv (1 : Int32), iv (3 : Int32), rv b1, rv b4, rv b7, rv b13, rv b20, iv (1 : Int32), iv (1 : Int32), iv (0 : Int32), rv b13, .val .null, .val .null, rv b345, iv (1 : Int32)] [(.ref b1)] _
        refine XS.aload X369.here hx rfl (hb hby at_390) rfl rfl ?_
        refine XS.iload X369.here hx rfl (hb hby at_392) rfl ?_
        refine XS.iconst X369.here hx rfl (hb hby at_394) ?_
        show oS p e below T369 m 395 #[iv x1, iv x2, iv (1 : Int32), iv (3 : Int32), rv b1, rv b4, rv b7, rv b13, rv b20, iv (1 : Int32), iv (1 : Int32), iv (0 : Int32), rv b13, .val .null, .val .null, rv b345, iv (1 : Int32)] [(.int (1 : Int32)), (.int (1 : Int32)), (.ref b345), (.ref b1)] _
        refine st370 _ ?_
        refine XS.ifNo X370.here hx rfl (hb hby at_398) rfl ((if0 _ _).trans (feq (by decide : ¬ ((1 : Int32) = (0 : Int32)))).1) ?_
        refine XS.iconst X370.here hx rfl (hb hby at_401) ?_
        refine XS.goto X370.here hx rfl (pc0 := 402) (pc' := 406) rfl (hb hby at_402) (by decide) (by decide) ?_
        refine XS.istore X370.here hx rfl (hb hby at_406) rfl (l' := #[iv x1, iv x2, iv (1 : Int32), iv (3 : Int32), rv b1, rv b4, rv b7, rv b13, rv b20, iv (1 : Int32), iv (1 : Int32), iv (0 : Int32), rv b13, .val .null, .val .null, rv b345, iv (1 : Int32)]) rfl ?_
        refine XS.iload X370.here hx rfl (hb hby at_408) rfl ?_
        refine XS.ifNo X370.here hx rfl (hb hby at_410) rfl ((if0 _ _).trans (feq (by decide : ¬ ((1 : Int32) = (0 : Int32)))).1) ?_
        refine XS.iload X370.here hx rfl (hb hby at_413) rfl ?_
        show oS p e below T370 m 415 #[iv x1, iv x2, iv (1 : Int32), iv (3 : Int32), rv b1, rv b4, rv b7, rv b13, rv b20, iv (1 : Int32), iv (1 : Int32), iv (0 : Int32), rv b13, .val .null, .val .null, rv b345, iv (1 : Int32)] [(.int (0 : Int32))] _
        refine XS.iconst X370.here hx rfl (hb hby at_415) ?_
        refine XS.iadd X370.here hx rfl (hb hby at_416) rfl ?_
        show oS p e below T370 m 417 #[iv x1, iv x2, iv (1 : Int32), iv (3 : Int32), rv b1, rv b4, rv b7, rv b13, rv b20, iv (1 : Int32), iv (1 : Int32), iv (0 : Int32), rv b13, .val .null, .val .null, rv b345, iv (1 : Int32)] [(.int (1 : Int32))] _
        refine XS.iconst X370.here hx rfl (hb hby at_417) ?_
        refine XS.icmpYes X370.here hx rfl (pc0 := 418) (pc' := 434) rfl (hb hby at_418) rfl (tlt (by decide : ((1 : Int32) < (2 : Int32)))).1 (by decide) (by decide) ?_
        refine XS.iconst X370.here hx rfl (hb hby at_434) ?_
        refine XS.goto X370.here hx rfl (pc0 := 435) (pc' := 439) rfl (hb hby at_435) (by decide) (by decide) ?_
        refine XS.istore X370.here hx rfl (hb hby at_439) rfl (l' := #[iv x1, iv x2, iv (1 : Int32), iv (3 : Int32), rv b1, rv b4, rv b7, rv b13, rv b20, iv (1 : Int32), iv (1 : Int32), iv (0 : Int32), rv b13, .val .null, .val .null, rv b345, iv (1 : Int32)]) rfl ?_
        refine XS.iload X370.here hx rfl (hb hby at_441) rfl ?_
        refine XS.ifNo X370.here hx rfl (hb hby at_443) rfl ((if0 _ _).trans (feq (by decide : ¬ ((1 : Int32) = (0 : Int32)))).1) ?_
        refine XS.iload X370.here hx rfl (hb hby at_446) rfl ?_
        show oS p e below T370 m 448 #[iv x1, iv x2, iv (1 : Int32), iv (3 : Int32), rv b1, rv b4, rv b7, rv b13, rv b20, iv (1 : Int32), iv (1 : Int32), iv (0 : Int32), rv b13, .val .null, .val .null, rv b345, iv (1 : Int32)] [(.int (0 : Int32))] _
        refine XS.iconst X370.here hx rfl (hb hby at_448) ?_
        refine XS.iadd X370.here hx rfl (hb hby at_449) rfl ?_
        show oS p e below T370 m 450 #[iv x1, iv x2, iv (1 : Int32), iv (3 : Int32), rv b1, rv b4, rv b7, rv b13, rv b20, iv (1 : Int32), iv (1 : Int32), iv (0 : Int32), rv b13, .val .null, .val .null, rv b345, iv (1 : Int32)] [(.int (1 : Int32))] _
        refine XS.iconst X370.here hx rfl (hb hby at_450) ?_
        refine XS.icmpYes X370.here hx rfl (pc0 := 451) (pc' := 467) rfl (hb hby at_451) rfl (tlt (by decide : ((1 : Int32) < (3 : Int32)))).1 (by decide) (by decide) ?_
        refine XS.iconst X370.here hx rfl (hb hby at_467) ?_
        refine XS.goto X370.here hx rfl (pc0 := 468) (pc' := 472) rfl (hb hby at_468) (by decide) (by decide) ?_
        refine XS.istore X370.here hx rfl (hb hby at_472) rfl (l' := #[iv x1, iv x2, iv (1 : Int32), iv (3 : Int32), rv b1, rv b4, rv b7, rv b13, rv b20, iv (1 : Int32), iv (1 : Int32), iv (0 : Int32), rv b13, .val .null, .val .null, rv b345, iv (1 : Int32)]) rfl ?_
        refine XS.iload X370.here hx rfl (hb hby at_474) rfl ?_
        exact kt
      obtain ⟨fs, hr, hrun, hended, hW, hsame⟩ := X370.leave (v := some (.int (1 : Int32))) (fun h => by rw [Bd.returns] at h; cases h)
      refine ⟨_, _, pre0 _ (pre32 _ (pre202 _ (pre374 _ ?_))), hrun, hended, _, _, rfl, ?_, ⟨_, rfl⟩, hW, hsame.mono (by decide) (by decide)⟩
      · show oS p e below T370 m 476 #[iv x1, iv x2, iv (1 : Int32), iv (3 : Int32), rv b1, rv b4, rv b7, rv b13, rv b20, iv (1 : Int32), iv (1 : Int32), iv (0 : Int32), rv b13, .val .null, .val .null, rv b345, iv (1 : Int32)] [(.int (1 : Int32))] _
        exact retN X370 hx (t := .boolean) Bd.returns (by simp) (hb hby at_476) hr
      · show Q0 Z x1 x2 h0 n0 _ T370.heap _
        rw [eh370]
        exact ⟨rfl, N370⟩
  · subst hn
    have Ec376 : Exa Z h31 b1 oz1 := (((Ec22.ext E20).wr W28).wr W31)
    have Ec377 : Exa Z h31 b4 oz0 := ((Ec26.wr W28).wr W31)
    have Fc378 : Fld Z h31 b1 oz1 "first" oz2 .null := (((((((((F_first_b1.ext E4).keep K5 (ninS ne_b1_b4 nin0)).ext E7).keep K11 (ninS ne_b1_b7 nin0)).ext E13).keep K18 (ninS ne_b1_b13 nin0)).ext E20).other W28 (Or.inl ne_b1_b20)).other W31 (Or.inl ne_b1_b20))
    have Fc379 : Fld Z h31 b1 oz1 "last" oz2 .null := (((((((((F_last_b1.ext E4).keep K5 (ninS ne_b1_b4 nin0)).ext E7).keep K11 (ninS ne_b1_b7 nin0)).ext E13).keep K18 (ninS ne_b1_b13 nin0)).ext E20).other W28 (Or.inl ne_b1_b20)).other W31 (Or.inl ne_b1_b20))
    have Fc380 : Fld Z h31 b4 oz0 "in" oz6 .null := (((((((pf5_0.ext E7).keep K11 (ninS ne_b4_b7 nin0)).ext E13).keep K18 (ninS ne_b4_b13 nin0)).ext E20).other W28 (Or.inl ne_b4_b20)).other W31 (Or.inl ne_b4_b20))
    have Fc381 : Fld Z h31 b4 oz0 "before" oz2 .null := (((((((pf5_1.ext E7).keep K11 (ninS ne_b4_b7 nin0)).ext E13).keep K18 (ninS ne_b4_b13 nin0)).ext E20).other W28 (Or.inl ne_b4_b20)).other W31 (Or.inl ne_b4_b20))
    have Fc382 : Fld Z h31 b4 oz0 "after" oz2 .null := (((((((pf5_2.ext E7).keep K11 (ninS ne_b4_b7 nin0)).ext E13).keep K18 (ninS ne_b4_b13 nin0)).ext E20).other W28 (Or.inl ne_b4_b20)).other W31 (Or.inl ne_b4_b20))
    have Zc383 : n0 ≤ h31.size := (Nat.le_trans (Nat.le_trans (Nat.le_trans Zc21 E20.1) (Keep.of_wr W28).1) (Keep.of_wr W31).1)
    obtain ⟨cq375, kq375, q375a, q375b, q375c⟩ := isOf hZ e31 Ec376
    obtain ⟨_, _, ⟨T375, Lw375, kw375, nw375⟩, -, X375, ⟨Lc375, hQ375, l375, y375, z375⟩, st375⟩ := X31.virtualBack hx (y := (⟨oz1, "add", oz8⟩ : MethodName)) (z := (⟨oz1, "add", oz8⟩ : MethodName)) hown (mvT hZ (own_w hw 62 rfl)) (mvT hZ (own_w hw 63 rfl)) (notFace_of_selects (args := #[]) (mvT hZ (own_w hw 65 rfl))) (mvT hZ (own_w hw 65 rfl)) (mvT hZ (own_w hw 64 rfl)) (by decide) (backOf (W := 0) (rmA0 l Z a0 hw [] b1 b4 .null h31 n0 Zc383 Ec376 Ec377 g_b1 g_b4 Fc378 Fc379 Fc380 Fc381 Fc382) hZ (own_w hw 66 rfl) (own_w hw 3 rfl) (by decide) (by decide)) q375a q375c (g := (mkF m 87 #[iv x1, iv x2, iv (2 : Int32), iv y13, rv b1, rv b4, rv b7, rv b13, rv b20, .unset, .unset, .unset, .unset, .unset, .unset, .unset, .unset] [(.ref b4), (.ref b1)])) rfl (by rw [hml]; rfl) (Steps.refl _) (argsL := [(.ref b4)]) (rest := []) (lenOf own_pd0 rfl) rfl (by show 2 * 0 + _ ≤ _; exact Nat.le_of_eq rfl) (hb hby at_87) (fun _ _ => ⟨rfl, e31, (by decide : 5 + 0 ≤ _), (by decide : 34 + 0 ≤ _)⟩)
    dsimp only [Pt.U, Pt.locs, Pt.cells, Pt.slots] at X375 l375 y375 z375 st375 hQ375
    subst l375 y375 z375
    obtain ⟨rfl, Nq375, K375, pf375_0, pf375_1, pf375_2, pf375_3, pf375_4⟩ := hQ375
    have N375 := Fr.app N31 Nq375
    have Ec385 : Exa Z T375.heap b1 oz1 := (Ec376.keep K375)
    have Ec386 : Exa Z T375.heap b7 oz0 := ((Ec29.wr W31).keep K375)
    have Ec387 : Exa Z T375.heap b4 oz0 := (Ec377.keep K375)
    have Fc388 : Fld Z T375.heap b7 oz0 "in" oz6 .null := ((((((pf11_0.ext E13).keep K18 (ninS ne_b7_b13 nin0)).ext E20).other W28 (Or.inl ne_b7_b20)).other W31 (Or.inl ne_b7_b20)).keep K375 (ninS (Ne.symm ne_b1_b7) (ninS (Ne.symm ne_b4_b7) nin0)))
    have Fc389 : Fld Z T375.heap b7 oz0 "before" oz2 .null := ((((((pf11_1.ext E13).keep K18 (ninS ne_b7_b13 nin0)).ext E20).other W28 (Or.inl ne_b7_b20)).other W31 (Or.inl ne_b7_b20)).keep K375 (ninS (Ne.symm ne_b1_b7) (ninS (Ne.symm ne_b4_b7) nin0)))
    have Fc390 : Fld Z T375.heap b7 oz0 "after" oz2 .null := ((((((pf11_2.ext E13).keep K18 (ninS ne_b7_b13 nin0)).ext E20).other W28 (Or.inl ne_b7_b20)).other W31 (Or.inl ne_b7_b20)).keep K375 (ninS (Ne.symm ne_b1_b7) (ninS (Ne.symm ne_b4_b7) nin0)))
    have Zc391 : n0 ≤ T375.heap.size := (Nat.le_trans Zc383 K375.1)
    obtain ⟨cq384, kq384, q384a, q384b, q384c⟩ := isOf hZ rfl Ec385
    obtain ⟨_, _, ⟨T384, Lw384, kw384, nw384⟩, -, X384, ⟨Lc384, hQ384, l384, y384, z384⟩, st384⟩ := X375.virtualBack hx (y := (⟨oz1, "add", oz8⟩ : MethodName)) (z := (⟨oz1, "add", oz8⟩ : MethodName)) hown (mvT hZ (own_w hw 62 rfl)) (mvT hZ (own_w hw 63 rfl)) (notFace_of_selects (args := #[]) (mvT hZ (own_w hw 65 rfl))) (mvT hZ (own_w hw 65 rfl)) (mvT hZ (own_w hw 64 rfl)) (by decide) (backOf (W := 0) (rmA1 l Z a0 hw [] b1 b7 (.ref b4) (.ref b1) .null .null b4 T375.heap n0 Zc391 Ec385 Ec386 Ec387 g_b1 g_b7 g_b4 (Ne.symm ne_b4_b7) pf375_0 pf375_1 Fc388 Fc389 Fc390 pf375_2 pf375_3 pf375_4) hZ (own_w hw 66 rfl) (own_w hw 3 rfl) (by decide) (by decide)) q384a q384c (g := (mkF m 99 #[iv x1, iv x2, iv (2 : Int32), iv y13, rv b1, rv b4, rv b7, rv b13, rv b20, .unset, .unset, .unset, .unset, .unset, .unset, .unset, .unset] [(.ref b7), (.ref b1)])) rfl (by rw [hml]; rfl) (Steps.refl _) (argsL := [(.ref b7)]) (rest := []) (lenOf own_pd0 rfl) rfl (by show 2 * 0 + _ ≤ _; exact Nat.le_of_eq rfl) (hb hby at_99) (fun _ _ => ⟨rfl, rfl, (by decide : 5 + 0 ≤ _), (by decide : 34 + 0 ≤ _)⟩)
    dsimp only [Pt.U, Pt.locs, Pt.cells, Pt.slots] at X384 l384 y384 z384 st384 hQ384
    subst l384 y384 z384
    obtain ⟨rfl, Nq384, K384, pf384_0, pf384_1, pf384_2, pf384_3, pf384_4, pf384_5, pf384_6, pf384_7⟩ := hQ384
    have N384 := Fr.app N375 Nq384
    have Ec393 : Exa Z T384.heap b1 oz1 := (Ec385.keep K384)
    have Ec394 : Exa Z T384.heap b4 oz0 := (Ec387.keep K384)
    have Ec395 : Exa Z T384.heap b7 oz0 := (Ec386.keep K384)
    have Zc396 : n0 ≤ T384.heap.size := (Nat.le_trans Zc391 K384.1)
    obtain ⟨_, _, ⟨T392, Lw392, kw392, nw392⟩, -, X392, ⟨Lc392, hQ392, l392, y392, z392⟩, st392⟩ := Jvm.LawKit.callS X384 hx (y := (⟨oz4, "state", oz5⟩ : MethodName)) hown (mvT hZ (own_w hw 27 rfl)) (mvT hZ (own_w hw 28 rfl)) (mvT hZ (own_w hw 29 rfl)) (mvT hZ (own_w hw 30 rfl)) (by decide) (backOf (W := 0) (rmS2 l Z a0 hw [] b1 b4 b7 T384.heap n0 Zc396 Ec393 Ec394 Ec395 ne_b4_b7 pf384_0 pf384_1 pf384_5 pf384_6 pf384_7 pf384_2 pf384_3 pf384_4) hZ (own_w hw 30 rfl) (own_w hw 29 rfl) (by decide) (by decide)) (g := (mkF m 136 #[iv x1, iv x2, iv (2 : Int32), iv y13, rv b1, rv b4, rv b7, rv b13, rv b20, .unset, .unset, .unset, .unset, .unset, .unset, .unset, .unset] [(.ref b7), (.ref b4), (.ref b1)])) rfl (by rw [hml]; rfl) (argsL := [(.ref b1), (.ref b4), (.ref b7)]) (rest := []) (lenOf own_pd5 rfl) rfl (by show 2 * 0 + _ ≤ _; exact Nat.le_of_eq rfl) (hb hby at_136) (fun _ _ => ⟨rfl, rfl, (by decide : 5 + 0 ≤ _), (by decide : 34 + 0 ≤ _)⟩)
    dsimp only [Pt.U, Pt.locs, Pt.cells, Pt.slots] at X392 l392 y392 z392 st392 hQ392
    subst l392 y392 z392
    obtain ⟨rfl, Nq392, eh392⟩ := hQ392
    have N392 := Fr.app N384 Nq392
    have pre397 : ∀ tz, oS p e below T392 m 146 #[iv x1, iv x2, iv (2 : Int32), iv y13, rv b1, rv b4, rv b7, rv b13, rv b20, iv (1 : Int32), .unset, .unset, .unset, .unset, .unset, .unset, .unset] [] tz → oS p e below T31 m 78 #[iv x1, iv x2, iv (2 : Int32), iv y13, rv b1, rv b4, rv b7, rv b13, rv b20, .unset, .unset, .unset, .unset, .unset, .unset, .unset, .unset] [] tz := fun tz kt => by
      show oS p e below T31 m 78 #[iv x1, iv x2, iv (2 : Int32), iv y13, rv b1, rv b4, rv b7, rv b13, rv b20, .unset, .unset, .unset, .unset, .unset, .unset, .unset, .unset] [] _
      refine XS.iloadN X31.here hx rfl (hb hby at_78) rfl ?_
      refine XS.iconst X31.here hx rfl (hb hby at_79) ?_
      refine XS.icmpNo X31.here hx rfl (hb hby at_80) rfl (flt (by decide : ¬ ((2 : Int32) < (1 : Int32)))).1 ?_
      refine XS.aload X31.here hx rfl (hb hby at_83) rfl rfl ?_
      refine XS.aload X31.here hx rfl (hb hby at_85) rfl rfl ?_
      show oS p e below T31 m 87 #[iv x1, iv x2, iv (2 : Int32), iv y13, rv b1, rv b4, rv b7, rv b13, rv b20, .unset, .unset, .unset, .unset, .unset, .unset, .unset, .unset] [(.ref b4), (.ref b1)] _
      refine st375.trans ?_
      refine XS.iloadN X375.here hx rfl (hb hby at_90) rfl ?_
      refine XS.iconst X375.here hx rfl (hb hby at_91) ?_
      refine XS.icmpNo X375.here hx rfl (hb hby at_92) rfl (flt (by decide : ¬ ((2 : Int32) < (2 : Int32)))).1 ?_
      refine XS.aload X375.here hx rfl (hb hby at_95) rfl rfl ?_
      refine XS.aload X375.here hx rfl (hb hby at_97) rfl rfl ?_
      show oS p e below T375 m 99 #[iv x1, iv x2, iv (2 : Int32), iv y13, rv b1, rv b4, rv b7, rv b13, rv b20, .unset, .unset, .unset, .unset, .unset, .unset, .unset, .unset] [(.ref b7), (.ref b1)] _
      refine st384.trans ?_
      refine XS.aload X384.here hx rfl (hb hby at_102) rfl rfl ?_
      refine XS.iloadN X384.here hx rfl (hb hby at_104) rfl ?_
      refine XS.iconst X384.here hx rfl (hb hby at_105) ?_
      refine XS.icmpNo X384.here hx rfl (hb hby at_106) rfl (flt (by decide : ¬ ((2 : Int32) < (1 : Int32)))).1 ?_
      refine XS.aload X384.here hx rfl (hb hby at_109) rfl rfl ?_
      refine XS.goto X384.here hx rfl (pc0 := 111) (pc' := 115) rfl (hb hby at_111) (by decide) (by decide) ?_
      refine XS.iloadN X384.here hx rfl (hb hby at_115) rfl ?_
      show oS p e below T384 m 116 #[iv x1, iv x2, iv (2 : Int32), iv y13, rv b1, rv b4, rv b7, rv b13, rv b20, .unset, .unset, .unset, .unset, .unset, .unset, .unset, .unset] [(.int (2 : Int32)), (.ref b4), (.ref b1)] _
      refine XS.iconst X384.here hx rfl (hb hby at_116) ?_
      refine XS.icmpNo X384.here hx rfl (hb hby at_117) rfl (teq (by decide : ((2 : Int32) = (2 : Int32)))).2 ?_
      refine XS.aload X384.here hx rfl (hb hby at_120) rfl rfl ?_
      refine XS.goto X384.here hx rfl (pc0 := 122) (pc' := 136) rfl (hb hby at_122) (by decide) (by decide) ?_
      show oS p e below T384 m 136 #[iv x1, iv x2, iv (2 : Int32), iv y13, rv b1, rv b4, rv b7, rv b13, rv b20, .unset, .unset, .unset, .unset, .unset, .unset, .unset, .unset] [(.ref b7), (.ref b4), (.ref b1)] _
      refine st392 _ ?_
      refine XS.istore X392.here hx rfl (hb hby at_139) rfl (l' := #[iv x1, iv x2, iv (2 : Int32), iv y13, rv b1, rv b4, rv b7, rv b13, rv b20, iv (1 : Int32), .unset, .unset, .unset, .unset, .unset, .unset, .unset]) rfl ?_
      refine XS.iload X392.here hx rfl (hb hby at_141) rfl ?_
      refine XS.ifNo X392.here hx rfl (hb hby at_143) rfl ((if0 _ _).trans (feq (by decide : ¬ ((1 : Int32) = (0 : Int32)))).1) ?_
      exact kt
    rcases own_n4 x2 y13 hy13 with hn | hn | hn | hn
    · subst hn
      obtain ⟨_, _, ⟨T398, Lw398, kw398, nw398⟩, -, X398, ⟨Lc398, hQ398, l398, y398, z398⟩, st398⟩ := Jvm.LawKit.callS X392 hx (y := (⟨"java/lang/Math", "min", "(II)I"⟩ : MethodName)) hown (mvT hZ (own_w hw 58 rfl)) (mvT hZ (own_w hw 59 rfl)) (mvT hZ (own_w hw 60 rfl)) (mvT hZ (own_w hw 61 rfl)) (by decide) (backOf (W := 0) (rm10 l Z a0 hw [] (0 : Int32) (2 : Int32) T384.heap n0 Zc396 ) hZ (own_w hw 61 rfl) (own_w hw 60 rfl) (by decide) (by decide)) (g := (mkF m 237 #[iv x1, iv x2, iv (2 : Int32), iv (0 : Int32), rv b1, rv b4, rv b7, rv b13, rv b20, iv (1 : Int32), .unset, .unset, .unset, .unset, .unset, .unset, .unset] [(.int (2 : Int32)), (.int (0 : Int32))])) rfl (by rw [hml]; rfl) (argsL := [(.int (0 : Int32)), (.int (2 : Int32))]) (rest := []) (lenOf own_pd6 rfl) rfl (by show 2 * 0 + _ ≤ _; exact Nat.le_of_eq rfl) (hb hby at_237) (fun _ _ => ⟨rfl, eh392, (by decide : 5 + 0 ≤ _), (by decide : 34 + 0 ≤ _)⟩)
      dsimp only [Pt.U, Pt.locs, Pt.cells, Pt.slots] at X398 l398 y398 z398 st398 hQ398
      subst l398 y398 z398
      obtain ⟨rfl, Nq398, eh398⟩ := hQ398
      have N398 := Fr.app N392 Nq398
      have Ec400 : Exa Z T384.heap b13 oz0 := (((((Ec25.ext E20).wr W28).wr W31).keep K375).keep K384)
      have Fc401 : Fld Z T384.heap b13 oz0 "in" oz6 .null := (((((pf18_0.ext E20).other W28 (Or.inl ne_b13_b20)).other W31 (Or.inl ne_b13_b20)).keep K375 (ninS (Ne.symm ne_b1_b13) (ninS (Ne.symm ne_b4_b13) nin0))).keep K384 (ninS (Ne.symm ne_b1_b13) (ninS (Ne.symm ne_b7_b13) (ninS (Ne.symm ne_b4_b13) nin0))))
      have Fc402 : Fld Z T384.heap b13 oz0 "before" oz2 .null := (((((pf18_1.ext E20).other W28 (Or.inl ne_b13_b20)).other W31 (Or.inl ne_b13_b20)).keep K375 (ninS (Ne.symm ne_b1_b13) (ninS (Ne.symm ne_b4_b13) nin0))).keep K384 (ninS (Ne.symm ne_b1_b13) (ninS (Ne.symm ne_b7_b13) (ninS (Ne.symm ne_b4_b13) nin0))))
      have Fc403 : Fld Z T384.heap b13 oz0 "after" oz2 .null := (((((pf18_2.ext E20).other W28 (Or.inl ne_b13_b20)).other W31 (Or.inl ne_b13_b20)).keep K375 (ninS (Ne.symm ne_b1_b13) (ninS (Ne.symm ne_b4_b13) nin0))).keep K384 (ninS (Ne.symm ne_b1_b13) (ninS (Ne.symm ne_b7_b13) (ninS (Ne.symm ne_b4_b13) nin0))))
      obtain ⟨cq399, kq399, q399a, q399b, q399c⟩ := isOf hZ eh398 Ec393
      obtain ⟨_, _, ⟨T399, Lw399, kw399, nw399⟩, -, X399, ⟨Lc399, hQ399, l399, y399, z399⟩, st399⟩ := X398.virtualBack hx (y := (⟨oz1, "add", oz8⟩ : MethodName)) (z := (⟨oz1, "add", oz8⟩ : MethodName)) hown (mvT hZ (own_w hw 62 rfl)) (mvT hZ (own_w hw 63 rfl)) (notFace_of_selects (args := #[]) (mvT hZ (own_w hw 65 rfl))) (mvT hZ (own_w hw 65 rfl)) (mvT hZ (own_w hw 64 rfl)) (by decide) (backOf (W := 0) (rmA1 l Z a0 hw [] b1 b13 (.ref b4) (.ref b1) (.ref b4) .null b7 T384.heap n0 Zc396 Ec393 Ec400 Ec395 g_b1 g_b13 g_b7 (Ne.symm ne_b7_b13) pf384_0 pf384_1 Fc401 Fc402 Fc403 pf384_2 pf384_3 pf384_4) hZ (own_w hw 66 rfl) (own_w hw 3 rfl) (by decide) (by decide)) q399a q399c (g := (mkF m 252 #[iv x1, iv x2, iv (2 : Int32), iv (0 : Int32), rv b1, rv b4, rv b7, rv b13, rv b20, iv (1 : Int32), iv (0 : Int32), iv (2 : Int32), .unset, .unset, .unset, .unset, .unset] [(.ref b13), (.ref b1)])) rfl (by rw [hml]; rfl) (Steps.refl _) (argsL := [(.ref b13)]) (rest := []) (lenOf own_pd0 rfl) rfl (by show 2 * 0 + _ ≤ _; exact Nat.le_of_eq rfl) (hb hby at_252) (fun _ _ => ⟨rfl, eh398, (by decide : 5 + 0 ≤ _), (by decide : 34 + 0 ≤ _)⟩)
      dsimp only [Pt.U, Pt.locs, Pt.cells, Pt.slots] at X399 l399 y399 z399 st399 hQ399
      subst l399 y399 z399
      obtain ⟨rfl, Nq399, K399, pf399_0, pf399_1, pf399_2, pf399_3, pf399_4, pf399_5, pf399_6, pf399_7⟩ := hQ399
      have N399 := Fr.app N398 Nq399
      have Vc404 : Arv Z T399.heap b20 kk20 (.object oz0) (2 : Int32) [(.ref b4), (.ref b7)] .null := (((Va31.keep K375 (ninS (Ne.symm ne_b1_b20) (ninS (Ne.symm ne_b4_b20) nin0))).keep K384 (ninS (Ne.symm ne_b1_b20) (ninS (Ne.symm ne_b7_b20) (ninS (Ne.symm ne_b4_b20) nin0)))).keep K399 (ninS (Ne.symm ne_b1_b20) (ninS (Ne.symm ne_b13_b20) (ninS (Ne.symm ne_b7_b20) nin0))))
      obtain ⟨cl405, Ar405, qk405, Sz405, Ng405, Hs405, Gt405⟩ := id Vc404
      have hin405 : ¬ ((0 : Int32) < 0 ∨ cl405.slots.size ≤ ((0 : Int32)).toNatClampNeg) := inb_of Sz405 ⟨by decide, by decide⟩
      have hat405 : cl405.slots[((0 : Int32)).toNatClampNeg]? = some (.ref b4) := Hs405.at hin405 rfl
      obtain ⟨cl406, Ar406, qk406, Sz406, Ng406, Hs406, Gt406⟩ := id Vc404
      have hin406 : ¬ ((1 : Int32) < 0 ∨ cl406.slots.size ≤ ((1 : Int32)).toNatClampNeg) := inb_of Sz406 ⟨by decide, by decide⟩
      have hat406 : cl406.slots[((1 : Int32)).toNatClampNeg]? = some (.ref b7) := Hs406.at hin406 rfl
      have Zc408 : n0 ≤ T399.heap.size := (Nat.le_trans Zc396 K399.1)
      have Ec409 : Exa Z T399.heap b1 oz1 := (Ec393.keep K399)
      have Ec410 : Exa Z T399.heap b4 oz0 := (Ec394.keep K399)
      have Ec411 : Exa Z T399.heap b7 oz0 := (Ec395.keep K399)
      have Ec412 : Exa Z T399.heap b13 oz0 := (Ec400.keep K399)
      obtain ⟨T407, h407, kk407, X407, e407, E407, A407, O407, st407⟩ := newR X399 hx hZ hown (own_w hw 10 rfl) (own_w hw 25 rfl) rfl (g := (mkF m 318 #[iv x1, iv x2, iv (2 : Int32), iv (0 : Int32), rv b1, rv b4, rv b7, rv b13, rv b20, iv (1 : Int32), iv (0 : Int32), iv (2 : Int32), rv b4, rv b7, rv b13, .unset, .unset] [(.int (3 : Int32))])) rfl (hb hby at_318) rfl (by decide) (cap := 3) (by decide) (by decide) (by decide) (by decide)
      obtain ⟨b407, g407⟩ : ∃ z, z = T399.heap.size := ⟨_, rfl⟩
      rw [← g407] at A407 st407
      have g_b407 : n0 ≤ b407 := Nat.le_trans Zc408 (Nat.le_of_eq g407.symm)
      have ne_b1_b407 : b1 ≠ b407 := Nat.ne_of_lt (Nat.lt_of_lt_of_le Ec409.lt (Nat.le_of_eq g407.symm))
      have ne_b4_b407 : b4 ≠ b407 := Nat.ne_of_lt (Nat.lt_of_lt_of_le Ec410.lt (Nat.le_of_eq g407.symm))
      have ne_b7_b407 : b7 ≠ b407 := Nat.ne_of_lt (Nat.lt_of_lt_of_le Ec411.lt (Nat.le_of_eq g407.symm))
      have ne_b13_b407 : b13 ≠ b407 := Nat.ne_of_lt (Nat.lt_of_lt_of_le Ec412.lt (Nat.le_of_eq g407.symm))
      have ne_b20_b407 : b20 ≠ b407 := Nat.ne_of_lt (Nat.lt_of_lt_of_le Vc404.lt (Nat.le_of_eq g407.symm))
      have V_b407 : Arv Z h407 b407 kk407 (.object oz0) (3 : Int32) [.null, .null, .null] .null := (Arv.new A407 (by decide)).pad (pad_rep [] .null 3)
      have Ec413 : Exa Z h407 b4 oz0 := (Ec410.ext E407)
      obtain ⟨cl414, Ar414, qk414, Sz414, Ng414, Hs414, Gt414⟩ := id V_b407
      have hin414 : ¬ ((0 : Int32) < 0 ∨ cl414.slots.size ≤ ((0 : Int32)).toNatClampNeg) := inb_of Sz414 ⟨by decide, by decide⟩
      obtain ⟨T415, h415, X415, e415, W415, st415⟩ := stR X407 hx hZ e407 Ar414 (j := (0 : Int32)) hin414 rfl (Sto.ofV Ar414 qk414 O407 (Ins.self Ec413)) (g := (mkF m 325 #[iv x1, iv x2, iv (2 : Int32), iv (0 : Int32), rv b1, rv b4, rv b7, rv b13, rv b20, iv (1 : Int32), iv (0 : Int32), iv (2 : Int32), rv b4, rv b7, rv b13, .unset, .unset] [(.ref b4), (.int (0 : Int32)), (.ref b407), (.ref b407)])) rfl rfl (hb hby at_325)
      have Va415 : Arv Z h415 b407 kk407 (.object oz0) (3 : Int32) [(.ref b4), .null, .null] .null := Arv.set Ar414 qk414 Sz414 Ng414 Hs414 Gt414 rfl W415 0 rfl (Nat.le_of_ble_eq_true rfl)
      have N415 := Fr.snoc X415 N399 g_b407
      have Ec416 : Exa Z h415 b7 oz0 := ((Ec411.ext E407).wr W415)
      obtain ⟨cl417, Ar417, qk417, Sz417, Ng417, Hs417, Gt417⟩ := id Va415
      have hin417 : ¬ ((1 : Int32) < 0 ∨ cl417.slots.size ≤ ((1 : Int32)).toNatClampNeg) := inb_of Sz417 ⟨by decide, by decide⟩
      obtain ⟨T418, h418, X418, e418, W418, st418⟩ := stR X415 hx hZ e415 Ar417 (j := (1 : Int32)) hin417 rfl (Sto.ofV Ar417 qk417 O407 (Ins.self Ec416)) (g := (mkF m 330 #[iv x1, iv x2, iv (2 : Int32), iv (0 : Int32), rv b1, rv b4, rv b7, rv b13, rv b20, iv (1 : Int32), iv (0 : Int32), iv (2 : Int32), rv b4, rv b7, rv b13, .unset, .unset] [(.ref b7), (.int (1 : Int32)), (.ref b407), (.ref b407)])) rfl rfl (hb hby at_330)
      have Va418 : Arv Z h418 b407 kk407 (.object oz0) (3 : Int32) [(.ref b4), (.ref b7), .null] .null := Arv.set Ar417 qk417 Sz417 Ng417 Hs417 Gt417 rfl W418 1 rfl (Nat.le_of_ble_eq_true rfl)
      have N418 := Fr.snoc X418 N415 g_b407
      have Ec419 : Exa Z h418 b13 oz0 := (((Ec412.ext E407).wr W415).wr W418)
      obtain ⟨cl420, Ar420, qk420, Sz420, Ng420, Hs420, Gt420⟩ := id Va418
      have hin420 : ¬ ((2 : Int32) < 0 ∨ cl420.slots.size ≤ ((2 : Int32)).toNatClampNeg) := inb_of Sz420 ⟨by decide, by decide⟩
      obtain ⟨T421, h421, X421, e421, W421, st421⟩ := stR X418 hx hZ e418 Ar420 (j := (2 : Int32)) hin420 rfl (Sto.ofV Ar420 qk420 O407 (Ins.self Ec419)) (g := (mkF m 335 #[iv x1, iv x2, iv (2 : Int32), iv (0 : Int32), rv b1, rv b4, rv b7, rv b13, rv b20, iv (1 : Int32), iv (0 : Int32), iv (2 : Int32), rv b4, rv b7, rv b13, .unset, .unset] [(.ref b13), (.int (2 : Int32)), (.ref b407), (.ref b407)])) rfl rfl (hb hby at_335)
      have Va421 : Arv Z h421 b407 kk407 (.object oz0) (3 : Int32) [(.ref b4), (.ref b7), (.ref b13)] .null := Arv.set Ar420 qk420 Sz420 Ng420 Hs420 Gt420 rfl W421 2 rfl (Nat.le_of_ble_eq_true rfl)
      have N421 := Fr.snoc X421 N418 g_b407
      obtain ⟨cl422, Ar422, qk422, Sz422, Ng422, Hs422, Gt422⟩ := id Va421
      have hin422 : ¬ ((2 : Int32) < 0 ∨ cl422.slots.size ≤ ((2 : Int32)).toNatClampNeg) := inb_of Sz422 ⟨by decide, by decide⟩
      have hat422 : cl422.slots[((2 : Int32)).toNatClampNeg]? = some (.ref b13) := Hs422.at hin422 rfl
      have Ec424 : Exa Z h421 b1 oz1 := ((((Ec409.ext E407).wr W415).wr W418).wr W421)
      have Ec425 : Exa Z h421 b4 oz0 := (((Ec413.wr W415).wr W418).wr W421)
      have Ec426 : Exa Z h421 b7 oz0 := ((Ec416.wr W418).wr W421)
      have Ec427 : Exa Z h421 b13 oz0 := (Ec419.wr W421)
      have Fc428 : Fld Z h421 b1 oz1 "first" oz2 (.ref b4) := ((((pf399_0.ext E407).other W415 (Or.inl ne_b1_b407)).other W418 (Or.inl ne_b1_b407)).other W421 (Or.inl ne_b1_b407))
      have Fc429 : Fld Z h421 b1 oz1 "last" oz2 (.ref b13) := ((((pf399_1.ext E407).other W415 (Or.inl ne_b1_b407)).other W418 (Or.inl ne_b1_b407)).other W421 (Or.inl ne_b1_b407))
      have Fc430 : Fld Z h421 b4 oz0 "in" oz6 (.ref b1) := (((((pf384_5.keep K399 (ninS (Ne.symm ne_b1_b4) (ninS ne_b4_b13 (ninS ne_b4_b7 nin0)))).ext E407).other W415 (Or.inl ne_b4_b407)).other W418 (Or.inl ne_b4_b407)).other W421 (Or.inl ne_b4_b407))
      have Fc431 : Fld Z h421 b4 oz0 "before" oz2 .null := (((((pf384_6.keep K399 (ninS (Ne.symm ne_b1_b4) (ninS ne_b4_b13 (ninS ne_b4_b7 nin0)))).ext E407).other W415 (Or.inl ne_b4_b407)).other W418 (Or.inl ne_b4_b407)).other W421 (Or.inl ne_b4_b407))
      have Fc432 : Fld Z h421 b4 oz0 "after" oz2 (.ref b7) := (((((pf384_7.keep K399 (ninS (Ne.symm ne_b1_b4) (ninS ne_b4_b13 (ninS ne_b4_b7 nin0)))).ext E407).other W415 (Or.inl ne_b4_b407)).other W418 (Or.inl ne_b4_b407)).other W421 (Or.inl ne_b4_b407))
      have Fc433 : Fld Z h421 b7 oz0 "in" oz6 (.ref b1) := ((((pf399_5.ext E407).other W415 (Or.inl ne_b7_b407)).other W418 (Or.inl ne_b7_b407)).other W421 (Or.inl ne_b7_b407))
      have Fc434 : Fld Z h421 b7 oz0 "before" oz2 (.ref b4) := ((((pf399_6.ext E407).other W415 (Or.inl ne_b7_b407)).other W418 (Or.inl ne_b7_b407)).other W421 (Or.inl ne_b7_b407))
      have Fc435 : Fld Z h421 b7 oz0 "after" oz2 (.ref b13) := ((((pf399_7.ext E407).other W415 (Or.inl ne_b7_b407)).other W418 (Or.inl ne_b7_b407)).other W421 (Or.inl ne_b7_b407))
      have Fc436 : Fld Z h421 b13 oz0 "in" oz6 (.ref b1) := ((((pf399_2.ext E407).other W415 (Or.inl ne_b13_b407)).other W418 (Or.inl ne_b13_b407)).other W421 (Or.inl ne_b13_b407))
      have Fc437 : Fld Z h421 b13 oz0 "before" oz2 (.ref b7) := ((((pf399_3.ext E407).other W415 (Or.inl ne_b13_b407)).other W418 (Or.inl ne_b13_b407)).other W421 (Or.inl ne_b13_b407))
      have Fc438 : Fld Z h421 b13 oz0 "after" oz2 .null := ((((pf399_4.ext E407).other W415 (Or.inl ne_b13_b407)).other W418 (Or.inl ne_b13_b407)).other W421 (Or.inl ne_b13_b407))
      have Zc439 : n0 ≤ h421.size := (Nat.le_trans (Nat.le_trans (Nat.le_trans (Nat.le_trans Zc408 E407.1) (Keep.of_wr W415).1) (Keep.of_wr W418).1) (Keep.of_wr W421).1)
      obtain ⟨_, _, ⟨T423, Lw423, kw423, nw423⟩, -, X423, ⟨Lc423, hQ423, l423, y423, z423⟩, st423⟩ := Jvm.LawKit.callS X421 hx (y := (⟨oz4, "state", oz5⟩ : MethodName)) hown (mvT hZ (own_w hw 27 rfl)) (mvT hZ (own_w hw 28 rfl)) (mvT hZ (own_w hw 29 rfl)) (mvT hZ (own_w hw 30 rfl)) (by decide) (backOf (W := 0) (rmS3 l Z a0 hw [] b1 b4 b13 b7 h421 n0 Zc439 Ec424 Ec425 Ec426 Ec427 ne_b4_b7 ne_b4_b13 ne_b7_b13 Fc428 Fc429 Fc430 Fc431 Fc432 Fc433 Fc434 Fc435 Fc436 Fc437 Fc438) hZ (own_w hw 30 rfl) (own_w hw 29 rfl) (by decide) (by decide)) (g := (mkF m 353 #[iv x1, iv x2, iv (2 : Int32), iv (0 : Int32), rv b1, rv b4, rv b7, rv b13, rv b20, iv (1 : Int32), iv (0 : Int32), iv (2 : Int32), rv b4, rv b7, rv b13, rv b407, iv (3 : Int32)] [(.ref b13), (.ref b4), (.ref b1)])) rfl (by rw [hml]; rfl) (argsL := [(.ref b1), (.ref b4), (.ref b13)]) (rest := []) (lenOf own_pd5 rfl) rfl (by show 2 * 0 + _ ≤ _; exact Nat.le_of_eq rfl) (hb hby at_353) (fun _ _ => ⟨rfl, e421, (by decide : 6 + 0 ≤ _), (by decide : 37 + 0 ≤ _)⟩)
      dsimp only [Pt.U, Pt.locs, Pt.cells, Pt.slots] at X423 l423 y423 z423 st423 hQ423
      subst l423 y423 z423
      obtain ⟨rfl, Nq423, eh423⟩ := hQ423
      have N423 := Fr.app N421 Nq423
      obtain ⟨_, _, ⟨T440, Lw440, kw440, nw440⟩, -, X440, ⟨Lc440, hQ440, l440, y440, z440⟩, st440⟩ := Jvm.LawKit.callS X423 hx (y := (⟨oz4, "step", oz3⟩ : MethodName)) hown (mvT hZ (own_w hw 50 rfl)) (mvT hZ (own_w hw 51 rfl)) (mvT hZ (own_w hw 29 rfl)) (mvT hZ (own_w hw 52 rfl)) (by decide) (backOf (W := 0) (rmT3_3_0 l Z a0 hw [] b1 b407 b4 b7 b13 kk407 h421 n0 Zc439 Ec424 Ec425 Ec426 Ec427 g_b1 g_b4 g_b7 ne_b4_b7 ne_b4_b13 ne_b7_b13 Fc428 Fc429 Fc430 Fc431 Fc432 Fc433 Fc434 Fc435 Fc436 Fc437 Fc438 Va421) hZ (own_w hw 52 rfl) (own_w hw 29 rfl) (by decide) (by decide)) (g := (mkF m 370 #[iv x1, iv x2, iv (2 : Int32), iv (0 : Int32), rv b1, rv b4, rv b7, rv b13, rv b20, iv (1 : Int32), iv (0 : Int32), iv (2 : Int32), rv b4, rv b7, rv b13, rv b407, iv (3 : Int32)] [(.int (0 : Int32)), (.int (3 : Int32)), (.ref b407), (.ref b1)])) rfl (by rw [hml]; rfl) (argsL := [(.ref b1), (.ref b407), (.int (3 : Int32)), (.int (0 : Int32))]) (rest := []) (lenOf own_pd7 rfl) rfl (by show 2 * 0 + _ ≤ _; exact Nat.le_of_eq rfl) (hb hby at_370) (fun _ _ => ⟨rfl, eh423, (by decide : 6 + 0 ≤ _), (by decide : 37 + 0 ≤ _)⟩)
      dsimp only [Pt.U, Pt.locs, Pt.cells, Pt.slots] at X440 l440 y440 z440 st440 hQ440
      subst l440 y440 z440
      obtain ⟨rfl, Nq440, K440, pf440_0, pf440_1, pf440_2, pf440_3, pf440_4, pf440_5, pf440_6, pf440_7⟩ := hQ440
      have N440 := Fr.app N423 Nq440
      have Ec442 : Exa Z T440.heap b1 oz1 := (Ec424.keep K440)
      have Ec443 : Exa Z T440.heap b7 oz0 := (Ec426.keep K440)
      have Ec444 : Exa Z T440.heap b13 oz0 := (Ec427.keep K440)
      have Fc445 : Fld Z T440.heap b13 oz0 "in" oz6 (.ref b1) := (Fc436.keep K440 (ninS (Ne.symm ne_b1_b13) (ninS (Ne.symm ne_b4_b13) (ninS (Ne.symm ne_b7_b13) nin0))))
      have Fc446 : Fld Z T440.heap b13 oz0 "before" oz2 (.ref b7) := (Fc437.keep K440 (ninS (Ne.symm ne_b1_b13) (ninS (Ne.symm ne_b4_b13) (ninS (Ne.symm ne_b7_b13) nin0))))
      have Fc447 : Fld Z T440.heap b13 oz0 "after" oz2 .null := (Fc438.keep K440 (ninS (Ne.symm ne_b1_b13) (ninS (Ne.symm ne_b4_b13) (ninS (Ne.symm ne_b7_b13) nin0))))
      have Vc448 : Arv Z T440.heap b407 kk407 (.object oz0) (3 : Int32) [(.ref b4), (.ref b7), (.ref b13)] .null := (Va421.keep K440 (ninS (Ne.symm ne_b1_b407) (ninS (Ne.symm ne_b4_b407) (ninS (Ne.symm ne_b7_b407) nin0))))
      have Zc449 : n0 ≤ T440.heap.size := (Nat.le_trans Zc439 K440.1)
      obtain ⟨_, _, ⟨T441, Lw441, kw441, nw441⟩, -, X441, ⟨Lc441, hQ441, l441, y441, z441⟩, st441⟩ := Jvm.LawKit.callS X440 hx (y := (⟨oz4, "step", oz3⟩ : MethodName)) hown (mvT hZ (own_w hw 50 rfl)) (mvT hZ (own_w hw 51 rfl)) (mvT hZ (own_w hw 29 rfl)) (mvT hZ (own_w hw 52 rfl)) (by decide) (backOf (W := 0) (rmT3_3_1 l Z a0 hw [] b1 b407 b4 b7 b13 kk407 T440.heap n0 Zc449 Ec442 Ec443 Ec444 g_b1 g_b7 g_b13 ne_b7_b13 pf440_0 pf440_1 pf440_2 pf440_3 pf440_4 Fc445 Fc446 Fc447 Vc448) hZ (own_w hw 52 rfl) (own_w hw 29 rfl) (by decide) (by decide)) (g := (mkF m 395 #[iv x1, iv x2, iv (2 : Int32), iv (0 : Int32), rv b1, rv b4, rv b7, rv b13, rv b20, iv (1 : Int32), iv (0 : Int32), iv (2 : Int32), rv b4, rv b7, rv b13, rv b407, iv (3 : Int32)] [(.int (1 : Int32)), (.int (3 : Int32)), (.ref b407), (.ref b1)])) rfl (by rw [hml]; rfl) (argsL := [(.ref b1), (.ref b407), (.int (3 : Int32)), (.int (1 : Int32))]) (rest := []) (lenOf own_pd7 rfl) rfl (by show 2 * 0 + _ ≤ _; exact Nat.le_of_eq rfl) (hb hby at_395) (fun _ _ => ⟨rfl, rfl, (by decide : 6 + 0 ≤ _), (by decide : 37 + 0 ≤ _)⟩)
      dsimp only [Pt.U, Pt.locs, Pt.cells, Pt.slots] at X441 l441 y441 z441 st441 hQ441
      subst l441 y441 z441
      obtain ⟨rfl, Nq441, K441, pf441_0, pf441_1, pf441_2, pf441_3, pf441_4, pf441_5, pf441_6, pf441_7⟩ := hQ441
      have N441 := Fr.app N440 Nq441
      have Ec451 : Exa Z T441.heap b1 oz1 := (Ec442.keep K441)
      have Ec452 : Exa Z T441.heap b13 oz0 := (Ec444.keep K441)
      have Vc453 : Arv Z T441.heap b407 kk407 (.object oz0) (3 : Int32) [(.ref b4), (.ref b7), (.ref b13)] .null := (Vc448.keep K441 (ninS (Ne.symm ne_b1_b407) (ninS (Ne.symm ne_b7_b407) (ninS (Ne.symm ne_b13_b407) nin0))))
      have Zc454 : n0 ≤ T441.heap.size := (Nat.le_trans Zc449 K441.1)
      obtain ⟨_, _, ⟨T450, Lw450, kw450, nw450⟩, -, X450, ⟨Lc450, hQ450, l450, y450, z450⟩, st450⟩ := Jvm.LawKit.callS X441 hx (y := (⟨oz4, "step", oz3⟩ : MethodName)) hown (mvT hZ (own_w hw 50 rfl)) (mvT hZ (own_w hw 51 rfl)) (mvT hZ (own_w hw 29 rfl)) (mvT hZ (own_w hw 52 rfl)) (by decide) (backOf (W := 0) (rmT3_3_2 l Z a0 hw [] b1 b407 b4 b7 b13 kk407 T441.heap n0 Zc454 Ec451 Ec452 g_b1 g_b13 pf441_0 pf441_1 pf441_2 pf441_3 pf441_4 Vc453) hZ (own_w hw 52 rfl) (own_w hw 29 rfl) (by decide) (by decide)) (g := (mkF m 428 #[iv x1, iv x2, iv (2 : Int32), iv (0 : Int32), rv b1, rv b4, rv b7, rv b13, rv b20, iv (1 : Int32), iv (0 : Int32), iv (2 : Int32), rv b4, rv b7, rv b13, rv b407, iv (3 : Int32)] [(.int (2 : Int32)), (.int (3 : Int32)), (.ref b407), (.ref b1)])) rfl (by rw [hml]; rfl) (argsL := [(.ref b1), (.ref b407), (.int (3 : Int32)), (.int (2 : Int32))]) (rest := []) (lenOf own_pd7 rfl) rfl (by show 2 * 0 + _ ≤ _; exact Nat.le_of_eq rfl) (hb hby at_428) (fun _ _ => ⟨rfl, rfl, (by decide : 6 + 0 ≤ _), (by decide : 37 + 0 ≤ _)⟩)
      dsimp only [Pt.U, Pt.locs, Pt.cells, Pt.slots] at X450 l450 y450 z450 st450 hQ450
      subst l450 y450 z450
      obtain ⟨rfl, Nq450, K450, pf450_0, pf450_1, pf450_2, pf450_3, pf450_4⟩ := hQ450
      have N450 := Fr.app N441 Nq450
      have Ec456 : Exa Z T450.heap b1 oz1 := (Ec451.keep K450)
      have Vc457 : Arv Z T450.heap b407 kk407 (.object oz0) (3 : Int32) [(.ref b4), (.ref b7), (.ref b13)] .null := (Vc453.keep K450 (ninS (Ne.symm ne_b1_b407) (ninS (Ne.symm ne_b13_b407) nin0)))
      have Zc458 : n0 ≤ T450.heap.size := (Nat.le_trans Zc454 K450.1)
      obtain ⟨_, _, ⟨T455, Lw455, kw455, nw455⟩, -, X455, ⟨Lc455, hQ455, l455, y455, z455⟩, st455⟩ := Jvm.LawKit.callS X450 hx (y := (⟨oz4, "step", oz3⟩ : MethodName)) hown (mvT hZ (own_w hw 50 rfl)) (mvT hZ (own_w hw 51 rfl)) (mvT hZ (own_w hw 29 rfl)) (mvT hZ (own_w hw 52 rfl)) (by decide) (backOf (W := 0) (rmT3_3_3 l Z a0 hw [] b1 b407 b4 b7 b13 kk407 T450.heap n0 Zc458 Ec456 pf450_0 pf450_1 Vc457) hZ (own_w hw 52 rfl) (own_w hw 29 rfl) (by decide) (by decide)) (g := (mkF m 461 #[iv x1, iv x2, iv (2 : Int32), iv (0 : Int32), rv b1, rv b4, rv b7, rv b13, rv b20, iv (1 : Int32), iv (0 : Int32), iv (2 : Int32), rv b4, rv b7, rv b13, rv b407, iv (3 : Int32)] [(.int (3 : Int32)), (.int (3 : Int32)), (.ref b407), (.ref b1)])) rfl (by rw [hml]; rfl) (argsL := [(.ref b1), (.ref b407), (.int (3 : Int32)), (.int (3 : Int32))]) (rest := []) (lenOf own_pd7 rfl) rfl (by show 2 * 0 + _ ≤ _; exact Nat.le_of_eq rfl) (hb hby at_461) (fun _ _ => ⟨rfl, rfl, (by decide : 6 + 0 ≤ _), (by decide : 37 + 0 ≤ _)⟩)
      dsimp only [Pt.U, Pt.locs, Pt.cells, Pt.slots] at X455 l455 y455 z455 st455 hQ455
      subst l455 y455 z455
      obtain ⟨rfl, Nq455, eh455⟩ := hQ455
      have N455 := Fr.app N450 Nq455
      have pre459 : ∀ tz, oS p e below T455 m 476 #[iv x1, iv x2, iv (2 : Int32), iv (0 : Int32), rv b1, rv b4, rv b7, rv b13, rv b20, iv (1 : Int32), iv (0 : Int32), iv (2 : Int32), rv b4, rv b7, rv b13, rv b407, iv (3 : Int32)] [(.int (1 : Int32))] tz → oS p e below T392 m 146 #[iv x1, iv x2, iv (2 : Int32), iv (0 : Int32), rv b1, rv b4, rv b7, rv b13, rv b20, iv (1 : Int32), .unset, .unset, .unset, .unset, .unset, .unset, .unset] [] tz := fun tz kt => by
        show oS p e below T392 m 146 #[iv x1, iv x2, iv (2 : Int32), iv (0 : Int32), rv b1, rv b4, rv b7, rv b13, rv b20, iv (1 : Int32), .unset, .unset, .unset, .unset, .unset, .unset, .unset] [] _
        refine XS.iloadN X392.here hx rfl (hb hby at_146) rfl ?_
        refine XS.iconst X392.here hx rfl (hb hby at_147) ?_
        refine XS.icmpYes X392.here hx rfl (pc0 := 148) (pc' := 163) rfl (hb hby at_148) rfl (tlt (by decide : ((0 : Int32) < (1 : Int32)))).1 (by decide) (by decide) ?_
        refine XS.iconst X392.here hx rfl (hb hby at_163) ?_
        refine XS.goto X392.here hx rfl (pc0 := 164) (pc' := 168) rfl (hb hby at_164) (by decide) (by decide) ?_
        refine XS.istore X392.here hx rfl (hb hby at_168) rfl (l' := #[iv x1, iv x2, iv (2 : Int32), iv (0 : Int32), rv b1, rv b4, rv b7, rv b13, rv b20, iv (1 : Int32), .unset, .unset, .unset, .unset, .unset, .unset, .unset]) rfl ?_
        refine XS.iload X392.here hx rfl (hb hby at_170) rfl ?_
        refine XS.ifNo X392.here hx rfl (hb hby at_172) rfl ((if0 _ _).trans (feq (by decide : ¬ ((1 : Int32) = (0 : Int32)))).1) ?_
        show oS p e below T392 m 175 #[iv x1, iv x2, iv (2 : Int32), iv (0 : Int32), rv b1, rv b4, rv b7, rv b13, rv b20, iv (1 : Int32), .unset, .unset, .unset, .unset, .unset, .unset, .unset] [] _
        refine XS.iloadN X392.here hx rfl (hb hby at_175) rfl ?_
        refine XS.iconst X392.here hx rfl (hb hby at_176) ?_
        refine XS.icmpYes X392.here hx rfl (pc0 := 177) (pc' := 192) rfl (hb hby at_177) rfl (tlt (by decide : ((0 : Int32) < (2 : Int32)))).1 (by decide) (by decide) ?_
        refine XS.iconst X392.here hx rfl (hb hby at_192) ?_
        refine XS.goto X392.here hx rfl (pc0 := 193) (pc' := 197) rfl (hb hby at_193) (by decide) (by decide) ?_
        refine XS.istore X392.here hx rfl (hb hby at_197) rfl (l' := #[iv x1, iv x2, iv (2 : Int32), iv (0 : Int32), rv b1, rv b4, rv b7, rv b13, rv b20, iv (1 : Int32), .unset, .unset, .unset, .unset, .unset, .unset, .unset]) rfl ?_
        refine XS.iload X392.here hx rfl (hb hby at_199) rfl ?_
        refine XS.ifNo X392.here hx rfl (hb hby at_201) rfl ((if0 _ _).trans (feq (by decide : ¬ ((1 : Int32) = (0 : Int32)))).1) ?_
        show oS p e below T392 m 204 #[iv x1, iv x2, iv (2 : Int32), iv (0 : Int32), rv b1, rv b4, rv b7, rv b13, rv b20, iv (1 : Int32), .unset, .unset, .unset, .unset, .unset, .unset, .unset] [] _
        refine XS.iloadN X392.here hx rfl (hb hby at_204) rfl ?_
        refine XS.iconst X392.here hx rfl (hb hby at_205) ?_
        refine XS.icmpYes X392.here hx rfl (pc0 := 206) (pc' := 221) rfl (hb hby at_206) rfl (tlt (by decide : ((0 : Int32) < (3 : Int32)))).1 (by decide) (by decide) ?_
        refine XS.iconst X392.here hx rfl (hb hby at_221) ?_
        refine XS.goto X392.here hx rfl (pc0 := 222) (pc' := 226) rfl (hb hby at_222) (by decide) (by decide) ?_
        refine XS.istore X392.here hx rfl (hb hby at_226) rfl (l' := #[iv x1, iv x2, iv (2 : Int32), iv (0 : Int32), rv b1, rv b4, rv b7, rv b13, rv b20, iv (1 : Int32), .unset, .unset, .unset, .unset, .unset, .unset, .unset]) rfl ?_
        refine XS.iload X392.here hx rfl (hb hby at_228) rfl ?_
        refine XS.ifYes X392.here hx rfl (pc0 := 230) (pc' := 235) rfl (hb hby at_230) rfl ((if0 _ _).trans (feq (by decide : ¬ ((1 : Int32) = (0 : Int32)))).2) (by decide) (by decide) ?_
        show oS p e below T392 m 235 #[iv x1, iv x2, iv (2 : Int32), iv (0 : Int32), rv b1, rv b4, rv b7, rv b13, rv b20, iv (1 : Int32), .unset, .unset, .unset, .unset, .unset, .unset, .unset] [] _
        refine XS.iloadN X392.here hx rfl (hb hby at_235) rfl ?_
        refine XS.iloadN X392.here hx rfl (hb hby at_236) rfl ?_
        show oS p e below T392 m 237 #[iv x1, iv x2, iv (2 : Int32), iv (0 : Int32), rv b1, rv b4, rv b7, rv b13, rv b20, iv (1 : Int32), .unset, .unset, .unset, .unset, .unset, .unset, .unset] [(.int (2 : Int32)), (.int (0 : Int32))] _
        refine st398 _ ?_
        rw [((if_neg (by decide : ¬ ((2 : Int32) < (0 : Int32)))) : (if (2 : Int32) < (0 : Int32) then (2 : Int32) else (0 : Int32)) = (0 : Int32))]
        show oS p e below T398 m 240 #[iv x1, iv x2, iv (2 : Int32), iv (0 : Int32), rv b1, rv b4, rv b7, rv b13, rv b20, iv (1 : Int32), .unset, .unset, .unset, .unset, .unset, .unset, .unset] [(.int (0 : Int32))] _
        refine XS.istore X398.here hx rfl (hb hby at_240) rfl (l' := #[iv x1, iv x2, iv (2 : Int32), iv (0 : Int32), rv b1, rv b4, rv b7, rv b13, rv b20, iv (1 : Int32), iv (0 : Int32), .unset, .unset, .unset, .unset, .unset, .unset]) rfl ?_
        refine XS.iloadN X398.here hx rfl (hb hby at_242) rfl ?_
        refine XS.iload X398.here hx rfl (hb hby at_243) rfl ?_
        refine XS.isub X398.here hx rfl (hb hby at_245) rfl ?_
        show oS p e below T398 m 246 #[iv x1, iv x2, iv (2 : Int32), iv (0 : Int32), rv b1, rv b4, rv b7, rv b13, rv b20, iv (1 : Int32), iv (0 : Int32), .unset, .unset, .unset, .unset, .unset, .unset] [(.int (2 : Int32))] _
        refine XS.istore X398.here hx rfl (hb hby at_246) rfl (l' := #[iv x1, iv x2, iv (2 : Int32), iv (0 : Int32), rv b1, rv b4, rv b7, rv b13, rv b20, iv (1 : Int32), iv (0 : Int32), iv (2 : Int32), .unset, .unset, .unset, .unset, .unset]) rfl ?_
        refine XS.aload X398.here hx rfl (hb hby at_248) rfl rfl ?_
        refine XS.aload X398.here hx rfl (hb hby at_250) rfl rfl ?_
        show oS p e below T398 m 252 #[iv x1, iv x2, iv (2 : Int32), iv (0 : Int32), rv b1, rv b4, rv b7, rv b13, rv b20, iv (1 : Int32), iv (0 : Int32), iv (2 : Int32), .unset, .unset, .unset, .unset, .unset] [(.ref b13), (.ref b1)] _
        refine st399.trans ?_
        refine XS.iload X399.here hx rfl (hb hby at_255) rfl ?_
        refine XS.iconst X399.here hx rfl (hb hby at_257) ?_
        refine XS.icmpNo X399.here hx rfl (hb hby at_258) rfl (flt (by decide : ¬ ((2 : Int32) < (1 : Int32)))).1 ?_
        refine XS.aload X399.here hx rfl (hb hby at_261) rfl rfl ?_
        refine XS.iload X399.here hx rfl (hb hby at_263) rfl ?_
        refine X399.aaload hx (j := (0 : Int32)) (v := (.ref b4)) Ar405.1 (State.isArrayOf_alike hZ.alike Ar405.2.1) rfl Ar405.2.2 hin405 hat405 (g := (mkF m 265 #[iv x1, iv x2, iv (2 : Int32), iv (0 : Int32), rv b1, rv b4, rv b7, rv b13, rv b20, iv (1 : Int32), iv (0 : Int32), iv (2 : Int32), .unset, .unset, .unset, .unset, .unset] [(.int (0 : Int32)), (.ref b20)])) rfl rfl (hb hby at_265) _ ?_
        refine XS.goto X399.here hx rfl (pc0 := 266) (pc' := 271) rfl (hb hby at_266) (by decide) (by decide) ?_
        show oS p e below T399 m 271 #[iv x1, iv x2, iv (2 : Int32), iv (0 : Int32), rv b1, rv b4, rv b7, rv b13, rv b20, iv (1 : Int32), iv (0 : Int32), iv (2 : Int32), .unset, .unset, .unset, .unset, .unset] [(.ref b4)] _
        refine XS.astore X399.here hx rfl (hb hby at_271) rfl rfl (l' := #[iv x1, iv x2, iv (2 : Int32), iv (0 : Int32), rv b1, rv b4, rv b7, rv b13, rv b20, iv (1 : Int32), iv (0 : Int32), iv (2 : Int32), rv b4, .unset, .unset, .unset, .unset]) rfl ?_
        refine XS.iload X399.here hx rfl (hb hby at_273) rfl ?_
        refine XS.iconst X399.here hx rfl (hb hby at_275) ?_
        refine XS.icmpNo X399.here hx rfl (hb hby at_276) rfl (flt (by decide : ¬ ((2 : Int32) < (2 : Int32)))).1 ?_
        refine XS.aload X399.here hx rfl (hb hby at_279) rfl rfl ?_
        refine XS.iload X399.here hx rfl (hb hby at_281) rfl ?_
        refine XS.iconst X399.here hx rfl (hb hby at_283) ?_
        refine XS.iadd X399.here hx rfl (hb hby at_284) rfl ?_
        show oS p e below T399 m 285 #[iv x1, iv x2, iv (2 : Int32), iv (0 : Int32), rv b1, rv b4, rv b7, rv b13, rv b20, iv (1 : Int32), iv (0 : Int32), iv (2 : Int32), rv b4, .unset, .unset, .unset, .unset] [(.int (1 : Int32)), (.ref b20)] _
        refine X399.aaload hx (j := (1 : Int32)) (v := (.ref b7)) Ar406.1 (State.isArrayOf_alike hZ.alike Ar406.2.1) rfl Ar406.2.2 hin406 hat406 (g := (mkF m 285 #[iv x1, iv x2, iv (2 : Int32), iv (0 : Int32), rv b1, rv b4, rv b7, rv b13, rv b20, iv (1 : Int32), iv (0 : Int32), iv (2 : Int32), rv b4, .unset, .unset, .unset, .unset] [(.int (1 : Int32)), (.ref b20)])) rfl rfl (hb hby at_285) _ ?_
        refine XS.goto X399.here hx rfl (pc0 := 286) (pc' := 301) rfl (hb hby at_286) (by decide) (by decide) ?_
        refine XS.astore X399.here hx rfl (hb hby at_301) rfl rfl (l' := #[iv x1, iv x2, iv (2 : Int32), iv (0 : Int32), rv b1, rv b4, rv b7, rv b13, rv b20, iv (1 : Int32), iv (0 : Int32), iv (2 : Int32), rv b4, rv b7, .unset, .unset, .unset]) rfl ?_
        refine XS.iload X399.here hx rfl (hb hby at_303) rfl ?_
        refine XS.iconst X399.here hx rfl (hb hby at_305) ?_
        refine XS.icmpNo X399.here hx rfl (hb hby at_306) rfl (teq (by decide : ((2 : Int32) = (2 : Int32)))).2 ?_
        refine XS.aload X399.here hx rfl (hb hby at_309) rfl rfl ?_
        refine XS.goto X399.here hx rfl (pc0 := 311) (pc' := 315) rfl (hb hby at_311) (by decide) (by decide) ?_
        show oS p e below T399 m 315 #[iv x1, iv x2, iv (2 : Int32), iv (0 : Int32), rv b1, rv b4, rv b7, rv b13, rv b20, iv (1 : Int32), iv (0 : Int32), iv (2 : Int32), rv b4, rv b7, .unset, .unset, .unset] [(.ref b13)] _
        refine XS.astore X399.here hx rfl (hb hby at_315) rfl rfl (l' := #[iv x1, iv x2, iv (2 : Int32), iv (0 : Int32), rv b1, rv b4, rv b7, rv b13, rv b20, iv (1 : Int32), iv (0 : Int32), iv (2 : Int32), rv b4, rv b7, rv b13, .unset, .unset]) rfl ?_
        refine XS.iconst X399.here hx rfl (hb hby at_317) ?_
        show oS p e below T399 m 318 #[iv x1, iv x2, iv (2 : Int32), iv (0 : Int32), rv b1, rv b4, rv b7, rv b13, rv b20, iv (1 : Int32), iv (0 : Int32), iv (2 : Int32), rv b4, rv b7, rv b13, .unset, .unset] [(.int (3 : Int32))] _
        refine st407 _ ?_
        refine XS.dup X407.here hx rfl (hb hby at_321) rfl rfl ?_
        refine XS.iconst X407.here hx rfl (hb hby at_322) ?_
        refine XS.aload X407.here hx rfl (hb hby at_323) rfl rfl ?_
        show oS p e below T407 m 325 #[iv x1, iv x2, iv (2 : Int32), iv (0 : Int32), rv b1, rv b4, rv b7, rv b13, rv b20, iv (1 : Int32), iv (0 : Int32), iv (2 : Int32), rv b4, rv b7, rv b13, .unset, .unset] [(.ref b4), (.int (0 : Int32)), (.ref b407), (.ref b407)] _
        refine st415 _ ?_
        refine XS.dup X415.here hx rfl (hb hby at_326) rfl rfl ?_
        refine XS.iconst X415.here hx rfl (hb hby at_327) ?_
        refine XS.aload X415.here hx rfl (hb hby at_328) rfl rfl ?_
        show oS p e below T415 m 330 #[iv x1, iv x2, iv (2 : Int32), iv (0 : Int32), rv b1, rv b4, rv b7, rv b13, rv b20, iv (1 : Int32), iv (0 : Int32), iv (2 : Int32), rv b4, rv b7, rv b13, .unset, .unset] [(.ref b7), (.int (1 : Int32)), (.ref b407), (.ref b407)] _
        refine st418 _ ?_
        refine XS.dup X418.here hx rfl (hb hby at_331) rfl rfl ?_
        refine XS.iconst X418.here hx rfl (hb hby at_332) ?_
        refine XS.aload X418.here hx rfl (hb hby at_333) rfl rfl ?_
        show oS p e below T418 m 335 #[iv x1, iv x2, iv (2 : Int32), iv (0 : Int32), rv b1, rv b4, rv b7, rv b13, rv b20, iv (1 : Int32), iv (0 : Int32), iv (2 : Int32), rv b4, rv b7, rv b13, .unset, .unset] [(.ref b13), (.int (2 : Int32)), (.ref b407), (.ref b407)] _
        refine st421 _ ?_
        refine XS.astore X421.here hx rfl (hb hby at_336) rfl rfl (l' := #[iv x1, iv x2, iv (2 : Int32), iv (0 : Int32), rv b1, rv b4, rv b7, rv b13, rv b20, iv (1 : Int32), iv (0 : Int32), iv (2 : Int32), rv b4, rv b7, rv b13, rv b407, .unset]) rfl ?_
        refine XS.iload X421.here hx rfl (hb hby at_338) rfl ?_
        refine XS.iconst X421.here hx rfl (hb hby at_340) ?_
        refine XS.iadd X421.here hx rfl (hb hby at_341) rfl ?_
        show oS p e below T421 m 342 #[iv x1, iv x2, iv (2 : Int32), iv (0 : Int32), rv b1, rv b4, rv b7, rv b13, rv b20, iv (1 : Int32), iv (0 : Int32), iv (2 : Int32), rv b4, rv b7, rv b13, rv b407, .unset] [(.int (3 : Int32))] _
        refine XS.istore X421.here hx rfl (hb hby at_342) rfl (l' := #[iv x1, iv x2, iv (2 : Int32), iv (0 : Int32), rv b1, rv b4, rv b7, rv b13, rv b20, iv (1 : Int32), iv (0 : Int32), iv (2 : Int32), rv b4, rv b7, rv b13, rv b407, iv (3 : Int32)]) rfl ?_
        refine XS.aload X421.here hx rfl (hb hby at_344) rfl rfl ?_
        refine XS.aload X421.here hx rfl (hb hby at_346) rfl rfl ?_
        refine XS.aload X421.here hx rfl (hb hby at_348) rfl rfl ?_
        refine XS.iload X421.here hx rfl (hb hby at_350) rfl ?_
        refine X421.aaload hx (j := (2 : Int32)) (v := (.ref b13)) (by rw [e421]; exact Ar422.1) (State.isArrayOf_alike hZ.alike Ar422.2.1) rfl Ar422.2.2 hin422 hat422 (g := (mkF m 352 #[iv x1, iv x2, iv (2 : Int32), iv (0 : Int32), rv b1, rv b4, rv b7, rv b13, rv b20, iv (1 : Int32), iv (0 : Int32), iv (2 : Int32), rv b4, rv b7, rv b13, rv b407, iv (3 : Int32)] [(.int (2 : Int32)), (.ref b407), (.ref b4), (.ref b1)])) rfl rfl (hb hby at_352) _ ?_
        show oS p e below T421 m 353 #[iv x1, iv x2, iv (2 : Int32), iv (0 : Int32), rv b1, rv b4, rv b7, rv b13, rv b20, iv (1 : Int32), iv (0 : Int32), iv (2 : Int32), rv b4, rv b7, rv b13, rv b407, iv (3 : Int32)] [(.ref b13), (.ref b4), (.ref b1)] _
        refine st423 _ ?_
        refine XS.istore X423.here hx rfl (hb hby at_356) rfl (l' := #[iv x1, iv x2, iv (2 : Int32), iv (0 : Int32), rv b1, rv b4, rv b7, rv b13, rv b20, iv (1 : Int32), iv (0 : Int32), iv (2 : Int32), rv b4, rv b7, rv b13, rv b407, iv (3 : Int32)]) rfl ?_
        refine XS.iload X423.here hx rfl (hb hby at_358) rfl ?_
        refine XS.ifNo X423.here hx rfl (hb hby at_360) rfl ((if0 _ _).trans (feq (by decide : ¬ ((1 : Int32) = (0 : Int32)))).1) ?_
        refine XS.aload X423.here hx rfl (hb hby at_363) rfl rfl ?_
        refine XS.aload X423.here hx rfl (hb hby at_365) rfl rfl ?_
        refine XS.iload X423.here hx rfl (hb hby at_367) rfl ?_
        refine XS.iconst X423.here hx rfl (hb hby at_369) ?_
        show oS p e below T423 m 370 #[iv x1, iv x2, iv (2 : Int32), iv (0 : Int32), rv b1, rv b4, rv b7, rv b13, rv b20, iv (1 : Int32), iv (0 : Int32), iv (2 : Int32), rv b4, rv b7, rv b13, rv b407, iv (3 : Int32)] [(.int (0 : Int32)), (.int (3 : Int32)), (.ref b407), (.ref b1)] _
        refine st440 _ ?_
        refine XS.ifNo X440.here hx rfl (hb hby at_373) rfl ((if0 _ _).trans (feq (by decide : ¬ ((1 : Int32) = (0 : Int32)))).1) ?_
        refine XS.iconst X440.here hx rfl (hb hby at_376) ?_
        refine XS.goto X440.here hx rfl (pc0 := 377) (pc' := 381) rfl (hb hby at_377) (by decide) (by decide) ?_
        refine XS.istore X440.here hx rfl (hb hby at_381) rfl (l' := #[iv x1, iv x2, iv (2 : Int32), iv (0 : Int32), rv b1, rv b4, rv b7, rv b13, rv b20, iv (1 : Int32), iv (0 : Int32), iv (2 : Int32), rv b4, rv b7, rv b13, rv b407, iv (3 : Int32)]) rfl ?_
        refine XS.iload X440.here hx rfl (hb hby at_383) rfl ?_
        refine XS.ifNo X440.here hx rfl (hb hby at_385) rfl ((if0 _ _).trans (feq (by decide : ¬ ((1 : Int32) = (0 : Int32)))).1) ?_
        refine XS.aload X440.here hx rfl (hb hby at_388) rfl rfl ?_
        show oS p e below T440 m 390 #[iv x1, iv x2, iv (2 : Int32), iv (0 : Int32), rv b1, rv b4, rv b7, rv b13, rv b20, iv (1 : Int32), iv (0 : Int32), iv (2 : Int32), rv b4, rv b7, rv b13, rv b407, iv (3 : Int32)] [(.ref b1)] _
        refine XS.aload X440.here hx rfl (hb hby at_390) rfl rfl ?_
        refine XS.iload X440.here hx rfl (hb hby at_392) rfl ?_
        refine XS.iconst X440.here hx rfl (hb hby at_394) ?_
        show oS p e below T440 m 395 #[iv x1, iv x2, iv (2 : Int32), iv (0 : Int32), rv b1, rv b4, rv b7, rv b13, rv b20, iv (1 : Int32), iv (0 : Int32), iv (2 : Int32), rv b4, rv b7, rv b13, rv b407, iv (3 : Int32)] [(.int (1 : Int32)), (.int (3 : Int32)), (.ref b407), (.ref b1)] _
        refine st441 _ ?_
        refine XS.ifNo X441.here hx rfl (hb hby at_398) rfl ((if0 _ _).trans (feq (by decide : ¬ ((1 : Int32) = (0 : Int32)))).1) ?_
        refine XS.iconst X441.here hx rfl (hb hby at_401) ?_
        refine XS.goto X441.here hx rfl (pc0 := 402) (pc' := 406) rfl (hb hby at_402) (by decide) (by decide) ?_
        refine XS.istore X441.here hx rfl (hb hby at_406) rfl (l' := #[iv x1, iv x2, iv (2 : Int32), iv (0 : Int32), rv b1, rv b4, rv b7, rv b13, rv b20, iv (1 : Int32), iv (0 : Int32), iv (2 : Int32), rv b4, rv b7, rv b13, rv b407, iv (3 : Int32)]) rfl ?_
        refine XS.iload X441.here hx rfl (hb hby at_408) rfl ?_
        refine XS.ifNo X441.here hx rfl (hb hby at_410) rfl ((if0 _ _).trans (feq (by decide : ¬ ((1 : Int32) = (0 : Int32)))).1) ?_
        refine XS.iload X441.here hx rfl (hb hby at_413) rfl ?_
        show oS p e below T441 m 415 #[iv x1, iv x2, iv (2 : Int32), iv (0 : Int32), rv b1, rv b4, rv b7, rv b13, rv b20, iv (1 : Int32), iv (0 : Int32), iv (2 : Int32), rv b4, rv b7, rv b13, rv b407, iv (3 : Int32)] [(.int (2 : Int32))] _
        refine XS.iconst X441.here hx rfl (hb hby at_415) ?_
        refine XS.iadd X441.here hx rfl (hb hby at_416) rfl ?_
        show oS p e below T441 m 417 #[iv x1, iv x2, iv (2 : Int32), iv (0 : Int32), rv b1, rv b4, rv b7, rv b13, rv b20, iv (1 : Int32), iv (0 : Int32), iv (2 : Int32), rv b4, rv b7, rv b13, rv b407, iv (3 : Int32)] [(.int (3 : Int32))] _
        refine XS.iconst X441.here hx rfl (hb hby at_417) ?_
        refine XS.icmpNo X441.here hx rfl (hb hby at_418) rfl (flt (by decide : ¬ ((3 : Int32) < (2 : Int32)))).1 ?_
        refine XS.aload X441.here hx rfl (hb hby at_421) rfl rfl ?_
        refine XS.aload X441.here hx rfl (hb hby at_423) rfl rfl ?_
        refine XS.iload X441.here hx rfl (hb hby at_425) rfl ?_
        refine XS.iconst X441.here hx rfl (hb hby at_427) ?_
        show oS p e below T441 m 428 #[iv x1, iv x2, iv (2 : Int32), iv (0 : Int32), rv b1, rv b4, rv b7, rv b13, rv b20, iv (1 : Int32), iv (0 : Int32), iv (2 : Int32), rv b4, rv b7, rv b13, rv b407, iv (3 : Int32)] [(.int (2 : Int32)), (.int (3 : Int32)), (.ref b407), (.ref b1)] _
        refine st450 _ ?_
        refine XS.ifNo X450.here hx rfl (hb hby at_431) rfl ((if0 _ _).trans (feq (by decide : ¬ ((1 : Int32) = (0 : Int32)))).1) ?_
        refine XS.iconst X450.here hx rfl (hb hby at_434) ?_
        refine XS.goto X450.here hx rfl (pc0 := 435) (pc' := 439) rfl (hb hby at_435) (by decide) (by decide) ?_
        refine XS.istore X450.here hx rfl (hb hby at_439) rfl (l' := #[iv x1, iv x2, iv (2 : Int32), iv (0 : Int32), rv b1, rv b4, rv b7, rv b13, rv b20, iv (1 : Int32), iv (0 : Int32), iv (2 : Int32), rv b4, rv b7, rv b13, rv b407, iv (3 : Int32)]) rfl ?_
        refine XS.iload X450.here hx rfl (hb hby at_441) rfl ?_
        refine XS.ifNo X450.here hx rfl (hb hby at_443) rfl ((if0 _ _).trans (feq (by decide : ¬ ((1 : Int32) = (0 : Int32)))).1) ?_
        refine XS.iload X450.here hx rfl (hb hby at_446) rfl ?_
        show oS p e below T450 m 448 #[iv x1, iv x2, iv (2 : Int32), iv (0 : Int32), rv b1, rv b4, rv b7, rv b13, rv b20, iv (1 : Int32), iv (0 : Int32), iv (2 : Int32), rv b4, rv b7, rv b13, rv b407, iv (3 : Int32)] [(.int (2 : Int32))] _
        refine XS.iconst X450.here hx rfl (hb hby at_448) ?_
        refine XS.iadd X450.here hx rfl (hb hby at_449) rfl ?_
        show oS p e below T450 m 450 #[iv x1, iv x2, iv (2 : Int32), iv (0 : Int32), rv b1, rv b4, rv b7, rv b13, rv b20, iv (1 : Int32), iv (0 : Int32), iv (2 : Int32), rv b4, rv b7, rv b13, rv b407, iv (3 : Int32)] [(.int (3 : Int32))] _
        refine XS.iconst X450.here hx rfl (hb hby at_450) ?_
        refine XS.icmpNo X450.here hx rfl (hb hby at_451) rfl (flt (by decide : ¬ ((3 : Int32) < (3 : Int32)))).1 ?_
        refine XS.aload X450.here hx rfl (hb hby at_454) rfl rfl ?_
        refine XS.aload X450.here hx rfl (hb hby at_456) rfl rfl ?_
        refine XS.iload X450.here hx rfl (hb hby at_458) rfl ?_
        refine XS.iconst X450.here hx rfl (hb hby at_460) ?_
        show oS p e below T450 m 461 #[iv x1, iv x2, iv (2 : Int32), iv (0 : Int32), rv b1, rv b4, rv b7, rv b13, rv b20, iv (1 : Int32), iv (0 : Int32), iv (2 : Int32), rv b4, rv b7, rv b13, rv b407, iv (3 : Int32)] [(.int (3 : Int32)), (.int (3 : Int32)), (.ref b407), (.ref b1)] _
        refine st455 _ ?_
        refine XS.ifNo X455.here hx rfl (hb hby at_464) rfl ((if0 _ _).trans (feq (by decide : ¬ ((1 : Int32) = (0 : Int32)))).1) ?_
        refine XS.iconst X455.here hx rfl (hb hby at_467) ?_
        refine XS.goto X455.here hx rfl (pc0 := 468) (pc' := 472) rfl (hb hby at_468) (by decide) (by decide) ?_
        refine XS.istore X455.here hx rfl (hb hby at_472) rfl (l' := #[iv x1, iv x2, iv (2 : Int32), iv (0 : Int32), rv b1, rv b4, rv b7, rv b13, rv b20, iv (1 : Int32), iv (0 : Int32), iv (2 : Int32), rv b4, rv b7, rv b13, rv b407, iv (3 : Int32)]) rfl ?_
        refine XS.iload X455.here hx rfl (hb hby at_474) rfl ?_
        exact kt
      obtain ⟨fs, hr, hrun, hended, hW, hsame⟩ := X455.leave (v := some (.int (1 : Int32))) (fun h => by rw [Bd.returns] at h; cases h)
      refine ⟨_, _, pre0 _ (pre32 _ (pre397 _ (pre459 _ ?_))), hrun, hended, _, _, rfl, ?_, ⟨_, rfl⟩, hW, hsame.mono (by decide) (by decide)⟩
      · show oS p e below T455 m 476 #[iv x1, iv x2, iv (2 : Int32), iv (0 : Int32), rv b1, rv b4, rv b7, rv b13, rv b20, iv (1 : Int32), iv (0 : Int32), iv (2 : Int32), rv b4, rv b7, rv b13, rv b407, iv (3 : Int32)] [(.int (1 : Int32))] _
        exact retN X455 hx (t := .boolean) Bd.returns (by simp) (hb hby at_476) hr
      · show Q0 Z x1 x2 h0 n0 _ T455.heap _
        rw [eh455]
        exact ⟨rfl, N455⟩
    · subst hn
      have Vc461 : Arv Z T384.heap b20 kk20 (.object oz0) (2 : Int32) [(.ref b4), (.ref b7)] .null := ((Va31.keep K375 (ninS (Ne.symm ne_b1_b20) (ninS (Ne.symm ne_b4_b20) nin0))).keep K384 (ninS (Ne.symm ne_b1_b20) (ninS (Ne.symm ne_b7_b20) (ninS (Ne.symm ne_b4_b20) nin0))))
      obtain ⟨_, _, ⟨T460, Lw460, kw460, nw460⟩, -, X460, ⟨Lc460, hQ460, l460, y460, z460⟩, st460⟩ := Jvm.LawKit.callS X392 hx (y := (⟨oz4, "step", oz3⟩ : MethodName)) hown (mvT hZ (own_w hw 50 rfl)) (mvT hZ (own_w hw 51 rfl)) (mvT hZ (own_w hw 29 rfl)) (mvT hZ (own_w hw 52 rfl)) (by decide) (backOf (W := 0) (rmT2_2_0 l Z a0 hw [] b1 b20 b4 b7 kk20 T384.heap n0 Zc396 Ec393 Ec394 Ec395 g_b1 g_b4 g_b7 ne_b4_b7 pf384_0 pf384_1 pf384_5 pf384_6 pf384_7 pf384_2 pf384_3 pf384_4 Vc461) hZ (own_w hw 52 rfl) (own_w hw 29 rfl) (by decide) (by decide)) (g := (mkF m 157 #[iv x1, iv x2, iv (2 : Int32), iv (1 : Int32), rv b1, rv b4, rv b7, rv b13, rv b20, iv (1 : Int32), .unset, .unset, .unset, .unset, .unset, .unset, .unset] [(.int (0 : Int32)), (.int (2 : Int32)), (.ref b20), (.ref b1)])) rfl (by rw [hml]; rfl) (argsL := [(.ref b1), (.ref b20), (.int (2 : Int32)), (.int (0 : Int32))]) (rest := []) (lenOf own_pd7 rfl) rfl (by show 2 * 0 + _ ≤ _; exact Nat.le_of_eq rfl) (hb hby at_157) (fun _ _ => ⟨rfl, eh392, (by decide : 5 + 0 ≤ _), (by decide : 34 + 0 ≤ _)⟩)
      dsimp only [Pt.U, Pt.locs, Pt.cells, Pt.slots] at X460 l460 y460 z460 st460 hQ460
      subst l460 y460 z460
      obtain ⟨rfl, Nq460, K460, pf460_0, pf460_1, pf460_2, pf460_3, pf460_4, pf460_5, pf460_6, pf460_7⟩ := hQ460
      have N460 := Fr.app N392 Nq460
      have Zc463 : n0 ≤ T460.heap.size := (Nat.le_trans Zc396 K460.1)
      obtain ⟨_, _, ⟨T462, Lw462, kw462, nw462⟩, -, X462, ⟨Lc462, hQ462, l462, y462, z462⟩, st462⟩ := Jvm.LawKit.callS X460 hx (y := (⟨"java/lang/Math", "min", "(II)I"⟩ : MethodName)) hown (mvT hZ (own_w hw 58 rfl)) (mvT hZ (own_w hw 59 rfl)) (mvT hZ (own_w hw 60 rfl)) (mvT hZ (own_w hw 61 rfl)) (by decide) (backOf (W := 0) (rm10 l Z a0 hw [] (1 : Int32) (2 : Int32) T460.heap n0 Zc463 ) hZ (own_w hw 61 rfl) (own_w hw 60 rfl) (by decide) (by decide)) (g := (mkF m 237 #[iv x1, iv x2, iv (2 : Int32), iv (1 : Int32), rv b1, rv b4, rv b7, rv b13, rv b20, iv (1 : Int32), .unset, .unset, .unset, .unset, .unset, .unset, .unset] [(.int (2 : Int32)), (.int (1 : Int32))])) rfl (by rw [hml]; rfl) (argsL := [(.int (1 : Int32)), (.int (2 : Int32))]) (rest := []) (lenOf own_pd6 rfl) rfl (by show 2 * 0 + _ ≤ _; exact Nat.le_of_eq rfl) (hb hby at_237) (fun _ _ => ⟨rfl, rfl, (by decide : 5 + 0 ≤ _), (by decide : 34 + 0 ≤ _)⟩)
      dsimp only [Pt.U, Pt.locs, Pt.cells, Pt.slots] at X462 l462 y462 z462 st462 hQ462
      subst l462 y462 z462
      obtain ⟨rfl, Nq462, eh462⟩ := hQ462
      have N462 := Fr.app N460 Nq462
      have Ec465 : Exa Z T460.heap b1 oz1 := (Ec393.keep K460)
      have Ec466 : Exa Z T460.heap b13 oz0 := ((((((Ec25.ext E20).wr W28).wr W31).keep K375).keep K384).keep K460)
      have Ec467 : Exa Z T460.heap b7 oz0 := (Ec395.keep K460)
      have Fc468 : Fld Z T460.heap b13 oz0 "in" oz6 .null := ((((((pf18_0.ext E20).other W28 (Or.inl ne_b13_b20)).other W31 (Or.inl ne_b13_b20)).keep K375 (ninS (Ne.symm ne_b1_b13) (ninS (Ne.symm ne_b4_b13) nin0))).keep K384 (ninS (Ne.symm ne_b1_b13) (ninS (Ne.symm ne_b7_b13) (ninS (Ne.symm ne_b4_b13) nin0)))).keep K460 (ninS (Ne.symm ne_b1_b13) (ninS (Ne.symm ne_b4_b13) (ninS (Ne.symm ne_b7_b13) nin0))))
      have Fc469 : Fld Z T460.heap b13 oz0 "before" oz2 .null := ((((((pf18_1.ext E20).other W28 (Or.inl ne_b13_b20)).other W31 (Or.inl ne_b13_b20)).keep K375 (ninS (Ne.symm ne_b1_b13) (ninS (Ne.symm ne_b4_b13) nin0))).keep K384 (ninS (Ne.symm ne_b1_b13) (ninS (Ne.symm ne_b7_b13) (ninS (Ne.symm ne_b4_b13) nin0)))).keep K460 (ninS (Ne.symm ne_b1_b13) (ninS (Ne.symm ne_b4_b13) (ninS (Ne.symm ne_b7_b13) nin0))))
      have Fc470 : Fld Z T460.heap b13 oz0 "after" oz2 .null := ((((((pf18_2.ext E20).other W28 (Or.inl ne_b13_b20)).other W31 (Or.inl ne_b13_b20)).keep K375 (ninS (Ne.symm ne_b1_b13) (ninS (Ne.symm ne_b4_b13) nin0))).keep K384 (ninS (Ne.symm ne_b1_b13) (ninS (Ne.symm ne_b7_b13) (ninS (Ne.symm ne_b4_b13) nin0)))).keep K460 (ninS (Ne.symm ne_b1_b13) (ninS (Ne.symm ne_b4_b13) (ninS (Ne.symm ne_b7_b13) nin0))))
      obtain ⟨cq464, kq464, q464a, q464b, q464c⟩ := isOf hZ eh462 Ec465
      obtain ⟨_, _, ⟨T464, Lw464, kw464, nw464⟩, -, X464, ⟨Lc464, hQ464, l464, y464, z464⟩, st464⟩ := X462.virtualBack hx (y := (⟨oz1, "add", oz8⟩ : MethodName)) (z := (⟨oz1, "add", oz8⟩ : MethodName)) hown (mvT hZ (own_w hw 62 rfl)) (mvT hZ (own_w hw 63 rfl)) (notFace_of_selects (args := #[]) (mvT hZ (own_w hw 65 rfl))) (mvT hZ (own_w hw 65 rfl)) (mvT hZ (own_w hw 64 rfl)) (by decide) (backOf (W := 0) (rmA1 l Z a0 hw [] b1 b13 (.ref b7) (.ref b1) .null .null b7 T460.heap n0 Zc463 Ec465 Ec466 Ec467 g_b1 g_b13 g_b7 (Ne.symm ne_b7_b13) pf460_0 pf460_1 Fc468 Fc469 Fc470 pf460_2 pf460_3 pf460_4) hZ (own_w hw 66 rfl) (own_w hw 3 rfl) (by decide) (by decide)) q464a q464c (g := (mkF m 252 #[iv x1, iv x2, iv (2 : Int32), iv (1 : Int32), rv b1, rv b4, rv b7, rv b13, rv b20, iv (1 : Int32), iv (1 : Int32), iv (1 : Int32), .unset, .unset, .unset, .unset, .unset] [(.ref b13), (.ref b1)])) rfl (by rw [hml]; rfl) (Steps.refl _) (argsL := [(.ref b13)]) (rest := []) (lenOf own_pd0 rfl) rfl (by show 2 * 0 + _ ≤ _; exact Nat.le_of_eq rfl) (hb hby at_252) (fun _ _ => ⟨rfl, eh462, (by decide : 5 + 0 ≤ _), (by decide : 34 + 0 ≤ _)⟩)
      dsimp only [Pt.U, Pt.locs, Pt.cells, Pt.slots] at X464 l464 y464 z464 st464 hQ464
      subst l464 y464 z464
      obtain ⟨rfl, Nq464, K464, pf464_0, pf464_1, pf464_2, pf464_3, pf464_4, pf464_5, pf464_6, pf464_7⟩ := hQ464
      have N464 := Fr.app N462 Nq464
      have Vc471 : Arv Z T464.heap b20 kk20 (.object oz0) (2 : Int32) [(.ref b4), (.ref b7)] .null := ((Vc461.keep K460 (ninS (Ne.symm ne_b1_b20) (ninS (Ne.symm ne_b4_b20) (ninS (Ne.symm ne_b7_b20) nin0)))).keep K464 (ninS (Ne.symm ne_b1_b20) (ninS (Ne.symm ne_b13_b20) (ninS (Ne.symm ne_b7_b20) nin0))))
      obtain ⟨cl472, Ar472, qk472, Sz472, Ng472, Hs472, Gt472⟩ := id Vc471
      have hin472 : ¬ ((1 : Int32) < 0 ∨ cl472.slots.size ≤ ((1 : Int32)).toNatClampNeg) := inb_of Sz472 ⟨by decide, by decide⟩
      have hat472 : cl472.slots[((1 : Int32)).toNatClampNeg]? = some (.ref b7) := Hs472.at hin472 rfl
      have Zc474 : n0 ≤ T464.heap.size := (Nat.le_trans Zc463 K464.1)
      have Ec475 : Exa Z T464.heap b1 oz1 := (Ec465.keep K464)
      have Ec476 : Exa Z T464.heap b4 oz0 := ((Ec394.keep K460).keep K464)
      have Ec477 : Exa Z T464.heap b7 oz0 := (Ec467.keep K464)
      have Ec478 : Exa Z T464.heap b13 oz0 := (Ec466.keep K464)
      obtain ⟨T473, h473, kk473, X473, e473, E473, A473, O473, st473⟩ := newR X464 hx hZ hown (own_w hw 10 rfl) (own_w hw 25 rfl) rfl (g := (mkF m 318 #[iv x1, iv x2, iv (2 : Int32), iv (1 : Int32), rv b1, rv b4, rv b7, rv b13, rv b20, iv (1 : Int32), iv (1 : Int32), iv (1 : Int32), rv b7, rv b13, .val .null, .unset, .unset] [(.int (3 : Int32))])) rfl (hb hby at_318) rfl (by decide) (cap := 3) (by decide) (by decide) (by decide) (by decide)
      obtain ⟨b473, g473⟩ : ∃ z, z = T464.heap.size := ⟨_, rfl⟩
      rw [← g473] at A473 st473
      have g_b473 : n0 ≤ b473 := Nat.le_trans Zc474 (Nat.le_of_eq g473.symm)
      have ne_b1_b473 : b1 ≠ b473 := Nat.ne_of_lt (Nat.lt_of_lt_of_le Ec475.lt (Nat.le_of_eq g473.symm))
      have ne_b4_b473 : b4 ≠ b473 := Nat.ne_of_lt (Nat.lt_of_lt_of_le Ec476.lt (Nat.le_of_eq g473.symm))
      have ne_b7_b473 : b7 ≠ b473 := Nat.ne_of_lt (Nat.lt_of_lt_of_le Ec477.lt (Nat.le_of_eq g473.symm))
      have ne_b13_b473 : b13 ≠ b473 := Nat.ne_of_lt (Nat.lt_of_lt_of_le Ec478.lt (Nat.le_of_eq g473.symm))
      have ne_b20_b473 : b20 ≠ b473 := Nat.ne_of_lt (Nat.lt_of_lt_of_le Vc471.lt (Nat.le_of_eq g473.symm))
      have V_b473 : Arv Z h473 b473 kk473 (.object oz0) (3 : Int32) [.null, .null, .null] .null := (Arv.new A473 (by decide)).pad (pad_rep [] .null 3)
      have Ec479 : Exa Z h473 b7 oz0 := (Ec477.ext E473)
      obtain ⟨cl480, Ar480, qk480, Sz480, Ng480, Hs480, Gt480⟩ := id V_b473
      have hin480 : ¬ ((0 : Int32) < 0 ∨ cl480.slots.size ≤ ((0 : Int32)).toNatClampNeg) := inb_of Sz480 ⟨by decide, by decide⟩
      obtain ⟨T481, h481, X481, e481, W481, st481⟩ := stR X473 hx hZ e473 Ar480 (j := (0 : Int32)) hin480 rfl (Sto.ofV Ar480 qk480 O473 (Ins.self Ec479)) (g := (mkF m 325 #[iv x1, iv x2, iv (2 : Int32), iv (1 : Int32), rv b1, rv b4, rv b7, rv b13, rv b20, iv (1 : Int32), iv (1 : Int32), iv (1 : Int32), rv b7, rv b13, .val .null, .unset, .unset] [(.ref b7), (.int (0 : Int32)), (.ref b473), (.ref b473)])) rfl rfl (hb hby at_325)
      have Va481 : Arv Z h481 b473 kk473 (.object oz0) (3 : Int32) [(.ref b7), .null, .null] .null := Arv.set Ar480 qk480 Sz480 Ng480 Hs480 Gt480 rfl W481 0 rfl (Nat.le_of_ble_eq_true rfl)
      have N481 := Fr.snoc X481 N464 g_b473
      have Ec482 : Exa Z h481 b13 oz0 := ((Ec478.ext E473).wr W481)
      obtain ⟨cl483, Ar483, qk483, Sz483, Ng483, Hs483, Gt483⟩ := id Va481
      have hin483 : ¬ ((1 : Int32) < 0 ∨ cl483.slots.size ≤ ((1 : Int32)).toNatClampNeg) := inb_of Sz483 ⟨by decide, by decide⟩
      obtain ⟨T484, h484, X484, e484, W484, st484⟩ := stR X481 hx hZ e481 Ar483 (j := (1 : Int32)) hin483 rfl (Sto.ofV Ar483 qk483 O473 (Ins.self Ec482)) (g := (mkF m 330 #[iv x1, iv x2, iv (2 : Int32), iv (1 : Int32), rv b1, rv b4, rv b7, rv b13, rv b20, iv (1 : Int32), iv (1 : Int32), iv (1 : Int32), rv b7, rv b13, .val .null, .unset, .unset] [(.ref b13), (.int (1 : Int32)), (.ref b473), (.ref b473)])) rfl rfl (hb hby at_330)
      have Va484 : Arv Z h484 b473 kk473 (.object oz0) (3 : Int32) [(.ref b7), (.ref b13), .null] .null := Arv.set Ar483 qk483 Sz483 Ng483 Hs483 Gt483 rfl W484 1 rfl (Nat.le_of_ble_eq_true rfl)
      have N484 := Fr.snoc X484 N481 g_b473
      obtain ⟨cl485, Ar485, qk485, Sz485, Ng485, Hs485, Gt485⟩ := id Va484
      have hin485 : ¬ ((2 : Int32) < 0 ∨ cl485.slots.size ≤ ((2 : Int32)).toNatClampNeg) := inb_of Sz485 ⟨by decide, by decide⟩
      obtain ⟨T486, h486, X486, e486, W486, st486⟩ := stR X484 hx hZ e484 Ar485 (j := (2 : Int32)) hin485 rfl (Or.inl rfl) (g := (mkF m 335 #[iv x1, iv x2, iv (2 : Int32), iv (1 : Int32), rv b1, rv b4, rv b7, rv b13, rv b20, iv (1 : Int32), iv (1 : Int32), iv (1 : Int32), rv b7, rv b13, .val .null, .unset, .unset] [.null, (.int (2 : Int32)), (.ref b473), (.ref b473)])) rfl rfl (hb hby at_335)
      have Va486 : Arv Z h486 b473 kk473 (.object oz0) (3 : Int32) [(.ref b7), (.ref b13), .null] .null := Arv.set Ar485 qk485 Sz485 Ng485 Hs485 Gt485 rfl W486 2 rfl (Nat.le_of_ble_eq_true rfl)
      have N486 := Fr.snoc X486 N484 g_b473
      obtain ⟨cl487, Ar487, qk487, Sz487, Ng487, Hs487, Gt487⟩ := id Va486
      have hin487 : ¬ ((1 : Int32) < 0 ∨ cl487.slots.size ≤ ((1 : Int32)).toNatClampNeg) := inb_of Sz487 ⟨by decide, by decide⟩
      have hat487 : cl487.slots[((1 : Int32)).toNatClampNeg]? = some (.ref b13) := Hs487.at hin487 rfl
      have Ec489 : Exa Z h486 b1 oz1 := ((((Ec475.ext E473).wr W481).wr W484).wr W486)
      have Ec490 : Exa Z h486 b7 oz0 := (((Ec479.wr W481).wr W484).wr W486)
      have Ec491 : Exa Z h486 b13 oz0 := ((Ec482.wr W484).wr W486)
      have Fc492 : Fld Z h486 b1 oz1 "first" oz2 (.ref b7) := ((((pf464_0.ext E473).other W481 (Or.inl ne_b1_b473)).other W484 (Or.inl ne_b1_b473)).other W486 (Or.inl ne_b1_b473))
      have Fc493 : Fld Z h486 b1 oz1 "last" oz2 (.ref b13) := ((((pf464_1.ext E473).other W481 (Or.inl ne_b1_b473)).other W484 (Or.inl ne_b1_b473)).other W486 (Or.inl ne_b1_b473))
      have Fc494 : Fld Z h486 b7 oz0 "in" oz6 (.ref b1) := ((((pf464_5.ext E473).other W481 (Or.inl ne_b7_b473)).other W484 (Or.inl ne_b7_b473)).other W486 (Or.inl ne_b7_b473))
      have Fc495 : Fld Z h486 b7 oz0 "before" oz2 .null := ((((pf464_6.ext E473).other W481 (Or.inl ne_b7_b473)).other W484 (Or.inl ne_b7_b473)).other W486 (Or.inl ne_b7_b473))
      have Fc496 : Fld Z h486 b7 oz0 "after" oz2 (.ref b13) := ((((pf464_7.ext E473).other W481 (Or.inl ne_b7_b473)).other W484 (Or.inl ne_b7_b473)).other W486 (Or.inl ne_b7_b473))
      have Fc497 : Fld Z h486 b13 oz0 "in" oz6 (.ref b1) := ((((pf464_2.ext E473).other W481 (Or.inl ne_b13_b473)).other W484 (Or.inl ne_b13_b473)).other W486 (Or.inl ne_b13_b473))
      have Fc498 : Fld Z h486 b13 oz0 "before" oz2 (.ref b7) := ((((pf464_3.ext E473).other W481 (Or.inl ne_b13_b473)).other W484 (Or.inl ne_b13_b473)).other W486 (Or.inl ne_b13_b473))
      have Fc499 : Fld Z h486 b13 oz0 "after" oz2 .null := ((((pf464_4.ext E473).other W481 (Or.inl ne_b13_b473)).other W484 (Or.inl ne_b13_b473)).other W486 (Or.inl ne_b13_b473))
      have Zc500 : n0 ≤ h486.size := (Nat.le_trans (Nat.le_trans (Nat.le_trans (Nat.le_trans Zc474 E473.1) (Keep.of_wr W481).1) (Keep.of_wr W484).1) (Keep.of_wr W486).1)
      obtain ⟨_, _, ⟨T488, Lw488, kw488, nw488⟩, -, X488, ⟨Lc488, hQ488, l488, y488, z488⟩, st488⟩ := Jvm.LawKit.callS X486 hx (y := (⟨oz4, "state", oz5⟩ : MethodName)) hown (mvT hZ (own_w hw 27 rfl)) (mvT hZ (own_w hw 28 rfl)) (mvT hZ (own_w hw 29 rfl)) (mvT hZ (own_w hw 30 rfl)) (by decide) (backOf (W := 0) (rmS2 l Z a0 hw [] b1 b7 b13 h486 n0 Zc500 Ec489 Ec490 Ec491 ne_b7_b13 Fc492 Fc493 Fc494 Fc495 Fc496 Fc497 Fc498 Fc499) hZ (own_w hw 30 rfl) (own_w hw 29 rfl) (by decide) (by decide)) (g := (mkF m 353 #[iv x1, iv x2, iv (2 : Int32), iv (1 : Int32), rv b1, rv b4, rv b7, rv b13, rv b20, iv (1 : Int32), iv (1 : Int32), iv (1 : Int32), rv b7, rv b13, .val .null, rv b473, iv (2 : Int32)] [(.ref b13), (.ref b7), (.ref b1)])) rfl (by rw [hml]; rfl) (argsL := [(.ref b1), (.ref b7), (.ref b13)]) (rest := []) (lenOf own_pd5 rfl) rfl (by show 2 * 0 + _ ≤ _; exact Nat.le_of_eq rfl) (hb hby at_353) (fun _ _ => ⟨rfl, e486, (by decide : 6 + 0 ≤ _), (by decide : 37 + 0 ≤ _)⟩)
      dsimp only [Pt.U, Pt.locs, Pt.cells, Pt.slots] at X488 l488 y488 z488 st488 hQ488
      subst l488 y488 z488
      obtain ⟨rfl, Nq488, eh488⟩ := hQ488
      have N488 := Fr.app N486 Nq488
      obtain ⟨_, _, ⟨T501, Lw501, kw501, nw501⟩, -, X501, ⟨Lc501, hQ501, l501, y501, z501⟩, st501⟩ := Jvm.LawKit.callS X488 hx (y := (⟨oz4, "step", oz3⟩ : MethodName)) hown (mvT hZ (own_w hw 50 rfl)) (mvT hZ (own_w hw 51 rfl)) (mvT hZ (own_w hw 29 rfl)) (mvT hZ (own_w hw 52 rfl)) (by decide) (backOf (W := 0) (rmT3_2_0 l Z a0 hw [] b1 b473 b7 b13 kk473 h486 n0 Zc500 Ec489 Ec490 Ec491 g_b1 g_b7 g_b13 ne_b7_b13 Fc492 Fc493 Fc494 Fc495 Fc496 Fc497 Fc498 Fc499 Va486) hZ (own_w hw 52 rfl) (own_w hw 29 rfl) (by decide) (by decide)) (g := (mkF m 370 #[iv x1, iv x2, iv (2 : Int32), iv (1 : Int32), rv b1, rv b4, rv b7, rv b13, rv b20, iv (1 : Int32), iv (1 : Int32), iv (1 : Int32), rv b7, rv b13, .val .null, rv b473, iv (2 : Int32)] [(.int (0 : Int32)), (.int (2 : Int32)), (.ref b473), (.ref b1)])) rfl (by rw [hml]; rfl) (argsL := [(.ref b1), (.ref b473), (.int (2 : Int32)), (.int (0 : Int32))]) (rest := []) (lenOf own_pd7 rfl) rfl (by show 2 * 0 + _ ≤ _; exact Nat.le_of_eq rfl) (hb hby at_370) (fun _ _ => ⟨rfl, eh488, (by decide : 6 + 0 ≤ _), (by decide : 37 + 0 ≤ _)⟩)
      dsimp only [Pt.U, Pt.locs, Pt.cells, Pt.slots] at X501 l501 y501 z501 st501 hQ501
      subst l501 y501 z501
      obtain ⟨rfl, Nq501, K501, pf501_0, pf501_1, pf501_2, pf501_3, pf501_4, pf501_5, pf501_6, pf501_7⟩ := hQ501
      have N501 := Fr.app N488 Nq501
      have Ec503 : Exa Z T501.heap b1 oz1 := (Ec489.keep K501)
      have Ec504 : Exa Z T501.heap b13 oz0 := (Ec491.keep K501)
      have Vc505 : Arv Z T501.heap b473 kk473 (.object oz0) (3 : Int32) [(.ref b7), (.ref b13), .null] .null := (Va486.keep K501 (ninS (Ne.symm ne_b1_b473) (ninS (Ne.symm ne_b7_b473) (ninS (Ne.symm ne_b13_b473) nin0))))
      have Zc506 : n0 ≤ T501.heap.size := (Nat.le_trans Zc500 K501.1)
      obtain ⟨_, _, ⟨T502, Lw502, kw502, nw502⟩, -, X502, ⟨Lc502, hQ502, l502, y502, z502⟩, st502⟩ := Jvm.LawKit.callS X501 hx (y := (⟨oz4, "step", oz3⟩ : MethodName)) hown (mvT hZ (own_w hw 50 rfl)) (mvT hZ (own_w hw 51 rfl)) (mvT hZ (own_w hw 29 rfl)) (mvT hZ (own_w hw 52 rfl)) (by decide) (backOf (W := 0) (rmT3_2_1 l Z a0 hw [] b1 b473 b7 b13 kk473 T501.heap n0 Zc506 Ec503 Ec504 g_b1 g_b13 pf501_0 pf501_1 pf501_2 pf501_3 pf501_4 Vc505) hZ (own_w hw 52 rfl) (own_w hw 29 rfl) (by decide) (by decide)) (g := (mkF m 395 #[iv x1, iv x2, iv (2 : Int32), iv (1 : Int32), rv b1, rv b4, rv b7, rv b13, rv b20, iv (1 : Int32), iv (1 : Int32), iv (1 : Int32), rv b7, rv b13, .val .null, rv b473, iv (2 : Int32)] [(.int (1 : Int32)), (.int (2 : Int32)), (.ref b473), (.ref b1)])) rfl (by rw [hml]; rfl) (argsL := [(.ref b1), (.ref b473), (.int (2 : Int32)), (.int (1 : Int32))]) (rest := []) (lenOf own_pd7 rfl) rfl (by show 2 * 0 + _ ≤ _; exact Nat.le_of_eq rfl) (hb hby at_395) (fun _ _ => ⟨rfl, rfl, (by decide : 6 + 0 ≤ _), (by decide : 37 + 0 ≤ _)⟩)
      dsimp only [Pt.U, Pt.locs, Pt.cells, Pt.slots] at X502 l502 y502 z502 st502 hQ502
      subst l502 y502 z502
      obtain ⟨rfl, Nq502, K502, pf502_0, pf502_1, pf502_2, pf502_3, pf502_4⟩ := hQ502
      have N502 := Fr.app N501 Nq502
      have Ec508 : Exa Z T502.heap b1 oz1 := (Ec503.keep K502)
      have Vc509 : Arv Z T502.heap b473 kk473 (.object oz0) (3 : Int32) [(.ref b7), (.ref b13), .null] .null := (Vc505.keep K502 (ninS (Ne.symm ne_b1_b473) (ninS (Ne.symm ne_b13_b473) nin0)))
      have Zc510 : n0 ≤ T502.heap.size := (Nat.le_trans Zc506 K502.1)
      obtain ⟨_, _, ⟨T507, Lw507, kw507, nw507⟩, -, X507, ⟨Lc507, hQ507, l507, y507, z507⟩, st507⟩ := Jvm.LawKit.callS X502 hx (y := (⟨oz4, "step", oz3⟩ : MethodName)) hown (mvT hZ (own_w hw 50 rfl)) (mvT hZ (own_w hw 51 rfl)) (mvT hZ (own_w hw 29 rfl)) (mvT hZ (own_w hw 52 rfl)) (by decide) (backOf (W := 0) (rmT3_2_2 l Z a0 hw [] b1 b473 b7 b13 kk473 T502.heap n0 Zc510 Ec508 pf502_0 pf502_1 Vc509) hZ (own_w hw 52 rfl) (own_w hw 29 rfl) (by decide) (by decide)) (g := (mkF m 428 #[iv x1, iv x2, iv (2 : Int32), iv (1 : Int32), rv b1, rv b4, rv b7, rv b13, rv b20, iv (1 : Int32), iv (1 : Int32), iv (1 : Int32), rv b7, rv b13, .val .null, rv b473, iv (2 : Int32)] [(.int (2 : Int32)), (.int (2 : Int32)), (.ref b473), (.ref b1)])) rfl (by rw [hml]; rfl) (argsL := [(.ref b1), (.ref b473), (.int (2 : Int32)), (.int (2 : Int32))]) (rest := []) (lenOf own_pd7 rfl) rfl (by show 2 * 0 + _ ≤ _; exact Nat.le_of_eq rfl) (hb hby at_428) (fun _ _ => ⟨rfl, rfl, (by decide : 6 + 0 ≤ _), (by decide : 37 + 0 ≤ _)⟩)
      dsimp only [Pt.U, Pt.locs, Pt.cells, Pt.slots] at X507 l507 y507 z507 st507 hQ507
      subst l507 y507 z507
      obtain ⟨rfl, Nq507, eh507⟩ := hQ507
      have N507 := Fr.app N502 Nq507
      have pre511 : ∀ tz, oS p e below T507 m 476 #[iv x1, iv x2, iv (2 : Int32), iv (1 : Int32), rv b1, rv b4, rv b7, rv b13, rv b20, iv (1 : Int32), iv (1 : Int32), iv (1 : Int32), rv b7, rv b13, .val .null, rv b473, iv (2 : Int32)] [(.int (1 : Int32))] tz → oS p e below T392 m 146 #[iv x1, iv x2, iv (2 : Int32), iv (1 : Int32), rv b1, rv b4, rv b7, rv b13, rv b20, iv (1 : Int32), .unset, .unset, .unset, .unset, .unset, .unset, .unset] [] tz := fun tz kt => by
        show oS p e below T392 m 146 #[iv x1, iv x2, iv (2 : Int32), iv (1 : Int32), rv b1, rv b4, rv b7, rv b13, rv b20, iv (1 : Int32), .unset, .unset, .unset, .unset, .unset, .unset, .unset] [] _
        refine XS.iloadN X392.here hx rfl (hb hby at_146) rfl ?_
        refine XS.iconst X392.here hx rfl (hb hby at_147) ?_
        refine XS.icmpNo X392.here hx rfl (hb hby at_148) rfl (flt (by decide : ¬ ((1 : Int32) < (1 : Int32)))).1 ?_
        refine XS.aload X392.here hx rfl (hb hby at_151) rfl rfl ?_
        refine XS.aload X392.here hx rfl (hb hby at_153) rfl rfl ?_
        refine XS.iloadN X392.here hx rfl (hb hby at_155) rfl ?_
        refine XS.iconst X392.here hx rfl (hb hby at_156) ?_
        show oS p e below T392 m 157 #[iv x1, iv x2, iv (2 : Int32), iv (1 : Int32), rv b1, rv b4, rv b7, rv b13, rv b20, iv (1 : Int32), .unset, .unset, .unset, .unset, .unset, .unset, .unset] [(.int (0 : Int32)), (.int (2 : Int32)), (.ref b20), (.ref b1)] _
        refine st460 _ ?_
        refine XS.ifNo X460.here hx rfl (hb hby at_160) rfl ((if0 _ _).trans (feq (by decide : ¬ ((1 : Int32) = (0 : Int32)))).1) ?_
        refine XS.iconst X460.here hx rfl (hb hby at_163) ?_
        refine XS.goto X460.here hx rfl (pc0 := 164) (pc' := 168) rfl (hb hby at_164) (by decide) (by decide) ?_
        refine XS.istore X460.here hx rfl (hb hby at_168) rfl (l' := #[iv x1, iv x2, iv (2 : Int32), iv (1 : Int32), rv b1, rv b4, rv b7, rv b13, rv b20, iv (1 : Int32), .unset, .unset, .unset, .unset, .unset, .unset, .unset]) rfl ?_
        refine XS.iload X460.here hx rfl (hb hby at_170) rfl ?_
        refine XS.ifNo X460.here hx rfl (hb hby at_172) rfl ((if0 _ _).trans (feq (by decide : ¬ ((1 : Int32) = (0 : Int32)))).1) ?_
        refine XS.iloadN X460.here hx rfl (hb hby at_175) rfl ?_
        show oS p e below T460 m 176 #[iv x1, iv x2, iv (2 : Int32), iv (1 : Int32), rv b1, rv b4, rv b7, rv b13, rv b20, iv (1 : Int32), .unset, .unset, .unset, .unset, .unset, .unset, .unset] [(.int (1 : Int32))] _
        refine XS.iconst X460.here hx rfl (hb hby at_176) ?_
        refine XS.icmpYes X460.here hx rfl (pc0 := 177) (pc' := 192) rfl (hb hby at_177) rfl (tlt (by decide : ((1 : Int32) < (2 : Int32)))).1 (by decide) (by decide) ?_
        refine XS.iconst X460.here hx rfl (hb hby at_192) ?_
        refine XS.goto X460.here hx rfl (pc0 := 193) (pc' := 197) rfl (hb hby at_193) (by decide) (by decide) ?_
        refine XS.istore X460.here hx rfl (hb hby at_197) rfl (l' := #[iv x1, iv x2, iv (2 : Int32), iv (1 : Int32), rv b1, rv b4, rv b7, rv b13, rv b20, iv (1 : Int32), .unset, .unset, .unset, .unset, .unset, .unset, .unset]) rfl ?_
        refine XS.iload X460.here hx rfl (hb hby at_199) rfl ?_
        refine XS.ifNo X460.here hx rfl (hb hby at_201) rfl ((if0 _ _).trans (feq (by decide : ¬ ((1 : Int32) = (0 : Int32)))).1) ?_
        refine XS.iloadN X460.here hx rfl (hb hby at_204) rfl ?_
        show oS p e below T460 m 205 #[iv x1, iv x2, iv (2 : Int32), iv (1 : Int32), rv b1, rv b4, rv b7, rv b13, rv b20, iv (1 : Int32), .unset, .unset, .unset, .unset, .unset, .unset, .unset] [(.int (1 : Int32))] _
        refine XS.iconst X460.here hx rfl (hb hby at_205) ?_
        refine XS.icmpYes X460.here hx rfl (pc0 := 206) (pc' := 221) rfl (hb hby at_206) rfl (tlt (by decide : ((1 : Int32) < (3 : Int32)))).1 (by decide) (by decide) ?_
        refine XS.iconst X460.here hx rfl (hb hby at_221) ?_
        refine XS.goto X460.here hx rfl (pc0 := 222) (pc' := 226) rfl (hb hby at_222) (by decide) (by decide) ?_
        refine XS.istore X460.here hx rfl (hb hby at_226) rfl (l' := #[iv x1, iv x2, iv (2 : Int32), iv (1 : Int32), rv b1, rv b4, rv b7, rv b13, rv b20, iv (1 : Int32), .unset, .unset, .unset, .unset, .unset, .unset, .unset]) rfl ?_
        refine XS.iload X460.here hx rfl (hb hby at_228) rfl ?_
        refine XS.ifYes X460.here hx rfl (pc0 := 230) (pc' := 235) rfl (hb hby at_230) rfl ((if0 _ _).trans (feq (by decide : ¬ ((1 : Int32) = (0 : Int32)))).2) (by decide) (by decide) ?_
        refine XS.iloadN X460.here hx rfl (hb hby at_235) rfl ?_
        show oS p e below T460 m 236 #[iv x1, iv x2, iv (2 : Int32), iv (1 : Int32), rv b1, rv b4, rv b7, rv b13, rv b20, iv (1 : Int32), .unset, .unset, .unset, .unset, .unset, .unset, .unset] [(.int (1 : Int32))] _
        refine XS.iloadN X460.here hx rfl (hb hby at_236) rfl ?_
        show oS p e below T460 m 237 #[iv x1, iv x2, iv (2 : Int32), iv (1 : Int32), rv b1, rv b4, rv b7, rv b13, rv b20, iv (1 : Int32), .unset, .unset, .unset, .unset, .unset, .unset, .unset] [(.int (2 : Int32)), (.int (1 : Int32))] _
        refine st462 _ ?_
        rw [((if_neg (by decide : ¬ ((2 : Int32) < (1 : Int32)))) : (if (2 : Int32) < (1 : Int32) then (2 : Int32) else (1 : Int32)) = (1 : Int32))]
        show oS p e below T462 m 240 #[iv x1, iv x2, iv (2 : Int32), iv (1 : Int32), rv b1, rv b4, rv b7, rv b13, rv b20, iv (1 : Int32), .unset, .unset, .unset, .unset, .unset, .unset, .unset] [(.int (1 : Int32))] _
        refine XS.istore X462.here hx rfl (hb hby at_240) rfl (l' := #[iv x1, iv x2, iv (2 : Int32), iv (1 : Int32), rv b1, rv b4, rv b7, rv b13, rv b20, iv (1 : Int32), iv (1 : Int32), .unset, .unset, .unset, .unset, .unset, .unset]) rfl ?_
        refine XS.iloadN X462.here hx rfl (hb hby at_242) rfl ?_
        refine XS.iload X462.here hx rfl (hb hby at_243) rfl ?_
        refine XS.isub X462.here hx rfl (hb hby at_245) rfl ?_
        show oS p e below T462 m 246 #[iv x1, iv x2, iv (2 : Int32), iv (1 : Int32), rv b1, rv b4, rv b7, rv b13, rv b20, iv (1 : Int32), iv (1 : Int32), .unset, .unset, .unset, .unset, .unset, .unset] [(.int (1 : Int32))] _
        refine XS.istore X462.here hx rfl (hb hby at_246) rfl (l' := #[iv x1, iv x2, iv (2 : Int32), iv (1 : Int32), rv b1, rv b4, rv b7, rv b13, rv b20, iv (1 : Int32), iv (1 : Int32), iv (1 : Int32), .unset, .unset, .unset, .unset, .unset]) rfl ?_
        refine XS.aload X462.here hx rfl (hb hby at_248) rfl rfl ?_
        refine XS.aload X462.here hx rfl (hb hby at_250) rfl rfl ?_
        show oS p e below T462 m 252 #[iv x1, iv x2, iv (2 : Int32), iv (1 : Int32), rv b1, rv b4, rv b7, rv b13, rv b20, iv (1 : Int32), iv (1 : Int32), iv (1 : Int32), .unset, .unset, .unset, .unset, .unset] [(.ref b13), (.ref b1)] _
        refine st464.trans ?_
        refine XS.iload X464.here hx rfl (hb hby at_255) rfl ?_
        refine XS.iconst X464.here hx rfl (hb hby at_257) ?_
        refine XS.icmpNo X464.here hx rfl (hb hby at_258) rfl (flt (by decide : ¬ ((1 : Int32) < (1 : Int32)))).1 ?_
        refine XS.aload X464.here hx rfl (hb hby at_261) rfl rfl ?_
        refine XS.iload X464.here hx rfl (hb hby at_263) rfl ?_
        refine X464.aaload hx (j := (1 : Int32)) (v := (.ref b7)) Ar472.1 (State.isArrayOf_alike hZ.alike Ar472.2.1) rfl Ar472.2.2 hin472 hat472 (g := (mkF m 265 #[iv x1, iv x2, iv (2 : Int32), iv (1 : Int32), rv b1, rv b4, rv b7, rv b13, rv b20, iv (1 : Int32), iv (1 : Int32), iv (1 : Int32), .unset, .unset, .unset, .unset, .unset] [(.int (1 : Int32)), (.ref b20)])) rfl rfl (hb hby at_265) _ ?_
        refine XS.goto X464.here hx rfl (pc0 := 266) (pc' := 271) rfl (hb hby at_266) (by decide) (by decide) ?_
        show oS p e below T464 m 271 #[iv x1, iv x2, iv (2 : Int32), iv (1 : Int32), rv b1, rv b4, rv b7, rv b13, rv b20, iv (1 : Int32), iv (1 : Int32), iv (1 : Int32), .unset, .unset, .unset, .unset, .unset] [(.ref b7)] _
        refine XS.astore X464.here hx rfl (hb hby at_271) rfl rfl (l' := #[iv x1, iv x2, iv (2 : Int32), iv (1 : Int32), rv b1, rv b4, rv b7, rv b13, rv b20, iv (1 : Int32), iv (1 : Int32), iv (1 : Int32), rv b7, .unset, .unset, .unset, .unset]) rfl ?_
        refine XS.iload X464.here hx rfl (hb hby at_273) rfl ?_
        refine XS.iconst X464.here hx rfl (hb hby at_275) ?_
        refine XS.icmpYes X464.here hx rfl (pc0 := 276) (pc' := 289) rfl (hb hby at_276) rfl (tlt (by decide : ((1 : Int32) < (2 : Int32)))).1 (by decide) (by decide) ?_
        refine XS.iload X464.here hx rfl (hb hby at_289) rfl ?_
        refine XS.iconst X464.here hx rfl (hb hby at_291) ?_
        refine XS.icmpNo X464.here hx rfl (hb hby at_292) rfl (teq (by decide : ((1 : Int32) = (1 : Int32)))).2 ?_
        refine XS.aload X464.here hx rfl (hb hby at_295) rfl rfl ?_
        show oS p e below T464 m 297 #[iv x1, iv x2, iv (2 : Int32), iv (1 : Int32), rv b1, rv b4, rv b7, rv b13, rv b20, iv (1 : Int32), iv (1 : Int32), iv (1 : Int32), rv b7, .unset, .unset, .unset, .unset] [(.ref b13)] _
        refine XS.goto X464.here hx rfl (pc0 := 297) (pc' := 301) rfl (hb hby at_297) (by decide) (by decide) ?_
        refine XS.astore X464.here hx rfl (hb hby at_301) rfl rfl (l' := #[iv x1, iv x2, iv (2 : Int32), iv (1 : Int32), rv b1, rv b4, rv b7, rv b13, rv b20, iv (1 : Int32), iv (1 : Int32), iv (1 : Int32), rv b7, rv b13, .unset, .unset, .unset]) rfl ?_
        refine XS.iload X464.here hx rfl (hb hby at_303) rfl ?_
        refine XS.iconst X464.here hx rfl (hb hby at_305) ?_
        refine XS.icmpYes X464.here hx rfl (pc0 := 306) (pc' := 314) rfl (hb hby at_306) rfl (feq (by decide : ¬ ((1 : Int32) = (2 : Int32)))).2 (by decide) (by decide) ?_
        refine XS.aconstNull X464.here hx rfl (hb hby at_314) ?_
        refine XS.astore X464.here hx rfl (hb hby at_315) rfl rfl (l' := #[iv x1, iv x2, iv (2 : Int32), iv (1 : Int32), rv b1, rv b4, rv b7, rv b13, rv b20, iv (1 : Int32), iv (1 : Int32), iv (1 : Int32), rv b7, rv b13, .val .null, .unset, .unset]) rfl ?_
        refine XS.iconst X464.here hx rfl (hb hby at_317) ?_
        show oS p e below T464 m 318 #[iv x1, iv x2, iv (2 : Int32), iv (1 : Int32), rv b1, rv b4, rv b7, rv b13, rv b20, iv (1 : Int32), iv (1 : Int32), iv (1 : Int32), rv b7, rv b13, .val .null, .unset, .unset] [(.int (3 : Int32))] _
        refine st473 _ ?_
        refine XS.dup X473.here hx rfl (hb hby at_321) rfl rfl ?_
        refine XS.iconst X473.here hx rfl (hb hby at_322) ?_
        refine XS.aload X473.here hx rfl (hb hby at_323) rfl rfl ?_
        show oS p e below T473 m 325 #[iv x1, iv x2, iv (2 : Int32), iv (1 : Int32), rv b1, rv b4, rv b7, rv b13, rv b20, iv (1 : Int32), iv (1 : Int32), iv (1 : Int32), rv b7, rv b13, .val .null, .unset, .unset] [(.ref b7), (.int (0 : Int32)), (.ref b473), (.ref b473)] _
        refine st481 _ ?_
        refine XS.dup X481.here hx rfl (hb hby at_326) rfl rfl ?_
        refine XS.iconst X481.here hx rfl (hb hby at_327) ?_
        refine XS.aload X481.here hx rfl (hb hby at_328) rfl rfl ?_
        show oS p e below T481 m 330 #[iv x1, iv x2, iv (2 : Int32), iv (1 : Int32), rv b1, rv b4, rv b7, rv b13, rv b20, iv (1 : Int32), iv (1 : Int32), iv (1 : Int32), rv b7, rv b13, .val .null, .unset, .unset] [(.ref b13), (.int (1 : Int32)), (.ref b473), (.ref b473)] _
        refine st484 _ ?_
        refine XS.dup X484.here hx rfl (hb hby at_331) rfl rfl ?_
        refine XS.iconst X484.here hx rfl (hb hby at_332) ?_
        refine XS.aload X484.here hx rfl (hb hby at_333) rfl rfl ?_
        show oS p e below T484 m 335 #[iv x1, iv x2, iv (2 : Int32), iv (1 : Int32), rv b1, rv b4, rv b7, rv b13, rv b20, iv (1 : Int32), iv (1 : Int32), iv (1 : Int32), rv b7, rv b13, .val .null, .unset, .unset] [.null, (.int (2 : Int32)), (.ref b473), (.ref b473)] _
        refine st486 _ ?_
        refine XS.astore X486.here hx rfl (hb hby at_336) rfl rfl (l' := #[iv x1, iv x2, iv (2 : Int32), iv (1 : Int32), rv b1, rv b4, rv b7, rv b13, rv b20, iv (1 : Int32), iv (1 : Int32), iv (1 : Int32), rv b7, rv b13, .val .null, rv b473, .unset]) rfl ?_
        refine XS.iload X486.here hx rfl (hb hby at_338) rfl ?_
        refine XS.iconst X486.here hx rfl (hb hby at_340) ?_
        refine XS.iadd X486.here hx rfl (hb hby at_341) rfl ?_
        show oS p e below T486 m 342 #[iv x1, iv x2, iv (2 : Int32), iv (1 : Int32), rv b1, rv b4, rv b7, rv b13, rv b20, iv (1 : Int32), iv (1 : Int32), iv (1 : Int32), rv b7, rv b13, .val .null, rv b473, .unset] [(.int (2 : Int32))] _
        refine XS.istore X486.here hx rfl (hb hby at_342) rfl (l' := #[iv x1, iv x2, iv (2 : Int32), iv (1 : Int32), rv b1, rv b4, rv b7, rv b13, rv b20, iv (1 : Int32), iv (1 : Int32), iv (1 : Int32), rv b7, rv b13, .val .null, rv b473, iv (2 : Int32)]) rfl ?_
        refine XS.aload X486.here hx rfl (hb hby at_344) rfl rfl ?_
        refine XS.aload X486.here hx rfl (hb hby at_346) rfl rfl ?_
        refine XS.aload X486.here hx rfl (hb hby at_348) rfl rfl ?_
        refine XS.iload X486.here hx rfl (hb hby at_350) rfl ?_
        refine X486.aaload hx (j := (1 : Int32)) (v := (.ref b13)) (by rw [e486]; exact Ar487.1) (State.isArrayOf_alike hZ.alike Ar487.2.1) rfl Ar487.2.2 hin487 hat487 (g := (mkF m 352 #[iv x1, iv x2, iv (2 : Int32), iv (1 : Int32), rv b1, rv b4, rv b7, rv b13, rv b20, iv (1 : Int32), iv (1 : Int32), iv (1 : Int32), rv b7, rv b13, .val .null, rv b473, iv (2 : Int32)] [(.int (1 : Int32)), (.ref b473), (.ref b7), (.ref b1)])) rfl rfl (hb hby at_352) _ ?_
        show oS p e below T486 m 353 #[iv x1, iv x2, iv (2 : Int32), iv (1 : Int32), rv b1, rv b4, rv b7, rv b13, rv b20, iv (1 : Int32), iv (1 : Int32), iv (1 : Int32), rv b7, rv b13, .val .null, rv b473, iv (2 : Int32)] [(.ref b13), (.ref b7), (.ref b1)] _
        refine st488 _ ?_
        refine XS.istore X488.here hx rfl (hb hby at_356) rfl (l' := #[iv x1, iv x2, iv (2 : Int32), iv (1 : Int32), rv b1, rv b4, rv b7, rv b13, rv b20, iv (1 : Int32), iv (1 : Int32), iv (1 : Int32), rv b7, rv b13, .val .null, rv b473, iv (2 : Int32)]) rfl ?_
        refine XS.iload X488.here hx rfl (hb hby at_358) rfl ?_
        refine XS.ifNo X488.here hx rfl (hb hby at_360) rfl ((if0 _ _).trans (feq (by decide : ¬ ((1 : Int32) = (0 : Int32)))).1) ?_
        refine XS.aload X488.here hx rfl (hb hby at_363) rfl rfl ?_
        refine XS.aload X488.here hx rfl (hb hby at_365) rfl rfl ?_
        refine XS.iload X488.here hx rfl (hb hby at_367) rfl ?_
        refine XS.iconst X488.here hx rfl (hb hby at_369) ?_
        show oS p e below T488 m 370 #[iv x1, iv x2, iv (2 : Int32), iv (1 : Int32), rv b1, rv b4, rv b7, rv b13, rv b20, iv (1 : Int32), iv (1 : Int32), iv (1 : Int32), rv b7, rv b13, .val .null, rv b473, iv (2 : Int32)] [(.int (0 : Int32)), (.int (2 : Int32)), (.ref b473), (.ref b1)] _
        refine st501 _ ?_
        refine XS.ifNo X501.here hx rfl (hb hby at_373) rfl ((if0 _ _).trans (feq (by decide : ¬ ((1 : Int32) = (0 : Int32)))).1) ?_
        refine XS.iconst X501.here hx rfl (hb hby at_376) ?_
        refine XS.goto X501.here hx rfl (pc0 := 377) (pc' := 381) rfl (hb hby at_377) (by decide) (by decide) ?_
        refine XS.istore X501.here hx rfl (hb hby at_381) rfl (l' := #[iv x1, iv x2, iv (2 : Int32), iv (1 : Int32), rv b1, rv b4, rv b7, rv b13, rv b20, iv (1 : Int32), iv (1 : Int32), iv (1 : Int32), rv b7, rv b13, .val .null, rv b473, iv (2 : Int32)]) rfl ?_
        refine XS.iload X501.here hx rfl (hb hby at_383) rfl ?_
        refine XS.ifNo X501.here hx rfl (hb hby at_385) rfl ((if0 _ _).trans (feq (by decide : ¬ ((1 : Int32) = (0 : Int32)))).1) ?_
        refine XS.aload X501.here hx rfl (hb hby at_388) rfl rfl ?_
        show oS p e below T501 m 390 #[iv x1, iv x2, iv (2 : Int32), iv (1 : Int32), rv b1, rv b4, rv b7, rv b13, rv b20, iv (1 : Int32), iv (1 : Int32), iv (1 : Int32), rv b7, rv b13, .val .null, rv b473, iv (2 : Int32)] [(.ref b1)] _
        refine XS.aload X501.here hx rfl (hb hby at_390) rfl rfl ?_
        refine XS.iload X501.here hx rfl (hb hby at_392) rfl ?_
        refine XS.iconst X501.here hx rfl (hb hby at_394) ?_
        show oS p e below T501 m 395 #[iv x1, iv x2, iv (2 : Int32), iv (1 : Int32), rv b1, rv b4, rv b7, rv b13, rv b20, iv (1 : Int32), iv (1 : Int32), iv (1 : Int32), rv b7, rv b13, .val .null, rv b473, iv (2 : Int32)] [(.int (1 : Int32)), (.int (2 : Int32)), (.ref b473), (.ref b1)] _
        refine st502 _ ?_
        refine XS.ifNo X502.here hx rfl (hb hby at_398) rfl ((if0 _ _).trans (feq (by decide : ¬ ((1 : Int32) = (0 : Int32)))).1) ?_
        refine XS.iconst X502.here hx rfl (hb hby at_401) ?_
        refine XS.goto X502.here hx rfl (pc0 := 402) (pc' := 406) rfl (hb hby at_402) (by decide) (by decide) ?_
        refine XS.istore X502.here hx rfl (hb hby at_406) rfl (l' := #[iv x1, iv x2, iv (2 : Int32), iv (1 : Int32), rv b1, rv b4, rv b7, rv b13, rv b20, iv (1 : Int32), iv (1 : Int32), iv (1 : Int32), rv b7, rv b13, .val .null, rv b473, iv (2 : Int32)]) rfl ?_
        refine XS.iload X502.here hx rfl (hb hby at_408) rfl ?_
        refine XS.ifNo X502.here hx rfl (hb hby at_410) rfl ((if0 _ _).trans (feq (by decide : ¬ ((1 : Int32) = (0 : Int32)))).1) ?_
        refine XS.iload X502.here hx rfl (hb hby at_413) rfl ?_
        show oS p e below T502 m 415 #[iv x1, iv x2, iv (2 : Int32), iv (1 : Int32), rv b1, rv b4, rv b7, rv b13, rv b20, iv (1 : Int32), iv (1 : Int32), iv (1 : Int32), rv b7, rv b13, .val .null, rv b473, iv (2 : Int32)] [(.int (1 : Int32))] _
        refine XS.iconst X502.here hx rfl (hb hby at_415) ?_
        refine XS.iadd X502.here hx rfl (hb hby at_416) rfl ?_
        show oS p e below T502 m 417 #[iv x1, iv x2, iv (2 : Int32), iv (1 : Int32), rv b1, rv b4, rv b7, rv b13, rv b20, iv (1 : Int32), iv (1 : Int32), iv (1 : Int32), rv b7, rv b13, .val .null, rv b473, iv (2 : Int32)] [(.int (2 : Int32))] _
        refine XS.iconst X502.here hx rfl (hb hby at_417) ?_
        refine XS.icmpNo X502.here hx rfl (hb hby at_418) rfl (flt (by decide : ¬ ((2 : Int32) < (2 : Int32)))).1 ?_
        refine XS.aload X502.here hx rfl (hb hby at_421) rfl rfl ?_
        refine XS.aload X502.here hx rfl (hb hby at_423) rfl rfl ?_
        refine XS.iload X502.here hx rfl (hb hby at_425) rfl ?_
        refine XS.iconst X502.here hx rfl (hb hby at_427) ?_
        show oS p e below T502 m 428 #[iv x1, iv x2, iv (2 : Int32), iv (1 : Int32), rv b1, rv b4, rv b7, rv b13, rv b20, iv (1 : Int32), iv (1 : Int32), iv (1 : Int32), rv b7, rv b13, .val .null, rv b473, iv (2 : Int32)] [(.int (2 : Int32)), (.int (2 : Int32)), (.ref b473), (.ref b1)] _
        refine st507 _ ?_
        refine XS.ifNo X507.here hx rfl (hb hby at_431) rfl ((if0 _ _).trans (feq (by decide : ¬ ((1 : Int32) = (0 : Int32)))).1) ?_
        refine XS.iconst X507.here hx rfl (hb hby at_434) ?_
        refine XS.goto X507.here hx rfl (pc0 := 435) (pc' := 439) rfl (hb hby at_435) (by decide) (by decide) ?_
        refine XS.istore X507.here hx rfl (hb hby at_439) rfl (l' := #[iv x1, iv x2, iv (2 : Int32), iv (1 : Int32), rv b1, rv b4, rv b7, rv b13, rv b20, iv (1 : Int32), iv (1 : Int32), iv (1 : Int32), rv b7, rv b13, .val .null, rv b473, iv (2 : Int32)]) rfl ?_
        refine XS.iload X507.here hx rfl (hb hby at_441) rfl ?_
        refine XS.ifNo X507.here hx rfl (hb hby at_443) rfl ((if0 _ _).trans (feq (by decide : ¬ ((1 : Int32) = (0 : Int32)))).1) ?_
        refine XS.iload X507.here hx rfl (hb hby at_446) rfl ?_
        show oS p e below T507 m 448 #[iv x1, iv x2, iv (2 : Int32), iv (1 : Int32), rv b1, rv b4, rv b7, rv b13, rv b20, iv (1 : Int32), iv (1 : Int32), iv (1 : Int32), rv b7, rv b13, .val .null, rv b473, iv (2 : Int32)] [(.int (1 : Int32))] _
        refine XS.iconst X507.here hx rfl (hb hby at_448) ?_
        refine XS.iadd X507.here hx rfl (hb hby at_449) rfl ?_
        show oS p e below T507 m 450 #[iv x1, iv x2, iv (2 : Int32), iv (1 : Int32), rv b1, rv b4, rv b7, rv b13, rv b20, iv (1 : Int32), iv (1 : Int32), iv (1 : Int32), rv b7, rv b13, .val .null, rv b473, iv (2 : Int32)] [(.int (2 : Int32))] _
        refine XS.iconst X507.here hx rfl (hb hby at_450) ?_
        refine XS.icmpYes X507.here hx rfl (pc0 := 451) (pc' := 467) rfl (hb hby at_451) rfl (tlt (by decide : ((2 : Int32) < (3 : Int32)))).1 (by decide) (by decide) ?_
        refine XS.iconst X507.here hx rfl (hb hby at_467) ?_
        refine XS.goto X507.here hx rfl (pc0 := 468) (pc' := 472) rfl (hb hby at_468) (by decide) (by decide) ?_
        refine XS.istore X507.here hx rfl (hb hby at_472) rfl (l' := #[iv x1, iv x2, iv (2 : Int32), iv (1 : Int32), rv b1, rv b4, rv b7, rv b13, rv b20, iv (1 : Int32), iv (1 : Int32), iv (1 : Int32), rv b7, rv b13, .val .null, rv b473, iv (2 : Int32)]) rfl ?_
        refine XS.iload X507.here hx rfl (hb hby at_474) rfl ?_
        exact kt
      obtain ⟨fs, hr, hrun, hended, hW, hsame⟩ := X507.leave (v := some (.int (1 : Int32))) (fun h => by rw [Bd.returns] at h; cases h)
      refine ⟨_, _, pre0 _ (pre32 _ (pre397 _ (pre511 _ ?_))), hrun, hended, _, _, rfl, ?_, ⟨_, rfl⟩, hW, hsame.mono (by decide) (by decide)⟩
      · show oS p e below T507 m 476 #[iv x1, iv x2, iv (2 : Int32), iv (1 : Int32), rv b1, rv b4, rv b7, rv b13, rv b20, iv (1 : Int32), iv (1 : Int32), iv (1 : Int32), rv b7, rv b13, .val .null, rv b473, iv (2 : Int32)] [(.int (1 : Int32))] _
        exact retN X507 hx (t := .boolean) Bd.returns (by simp) (hb hby at_476) hr
      · show Q0 Z x1 x2 h0 n0 _ T507.heap _
        rw [eh507]
        exact ⟨rfl, N507⟩
    · subst hn
      have Vc513 : Arv Z T384.heap b20 kk20 (.object oz0) (2 : Int32) [(.ref b4), (.ref b7)] .null := ((Va31.keep K375 (ninS (Ne.symm ne_b1_b20) (ninS (Ne.symm ne_b4_b20) nin0))).keep K384 (ninS (Ne.symm ne_b1_b20) (ninS (Ne.symm ne_b7_b20) (ninS (Ne.symm ne_b4_b20) nin0))))
      obtain ⟨_, _, ⟨T512, Lw512, kw512, nw512⟩, -, X512, ⟨Lc512, hQ512, l512, y512, z512⟩, st512⟩ := Jvm.LawKit.callS X392 hx (y := (⟨oz4, "step", oz3⟩ : MethodName)) hown (mvT hZ (own_w hw 50 rfl)) (mvT hZ (own_w hw 51 rfl)) (mvT hZ (own_w hw 29 rfl)) (mvT hZ (own_w hw 52 rfl)) (by decide) (backOf (W := 0) (rmT2_2_0 l Z a0 hw [] b1 b20 b4 b7 kk20 T384.heap n0 Zc396 Ec393 Ec394 Ec395 g_b1 g_b4 g_b7 ne_b4_b7 pf384_0 pf384_1 pf384_5 pf384_6 pf384_7 pf384_2 pf384_3 pf384_4 Vc513) hZ (own_w hw 52 rfl) (own_w hw 29 rfl) (by decide) (by decide)) (g := (mkF m 157 #[iv x1, iv x2, iv (2 : Int32), iv (2 : Int32), rv b1, rv b4, rv b7, rv b13, rv b20, iv (1 : Int32), .unset, .unset, .unset, .unset, .unset, .unset, .unset] [(.int (0 : Int32)), (.int (2 : Int32)), (.ref b20), (.ref b1)])) rfl (by rw [hml]; rfl) (argsL := [(.ref b1), (.ref b20), (.int (2 : Int32)), (.int (0 : Int32))]) (rest := []) (lenOf own_pd7 rfl) rfl (by show 2 * 0 + _ ≤ _; exact Nat.le_of_eq rfl) (hb hby at_157) (fun _ _ => ⟨rfl, eh392, (by decide : 5 + 0 ≤ _), (by decide : 34 + 0 ≤ _)⟩)
      dsimp only [Pt.U, Pt.locs, Pt.cells, Pt.slots] at X512 l512 y512 z512 st512 hQ512
      subst l512 y512 z512
      obtain ⟨rfl, Nq512, K512, pf512_0, pf512_1, pf512_2, pf512_3, pf512_4, pf512_5, pf512_6, pf512_7⟩ := hQ512
      have N512 := Fr.app N392 Nq512
      have Ec515 : Exa Z T512.heap b1 oz1 := (Ec393.keep K512)
      have Ec516 : Exa Z T512.heap b7 oz0 := (Ec395.keep K512)
      have Vc517 : Arv Z T512.heap b20 kk20 (.object oz0) (2 : Int32) [(.ref b4), (.ref b7)] .null := (Vc513.keep K512 (ninS (Ne.symm ne_b1_b20) (ninS (Ne.symm ne_b4_b20) (ninS (Ne.symm ne_b7_b20) nin0))))
      have Zc518 : n0 ≤ T512.heap.size := (Nat.le_trans Zc396 K512.1)
      obtain ⟨_, _, ⟨T514, Lw514, kw514, nw514⟩, -, X514, ⟨Lc514, hQ514, l514, y514, z514⟩, st514⟩ := Jvm.LawKit.callS X512 hx (y := (⟨oz4, "step", oz3⟩ : MethodName)) hown (mvT hZ (own_w hw 50 rfl)) (mvT hZ (own_w hw 51 rfl)) (mvT hZ (own_w hw 29 rfl)) (mvT hZ (own_w hw 52 rfl)) (by decide) (backOf (W := 0) (rmT2_2_1 l Z a0 hw [] b1 b20 b4 b7 kk20 T512.heap n0 Zc518 Ec515 Ec516 g_b1 g_b7 pf512_0 pf512_1 pf512_2 pf512_3 pf512_4 Vc517) hZ (own_w hw 52 rfl) (own_w hw 29 rfl) (by decide) (by decide)) (g := (mkF m 186 #[iv x1, iv x2, iv (2 : Int32), iv (2 : Int32), rv b1, rv b4, rv b7, rv b13, rv b20, iv (1 : Int32), .unset, .unset, .unset, .unset, .unset, .unset, .unset] [(.int (1 : Int32)), (.int (2 : Int32)), (.ref b20), (.ref b1)])) rfl (by rw [hml]; rfl) (argsL := [(.ref b1), (.ref b20), (.int (2 : Int32)), (.int (1 : Int32))]) (rest := []) (lenOf own_pd7 rfl) rfl (by show 2 * 0 + _ ≤ _; exact Nat.le_of_eq rfl) (hb hby at_186) (fun _ _ => ⟨rfl, rfl, (by decide : 5 + 0 ≤ _), (by decide : 34 + 0 ≤ _)⟩)
      dsimp only [Pt.U, Pt.locs, Pt.cells, Pt.slots] at X514 l514 y514 z514 st514 hQ514
      subst l514 y514 z514
      obtain ⟨rfl, Nq514, K514, pf514_0, pf514_1, pf514_2, pf514_3, pf514_4⟩ := hQ514
      have N514 := Fr.app N512 Nq514
      have Zc520 : n0 ≤ T514.heap.size := (Nat.le_trans Zc518 K514.1)
      obtain ⟨_, _, ⟨T519, Lw519, kw519, nw519⟩, -, X519, ⟨Lc519, hQ519, l519, y519, z519⟩, st519⟩ := Jvm.LawKit.callS X514 hx (y := (⟨"java/lang/Math", "min", "(II)I"⟩ : MethodName)) hown (mvT hZ (own_w hw 58 rfl)) (mvT hZ (own_w hw 59 rfl)) (mvT hZ (own_w hw 60 rfl)) (mvT hZ (own_w hw 61 rfl)) (by decide) (backOf (W := 0) (rm10 l Z a0 hw [] (2 : Int32) (2 : Int32) T514.heap n0 Zc520 ) hZ (own_w hw 61 rfl) (own_w hw 60 rfl) (by decide) (by decide)) (g := (mkF m 237 #[iv x1, iv x2, iv (2 : Int32), iv (2 : Int32), rv b1, rv b4, rv b7, rv b13, rv b20, iv (1 : Int32), .unset, .unset, .unset, .unset, .unset, .unset, .unset] [(.int (2 : Int32)), (.int (2 : Int32))])) rfl (by rw [hml]; rfl) (argsL := [(.int (2 : Int32)), (.int (2 : Int32))]) (rest := []) (lenOf own_pd6 rfl) rfl (by show 2 * 0 + _ ≤ _; exact Nat.le_of_eq rfl) (hb hby at_237) (fun _ _ => ⟨rfl, rfl, (by decide : 5 + 0 ≤ _), (by decide : 34 + 0 ≤ _)⟩)
      dsimp only [Pt.U, Pt.locs, Pt.cells, Pt.slots] at X519 l519 y519 z519 st519 hQ519
      subst l519 y519 z519
      obtain ⟨rfl, Nq519, eh519⟩ := hQ519
      have N519 := Fr.app N514 Nq519
      have Ec522 : Exa Z T514.heap b1 oz1 := (Ec515.keep K514)
      have Ec523 : Exa Z T514.heap b13 oz0 := (((((((Ec25.ext E20).wr W28).wr W31).keep K375).keep K384).keep K512).keep K514)
      have Fc524 : Fld Z T514.heap b13 oz0 "in" oz6 .null := (((((((pf18_0.ext E20).other W28 (Or.inl ne_b13_b20)).other W31 (Or.inl ne_b13_b20)).keep K375 (ninS (Ne.symm ne_b1_b13) (ninS (Ne.symm ne_b4_b13) nin0))).keep K384 (ninS (Ne.symm ne_b1_b13) (ninS (Ne.symm ne_b7_b13) (ninS (Ne.symm ne_b4_b13) nin0)))).keep K512 (ninS (Ne.symm ne_b1_b13) (ninS (Ne.symm ne_b4_b13) (ninS (Ne.symm ne_b7_b13) nin0)))).keep K514 (ninS (Ne.symm ne_b1_b13) (ninS (Ne.symm ne_b7_b13) nin0)))
      have Fc525 : Fld Z T514.heap b13 oz0 "before" oz2 .null := (((((((pf18_1.ext E20).other W28 (Or.inl ne_b13_b20)).other W31 (Or.inl ne_b13_b20)).keep K375 (ninS (Ne.symm ne_b1_b13) (ninS (Ne.symm ne_b4_b13) nin0))).keep K384 (ninS (Ne.symm ne_b1_b13) (ninS (Ne.symm ne_b7_b13) (ninS (Ne.symm ne_b4_b13) nin0)))).keep K512 (ninS (Ne.symm ne_b1_b13) (ninS (Ne.symm ne_b4_b13) (ninS (Ne.symm ne_b7_b13) nin0)))).keep K514 (ninS (Ne.symm ne_b1_b13) (ninS (Ne.symm ne_b7_b13) nin0)))
      have Fc526 : Fld Z T514.heap b13 oz0 "after" oz2 .null := (((((((pf18_2.ext E20).other W28 (Or.inl ne_b13_b20)).other W31 (Or.inl ne_b13_b20)).keep K375 (ninS (Ne.symm ne_b1_b13) (ninS (Ne.symm ne_b4_b13) nin0))).keep K384 (ninS (Ne.symm ne_b1_b13) (ninS (Ne.symm ne_b7_b13) (ninS (Ne.symm ne_b4_b13) nin0)))).keep K512 (ninS (Ne.symm ne_b1_b13) (ninS (Ne.symm ne_b4_b13) (ninS (Ne.symm ne_b7_b13) nin0)))).keep K514 (ninS (Ne.symm ne_b1_b13) (ninS (Ne.symm ne_b7_b13) nin0)))
      obtain ⟨cq521, kq521, q521a, q521b, q521c⟩ := isOf hZ eh519 Ec522
      obtain ⟨_, _, ⟨T521, Lw521, kw521, nw521⟩, -, X521, ⟨Lc521, hQ521, l521, y521, z521⟩, st521⟩ := X519.virtualBack hx (y := (⟨oz1, "add", oz8⟩ : MethodName)) (z := (⟨oz1, "add", oz8⟩ : MethodName)) hown (mvT hZ (own_w hw 62 rfl)) (mvT hZ (own_w hw 63 rfl)) (notFace_of_selects (args := #[]) (mvT hZ (own_w hw 65 rfl))) (mvT hZ (own_w hw 65 rfl)) (mvT hZ (own_w hw 64 rfl)) (by decide) (backOf (W := 0) (rmA0 l Z a0 hw [] b1 b13 .null T514.heap n0 Zc520 Ec522 Ec523 g_b1 g_b13 pf514_0 pf514_1 Fc524 Fc525 Fc526) hZ (own_w hw 66 rfl) (own_w hw 3 rfl) (by decide) (by decide)) q521a q521c (g := (mkF m 252 #[iv x1, iv x2, iv (2 : Int32), iv (2 : Int32), rv b1, rv b4, rv b7, rv b13, rv b20, iv (1 : Int32), iv (2 : Int32), iv (0 : Int32), .unset, .unset, .unset, .unset, .unset] [(.ref b13), (.ref b1)])) rfl (by rw [hml]; rfl) (Steps.refl _) (argsL := [(.ref b13)]) (rest := []) (lenOf own_pd0 rfl) rfl (by show 2 * 0 + _ ≤ _; exact Nat.le_of_eq rfl) (hb hby at_252) (fun _ _ => ⟨rfl, eh519, (by decide : 5 + 0 ≤ _), (by decide : 34 + 0 ≤ _)⟩)
      dsimp only [Pt.U, Pt.locs, Pt.cells, Pt.slots] at X521 l521 y521 z521 st521 hQ521
      subst l521 y521 z521
      obtain ⟨rfl, Nq521, K521, pf521_0, pf521_1, pf521_2, pf521_3, pf521_4⟩ := hQ521
      have N521 := Fr.app N519 Nq521
      have Zc528 : n0 ≤ T521.heap.size := (Nat.le_trans Zc520 K521.1)
      have Ec529 : Exa Z T521.heap b1 oz1 := (Ec522.keep K521)
      have Ec530 : Exa Z T521.heap b4 oz0 := (((Ec394.keep K512).keep K514).keep K521)
      have Ec531 : Exa Z T521.heap b7 oz0 := ((Ec516.keep K514).keep K521)
      have Ec532 : Exa Z T521.heap b13 oz0 := (Ec523.keep K521)
      have Vc533 : Arv Z T521.heap b20 kk20 (.object oz0) (2 : Int32) [(.ref b4), (.ref b7)] .null := ((Vc517.keep K514 (ninS (Ne.symm ne_b1_b20) (ninS (Ne.symm ne_b7_b20) nin0))).keep K521 (ninS (Ne.symm ne_b1_b20) (ninS (Ne.symm ne_b13_b20) nin0)))
      obtain ⟨T527, h527, kk527, X527, e527, E527, A527, O527, st527⟩ := newR X521 hx hZ hown (own_w hw 10 rfl) (own_w hw 25 rfl) rfl (g := (mkF m 318 #[iv x1, iv x2, iv (2 : Int32), iv (2 : Int32), rv b1, rv b4, rv b7, rv b13, rv b20, iv (1 : Int32), iv (2 : Int32), iv (0 : Int32), rv b13, .val .null, .val .null, .unset, .unset] [(.int (3 : Int32))])) rfl (hb hby at_318) rfl (by decide) (cap := 3) (by decide) (by decide) (by decide) (by decide)
      obtain ⟨b527, g527⟩ : ∃ z, z = T521.heap.size := ⟨_, rfl⟩
      rw [← g527] at A527 st527
      have g_b527 : n0 ≤ b527 := Nat.le_trans Zc528 (Nat.le_of_eq g527.symm)
      have ne_b1_b527 : b1 ≠ b527 := Nat.ne_of_lt (Nat.lt_of_lt_of_le Ec529.lt (Nat.le_of_eq g527.symm))
      have ne_b4_b527 : b4 ≠ b527 := Nat.ne_of_lt (Nat.lt_of_lt_of_le Ec530.lt (Nat.le_of_eq g527.symm))
      have ne_b7_b527 : b7 ≠ b527 := Nat.ne_of_lt (Nat.lt_of_lt_of_le Ec531.lt (Nat.le_of_eq g527.symm))
      have ne_b13_b527 : b13 ≠ b527 := Nat.ne_of_lt (Nat.lt_of_lt_of_le Ec532.lt (Nat.le_of_eq g527.symm))
      have ne_b20_b527 : b20 ≠ b527 := Nat.ne_of_lt (Nat.lt_of_lt_of_le Vc533.lt (Nat.le_of_eq g527.symm))
      have V_b527 : Arv Z h527 b527 kk527 (.object oz0) (3 : Int32) [.null, .null, .null] .null := (Arv.new A527 (by decide)).pad (pad_rep [] .null 3)
      have Ec534 : Exa Z h527 b13 oz0 := (Ec532.ext E527)
      obtain ⟨cl535, Ar535, qk535, Sz535, Ng535, Hs535, Gt535⟩ := id V_b527
      have hin535 : ¬ ((0 : Int32) < 0 ∨ cl535.slots.size ≤ ((0 : Int32)).toNatClampNeg) := inb_of Sz535 ⟨by decide, by decide⟩
      obtain ⟨T536, h536, X536, e536, W536, st536⟩ := stR X527 hx hZ e527 Ar535 (j := (0 : Int32)) hin535 rfl (Sto.ofV Ar535 qk535 O527 (Ins.self Ec534)) (g := (mkF m 325 #[iv x1, iv x2, iv (2 : Int32), iv (2 : Int32), rv b1, rv b4, rv b7, rv b13, rv b20, iv (1 : Int32), iv (2 : Int32), iv (0 : Int32), rv b13, .val .null, .val .null, .unset, .unset] [(.ref b13), (.int (0 : Int32)), (.ref b527), (.ref b527)])) rfl rfl (hb hby at_325)
      have Va536 : Arv Z h536 b527 kk527 (.object oz0) (3 : Int32) [(.ref b13), .null, .null] .null := Arv.set Ar535 qk535 Sz535 Ng535 Hs535 Gt535 rfl W536 0 rfl (Nat.le_of_ble_eq_true rfl)
      have N536 := Fr.snoc X536 N521 g_b527
      obtain ⟨cl537, Ar537, qk537, Sz537, Ng537, Hs537, Gt537⟩ := id Va536
      have hin537 : ¬ ((1 : Int32) < 0 ∨ cl537.slots.size ≤ ((1 : Int32)).toNatClampNeg) := inb_of Sz537 ⟨by decide, by decide⟩
      obtain ⟨T538, h538, X538, e538, W538, st538⟩ := stR X536 hx hZ e536 Ar537 (j := (1 : Int32)) hin537 rfl (Or.inl rfl) (g := (mkF m 330 #[iv x1, iv x2, iv (2 : Int32), iv (2 : Int32), rv b1, rv b4, rv b7, rv b13, rv b20, iv (1 : Int32), iv (2 : Int32), iv (0 : Int32), rv b13, .val .null, .val .null, .unset, .unset] [.null, (.int (1 : Int32)), (.ref b527), (.ref b527)])) rfl rfl (hb hby at_330)
      have Va538 : Arv Z h538 b527 kk527 (.object oz0) (3 : Int32) [(.ref b13), .null, .null] .null := Arv.set Ar537 qk537 Sz537 Ng537 Hs537 Gt537 rfl W538 1 rfl (Nat.le_of_ble_eq_true rfl)
      have N538 := Fr.snoc X538 N536 g_b527
      obtain ⟨cl539, Ar539, qk539, Sz539, Ng539, Hs539, Gt539⟩ := id Va538
      have hin539 : ¬ ((2 : Int32) < 0 ∨ cl539.slots.size ≤ ((2 : Int32)).toNatClampNeg) := inb_of Sz539 ⟨by decide, by decide⟩
      obtain ⟨T540, h540, X540, e540, W540, st540⟩ := stR X538 hx hZ e538 Ar539 (j := (2 : Int32)) hin539 rfl (Or.inl rfl) (g := (mkF m 335 #[iv x1, iv x2, iv (2 : Int32), iv (2 : Int32), rv b1, rv b4, rv b7, rv b13, rv b20, iv (1 : Int32), iv (2 : Int32), iv (0 : Int32), rv b13, .val .null, .val .null, .unset, .unset] [.null, (.int (2 : Int32)), (.ref b527), (.ref b527)])) rfl rfl (hb hby at_335)
      have Va540 : Arv Z h540 b527 kk527 (.object oz0) (3 : Int32) [(.ref b13), .null, .null] .null := Arv.set Ar539 qk539 Sz539 Ng539 Hs539 Gt539 rfl W540 2 rfl (Nat.le_of_ble_eq_true rfl)
      have N540 := Fr.snoc X540 N538 g_b527
      obtain ⟨cl541, Ar541, qk541, Sz541, Ng541, Hs541, Gt541⟩ := id Va540
      have hin541 : ¬ ((0 : Int32) < 0 ∨ cl541.slots.size ≤ ((0 : Int32)).toNatClampNeg) := inb_of Sz541 ⟨by decide, by decide⟩
      have hat541 : cl541.slots[((0 : Int32)).toNatClampNeg]? = some (.ref b13) := Hs541.at hin541 rfl
      have Ec543 : Exa Z h540 b1 oz1 := ((((Ec529.ext E527).wr W536).wr W538).wr W540)
      have Ec544 : Exa Z h540 b13 oz0 := (((Ec534.wr W536).wr W538).wr W540)
      have Fc545 : Fld Z h540 b1 oz1 "first" oz2 (.ref b13) := ((((pf521_0.ext E527).other W536 (Or.inl ne_b1_b527)).other W538 (Or.inl ne_b1_b527)).other W540 (Or.inl ne_b1_b527))
      have Fc546 : Fld Z h540 b1 oz1 "last" oz2 (.ref b13) := ((((pf521_1.ext E527).other W536 (Or.inl ne_b1_b527)).other W538 (Or.inl ne_b1_b527)).other W540 (Or.inl ne_b1_b527))
      have Fc547 : Fld Z h540 b13 oz0 "in" oz6 (.ref b1) := ((((pf521_2.ext E527).other W536 (Or.inl ne_b13_b527)).other W538 (Or.inl ne_b13_b527)).other W540 (Or.inl ne_b13_b527))
      have Fc548 : Fld Z h540 b13 oz0 "before" oz2 .null := ((((pf521_3.ext E527).other W536 (Or.inl ne_b13_b527)).other W538 (Or.inl ne_b13_b527)).other W540 (Or.inl ne_b13_b527))
      have Fc549 : Fld Z h540 b13 oz0 "after" oz2 .null := ((((pf521_4.ext E527).other W536 (Or.inl ne_b13_b527)).other W538 (Or.inl ne_b13_b527)).other W540 (Or.inl ne_b13_b527))
      have Zc550 : n0 ≤ h540.size := (Nat.le_trans (Nat.le_trans (Nat.le_trans (Nat.le_trans Zc528 E527.1) (Keep.of_wr W536).1) (Keep.of_wr W538).1) (Keep.of_wr W540).1)
      obtain ⟨_, _, ⟨T542, Lw542, kw542, nw542⟩, -, X542, ⟨Lc542, hQ542, l542, y542, z542⟩, st542⟩ := Jvm.LawKit.callS X540 hx (y := (⟨oz4, "state", oz5⟩ : MethodName)) hown (mvT hZ (own_w hw 27 rfl)) (mvT hZ (own_w hw 28 rfl)) (mvT hZ (own_w hw 29 rfl)) (mvT hZ (own_w hw 30 rfl)) (by decide) (backOf (W := 0) (rmS1 l Z a0 hw [] b1 b13 h540 n0 Zc550 Ec543 Ec544 Fc545 Fc546 Fc547 Fc548 Fc549) hZ (own_w hw 30 rfl) (own_w hw 29 rfl) (by decide) (by decide)) (g := (mkF m 353 #[iv x1, iv x2, iv (2 : Int32), iv (2 : Int32), rv b1, rv b4, rv b7, rv b13, rv b20, iv (1 : Int32), iv (2 : Int32), iv (0 : Int32), rv b13, .val .null, .val .null, rv b527, iv (1 : Int32)] [(.ref b13), (.ref b13), (.ref b1)])) rfl (by rw [hml]; rfl) (argsL := [(.ref b1), (.ref b13), (.ref b13)]) (rest := []) (lenOf own_pd5 rfl) rfl (by show 2 * 0 + _ ≤ _; exact Nat.le_of_eq rfl) (hb hby at_353) (fun _ _ => ⟨rfl, e540, (by decide : 6 + 0 ≤ _), (by decide : 37 + 0 ≤ _)⟩)
      dsimp only [Pt.U, Pt.locs, Pt.cells, Pt.slots] at X542 l542 y542 z542 st542 hQ542
      subst l542 y542 z542
      obtain ⟨rfl, Nq542, eh542⟩ := hQ542
      have N542 := Fr.app N540 Nq542
      obtain ⟨_, _, ⟨T551, Lw551, kw551, nw551⟩, -, X551, ⟨Lc551, hQ551, l551, y551, z551⟩, st551⟩ := Jvm.LawKit.callS X542 hx (y := (⟨oz4, "step", oz3⟩ : MethodName)) hown (mvT hZ (own_w hw 50 rfl)) (mvT hZ (own_w hw 51 rfl)) (mvT hZ (own_w hw 29 rfl)) (mvT hZ (own_w hw 52 rfl)) (by decide) (backOf (W := 0) (rmT3_1_0 l Z a0 hw [] b1 b527 b13 kk527 h540 n0 Zc550 Ec543 Ec544 g_b1 g_b13 Fc545 Fc546 Fc547 Fc548 Fc549 Va540) hZ (own_w hw 52 rfl) (own_w hw 29 rfl) (by decide) (by decide)) (g := (mkF m 370 #[iv x1, iv x2, iv (2 : Int32), iv (2 : Int32), rv b1, rv b4, rv b7, rv b13, rv b20, iv (1 : Int32), iv (2 : Int32), iv (0 : Int32), rv b13, .val .null, .val .null, rv b527, iv (1 : Int32)] [(.int (0 : Int32)), (.int (1 : Int32)), (.ref b527), (.ref b1)])) rfl (by rw [hml]; rfl) (argsL := [(.ref b1), (.ref b527), (.int (1 : Int32)), (.int (0 : Int32))]) (rest := []) (lenOf own_pd7 rfl) rfl (by show 2 * 0 + _ ≤ _; exact Nat.le_of_eq rfl) (hb hby at_370) (fun _ _ => ⟨rfl, eh542, (by decide : 6 + 0 ≤ _), (by decide : 37 + 0 ≤ _)⟩)
      dsimp only [Pt.U, Pt.locs, Pt.cells, Pt.slots] at X551 l551 y551 z551 st551 hQ551
      subst l551 y551 z551
      obtain ⟨rfl, Nq551, K551, pf551_0, pf551_1, pf551_2, pf551_3, pf551_4⟩ := hQ551
      have N551 := Fr.app N542 Nq551
      have Ec553 : Exa Z T551.heap b1 oz1 := (Ec543.keep K551)
      have Vc554 : Arv Z T551.heap b527 kk527 (.object oz0) (3 : Int32) [(.ref b13), .null, .null] .null := (Va540.keep K551 (ninS (Ne.symm ne_b1_b527) (ninS (Ne.symm ne_b13_b527) nin0)))
      have Zc555 : n0 ≤ T551.heap.size := (Nat.le_trans Zc550 K551.1)
      obtain ⟨_, _, ⟨T552, Lw552, kw552, nw552⟩, -, X552, ⟨Lc552, hQ552, l552, y552, z552⟩, st552⟩ := Jvm.LawKit.callS X551 hx (y := (⟨oz4, "step", oz3⟩ : MethodName)) hown (mvT hZ (own_w hw 50 rfl)) (mvT hZ (own_w hw 51 rfl)) (mvT hZ (own_w hw 29 rfl)) (mvT hZ (own_w hw 52 rfl)) (by decide) (backOf (W := 0) (rmT3_1_1 l Z a0 hw [] b1 b527 b13 kk527 T551.heap n0 Zc555 Ec553 pf551_0 pf551_1 Vc554) hZ (own_w hw 52 rfl) (own_w hw 29 rfl) (by decide) (by decide)) (g := (mkF m 395 #[iv x1, iv x2, iv (2 : Int32), iv (2 : Int32), rv b1, rv b4, rv b7, rv b13, rv b20, iv (1 : Int32), iv (2 : Int32), iv (0 : Int32), rv b13, .val .null, .val .null, rv b527, iv (1 : Int32)] [(.int (1 : Int32)), (.int (1 : Int32)), (.ref b527), (.ref b1)])) rfl (by rw [hml]; rfl) (argsL := [(.ref b1), (.ref b527), (.int (1 : Int32)), (.int (1 : Int32))]) (rest := []) (lenOf own_pd7 rfl) rfl (by show 2 * 0 + _ ≤ _; exact Nat.le_of_eq rfl) (hb hby at_395) (fun _ _ => ⟨rfl, rfl, (by decide : 6 + 0 ≤ _), (by decide : 37 + 0 ≤ _)⟩)
      dsimp only [Pt.U, Pt.locs, Pt.cells, Pt.slots] at X552 l552 y552 z552 st552 hQ552
      subst l552 y552 z552
      obtain ⟨rfl, Nq552, eh552⟩ := hQ552
      have N552 := Fr.app N551 Nq552
      have pre556 : ∀ tz, oS p e below T552 m 476 #[iv x1, iv x2, iv (2 : Int32), iv (2 : Int32), rv b1, rv b4, rv b7, rv b13, rv b20, iv (1 : Int32), iv (2 : Int32), iv (0 : Int32), rv b13, .val .null, .val .null, rv b527, iv (1 : Int32)] [(.int (1 : Int32))] tz → oS p e below T392 m 146 #[iv x1, iv x2, iv (2 : Int32), iv (2 : Int32), rv b1, rv b4, rv b7, rv b13, rv b20, iv (1 : Int32), .unset, .unset, .unset, .unset, .unset, .unset, .unset] [] tz := fun tz kt => by
        show oS p e below T392 m 146 #[iv x1, iv x2, iv (2 : Int32), iv (2 : Int32), rv b1, rv b4, rv b7, rv b13, rv b20, iv (1 : Int32), .unset, .unset, .unset, .unset, .unset, .unset, .unset] [] _
        refine XS.iloadN X392.here hx rfl (hb hby at_146) rfl ?_
        refine XS.iconst X392.here hx rfl (hb hby at_147) ?_
        refine XS.icmpNo X392.here hx rfl (hb hby at_148) rfl (flt (by decide : ¬ ((2 : Int32) < (1 : Int32)))).1 ?_
        refine XS.aload X392.here hx rfl (hb hby at_151) rfl rfl ?_
        refine XS.aload X392.here hx rfl (hb hby at_153) rfl rfl ?_
        refine XS.iloadN X392.here hx rfl (hb hby at_155) rfl ?_
        refine XS.iconst X392.here hx rfl (hb hby at_156) ?_
        show oS p e below T392 m 157 #[iv x1, iv x2, iv (2 : Int32), iv (2 : Int32), rv b1, rv b4, rv b7, rv b13, rv b20, iv (1 : Int32), .unset, .unset, .unset, .unset, .unset, .unset, .unset] [(.int (0 : Int32)), (.int (2 : Int32)), (.ref b20), (.ref b1)] _
        refine st512 _ ?_
        refine XS.ifNo X512.here hx rfl (hb hby at_160) rfl ((if0 _ _).trans (feq (by decide : ¬ ((1 : Int32) = (0 : Int32)))).1) ?_
        refine XS.iconst X512.here hx rfl (hb hby at_163) ?_
        refine XS.goto X512.here hx rfl (pc0 := 164) (pc' := 168) rfl (hb hby at_164) (by decide) (by decide) ?_
        refine XS.istore X512.here hx rfl (hb hby at_168) rfl (l' := #[iv x1, iv x2, iv (2 : Int32), iv (2 : Int32), rv b1, rv b4, rv b7, rv b13, rv b20, iv (1 : Int32), .unset, .unset, .unset, .unset, .unset, .unset, .unset]) rfl ?_
        refine XS.iload X512.here hx rfl (hb hby at_170) rfl ?_
        refine XS.ifNo X512.here hx rfl (hb hby at_172) rfl ((if0 _ _).trans (feq (by decide : ¬ ((1 : Int32) = (0 : Int32)))).1) ?_
        refine XS.iloadN X512.here hx rfl (hb hby at_175) rfl ?_
        show oS p e below T512 m 176 #[iv x1, iv x2, iv (2 : Int32), iv (2 : Int32), rv b1, rv b4, rv b7, rv b13, rv b20, iv (1 : Int32), .unset, .unset, .unset, .unset, .unset, .unset, .unset] [(.int (2 : Int32))] _
        refine XS.iconst X512.here hx rfl (hb hby at_176) ?_
        refine XS.icmpNo X512.here hx rfl (hb hby at_177) rfl (flt (by decide : ¬ ((2 : Int32) < (2 : Int32)))).1 ?_
        refine XS.aload X512.here hx rfl (hb hby at_180) rfl rfl ?_
        refine XS.aload X512.here hx rfl (hb hby at_182) rfl rfl ?_
        refine XS.iloadN X512.here hx rfl (hb hby at_184) rfl ?_
        refine XS.iconst X512.here hx rfl (hb hby at_185) ?_
        show oS p e below T512 m 186 #[iv x1, iv x2, iv (2 : Int32), iv (2 : Int32), rv b1, rv b4, rv b7, rv b13, rv b20, iv (1 : Int32), .unset, .unset, .unset, .unset, .unset, .unset, .unset] [(.int (1 : Int32)), (.int (2 : Int32)), (.ref b20), (.ref b1)] _
        refine st514 _ ?_
        refine XS.ifNo X514.here hx rfl (hb hby at_189) rfl ((if0 _ _).trans (feq (by decide : ¬ ((1 : Int32) = (0 : Int32)))).1) ?_
        refine XS.iconst X514.here hx rfl (hb hby at_192) ?_
        refine XS.goto X514.here hx rfl (pc0 := 193) (pc' := 197) rfl (hb hby at_193) (by decide) (by decide) ?_
        refine XS.istore X514.here hx rfl (hb hby at_197) rfl (l' := #[iv x1, iv x2, iv (2 : Int32), iv (2 : Int32), rv b1, rv b4, rv b7, rv b13, rv b20, iv (1 : Int32), .unset, .unset, .unset, .unset, .unset, .unset, .unset]) rfl ?_
        refine XS.iload X514.here hx rfl (hb hby at_199) rfl ?_
        refine XS.ifNo X514.here hx rfl (hb hby at_201) rfl ((if0 _ _).trans (feq (by decide : ¬ ((1 : Int32) = (0 : Int32)))).1) ?_
        refine XS.iloadN X514.here hx rfl (hb hby at_204) rfl ?_
        show oS p e below T514 m 205 #[iv x1, iv x2, iv (2 : Int32), iv (2 : Int32), rv b1, rv b4, rv b7, rv b13, rv b20, iv (1 : Int32), .unset, .unset, .unset, .unset, .unset, .unset, .unset] [(.int (2 : Int32))] _
        refine XS.iconst X514.here hx rfl (hb hby at_205) ?_
        refine XS.icmpYes X514.here hx rfl (pc0 := 206) (pc' := 221) rfl (hb hby at_206) rfl (tlt (by decide : ((2 : Int32) < (3 : Int32)))).1 (by decide) (by decide) ?_
        refine XS.iconst X514.here hx rfl (hb hby at_221) ?_
        refine XS.goto X514.here hx rfl (pc0 := 222) (pc' := 226) rfl (hb hby at_222) (by decide) (by decide) ?_
        refine XS.istore X514.here hx rfl (hb hby at_226) rfl (l' := #[iv x1, iv x2, iv (2 : Int32), iv (2 : Int32), rv b1, rv b4, rv b7, rv b13, rv b20, iv (1 : Int32), .unset, .unset, .unset, .unset, .unset, .unset, .unset]) rfl ?_
        refine XS.iload X514.here hx rfl (hb hby at_228) rfl ?_
        refine XS.ifYes X514.here hx rfl (pc0 := 230) (pc' := 235) rfl (hb hby at_230) rfl ((if0 _ _).trans (feq (by decide : ¬ ((1 : Int32) = (0 : Int32)))).2) (by decide) (by decide) ?_
        refine XS.iloadN X514.here hx rfl (hb hby at_235) rfl ?_
        show oS p e below T514 m 236 #[iv x1, iv x2, iv (2 : Int32), iv (2 : Int32), rv b1, rv b4, rv b7, rv b13, rv b20, iv (1 : Int32), .unset, .unset, .unset, .unset, .unset, .unset, .unset] [(.int (2 : Int32))] _
        refine XS.iloadN X514.here hx rfl (hb hby at_236) rfl ?_
        show oS p e below T514 m 237 #[iv x1, iv x2, iv (2 : Int32), iv (2 : Int32), rv b1, rv b4, rv b7, rv b13, rv b20, iv (1 : Int32), .unset, .unset, .unset, .unset, .unset, .unset, .unset] [(.int (2 : Int32)), (.int (2 : Int32))] _
        refine st519 _ ?_
        rw [((if_neg (by decide : ¬ ((2 : Int32) < (2 : Int32)))) : (if (2 : Int32) < (2 : Int32) then (2 : Int32) else (2 : Int32)) = (2 : Int32))]
        show oS p e below T519 m 240 #[iv x1, iv x2, iv (2 : Int32), iv (2 : Int32), rv b1, rv b4, rv b7, rv b13, rv b20, iv (1 : Int32), .unset, .unset, .unset, .unset, .unset, .unset, .unset] [(.int (2 : Int32))] _
        refine XS.istore X519.here hx rfl (hb hby at_240) rfl (l' := #[iv x1, iv x2, iv (2 : Int32), iv (2 : Int32), rv b1, rv b4, rv b7, rv b13, rv b20, iv (1 : Int32), iv (2 : Int32), .unset, .unset, .unset, .unset, .unset, .unset]) rfl ?_
        refine XS.iloadN X519.here hx rfl (hb hby at_242) rfl ?_
        refine XS.iload X519.here hx rfl (hb hby at_243) rfl ?_
        refine XS.isub X519.here hx rfl (hb hby at_245) rfl ?_
        show oS p e below T519 m 246 #[iv x1, iv x2, iv (2 : Int32), iv (2 : Int32), rv b1, rv b4, rv b7, rv b13, rv b20, iv (1 : Int32), iv (2 : Int32), .unset, .unset, .unset, .unset, .unset, .unset] [(.int (0 : Int32))] _
        refine XS.istore X519.here hx rfl (hb hby at_246) rfl (l' := #[iv x1, iv x2, iv (2 : Int32), iv (2 : Int32), rv b1, rv b4, rv b7, rv b13, rv b20, iv (1 : Int32), iv (2 : Int32), iv (0 : Int32), .unset, .unset, .unset, .unset, .unset]) rfl ?_
        refine XS.aload X519.here hx rfl (hb hby at_248) rfl rfl ?_
        refine XS.aload X519.here hx rfl (hb hby at_250) rfl rfl ?_
        show oS p e below T519 m 252 #[iv x1, iv x2, iv (2 : Int32), iv (2 : Int32), rv b1, rv b4, rv b7, rv b13, rv b20, iv (1 : Int32), iv (2 : Int32), iv (0 : Int32), .unset, .unset, .unset, .unset, .unset] [(.ref b13), (.ref b1)] _
        refine st521.trans ?_
        refine XS.iload X521.here hx rfl (hb hby at_255) rfl ?_
        refine XS.iconst X521.here hx rfl (hb hby at_257) ?_
        refine XS.icmpYes X521.here hx rfl (pc0 := 258) (pc' := 269) rfl (hb hby at_258) rfl (tlt (by decide : ((0 : Int32) < (1 : Int32)))).1 (by decide) (by decide) ?_
        refine XS.aload X521.here hx rfl (hb hby at_269) rfl rfl ?_
        refine XS.astore X521.here hx rfl (hb hby at_271) rfl rfl (l' := #[iv x1, iv x2, iv (2 : Int32), iv (2 : Int32), rv b1, rv b4, rv b7, rv b13, rv b20, iv (1 : Int32), iv (2 : Int32), iv (0 : Int32), rv b13, .unset, .unset, .unset, .unset]) rfl ?_
        refine XS.iload X521.here hx rfl (hb hby at_273) rfl ?_
        refine XS.iconst X521.here hx rfl (hb hby at_275) ?_
        show oS p e below T521 m 276 #[iv x1, iv x2, iv (2 : Int32), iv (2 : Int32), rv b1, rv b4, rv b7, rv b13, rv b20, iv (1 : Int32), iv (2 : Int32), iv (0 : Int32), rv b13, .unset, .unset, .unset, .unset] [(.int (2 : Int32)), (.int (0 : Int32))] _
        refine XS.icmpYes X521.here hx rfl (pc0 := 276) (pc' := 289) rfl (hb hby at_276) rfl (tlt (by decide : ((0 : Int32) < (2 : Int32)))).1 (by decide) (by decide) ?_
        refine XS.iload X521.here hx rfl (hb hby at_289) rfl ?_
        refine XS.iconst X521.here hx rfl (hb hby at_291) ?_
        refine XS.icmpYes X521.here hx rfl (pc0 := 292) (pc' := 300) rfl (hb hby at_292) rfl (feq (by decide : ¬ ((0 : Int32) = (1 : Int32)))).2 (by decide) (by decide) ?_
        refine XS.aconstNull X521.here hx rfl (hb hby at_300) ?_
        refine XS.astore X521.here hx rfl (hb hby at_301) rfl rfl (l' := #[iv x1, iv x2, iv (2 : Int32), iv (2 : Int32), rv b1, rv b4, rv b7, rv b13, rv b20, iv (1 : Int32), iv (2 : Int32), iv (0 : Int32), rv b13, .val .null, .unset, .unset, .unset]) rfl ?_
        refine XS.iload X521.here hx rfl (hb hby at_303) rfl ?_
        refine XS.iconst X521.here hx rfl (hb hby at_305) ?_
        show oS p e below T521 m 306 #[iv x1, iv x2, iv (2 : Int32), iv (2 : Int32), rv b1, rv b4, rv b7, rv b13, rv b20, iv (1 : Int32), iv (2 : Int32), iv (0 : Int32), rv b13, .val .null, .unset, .unset, .unset] [(.int (2 : Int32)), (.int (0 : Int32))] _
        refine XS.icmpYes X521.here hx rfl (pc0 := 306) (pc' := 314) rfl (hb hby at_306) rfl (feq (by decide : ¬ ((0 : Int32) = (2 : Int32)))).2 (by decide) (by decide) ?_
        refine XS.aconstNull X521.here hx rfl (hb hby at_314) ?_
        refine XS.astore X521.here hx rfl (hb hby at_315) rfl rfl (l' := #[iv x1, iv x2, iv (2 : Int32), iv (2 : Int32), rv b1, rv b4, rv b7, rv b13, rv b20, iv (1 : Int32), iv (2 : Int32), iv (0 : Int32), rv b13, .val .null, .val .null, .unset, .unset]) rfl ?_
        refine XS.iconst X521.here hx rfl (hb hby at_317) ?_
        show oS p e below T521 m 318 #[iv x1, iv x2, iv (2 : Int32), iv (2 : Int32), rv b1, rv b4, rv b7, rv b13, rv b20, iv (1 : Int32), iv (2 : Int32), iv (0 : Int32), rv b13, .val .null, .val .null, .unset, .unset] [(.int (3 : Int32))] _
        refine st527 _ ?_
        refine XS.dup X527.here hx rfl (hb hby at_321) rfl rfl ?_
        refine XS.iconst X527.here hx rfl (hb hby at_322) ?_
        refine XS.aload X527.here hx rfl (hb hby at_323) rfl rfl ?_
        show oS p e below T527 m 325 #[iv x1, iv x2, iv (2 : Int32), iv (2 : Int32), rv b1, rv b4, rv b7, rv b13, rv b20, iv (1 : Int32), iv (2 : Int32), iv (0 : Int32), rv b13, .val .null, .val .null, .unset, .unset] [(.ref b13), (.int (0 : Int32)), (.ref b527), (.ref b527)] _
        refine st536 _ ?_
        refine XS.dup X536.here hx rfl (hb hby at_326) rfl rfl ?_
        refine XS.iconst X536.here hx rfl (hb hby at_327) ?_
        refine XS.aload X536.here hx rfl (hb hby at_328) rfl rfl ?_
        show oS p e below T536 m 330 #[iv x1, iv x2, iv (2 : Int32), iv (2 : Int32), rv b1, rv b4, rv b7, rv b13, rv b20, iv (1 : Int32), iv (2 : Int32), iv (0 : Int32), rv b13, .val .null, .val .null, .unset, .unset] [.null, (.int (1 : Int32)), (.ref b527), (.ref b527)] _
        refine st538 _ ?_
        refine XS.dup X538.here hx rfl (hb hby at_331) rfl rfl ?_
        refine XS.iconst X538.here hx rfl (hb hby at_332) ?_
        refine XS.aload X538.here hx rfl (hb hby at_333) rfl rfl ?_
        show oS p e below T538 m 335 #[iv x1, iv x2, iv (2 : Int32), iv (2 : Int32), rv b1, rv b4, rv b7, rv b13, rv b20, iv (1 : Int32), iv (2 : Int32), iv (0 : Int32), rv b13, .val .null, .val .null, .unset, .unset] [.null, (.int (2 : Int32)), (.ref b527), (.ref b527)] _
        refine st540 _ ?_
        refine XS.astore X540.here hx rfl (hb hby at_336) rfl rfl (l' := #[iv x1, iv x2, iv (2 : Int32), iv (2 : Int32), rv b1, rv b4, rv b7, rv b13, rv b20, iv (1 : Int32), iv (2 : Int32), iv (0 : Int32), rv b13, .val .null, .val .null, rv b527, .unset]) rfl ?_
        refine XS.iload X540.here hx rfl (hb hby at_338) rfl ?_
        refine XS.iconst X540.here hx rfl (hb hby at_340) ?_
        refine XS.iadd X540.here hx rfl (hb hby at_341) rfl ?_
        show oS p e below T540 m 342 #[iv x1, iv x2, iv (2 : Int32), iv (2 : Int32), rv b1, rv b4, rv b7, rv b13, rv b20, iv (1 : Int32), iv (2 : Int32), iv (0 : Int32), rv b13, .val .null, .val .null, rv b527, .unset] [(.int (1 : Int32))] _
        refine XS.istore X540.here hx rfl (hb hby at_342) rfl (l' := #[iv x1, iv x2, iv (2 : Int32), iv (2 : Int32), rv b1, rv b4, rv b7, rv b13, rv b20, iv (1 : Int32), iv (2 : Int32), iv (0 : Int32), rv b13, .val .null, .val .null, rv b527, iv (1 : Int32)]) rfl ?_
        refine XS.aload X540.here hx rfl (hb hby at_344) rfl rfl ?_
        refine XS.aload X540.here hx rfl (hb hby at_346) rfl rfl ?_
        refine XS.aload X540.here hx rfl (hb hby at_348) rfl rfl ?_
        refine XS.iload X540.here hx rfl (hb hby at_350) rfl ?_
        refine X540.aaload hx (j := (0 : Int32)) (v := (.ref b13)) (by rw [e540]; exact Ar541.1) (State.isArrayOf_alike hZ.alike Ar541.2.1) rfl Ar541.2.2 hin541 hat541 (g := (mkF m 352 #[iv x1, iv x2, iv (2 : Int32), iv (2 : Int32), rv b1, rv b4, rv b7, rv b13, rv b20, iv (1 : Int32), iv (2 : Int32), iv (0 : Int32), rv b13, .val .null, .val .null, rv b527, iv (1 : Int32)] [(.int (0 : Int32)), (.ref b527), (.ref b13), (.ref b1)])) rfl rfl (hb hby at_352) _ ?_
        show oS p e below T540 m 353 #[iv x1, iv x2, iv (2 : Int32), iv (2 : Int32), rv b1, rv b4, rv b7, rv b13, rv b20, iv (1 : Int32), iv (2 : Int32), iv (0 : Int32), rv b13, .val .null, .val .null, rv b527, iv (1 : Int32)] [(.ref b13), (.ref b13), (.ref b1)] _
        refine st542 _ ?_
        refine XS.istore X542.here hx rfl (hb hby at_356) rfl (l' := #[iv x1, iv x2, iv (2 : Int32), iv (2 : Int32), rv b1, rv b4, rv b7, rv b13, rv b20, iv (1 : Int32), iv (2 : Int32), iv (0 : Int32), rv b13, .val .null, .val .null, rv b527, iv (1 : Int32)]) rfl ?_
        refine XS.iload X542.here hx rfl (hb hby at_358) rfl ?_
        refine XS.ifNo X542.here hx rfl (hb hby at_360) rfl ((if0 _ _).trans (feq (by decide : ¬ ((1 : Int32) = (0 : Int32)))).1) ?_
        refine XS.aload X542.here hx rfl (hb hby at_363) rfl rfl ?_
        refine XS.aload X542.here hx rfl (hb hby at_365) rfl rfl ?_
        refine XS.iload X542.here hx rfl (hb hby at_367) rfl ?_
        refine XS.iconst X542.here hx rfl (hb hby at_369) ?_
        show oS p e below T542 m 370 #[iv x1, iv x2, iv (2 : Int32), iv (2 : Int32), rv b1, rv b4, rv b7, rv b13, rv b20, iv (1 : Int32), iv (2 : Int32), iv (0 : Int32), rv b13, .val .null, .val .null, rv b527, iv (1 : Int32)] [(.int (0 : Int32)), (.int (1 : Int32)), (.ref b527), (.ref b1)] _
        refine st551 _ ?_
        refine XS.ifNo X551.here hx rfl (hb hby at_373) rfl ((if0 _ _).trans (feq (by decide : ¬ ((1 : Int32) = (0 : Int32)))).1) ?_
        refine XS.iconst X551.here hx rfl (hb hby at_376) ?_
        refine XS.goto X551.here hx rfl (pc0 := 377) (pc' := 381) rfl (hb hby at_377) (by decide) (by decide) ?_
        refine XS.istore X551.here hx rfl (hb hby at_381) rfl (l' := #[iv x1, iv x2, iv (2 : Int32), iv (2 : Int32), rv b1, rv b4, rv b7, rv b13, rv b20, iv (1 : Int32), iv (2 : Int32), iv (0 : Int32), rv b13, .val .null, .val .null, rv b527, iv (1 : Int32)]) rfl ?_
        refine XS.iload X551.here hx rfl (hb hby at_383) rfl ?_
        refine XS.ifNo X551.here hx rfl (hb hby at_385) rfl ((if0 _ _).trans (feq (by decide : ¬ ((1 : Int32) = (0 : Int32)))).1) ?_
        refine XS.aload X551.here hx rfl (hb hby at_388) rfl rfl ?_
        show oS p e below T551 m 390 #[iv x1, iv x2, iv (2 : Int32), iv (2 : Int32), rv b1, rv b4, rv b7, rv b13, rv b20, iv (1 : Int32), iv (2 : Int32), iv (0 : Int32), rv b13, .val .null, .val .null, rv b527, iv (1 : Int32)] [(.ref b1)] _
        refine XS.aload X551.here hx rfl (hb hby at_390) rfl rfl ?_
        refine XS.iload X551.here hx rfl (hb hby at_392) rfl ?_
        refine XS.iconst X551.here hx rfl (hb hby at_394) ?_
        show oS p e below T551 m 395 #[iv x1, iv x2, iv (2 : Int32), iv (2 : Int32), rv b1, rv b4, rv b7, rv b13, rv b20, iv (1 : Int32), iv (2 : Int32), iv (0 : Int32), rv b13, .val .null, .val .null, rv b527, iv (1 : Int32)] [(.int (1 : Int32)), (.int (1 : Int32)), (.ref b527), (.ref b1)] _
        refine st552 _ ?_
        refine XS.ifNo X552.here hx rfl (hb hby at_398) rfl ((if0 _ _).trans (feq (by decide : ¬ ((1 : Int32) = (0 : Int32)))).1) ?_
        refine XS.iconst X552.here hx rfl (hb hby at_401) ?_
        refine XS.goto X552.here hx rfl (pc0 := 402) (pc' := 406) rfl (hb hby at_402) (by decide) (by decide) ?_
        refine XS.istore X552.here hx rfl (hb hby at_406) rfl (l' := #[iv x1, iv x2, iv (2 : Int32), iv (2 : Int32), rv b1, rv b4, rv b7, rv b13, rv b20, iv (1 : Int32), iv (2 : Int32), iv (0 : Int32), rv b13, .val .null, .val .null, rv b527, iv (1 : Int32)]) rfl ?_
        refine XS.iload X552.here hx rfl (hb hby at_408) rfl ?_
        refine XS.ifNo X552.here hx rfl (hb hby at_410) rfl ((if0 _ _).trans (feq (by decide : ¬ ((1 : Int32) = (0 : Int32)))).1) ?_
        refine XS.iload X552.here hx rfl (hb hby at_413) rfl ?_
        show oS p e below T552 m 415 #[iv x1, iv x2, iv (2 : Int32), iv (2 : Int32), rv b1, rv b4, rv b7, rv b13, rv b20, iv (1 : Int32), iv (2 : Int32), iv (0 : Int32), rv b13, .val .null, .val .null, rv b527, iv (1 : Int32)] [(.int (0 : Int32))] _
        refine XS.iconst X552.here hx rfl (hb hby at_415) ?_
        refine XS.iadd X552.here hx rfl (hb hby at_416) rfl ?_
        show oS p e below T552 m 417 #[iv x1, iv x2, iv (2 : Int32), iv (2 : Int32), rv b1, rv b4, rv b7, rv b13, rv b20, iv (1 : Int32), iv (2 : Int32), iv (0 : Int32), rv b13, .val .null, .val .null, rv b527, iv (1 : Int32)] [(.int (1 : Int32))] _
        refine XS.iconst X552.here hx rfl (hb hby at_417) ?_
        refine XS.icmpYes X552.here hx rfl (pc0 := 418) (pc' := 434) rfl (hb hby at_418) rfl (tlt (by decide : ((1 : Int32) < (2 : Int32)))).1 (by decide) (by decide) ?_
        refine XS.iconst X552.here hx rfl (hb hby at_434) ?_
        refine XS.goto X552.here hx rfl (pc0 := 435) (pc' := 439) rfl (hb hby at_435) (by decide) (by decide) ?_
        refine XS.istore X552.here hx rfl (hb hby at_439) rfl (l' := #[iv x1, iv x2, iv (2 : Int32), iv (2 : Int32), rv b1, rv b4, rv b7, rv b13, rv b20, iv (1 : Int32), iv (2 : Int32), iv (0 : Int32), rv b13, .val .null, .val .null, rv b527, iv (1 : Int32)]) rfl ?_
        refine XS.iload X552.here hx rfl (hb hby at_441) rfl ?_
        refine XS.ifNo X552.here hx rfl (hb hby at_443) rfl ((if0 _ _).trans (feq (by decide : ¬ ((1 : Int32) = (0 : Int32)))).1) ?_
        refine XS.iload X552.here hx rfl (hb hby at_446) rfl ?_
        show oS p e below T552 m 448 #[iv x1, iv x2, iv (2 : Int32), iv (2 : Int32), rv b1, rv b4, rv b7, rv b13, rv b20, iv (1 : Int32), iv (2 : Int32), iv (0 : Int32), rv b13, .val .null, .val .null, rv b527, iv (1 : Int32)] [(.int (0 : Int32))] _
        refine XS.iconst X552.here hx rfl (hb hby at_448) ?_
        refine XS.iadd X552.here hx rfl (hb hby at_449) rfl ?_
        show oS p e below T552 m 450 #[iv x1, iv x2, iv (2 : Int32), iv (2 : Int32), rv b1, rv b4, rv b7, rv b13, rv b20, iv (1 : Int32), iv (2 : Int32), iv (0 : Int32), rv b13, .val .null, .val .null, rv b527, iv (1 : Int32)] [(.int (1 : Int32))] _
        refine XS.iconst X552.here hx rfl (hb hby at_450) ?_
        refine XS.icmpYes X552.here hx rfl (pc0 := 451) (pc' := 467) rfl (hb hby at_451) rfl (tlt (by decide : ((1 : Int32) < (3 : Int32)))).1 (by decide) (by decide) ?_
        refine XS.iconst X552.here hx rfl (hb hby at_467) ?_
        refine XS.goto X552.here hx rfl (pc0 := 468) (pc' := 472) rfl (hb hby at_468) (by decide) (by decide) ?_
        refine XS.istore X552.here hx rfl (hb hby at_472) rfl (l' := #[iv x1, iv x2, iv (2 : Int32), iv (2 : Int32), rv b1, rv b4, rv b7, rv b13, rv b20, iv (1 : Int32), iv (2 : Int32), iv (0 : Int32), rv b13, .val .null, .val .null, rv b527, iv (1 : Int32)]) rfl ?_
        refine XS.iload X552.here hx rfl (hb hby at_474) rfl ?_
        exact kt
      obtain ⟨fs, hr, hrun, hended, hW, hsame⟩ := X552.leave (v := some (.int (1 : Int32))) (fun h => by rw [Bd.returns] at h; cases h)
      refine ⟨_, _, pre0 _ (pre32 _ (pre397 _ (pre556 _ ?_))), hrun, hended, _, _, rfl, ?_, ⟨_, rfl⟩, hW, hsame.mono (by decide) (by decide)⟩
      · show oS p e below T552 m 476 #[iv x1, iv x2, iv (2 : Int32), iv (2 : Int32), rv b1, rv b4, rv b7, rv b13, rv b20, iv (1 : Int32), iv (2 : Int32), iv (0 : Int32), rv b13, .val .null, .val .null, rv b527, iv (1 : Int32)] [(.int (1 : Int32))] _
        exact retN X552 hx (t := .boolean) Bd.returns (by simp) (hb hby at_476) hr
      · show Q0 Z x1 x2 h0 n0 _ T552.heap _
        rw [eh552]
        exact ⟨rfl, N552⟩
    · subst hn
      have Vc558 : Arv Z T384.heap b20 kk20 (.object oz0) (2 : Int32) [(.ref b4), (.ref b7)] .null := ((Va31.keep K375 (ninS (Ne.symm ne_b1_b20) (ninS (Ne.symm ne_b4_b20) nin0))).keep K384 (ninS (Ne.symm ne_b1_b20) (ninS (Ne.symm ne_b7_b20) (ninS (Ne.symm ne_b4_b20) nin0))))
      obtain ⟨_, _, ⟨T557, Lw557, kw557, nw557⟩, -, X557, ⟨Lc557, hQ557, l557, y557, z557⟩, st557⟩ := Jvm.LawKit.callS X392 hx (y := (⟨oz4, "step", oz3⟩ : MethodName)) hown (mvT hZ (own_w hw 50 rfl)) (mvT hZ (own_w hw 51 rfl)) (mvT hZ (own_w hw 29 rfl)) (mvT hZ (own_w hw 52 rfl)) (by decide) (backOf (W := 0) (rmT2_2_0 l Z a0 hw [] b1 b20 b4 b7 kk20 T384.heap n0 Zc396 Ec393 Ec394 Ec395 g_b1 g_b4 g_b7 ne_b4_b7 pf384_0 pf384_1 pf384_5 pf384_6 pf384_7 pf384_2 pf384_3 pf384_4 Vc558) hZ (own_w hw 52 rfl) (own_w hw 29 rfl) (by decide) (by decide)) (g := (mkF m 157 #[iv x1, iv x2, iv (2 : Int32), iv (3 : Int32), rv b1, rv b4, rv b7, rv b13, rv b20, iv (1 : Int32), .unset, .unset, .unset, .unset, .unset, .unset, .unset] [(.int (0 : Int32)), (.int (2 : Int32)), (.ref b20), (.ref b1)])) rfl (by rw [hml]; rfl) (argsL := [(.ref b1), (.ref b20), (.int (2 : Int32)), (.int (0 : Int32))]) (rest := []) (lenOf own_pd7 rfl) rfl (by show 2 * 0 + _ ≤ _; exact Nat.le_of_eq rfl) (hb hby at_157) (fun _ _ => ⟨rfl, eh392, (by decide : 5 + 0 ≤ _), (by decide : 34 + 0 ≤ _)⟩)
      dsimp only [Pt.U, Pt.locs, Pt.cells, Pt.slots] at X557 l557 y557 z557 st557 hQ557
      subst l557 y557 z557
      obtain ⟨rfl, Nq557, K557, pf557_0, pf557_1, pf557_2, pf557_3, pf557_4, pf557_5, pf557_6, pf557_7⟩ := hQ557
      have N557 := Fr.app N392 Nq557
      have Ec560 : Exa Z T557.heap b1 oz1 := (Ec393.keep K557)
      have Ec561 : Exa Z T557.heap b7 oz0 := (Ec395.keep K557)
      have Vc562 : Arv Z T557.heap b20 kk20 (.object oz0) (2 : Int32) [(.ref b4), (.ref b7)] .null := (Vc558.keep K557 (ninS (Ne.symm ne_b1_b20) (ninS (Ne.symm ne_b4_b20) (ninS (Ne.symm ne_b7_b20) nin0))))
      have Zc563 : n0 ≤ T557.heap.size := (Nat.le_trans Zc396 K557.1)
      obtain ⟨_, _, ⟨T559, Lw559, kw559, nw559⟩, -, X559, ⟨Lc559, hQ559, l559, y559, z559⟩, st559⟩ := Jvm.LawKit.callS X557 hx (y := (⟨oz4, "step", oz3⟩ : MethodName)) hown (mvT hZ (own_w hw 50 rfl)) (mvT hZ (own_w hw 51 rfl)) (mvT hZ (own_w hw 29 rfl)) (mvT hZ (own_w hw 52 rfl)) (by decide) (backOf (W := 0) (rmT2_2_1 l Z a0 hw [] b1 b20 b4 b7 kk20 T557.heap n0 Zc563 Ec560 Ec561 g_b1 g_b7 pf557_0 pf557_1 pf557_2 pf557_3 pf557_4 Vc562) hZ (own_w hw 52 rfl) (own_w hw 29 rfl) (by decide) (by decide)) (g := (mkF m 186 #[iv x1, iv x2, iv (2 : Int32), iv (3 : Int32), rv b1, rv b4, rv b7, rv b13, rv b20, iv (1 : Int32), .unset, .unset, .unset, .unset, .unset, .unset, .unset] [(.int (1 : Int32)), (.int (2 : Int32)), (.ref b20), (.ref b1)])) rfl (by rw [hml]; rfl) (argsL := [(.ref b1), (.ref b20), (.int (2 : Int32)), (.int (1 : Int32))]) (rest := []) (lenOf own_pd7 rfl) rfl (by show 2 * 0 + _ ≤ _; exact Nat.le_of_eq rfl) (hb hby at_186) (fun _ _ => ⟨rfl, rfl, (by decide : 5 + 0 ≤ _), (by decide : 34 + 0 ≤ _)⟩)
      dsimp only [Pt.U, Pt.locs, Pt.cells, Pt.slots] at X559 l559 y559 z559 st559 hQ559
      subst l559 y559 z559
      obtain ⟨rfl, Nq559, K559, pf559_0, pf559_1, pf559_2, pf559_3, pf559_4⟩ := hQ559
      have N559 := Fr.app N557 Nq559
      have Ec565 : Exa Z T559.heap b1 oz1 := (Ec560.keep K559)
      have Vc566 : Arv Z T559.heap b20 kk20 (.object oz0) (2 : Int32) [(.ref b4), (.ref b7)] .null := (Vc562.keep K559 (ninS (Ne.symm ne_b1_b20) (ninS (Ne.symm ne_b7_b20) nin0)))
      have Zc567 : n0 ≤ T559.heap.size := (Nat.le_trans Zc563 K559.1)
      obtain ⟨_, _, ⟨T564, Lw564, kw564, nw564⟩, -, X564, ⟨Lc564, hQ564, l564, y564, z564⟩, st564⟩ := Jvm.LawKit.callS X559 hx (y := (⟨oz4, "step", oz3⟩ : MethodName)) hown (mvT hZ (own_w hw 50 rfl)) (mvT hZ (own_w hw 51 rfl)) (mvT hZ (own_w hw 29 rfl)) (mvT hZ (own_w hw 52 rfl)) (by decide) (backOf (W := 0) (rmT2_2_2 l Z a0 hw [] b1 b20 b4 b7 kk20 T559.heap n0 Zc567 Ec565 pf559_0 pf559_1 Vc566) hZ (own_w hw 52 rfl) (own_w hw 29 rfl) (by decide) (by decide)) (g := (mkF m 215 #[iv x1, iv x2, iv (2 : Int32), iv (3 : Int32), rv b1, rv b4, rv b7, rv b13, rv b20, iv (1 : Int32), .unset, .unset, .unset, .unset, .unset, .unset, .unset] [(.int (2 : Int32)), (.int (2 : Int32)), (.ref b20), (.ref b1)])) rfl (by rw [hml]; rfl) (argsL := [(.ref b1), (.ref b20), (.int (2 : Int32)), (.int (2 : Int32))]) (rest := []) (lenOf own_pd7 rfl) rfl (by show 2 * 0 + _ ≤ _; exact Nat.le_of_eq rfl) (hb hby at_215) (fun _ _ => ⟨rfl, rfl, (by decide : 5 + 0 ≤ _), (by decide : 34 + 0 ≤ _)⟩)
      dsimp only [Pt.U, Pt.locs, Pt.cells, Pt.slots] at X564 l564 y564 z564 st564 hQ564
      subst l564 y564 z564
      obtain ⟨rfl, Nq564, eh564⟩ := hQ564
      have N564 := Fr.app N559 Nq564
      obtain ⟨_, _, ⟨T568, Lw568, kw568, nw568⟩, -, X568, ⟨Lc568, hQ568, l568, y568, z568⟩, st568⟩ := Jvm.LawKit.callS X564 hx (y := (⟨"java/lang/Math", "min", "(II)I"⟩ : MethodName)) hown (mvT hZ (own_w hw 58 rfl)) (mvT hZ (own_w hw 59 rfl)) (mvT hZ (own_w hw 60 rfl)) (mvT hZ (own_w hw 61 rfl)) (by decide) (backOf (W := 0) (rm10 l Z a0 hw [] (3 : Int32) (2 : Int32) T559.heap n0 Zc567 ) hZ (own_w hw 61 rfl) (own_w hw 60 rfl) (by decide) (by decide)) (g := (mkF m 237 #[iv x1, iv x2, iv (2 : Int32), iv (3 : Int32), rv b1, rv b4, rv b7, rv b13, rv b20, iv (1 : Int32), .unset, .unset, .unset, .unset, .unset, .unset, .unset] [(.int (2 : Int32)), (.int (3 : Int32))])) rfl (by rw [hml]; rfl) (argsL := [(.int (3 : Int32)), (.int (2 : Int32))]) (rest := []) (lenOf own_pd6 rfl) rfl (by show 2 * 0 + _ ≤ _; exact Nat.le_of_eq rfl) (hb hby at_237) (fun _ _ => ⟨rfl, eh564, (by decide : 5 + 0 ≤ _), (by decide : 34 + 0 ≤ _)⟩)
      dsimp only [Pt.U, Pt.locs, Pt.cells, Pt.slots] at X568 l568 y568 z568 st568 hQ568
      subst l568 y568 z568
      obtain ⟨rfl, Nq568, eh568⟩ := hQ568
      have N568 := Fr.app N564 Nq568
      have Ec570 : Exa Z T559.heap b13 oz0 := (((((((Ec25.ext E20).wr W28).wr W31).keep K375).keep K384).keep K557).keep K559)
      have Fc571 : Fld Z T559.heap b13 oz0 "in" oz6 .null := (((((((pf18_0.ext E20).other W28 (Or.inl ne_b13_b20)).other W31 (Or.inl ne_b13_b20)).keep K375 (ninS (Ne.symm ne_b1_b13) (ninS (Ne.symm ne_b4_b13) nin0))).keep K384 (ninS (Ne.symm ne_b1_b13) (ninS (Ne.symm ne_b7_b13) (ninS (Ne.symm ne_b4_b13) nin0)))).keep K557 (ninS (Ne.symm ne_b1_b13) (ninS (Ne.symm ne_b4_b13) (ninS (Ne.symm ne_b7_b13) nin0)))).keep K559 (ninS (Ne.symm ne_b1_b13) (ninS (Ne.symm ne_b7_b13) nin0)))
      have Fc572 : Fld Z T559.heap b13 oz0 "before" oz2 .null := (((((((pf18_1.ext E20).other W28 (Or.inl ne_b13_b20)).other W31 (Or.inl ne_b13_b20)).keep K375 (ninS (Ne.symm ne_b1_b13) (ninS (Ne.symm ne_b4_b13) nin0))).keep K384 (ninS (Ne.symm ne_b1_b13) (ninS (Ne.symm ne_b7_b13) (ninS (Ne.symm ne_b4_b13) nin0)))).keep K557 (ninS (Ne.symm ne_b1_b13) (ninS (Ne.symm ne_b4_b13) (ninS (Ne.symm ne_b7_b13) nin0)))).keep K559 (ninS (Ne.symm ne_b1_b13) (ninS (Ne.symm ne_b7_b13) nin0)))
      have Fc573 : Fld Z T559.heap b13 oz0 "after" oz2 .null := (((((((pf18_2.ext E20).other W28 (Or.inl ne_b13_b20)).other W31 (Or.inl ne_b13_b20)).keep K375 (ninS (Ne.symm ne_b1_b13) (ninS (Ne.symm ne_b4_b13) nin0))).keep K384 (ninS (Ne.symm ne_b1_b13) (ninS (Ne.symm ne_b7_b13) (ninS (Ne.symm ne_b4_b13) nin0)))).keep K557 (ninS (Ne.symm ne_b1_b13) (ninS (Ne.symm ne_b4_b13) (ninS (Ne.symm ne_b7_b13) nin0)))).keep K559 (ninS (Ne.symm ne_b1_b13) (ninS (Ne.symm ne_b7_b13) nin0)))
      obtain ⟨cq569, kq569, q569a, q569b, q569c⟩ := isOf hZ eh568 Ec565
      obtain ⟨_, _, ⟨T569, Lw569, kw569, nw569⟩, -, X569, ⟨Lc569, hQ569, l569, y569, z569⟩, st569⟩ := X568.virtualBack hx (y := (⟨oz1, "add", oz8⟩ : MethodName)) (z := (⟨oz1, "add", oz8⟩ : MethodName)) hown (mvT hZ (own_w hw 62 rfl)) (mvT hZ (own_w hw 63 rfl)) (notFace_of_selects (args := #[]) (mvT hZ (own_w hw 65 rfl))) (mvT hZ (own_w hw 65 rfl)) (mvT hZ (own_w hw 64 rfl)) (by decide) (backOf (W := 0) (rmA0 l Z a0 hw [] b1 b13 .null T559.heap n0 Zc567 Ec565 Ec570 g_b1 g_b13 pf559_0 pf559_1 Fc571 Fc572 Fc573) hZ (own_w hw 66 rfl) (own_w hw 3 rfl) (by decide) (by decide)) q569a q569c (g := (mkF m 252 #[iv x1, iv x2, iv (2 : Int32), iv (3 : Int32), rv b1, rv b4, rv b7, rv b13, rv b20, iv (1 : Int32), iv (2 : Int32), iv (0 : Int32), .unset, .unset, .unset, .unset, .unset] [(.ref b13), (.ref b1)])) rfl (by rw [hml]; rfl) (Steps.refl _) (argsL := [(.ref b13)]) (rest := []) (lenOf own_pd0 rfl) rfl (by show 2 * 0 + _ ≤ _; exact Nat.le_of_eq rfl) (hb hby at_252) (fun _ _ => ⟨rfl, eh568, (by decide : 5 + 0 ≤ _), (by decide : 34 + 0 ≤ _)⟩)
      dsimp only [Pt.U, Pt.locs, Pt.cells, Pt.slots] at X569 l569 y569 z569 st569 hQ569
      subst l569 y569 z569
      obtain ⟨rfl, Nq569, K569, pf569_0, pf569_1, pf569_2, pf569_3, pf569_4⟩ := hQ569
      have N569 := Fr.app N568 Nq569
      have Zc575 : n0 ≤ T569.heap.size := (Nat.le_trans Zc567 K569.1)
      have Ec576 : Exa Z T569.heap b1 oz1 := (Ec565.keep K569)
      have Ec577 : Exa Z T569.heap b4 oz0 := (((Ec394.keep K557).keep K559).keep K569)
      have Ec578 : Exa Z T569.heap b7 oz0 := ((Ec561.keep K559).keep K569)
      have Ec579 : Exa Z T569.heap b13 oz0 := (Ec570.keep K569)
      have Vc580 : Arv Z T569.heap b20 kk20 (.object oz0) (2 : Int32) [(.ref b4), (.ref b7)] .null := (Vc566.keep K569 (ninS (Ne.symm ne_b1_b20) (ninS (Ne.symm ne_b13_b20) nin0)))
      obtain ⟨T574, h574, kk574, X574, e574, E574, A574, O574, st574⟩ := newR X569 hx hZ hown (own_w hw 10 rfl) (own_w hw 25 rfl) rfl (g := (mkF m 318 #[iv x1, iv x2, iv (2 : Int32), iv (3 : Int32), rv b1, rv b4, rv b7, rv b13, rv b20, iv (1 : Int32), iv (2 : Int32), iv (0 : Int32), rv b13, .val .null, .val .null, .unset, .unset] [(.int (3 : Int32))])) rfl (hb hby at_318) rfl (by decide) (cap := 3) (by decide) (by decide) (by decide) (by decide)
      obtain ⟨b574, g574⟩ : ∃ z, z = T569.heap.size := ⟨_, rfl⟩
      rw [← g574] at A574 st574
      have g_b574 : n0 ≤ b574 := Nat.le_trans Zc575 (Nat.le_of_eq g574.symm)
      have ne_b1_b574 : b1 ≠ b574 := Nat.ne_of_lt (Nat.lt_of_lt_of_le Ec576.lt (Nat.le_of_eq g574.symm))
      have ne_b4_b574 : b4 ≠ b574 := Nat.ne_of_lt (Nat.lt_of_lt_of_le Ec577.lt (Nat.le_of_eq g574.symm))
      have ne_b7_b574 : b7 ≠ b574 := Nat.ne_of_lt (Nat.lt_of_lt_of_le Ec578.lt (Nat.le_of_eq g574.symm))
      have ne_b13_b574 : b13 ≠ b574 := Nat.ne_of_lt (Nat.lt_of_lt_of_le Ec579.lt (Nat.le_of_eq g574.symm))
      have ne_b20_b574 : b20 ≠ b574 := Nat.ne_of_lt (Nat.lt_of_lt_of_le Vc580.lt (Nat.le_of_eq g574.symm))
      have V_b574 : Arv Z h574 b574 kk574 (.object oz0) (3 : Int32) [.null, .null, .null] .null := (Arv.new A574 (by decide)).pad (pad_rep [] .null 3)
      have Ec581 : Exa Z h574 b13 oz0 := (Ec579.ext E574)
      obtain ⟨cl582, Ar582, qk582, Sz582, Ng582, Hs582, Gt582⟩ := id V_b574
      have hin582 : ¬ ((0 : Int32) < 0 ∨ cl582.slots.size ≤ ((0 : Int32)).toNatClampNeg) := inb_of Sz582 ⟨by decide, by decide⟩
      obtain ⟨T583, h583, X583, e583, W583, st583⟩ := stR X574 hx hZ e574 Ar582 (j := (0 : Int32)) hin582 rfl (Sto.ofV Ar582 qk582 O574 (Ins.self Ec581)) (g := (mkF m 325 #[iv x1, iv x2, iv (2 : Int32), iv (3 : Int32), rv b1, rv b4, rv b7, rv b13, rv b20, iv (1 : Int32), iv (2 : Int32), iv (0 : Int32), rv b13, .val .null, .val .null, .unset, .unset] [(.ref b13), (.int (0 : Int32)), (.ref b574), (.ref b574)])) rfl rfl (hb hby at_325)
      have Va583 : Arv Z h583 b574 kk574 (.object oz0) (3 : Int32) [(.ref b13), .null, .null] .null := Arv.set Ar582 qk582 Sz582 Ng582 Hs582 Gt582 rfl W583 0 rfl (Nat.le_of_ble_eq_true rfl)
      have N583 := Fr.snoc X583 N569 g_b574
      obtain ⟨cl584, Ar584, qk584, Sz584, Ng584, Hs584, Gt584⟩ := id Va583
      have hin584 : ¬ ((1 : Int32) < 0 ∨ cl584.slots.size ≤ ((1 : Int32)).toNatClampNeg) := inb_of Sz584 ⟨by decide, by decide⟩
      obtain ⟨T585, h585, X585, e585, W585, st585⟩ := stR X583 hx hZ e583 Ar584 (j := (1 : Int32)) hin584 rfl (Or.inl rfl) (g := (mkF m 330 #[iv x1, iv x2, iv (2 : Int32), iv (3 : Int32), rv b1, rv b4, rv b7, rv b13, rv b20, iv (1 : Int32), iv (2 : Int32), iv (0 : Int32), rv b13, .val .null, .val .null, .unset, .unset] [.null, (.int (1 : Int32)), (.ref b574), (.ref b574)])) rfl rfl (hb hby at_330)
      have Va585 : Arv Z h585 b574 kk574 (.object oz0) (3 : Int32) [(.ref b13), .null, .null] .null := Arv.set Ar584 qk584 Sz584 Ng584 Hs584 Gt584 rfl W585 1 rfl (Nat.le_of_ble_eq_true rfl)
      have N585 := Fr.snoc X585 N583 g_b574
      obtain ⟨cl586, Ar586, qk586, Sz586, Ng586, Hs586, Gt586⟩ := id Va585
      have hin586 : ¬ ((2 : Int32) < 0 ∨ cl586.slots.size ≤ ((2 : Int32)).toNatClampNeg) := inb_of Sz586 ⟨by decide, by decide⟩
      obtain ⟨T587, h587, X587, e587, W587, st587⟩ := stR X585 hx hZ e585 Ar586 (j := (2 : Int32)) hin586 rfl (Or.inl rfl) (g := (mkF m 335 #[iv x1, iv x2, iv (2 : Int32), iv (3 : Int32), rv b1, rv b4, rv b7, rv b13, rv b20, iv (1 : Int32), iv (2 : Int32), iv (0 : Int32), rv b13, .val .null, .val .null, .unset, .unset] [.null, (.int (2 : Int32)), (.ref b574), (.ref b574)])) rfl rfl (hb hby at_335)
      have Va587 : Arv Z h587 b574 kk574 (.object oz0) (3 : Int32) [(.ref b13), .null, .null] .null := Arv.set Ar586 qk586 Sz586 Ng586 Hs586 Gt586 rfl W587 2 rfl (Nat.le_of_ble_eq_true rfl)
      have N587 := Fr.snoc X587 N585 g_b574
      obtain ⟨cl588, Ar588, qk588, Sz588, Ng588, Hs588, Gt588⟩ := id Va587
      have hin588 : ¬ ((0 : Int32) < 0 ∨ cl588.slots.size ≤ ((0 : Int32)).toNatClampNeg) := inb_of Sz588 ⟨by decide, by decide⟩
      have hat588 : cl588.slots[((0 : Int32)).toNatClampNeg]? = some (.ref b13) := Hs588.at hin588 rfl
      have Ec590 : Exa Z h587 b1 oz1 := ((((Ec576.ext E574).wr W583).wr W585).wr W587)
      have Ec591 : Exa Z h587 b13 oz0 := (((Ec581.wr W583).wr W585).wr W587)
      have Fc592 : Fld Z h587 b1 oz1 "first" oz2 (.ref b13) := ((((pf569_0.ext E574).other W583 (Or.inl ne_b1_b574)).other W585 (Or.inl ne_b1_b574)).other W587 (Or.inl ne_b1_b574))
      have Fc593 : Fld Z h587 b1 oz1 "last" oz2 (.ref b13) := ((((pf569_1.ext E574).other W583 (Or.inl ne_b1_b574)).other W585 (Or.inl ne_b1_b574)).other W587 (Or.inl ne_b1_b574))
      have Fc594 : Fld Z h587 b13 oz0 "in" oz6 (.ref b1) := ((((pf569_2.ext E574).other W583 (Or.inl ne_b13_b574)).other W585 (Or.inl ne_b13_b574)).other W587 (Or.inl ne_b13_b574))
      have Fc595 : Fld Z h587 b13 oz0 "before" oz2 .null := ((((pf569_3.ext E574).other W583 (Or.inl ne_b13_b574)).other W585 (Or.inl ne_b13_b574)).other W587 (Or.inl ne_b13_b574))
      have Fc596 : Fld Z h587 b13 oz0 "after" oz2 .null := ((((pf569_4.ext E574).other W583 (Or.inl ne_b13_b574)).other W585 (Or.inl ne_b13_b574)).other W587 (Or.inl ne_b13_b574))
      have Zc597 : n0 ≤ h587.size := (Nat.le_trans (Nat.le_trans (Nat.le_trans (Nat.le_trans Zc575 E574.1) (Keep.of_wr W583).1) (Keep.of_wr W585).1) (Keep.of_wr W587).1)
      obtain ⟨_, _, ⟨T589, Lw589, kw589, nw589⟩, -, X589, ⟨Lc589, hQ589, l589, y589, z589⟩, st589⟩ := Jvm.LawKit.callS X587 hx (y := (⟨oz4, "state", oz5⟩ : MethodName)) hown (mvT hZ (own_w hw 27 rfl)) (mvT hZ (own_w hw 28 rfl)) (mvT hZ (own_w hw 29 rfl)) (mvT hZ (own_w hw 30 rfl)) (by decide) (backOf (W := 0) (rmS1 l Z a0 hw [] b1 b13 h587 n0 Zc597 Ec590 Ec591 Fc592 Fc593 Fc594 Fc595 Fc596) hZ (own_w hw 30 rfl) (own_w hw 29 rfl) (by decide) (by decide)) (g := (mkF m 353 #[iv x1, iv x2, iv (2 : Int32), iv (3 : Int32), rv b1, rv b4, rv b7, rv b13, rv b20, iv (1 : Int32), iv (2 : Int32), iv (0 : Int32), rv b13, .val .null, .val .null, rv b574, iv (1 : Int32)] [(.ref b13), (.ref b13), (.ref b1)])) rfl (by rw [hml]; rfl) (argsL := [(.ref b1), (.ref b13), (.ref b13)]) (rest := []) (lenOf own_pd5 rfl) rfl (by show 2 * 0 + _ ≤ _; exact Nat.le_of_eq rfl) (hb hby at_353) (fun _ _ => ⟨rfl, e587, (by decide : 6 + 0 ≤ _), (by decide : 37 + 0 ≤ _)⟩)
      dsimp only [Pt.U, Pt.locs, Pt.cells, Pt.slots] at X589 l589 y589 z589 st589 hQ589
      subst l589 y589 z589
      obtain ⟨rfl, Nq589, eh589⟩ := hQ589
      have N589 := Fr.app N587 Nq589
      obtain ⟨_, _, ⟨T598, Lw598, kw598, nw598⟩, -, X598, ⟨Lc598, hQ598, l598, y598, z598⟩, st598⟩ := Jvm.LawKit.callS X589 hx (y := (⟨oz4, "step", oz3⟩ : MethodName)) hown (mvT hZ (own_w hw 50 rfl)) (mvT hZ (own_w hw 51 rfl)) (mvT hZ (own_w hw 29 rfl)) (mvT hZ (own_w hw 52 rfl)) (by decide) (backOf (W := 0) (rmT3_1_0 l Z a0 hw [] b1 b574 b13 kk574 h587 n0 Zc597 Ec590 Ec591 g_b1 g_b13 Fc592 Fc593 Fc594 Fc595 Fc596 Va587) hZ (own_w hw 52 rfl) (own_w hw 29 rfl) (by decide) (by decide)) (g := (mkF m 370 #[iv x1, iv x2, iv (2 : Int32), iv (3 : Int32), rv b1, rv b4, rv b7, rv b13, rv b20, iv (1 : Int32), iv (2 : Int32), iv (0 : Int32), rv b13, .val .null, .val .null, rv b574, iv (1 : Int32)] [(.int (0 : Int32)), (.int (1 : Int32)), (.ref b574), (.ref b1)])) rfl (by rw [hml]; rfl) (argsL := [(.ref b1), (.ref b574), (.int (1 : Int32)), (.int (0 : Int32))]) (rest := []) (lenOf own_pd7 rfl) rfl (by show 2 * 0 + _ ≤ _; exact Nat.le_of_eq rfl) (hb hby at_370) (fun _ _ => ⟨rfl, eh589, (by decide : 6 + 0 ≤ _), (by decide : 37 + 0 ≤ _)⟩)
      dsimp only [Pt.U, Pt.locs, Pt.cells, Pt.slots] at X598 l598 y598 z598 st598 hQ598
      subst l598 y598 z598
      obtain ⟨rfl, Nq598, K598, pf598_0, pf598_1, pf598_2, pf598_3, pf598_4⟩ := hQ598
      have N598 := Fr.app N589 Nq598
      have Ec600 : Exa Z T598.heap b1 oz1 := (Ec590.keep K598)
      have Vc601 : Arv Z T598.heap b574 kk574 (.object oz0) (3 : Int32) [(.ref b13), .null, .null] .null := (Va587.keep K598 (ninS (Ne.symm ne_b1_b574) (ninS (Ne.symm ne_b13_b574) nin0)))
      have Zc602 : n0 ≤ T598.heap.size := (Nat.le_trans Zc597 K598.1)
      obtain ⟨_, _, ⟨T599, Lw599, kw599, nw599⟩, -, X599, ⟨Lc599, hQ599, l599, y599, z599⟩, st599⟩ := Jvm.LawKit.callS X598 hx (y := (⟨oz4, "step", oz3⟩ : MethodName)) hown (mvT hZ (own_w hw 50 rfl)) (mvT hZ (own_w hw 51 rfl)) (mvT hZ (own_w hw 29 rfl)) (mvT hZ (own_w hw 52 rfl)) (by decide) (backOf (W := 0) (rmT3_1_1 l Z a0 hw [] b1 b574 b13 kk574 T598.heap n0 Zc602 Ec600 pf598_0 pf598_1 Vc601) hZ (own_w hw 52 rfl) (own_w hw 29 rfl) (by decide) (by decide)) (g := (mkF m 395 #[iv x1, iv x2, iv (2 : Int32), iv (3 : Int32), rv b1, rv b4, rv b7, rv b13, rv b20, iv (1 : Int32), iv (2 : Int32), iv (0 : Int32), rv b13, .val .null, .val .null, rv b574, iv (1 : Int32)] [(.int (1 : Int32)), (.int (1 : Int32)), (.ref b574), (.ref b1)])) rfl (by rw [hml]; rfl) (argsL := [(.ref b1), (.ref b574), (.int (1 : Int32)), (.int (1 : Int32))]) (rest := []) (lenOf own_pd7 rfl) rfl (by show 2 * 0 + _ ≤ _; exact Nat.le_of_eq rfl) (hb hby at_395) (fun _ _ => ⟨rfl, rfl, (by decide : 6 + 0 ≤ _), (by decide : 37 + 0 ≤ _)⟩)
      dsimp only [Pt.U, Pt.locs, Pt.cells, Pt.slots] at X599 l599 y599 z599 st599 hQ599
      subst l599 y599 z599
      obtain ⟨rfl, Nq599, eh599⟩ := hQ599
      have N599 := Fr.app N598 Nq599
      have pre603 : ∀ tz, oS p e below T599 m 476 #[iv x1, iv x2, iv (2 : Int32), iv (3 : Int32), rv b1, rv b4, rv b7, rv b13, rv b20, iv (1 : Int32), iv (2 : Int32), iv (0 : Int32), rv b13, .val .null, .val .null, rv b574, iv (1 : Int32)] [(.int (1 : Int32))] tz → oS p e below T392 m 146 #[iv x1, iv x2, iv (2 : Int32), iv (3 : Int32), rv b1, rv b4, rv b7, rv b13, rv b20, iv (1 : Int32), .unset, .unset, .unset, .unset, .unset, .unset, .unset] [] tz := fun tz kt => by
        show oS p e below T392 m 146 #[iv x1, iv x2, iv (2 : Int32), iv (3 : Int32), rv b1, rv b4, rv b7, rv b13, rv b20, iv (1 : Int32), .unset, .unset, .unset, .unset, .unset, .unset, .unset] [] _
        refine XS.iloadN X392.here hx rfl (hb hby at_146) rfl ?_
        refine XS.iconst X392.here hx rfl (hb hby at_147) ?_
        refine XS.icmpNo X392.here hx rfl (hb hby at_148) rfl (flt (by decide : ¬ ((3 : Int32) < (1 : Int32)))).1 ?_
        refine XS.aload X392.here hx rfl (hb hby at_151) rfl rfl ?_
        refine XS.aload X392.here hx rfl (hb hby at_153) rfl rfl ?_
        refine XS.iloadN X392.here hx rfl (hb hby at_155) rfl ?_
        refine XS.iconst X392.here hx rfl (hb hby at_156) ?_
        show oS p e below T392 m 157 #[iv x1, iv x2, iv (2 : Int32), iv (3 : Int32), rv b1, rv b4, rv b7, rv b13, rv b20, iv (1 : Int32), .unset, .unset, .unset, .unset, .unset, .unset, .unset] [(.int (0 : Int32)), (.int (2 : Int32)), (.ref b20), (.ref b1)] _
        refine st557 _ ?_
        refine XS.ifNo X557.here hx rfl (hb hby at_160) rfl ((if0 _ _).trans (feq (by decide : ¬ ((1 : Int32) = (0 : Int32)))).1) ?_
        refine XS.iconst X557.here hx rfl (hb hby at_163) ?_
        refine XS.goto X557.here hx rfl (pc0 := 164) (pc' := 168) rfl (hb hby at_164) (by decide) (by decide) ?_
        refine XS.istore X557.here hx rfl (hb hby at_168) rfl (l' := #[iv x1, iv x2, iv (2 : Int32), iv (3 : Int32), rv b1, rv b4, rv b7, rv b13, rv b20, iv (1 : Int32), .unset, .unset, .unset, .unset, .unset, .unset, .unset]) rfl ?_
        refine XS.iload X557.here hx rfl (hb hby at_170) rfl ?_
        refine XS.ifNo X557.here hx rfl (hb hby at_172) rfl ((if0 _ _).trans (feq (by decide : ¬ ((1 : Int32) = (0 : Int32)))).1) ?_
        refine XS.iloadN X557.here hx rfl (hb hby at_175) rfl ?_
        show oS p e below T557 m 176 #[iv x1, iv x2, iv (2 : Int32), iv (3 : Int32), rv b1, rv b4, rv b7, rv b13, rv b20, iv (1 : Int32), .unset, .unset, .unset, .unset, .unset, .unset, .unset] [(.int (3 : Int32))] _
        refine XS.iconst X557.here hx rfl (hb hby at_176) ?_
        refine XS.icmpNo X557.here hx rfl (hb hby at_177) rfl (flt (by decide : ¬ ((3 : Int32) < (2 : Int32)))).1 ?_
        refine XS.aload X557.here hx rfl (hb hby at_180) rfl rfl ?_
        refine XS.aload X557.here hx rfl (hb hby at_182) rfl rfl ?_
        refine XS.iloadN X557.here hx rfl (hb hby at_184) rfl ?_
        refine XS.iconst X557.here hx rfl (hb hby at_185) ?_
        show oS p e below T557 m 186 #[iv x1, iv x2, iv (2 : Int32), iv (3 : Int32), rv b1, rv b4, rv b7, rv b13, rv b20, iv (1 : Int32), .unset, .unset, .unset, .unset, .unset, .unset, .unset] [(.int (1 : Int32)), (.int (2 : Int32)), (.ref b20), (.ref b1)] _
        refine st559 _ ?_
        refine XS.ifNo X559.here hx rfl (hb hby at_189) rfl ((if0 _ _).trans (feq (by decide : ¬ ((1 : Int32) = (0 : Int32)))).1) ?_
        refine XS.iconst X559.here hx rfl (hb hby at_192) ?_
        refine XS.goto X559.here hx rfl (pc0 := 193) (pc' := 197) rfl (hb hby at_193) (by decide) (by decide) ?_
        refine XS.istore X559.here hx rfl (hb hby at_197) rfl (l' := #[iv x1, iv x2, iv (2 : Int32), iv (3 : Int32), rv b1, rv b4, rv b7, rv b13, rv b20, iv (1 : Int32), .unset, .unset, .unset, .unset, .unset, .unset, .unset]) rfl ?_
        refine XS.iload X559.here hx rfl (hb hby at_199) rfl ?_
        refine XS.ifNo X559.here hx rfl (hb hby at_201) rfl ((if0 _ _).trans (feq (by decide : ¬ ((1 : Int32) = (0 : Int32)))).1) ?_
        refine XS.iloadN X559.here hx rfl (hb hby at_204) rfl ?_
        show oS p e below T559 m 205 #[iv x1, iv x2, iv (2 : Int32), iv (3 : Int32), rv b1, rv b4, rv b7, rv b13, rv b20, iv (1 : Int32), .unset, .unset, .unset, .unset, .unset, .unset, .unset] [(.int (3 : Int32))] _
        refine XS.iconst X559.here hx rfl (hb hby at_205) ?_
        refine XS.icmpNo X559.here hx rfl (hb hby at_206) rfl (flt (by decide : ¬ ((3 : Int32) < (3 : Int32)))).1 ?_
        refine XS.aload X559.here hx rfl (hb hby at_209) rfl rfl ?_
        refine XS.aload X559.here hx rfl (hb hby at_211) rfl rfl ?_
        refine XS.iloadN X559.here hx rfl (hb hby at_213) rfl ?_
        refine XS.iconst X559.here hx rfl (hb hby at_214) ?_
        show oS p e below T559 m 215 #[iv x1, iv x2, iv (2 : Int32), iv (3 : Int32), rv b1, rv b4, rv b7, rv b13, rv b20, iv (1 : Int32), .unset, .unset, .unset, .unset, .unset, .unset, .unset] [(.int (2 : Int32)), (.int (2 : Int32)), (.ref b20), (.ref b1)] _
        refine st564 _ ?_
        refine XS.ifNo X564.here hx rfl (hb hby at_218) rfl ((if0 _ _).trans (feq (by decide : ¬ ((1 : Int32) = (0 : Int32)))).1) ?_
        refine XS.iconst X564.here hx rfl (hb hby at_221) ?_
        refine XS.goto X564.here hx rfl (pc0 := 222) (pc' := 226) rfl (hb hby at_222) (by decide) (by decide) ?_
        refine XS.istore X564.here hx rfl (hb hby at_226) rfl (l' := #[iv x1, iv x2, iv (2 : Int32), iv (3 : Int32), rv b1, rv b4, rv b7, rv b13, rv b20, iv (1 : Int32), .unset, .unset, .unset, .unset, .unset, .unset, .unset]) rfl ?_
        refine XS.iload X564.here hx rfl (hb hby at_228) rfl ?_
        refine XS.ifYes X564.here hx rfl (pc0 := 230) (pc' := 235) rfl (hb hby at_230) rfl ((if0 _ _).trans (feq (by decide : ¬ ((1 : Int32) = (0 : Int32)))).2) (by decide) (by decide) ?_
        refine XS.iloadN X564.here hx rfl (hb hby at_235) rfl ?_
        show oS p e below T564 m 236 #[iv x1, iv x2, iv (2 : Int32), iv (3 : Int32), rv b1, rv b4, rv b7, rv b13, rv b20, iv (1 : Int32), .unset, .unset, .unset, .unset, .unset, .unset, .unset] [(.int (3 : Int32))] _
        refine XS.iloadN X564.here hx rfl (hb hby at_236) rfl ?_
        show oS p e below T564 m 237 #[iv x1, iv x2, iv (2 : Int32), iv (3 : Int32), rv b1, rv b4, rv b7, rv b13, rv b20, iv (1 : Int32), .unset, .unset, .unset, .unset, .unset, .unset, .unset] [(.int (2 : Int32)), (.int (3 : Int32))] _
        refine st568 _ ?_
        rw [((if_pos (by decide : (2 : Int32) < (3 : Int32))) : (if (2 : Int32) < (3 : Int32) then (2 : Int32) else (3 : Int32)) = (2 : Int32))]
        show oS p e below T568 m 240 #[iv x1, iv x2, iv (2 : Int32), iv (3 : Int32), rv b1, rv b4, rv b7, rv b13, rv b20, iv (1 : Int32), .unset, .unset, .unset, .unset, .unset, .unset, .unset] [(.int (2 : Int32))] _
        refine XS.istore X568.here hx rfl (hb hby at_240) rfl (l' := #[iv x1, iv x2, iv (2 : Int32), iv (3 : Int32), rv b1, rv b4, rv b7, rv b13, rv b20, iv (1 : Int32), iv (2 : Int32), .unset, .unset, .unset, .unset, .unset, .unset]) rfl ?_
        refine XS.iloadN X568.here hx rfl (hb hby at_242) rfl ?_
        refine XS.iload X568.here hx rfl (hb hby at_243) rfl ?_
        refine XS.isub X568.here hx rfl (hb hby at_245) rfl ?_
        show oS p e below T568 m 246 #[iv x1, iv x2, iv (2 : Int32), iv (3 : Int32), rv b1, rv b4, rv b7, rv b13, rv b20, iv (1 : Int32), iv (2 : Int32), .unset, .unset, .unset, .unset, .unset, .unset] [(.int (0 : Int32))] _
        refine XS.istore X568.here hx rfl (hb hby at_246) rfl (l' := #[iv x1, iv x2, iv (2 : Int32), iv (3 : Int32), rv b1, rv b4, rv b7, rv b13, rv b20, iv (1 : Int32), iv (2 : Int32), iv (0 : Int32), .unset, .unset, .unset, .unset, .unset]) rfl ?_
        refine XS.aload X568.here hx rfl (hb hby at_248) rfl rfl ?_
        refine XS.aload X568.here hx rfl (hb hby at_250) rfl rfl ?_
        show oS p e below T568 m 252 #[iv x1, iv x2, iv (2 : Int32), iv (3 : Int32), rv b1, rv b4, rv b7, rv b13, rv b20, iv (1 : Int32), iv (2 : Int32), iv (0 : Int32), .unset, .unset, .unset, .unset, .unset] [(.ref b13), (.ref b1)] _
        refine st569.trans ?_
        refine XS.iload X569.here hx rfl (hb hby at_255) rfl ?_
        refine XS.iconst X569.here hx rfl (hb hby at_257) ?_
        refine XS.icmpYes X569.here hx rfl (pc0 := 258) (pc' := 269) rfl (hb hby at_258) rfl (tlt (by decide : ((0 : Int32) < (1 : Int32)))).1 (by decide) (by decide) ?_
        refine XS.aload X569.here hx rfl (hb hby at_269) rfl rfl ?_
        refine XS.astore X569.here hx rfl (hb hby at_271) rfl rfl (l' := #[iv x1, iv x2, iv (2 : Int32), iv (3 : Int32), rv b1, rv b4, rv b7, rv b13, rv b20, iv (1 : Int32), iv (2 : Int32), iv (0 : Int32), rv b13, .unset, .unset, .unset, .unset]) rfl ?_
        refine XS.iload X569.here hx rfl (hb hby at_273) rfl ?_
        refine XS.iconst X569.here hx rfl (hb hby at_275) ?_
        show oS p e below T569 m 276 #[iv x1, iv x2, iv (2 : Int32), iv (3 : Int32), rv b1, rv b4, rv b7, rv b13, rv b20, iv (1 : Int32), iv (2 : Int32), iv (0 : Int32), rv b13, .unset, .unset, .unset, .unset] [(.int (2 : Int32)), (.int (0 : Int32))] _
        refine XS.icmpYes X569.here hx rfl (pc0 := 276) (pc' := 289) rfl (hb hby at_276) rfl (tlt (by decide : ((0 : Int32) < (2 : Int32)))).1 (by decide) (by decide) ?_
        refine XS.iload X569.here hx rfl (hb hby at_289) rfl ?_
        refine XS.iconst X569.here hx rfl (hb hby at_291) ?_
        refine XS.icmpYes X569.here hx rfl (pc0 := 292) (pc' := 300) rfl (hb hby at_292) rfl (feq (by decide : ¬ ((0 : Int32) = (1 : Int32)))).2 (by decide) (by decide) ?_
        refine XS.aconstNull X569.here hx rfl (hb hby at_300) ?_
        refine XS.astore X569.here hx rfl (hb hby at_301) rfl rfl (l' := #[iv x1, iv x2, iv (2 : Int32), iv (3 : Int32), rv b1, rv b4, rv b7, rv b13, rv b20, iv (1 : Int32), iv (2 : Int32), iv (0 : Int32), rv b13, .val .null, .unset, .unset, .unset]) rfl ?_
        refine XS.iload X569.here hx rfl (hb hby at_303) rfl ?_
        refine XS.iconst X569.here hx rfl (hb hby at_305) ?_
        show oS p e below T569 m 306 #[iv x1, iv x2, iv (2 : Int32), iv (3 : Int32), rv b1, rv b4, rv b7, rv b13, rv b20, iv (1 : Int32), iv (2 : Int32), iv (0 : Int32), rv b13, .val .null, .unset, .unset, .unset] [(.int (2 : Int32)), (.int (0 : Int32))] _
        refine XS.icmpYes X569.here hx rfl (pc0 := 306) (pc' := 314) rfl (hb hby at_306) rfl (feq (by decide : ¬ ((0 : Int32) = (2 : Int32)))).2 (by decide) (by decide) ?_
        refine XS.aconstNull X569.here hx rfl (hb hby at_314) ?_
        refine XS.astore X569.here hx rfl (hb hby at_315) rfl rfl (l' := #[iv x1, iv x2, iv (2 : Int32), iv (3 : Int32), rv b1, rv b4, rv b7, rv b13, rv b20, iv (1 : Int32), iv (2 : Int32), iv (0 : Int32), rv b13, .val .null, .val .null, .unset, .unset]) rfl ?_
        refine XS.iconst X569.here hx rfl (hb hby at_317) ?_
        show oS p e below T569 m 318 #[iv x1, iv x2, iv (2 : Int32), iv (3 : Int32), rv b1, rv b4, rv b7, rv b13, rv b20, iv (1 : Int32), iv (2 : Int32), iv (0 : Int32), rv b13, .val .null, .val .null, .unset, .unset] [(.int (3 : Int32))] _
        refine st574 _ ?_
        refine XS.dup X574.here hx rfl (hb hby at_321) rfl rfl ?_
        refine XS.iconst X574.here hx rfl (hb hby at_322) ?_
        refine XS.aload X574.here hx rfl (hb hby at_323) rfl rfl ?_
        show oS p e below T574 m 325 #[iv x1, iv x2, iv (2 : Int32), iv (3 : Int32), rv b1, rv b4, rv b7, rv b13, rv b20, iv (1 : Int32), iv (2 : Int32), iv (0 : Int32), rv b13, .val .null, .val .null, .unset, .unset] [(.ref b13), (.int (0 : Int32)), (.ref b574), (.ref b574)] _
        refine st583 _ ?_
        refine XS.dup X583.here hx rfl (hb hby at_326) rfl rfl ?_
        refine XS.iconst X583.here hx rfl (hb hby at_327) ?_
        refine XS.aload X583.here hx rfl (hb hby at_328) rfl rfl ?_
        show oS p e below T583 m 330 #[iv x1, iv x2, iv (2 : Int32), iv (3 : Int32), rv b1, rv b4, rv b7, rv b13, rv b20, iv (1 : Int32), iv (2 : Int32), iv (0 : Int32), rv b13, .val .null, .val .null, .unset, .unset] [.null, (.int (1 : Int32)), (.ref b574), (.ref b574)] _
        refine st585 _ ?_
        refine XS.dup X585.here hx rfl (hb hby at_331) rfl rfl ?_
        refine XS.iconst X585.here hx rfl (hb hby at_332) ?_
        refine XS.aload X585.here hx rfl (hb hby at_333) rfl rfl ?_
        show oS p e below T585 m 335 #[iv x1, iv x2, iv (2 : Int32), iv (3 : Int32), rv b1, rv b4, rv b7, rv b13, rv b20, iv (1 : Int32), iv (2 : Int32), iv (0 : Int32), rv b13, .val .null, .val .null, .unset, .unset] [.null, (.int (2 : Int32)), (.ref b574), (.ref b574)] _
        refine st587 _ ?_
        refine XS.astore X587.here hx rfl (hb hby at_336) rfl rfl (l' := #[iv x1, iv x2, iv (2 : Int32), iv (3 : Int32), rv b1, rv b4, rv b7, rv b13, rv b20, iv (1 : Int32), iv (2 : Int32), iv (0 : Int32), rv b13, .val .null, .val .null, rv b574, .unset]) rfl ?_
        refine XS.iload X587.here hx rfl (hb hby at_338) rfl ?_
        refine XS.iconst X587.here hx rfl (hb hby at_340) ?_
        refine XS.iadd X587.here hx rfl (hb hby at_341) rfl ?_
        show oS p e below T587 m 342 #[iv x1, iv x2, iv (2 : Int32), iv (3 : Int32), rv b1, rv b4, rv b7, rv b13, rv b20, iv (1 : Int32), iv (2 : Int32), iv (0 : Int32), rv b13, .val .null, .val .null, rv b574, .unset] [(.int (1 : Int32))] _
        refine XS.istore X587.here hx rfl (hb hby at_342) rfl (l' := #[iv x1, iv x2, iv (2 : Int32), iv (3 : Int32), rv b1, rv b4, rv b7, rv b13, rv b20, iv (1 : Int32), iv (2 : Int32), iv (0 : Int32), rv b13, .val .null, .val .null, rv b574, iv (1 : Int32)]) rfl ?_
        refine XS.aload X587.here hx rfl (hb hby at_344) rfl rfl ?_
        refine XS.aload X587.here hx rfl (hb hby at_346) rfl rfl ?_
        refine XS.aload X587.here hx rfl (hb hby at_348) rfl rfl ?_
        refine XS.iload X587.here hx rfl (hb hby at_350) rfl ?_
        refine X587.aaload hx (j := (0 : Int32)) (v := (.ref b13)) (by rw [e587]; exact Ar588.1) (State.isArrayOf_alike hZ.alike Ar588.2.1) rfl Ar588.2.2 hin588 hat588 (g := (mkF m 352 #[iv x1, iv x2, iv (2 : Int32), iv (3 : Int32), rv b1, rv b4, rv b7, rv b13, rv b20, iv (1 : Int32), iv (2 : Int32), iv (0 : Int32), rv b13, .val .null, .val .null, rv b574, iv (1 : Int32)] [(.int (0 : Int32)), (.ref b574), (.ref b13), (.ref b1)])) rfl rfl (hb hby at_352) _ ?_
        show oS p e below T587 m 353 #[iv x1, iv x2, iv (2 : Int32), iv (3 : Int32), rv b1, rv b4, rv b7, rv b13, rv b20, iv (1 : Int32), iv (2 : Int32), iv (0 : Int32), rv b13, .val .null, .val .null, rv b574, iv (1 : Int32)] [(.ref b13), (.ref b13), (.ref b1)] _
        refine st589 _ ?_
        refine XS.istore X589.here hx rfl (hb hby at_356) rfl (l' := #[iv x1, iv x2, iv (2 : Int32), iv (3 : Int32), rv b1, rv b4, rv b7, rv b13, rv b20, iv (1 : Int32), iv (2 : Int32), iv (0 : Int32), rv b13, .val .null, .val .null, rv b574, iv (1 : Int32)]) rfl ?_
        refine XS.iload X589.here hx rfl (hb hby at_358) rfl ?_
        refine XS.ifNo X589.here hx rfl (hb hby at_360) rfl ((if0 _ _).trans (feq (by decide : ¬ ((1 : Int32) = (0 : Int32)))).1) ?_
        refine XS.aload X589.here hx rfl (hb hby at_363) rfl rfl ?_
        refine XS.aload X589.here hx rfl (hb hby at_365) rfl rfl ?_
        refine XS.iload X589.here hx rfl (hb hby at_367) rfl ?_
        refine XS.iconst X589.here hx rfl (hb hby at_369) ?_
        show oS p e below T589 m 370 #[iv x1, iv x2, iv (2 : Int32), iv (3 : Int32), rv b1, rv b4, rv b7, rv b13, rv b20, iv (1 : Int32), iv (2 : Int32), iv (0 : Int32), rv b13, .val .null, .val .null, rv b574, iv (1 : Int32)] [(.int (0 : Int32)), (.int (1 : Int32)), (.ref b574), (.ref b1)] _
        refine st598 _ ?_
        refine XS.ifNo X598.here hx rfl (hb hby at_373) rfl ((if0 _ _).trans (feq (by decide : ¬ ((1 : Int32) = (0 : Int32)))).1) ?_
        refine XS.iconst X598.here hx rfl (hb hby at_376) ?_
        refine XS.goto X598.here hx rfl (pc0 := 377) (pc' := 381) rfl (hb hby at_377) (by decide) (by decide) ?_
        refine XS.istore X598.here hx rfl (hb hby at_381) rfl (l' := #[iv x1, iv x2, iv (2 : Int32), iv (3 : Int32), rv b1, rv b4, rv b7, rv b13, rv b20, iv (1 : Int32), iv (2 : Int32), iv (0 : Int32), rv b13, .val .null, .val .null, rv b574, iv (1 : Int32)]) rfl ?_
        refine XS.iload X598.here hx rfl (hb hby at_383) rfl ?_
        refine XS.ifNo X598.here hx rfl (hb hby at_385) rfl ((if0 _ _).trans (feq (by decide : ¬ ((1 : Int32) = (0 : Int32)))).1) ?_
        refine XS.aload X598.here hx rfl (hb hby at_388) rfl rfl ?_
        show oS p e below T598 m 390 #[iv x1, iv x2, iv (2 : Int32), iv (3 : Int32), rv b1, rv b4, rv b7, rv b13, rv b20, iv (1 : Int32), iv (2 : Int32), iv (0 : Int32), rv b13, .val .null, .val .null, rv b574, iv (1 : Int32)] [(.ref b1)] _
        refine XS.aload X598.here hx rfl (hb hby at_390) rfl rfl ?_
        refine XS.iload X598.here hx rfl (hb hby at_392) rfl ?_
        refine XS.iconst X598.here hx rfl (hb hby at_394) ?_
        show oS p e below T598 m 395 #[iv x1, iv x2, iv (2 : Int32), iv (3 : Int32), rv b1, rv b4, rv b7, rv b13, rv b20, iv (1 : Int32), iv (2 : Int32), iv (0 : Int32), rv b13, .val .null, .val .null, rv b574, iv (1 : Int32)] [(.int (1 : Int32)), (.int (1 : Int32)), (.ref b574), (.ref b1)] _
        refine st599 _ ?_
        refine XS.ifNo X599.here hx rfl (hb hby at_398) rfl ((if0 _ _).trans (feq (by decide : ¬ ((1 : Int32) = (0 : Int32)))).1) ?_
        refine XS.iconst X599.here hx rfl (hb hby at_401) ?_
        refine XS.goto X599.here hx rfl (pc0 := 402) (pc' := 406) rfl (hb hby at_402) (by decide) (by decide) ?_
        refine XS.istore X599.here hx rfl (hb hby at_406) rfl (l' := #[iv x1, iv x2, iv (2 : Int32), iv (3 : Int32), rv b1, rv b4, rv b7, rv b13, rv b20, iv (1 : Int32), iv (2 : Int32), iv (0 : Int32), rv b13, .val .null, .val .null, rv b574, iv (1 : Int32)]) rfl ?_
        refine XS.iload X599.here hx rfl (hb hby at_408) rfl ?_
        refine XS.ifNo X599.here hx rfl (hb hby at_410) rfl ((if0 _ _).trans (feq (by decide : ¬ ((1 : Int32) = (0 : Int32)))).1) ?_
        refine XS.iload X599.here hx rfl (hb hby at_413) rfl ?_
        show oS p e below T599 m 415 #[iv x1, iv x2, iv (2 : Int32), iv (3 : Int32), rv b1, rv b4, rv b7, rv b13, rv b20, iv (1 : Int32), iv (2 : Int32), iv (0 : Int32), rv b13, .val .null, .val .null, rv b574, iv (1 : Int32)] [(.int (0 : Int32))] _
        refine XS.iconst X599.here hx rfl (hb hby at_415) ?_
        refine XS.iadd X599.here hx rfl (hb hby at_416) rfl ?_
        show oS p e below T599 m 417 #[iv x1, iv x2, iv (2 : Int32), iv (3 : Int32), rv b1, rv b4, rv b7, rv b13, rv b20, iv (1 : Int32), iv (2 : Int32), iv (0 : Int32), rv b13, .val .null, .val .null, rv b574, iv (1 : Int32)] [(.int (1 : Int32))] _
        refine XS.iconst X599.here hx rfl (hb hby at_417) ?_
        refine XS.icmpYes X599.here hx rfl (pc0 := 418) (pc' := 434) rfl (hb hby at_418) rfl (tlt (by decide : ((1 : Int32) < (2 : Int32)))).1 (by decide) (by decide) ?_
        refine XS.iconst X599.here hx rfl (hb hby at_434) ?_
        refine XS.goto X599.here hx rfl (pc0 := 435) (pc' := 439) rfl (hb hby at_435) (by decide) (by decide) ?_
        refine XS.istore X599.here hx rfl (hb hby at_439) rfl (l' := #[iv x1, iv x2, iv (2 : Int32), iv (3 : Int32), rv b1, rv b4, rv b7, rv b13, rv b20, iv (1 : Int32), iv (2 : Int32), iv (0 : Int32), rv b13, .val .null, .val .null, rv b574, iv (1 : Int32)]) rfl ?_
        refine XS.iload X599.here hx rfl (hb hby at_441) rfl ?_
        refine XS.ifNo X599.here hx rfl (hb hby at_443) rfl ((if0 _ _).trans (feq (by decide : ¬ ((1 : Int32) = (0 : Int32)))).1) ?_
        refine XS.iload X599.here hx rfl (hb hby at_446) rfl ?_
        show oS p e below T599 m 448 #[iv x1, iv x2, iv (2 : Int32), iv (3 : Int32), rv b1, rv b4, rv b7, rv b13, rv b20, iv (1 : Int32), iv (2 : Int32), iv (0 : Int32), rv b13, .val .null, .val .null, rv b574, iv (1 : Int32)] [(.int (0 : Int32))] _
        refine XS.iconst X599.here hx rfl (hb hby at_448) ?_
        refine XS.iadd X599.here hx rfl (hb hby at_449) rfl ?_
        show oS p e below T599 m 450 #[iv x1, iv x2, iv (2 : Int32), iv (3 : Int32), rv b1, rv b4, rv b7, rv b13, rv b20, iv (1 : Int32), iv (2 : Int32), iv (0 : Int32), rv b13, .val .null, .val .null, rv b574, iv (1 : Int32)] [(.int (1 : Int32))] _
        refine XS.iconst X599.here hx rfl (hb hby at_450) ?_
        refine XS.icmpYes X599.here hx rfl (pc0 := 451) (pc' := 467) rfl (hb hby at_451) rfl (tlt (by decide : ((1 : Int32) < (3 : Int32)))).1 (by decide) (by decide) ?_
        refine XS.iconst X599.here hx rfl (hb hby at_467) ?_
        refine XS.goto X599.here hx rfl (pc0 := 468) (pc' := 472) rfl (hb hby at_468) (by decide) (by decide) ?_
        refine XS.istore X599.here hx rfl (hb hby at_472) rfl (l' := #[iv x1, iv x2, iv (2 : Int32), iv (3 : Int32), rv b1, rv b4, rv b7, rv b13, rv b20, iv (1 : Int32), iv (2 : Int32), iv (0 : Int32), rv b13, .val .null, .val .null, rv b574, iv (1 : Int32)]) rfl ?_
        refine XS.iload X599.here hx rfl (hb hby at_474) rfl ?_
        exact kt
      obtain ⟨fs, hr, hrun, hended, hW, hsame⟩ := X599.leave (v := some (.int (1 : Int32))) (fun h => by rw [Bd.returns] at h; cases h)
      refine ⟨_, _, pre0 _ (pre32 _ (pre397 _ (pre603 _ ?_))), hrun, hended, _, _, rfl, ?_, ⟨_, rfl⟩, hW, hsame.mono (by decide) (by decide)⟩
      · show oS p e below T599 m 476 #[iv x1, iv x2, iv (2 : Int32), iv (3 : Int32), rv b1, rv b4, rv b7, rv b13, rv b20, iv (1 : Int32), iv (2 : Int32), iv (0 : Int32), rv b13, .val .null, .val .null, rv b574, iv (1 : Int32)] [(.int (1 : Int32))] _
        exact retN X599 hx (t := .boolean) Bd.returns (by simp) (hb hby at_476) hr
      · show Q0 Z x1 x2 h0 n0 _ T599.heap _
        rw [eh599]
        exact ⟨rfl, N599⟩
set_option maxRecDepth 65536 in
set_option maxHeartbeats 40000000 in
theorem comes_1 {Post : Tables → Env → Array Value → State → Outcome → State → Prop} (hpost : ∀ tb e args s v u, (limb_1_1.after args s (.returned v) u = true ∧ limb_1_2.after args s (.returned v) u = true ∧ True) → FrameEnd s (.returned v) u (Jvm.fieldLocs frame_1_writes args s ++ Jvm.arrayLocs frame_1_arrays args s ++ Jvm.staticLocs frame_1_statics s) 24 192 → Post tb e args s (.returned v) u) :
    ArmFor flags0 classFile x code maxLocals ret World_1 tables_1 room_1 Calls_1 rest_1 Pre_1 Post := by
  intro l hfl _ _ p e ha hc hk s m args below hf hA hF happ hP
  obtain ⟨hcalls, hrest, hpre⟩ := hP
  obtain ⟨-, -, -, hnamed, -, -, -, hat⟩ := (Spec.applies_iff hf).mp happ
  obtain ⟨hg, hn⟩ := and_e (Cond.before_iff.mp (show (Jvm.Cond.and given_1 narrow_1).before args s = true from hpre))
  obtain ⟨gc, gr0⟩ := and_e hg
  obtain ⟨ga0, gr1⟩ := and_e gr0
  have ga1 := gr1
  obtain ⟨w0, w1, rfl⟩ : ∃ w0 w1 : Value, args = #[w0, w1] := by
    have hs : args.size = 2 := by simpa [Cond.value, given_1] using gc
    obtain ⟨L⟩ := args
    match L, hs with
    | [w0, w1], _ => exact ⟨w0, w1, rfl⟩
  have hw := fun d (hd : d ∈ tables_1) => atoms_spec (ws := Jvm.Cond.code x code maxLocals ret :: tables_1) hat d (List.mem_cons_of_mem _ hd)
  obtain ⟨i0, ei0⟩ := is_v ga0
  obtain rfl : w0 = (.int i0) := Option.some.inj ei0
  obtain ⟨i1, ei1⟩ := is_v ga1
  obtain rfl : w1 = (.int i1) := Option.some.inj ei1
  obtain ⟨n, o, h1, h2, h3, _, L, rfl, ⟨rfl, N⟩, hq⟩ := rm0 l s _ hw tables_1 i0 i1 s.heap s.heap.size (Nat.le_refl _)  p e ha hc hk s m _ below hf ((Spec.applies_iff_loose hf).mp happ).1 ⟨rfl, State.Warmed39.refl s, rfl⟩ trivial
  refine ⟨n, _, h1, h2, h3, hpost _ _ _ _ _ _ ⟨Cond.after_iff.mpr rfl, Cond.after_iff.mpr (eq_i res_at (Term.int_eval (1)) rfl), trivial⟩ ⟨hq.1, hq.2.1, (hq.2.2.sift fun y hy => Or.inr (N y hy)).mono (by decide) (by decide)⟩⟩
theorem main_1_1 : Claimed_1_1 := comes_1 fun _ _ _ _ _ _ h hF => ⟨h.1, hF⟩
theorem main_1_2 : Claimed_1_2 := comes_1 fun _ _ _ _ _ _ h hF => ⟨h.2.1, hF⟩
end Jvm.Pilot.@@N@@
namespace Jvm.Pilot.@@N@@
open Jvm Jvm.ClassFile Sem Op Lib Jvm.Free Jvm.Stand Jvm.Pilot.@@N@@.Jvm.D
/-! MADE BY PROGRAM (witnessworld.py) out of the Statement's table words and the real class files: 12 classes; the members and pool entries that the words name. The judged class is class 1, her method 1. -/
namespace start1
open Jvm.ClassFile
def u (s : String) : CpInfo := .utf8 (stringToUtf16 s)
/-- a pool by its gaps: so many unusable entries, then the entry; so many at the end -/
def gap : Nat → List CpInfo → List CpInfo
  | 0, r => r
  | n + 1, r => .unusable :: gap n r
def poolList (es : List (Nat × CpInfo)) (last : Nat) : List CpInfo := es.foldr (fun e r => gap e.1 (e.2 :: r)) (gap last [])
def pool (es : List (Nat × CpInfo)) (last : Nat) : Array CpInfo := ⟨poolList es last⟩
def fileOf (pool : Array CpInfo) (this : Nat) (attrs : Array Attribute := #[]) (ms : Array MethodInfo := #[]) (fl : Nat := 33) (sup : Nat := 0) (ifs : Array Nat := #[]) (fds : Array FieldInfo := #[]) : ClassFile where
  minorVersion := 0
  majorVersion := 65
  constantPool := pool
  accessFlags := fl
  thisClass := this
  superClass := sup
  interfaces := ifs
  fields := fds
  methods := ms
  attributes := attrs
def plain (name : String) (sup : Option ClassId) : Class where
  name := name
  kind := .ordinary
  loader := none
  accessFlags := 33
  super := sup
  interfaces := #[]
  cf := none
  fields := #[]
  methods := #[]
  instanceTypes := #[]
  staticTypes := #[]
  resolved := #[]
  callSites := []
  init := .initialized
  statics := none
  mirror := none

def pool0 : Array CpInfo := pool [(5, u "<init>"), (0, u "()V"), (1, .class_ 10), (1, u "java/lang/Object")] 113

def k0c0 : Code := { maxStack := 0, maxLocals := 1, code := object_method_1_code, exceptionTable := #[], attributes := #[] }
def k0m0 : Method := { name := "<init>", desc := "()V", sig := { parameters := [], returnType := none }, accessFlags := 1, code := some k0c0 }
/-- java/lang/Object -/
def k0 : Class := { plain "java/lang/Object" none with
  accessFlags := 33
  interfaces := #[]
  cf := some (fileOf pool0 8 #[] #[{ accessFlags := 1, nameIndex := 5, descriptorIndex := 6, attributes := #[] }] 33 0 #[] #[])
  fields := #[]
  methods := #[k0m0]
  instanceTypes := #[]
  staticTypes := #[]
  resolved := Array.replicate 124 none
  statics := none }

def pool1 : Array CpInfo := pool [(2, .class_ 4), (0, .nameAndType 5 6), (0, u "java/lang/Object"), (0, u "<init>"), (0, u "()V"), (0, .integer 2147483647), (0, .class_ 9), (0, u "com/example/ordered_scheduler/orderedscheduler/sequencing/Backlog"), (0, .methodref 8 3), (0, .class_ 12), (0, u "com/example/ordered_scheduler/orderedscheduler/sequencing/Place"), (0, .methodref 11 14), (0, .nameAndType 5 15), (0, u "(Lcom/example/ordered_scheduler/orderedscheduler/sequencing/Sequencer;Ljava/lang/Object;Ljava/lang/Runnable;Lcom/example/ordered_scheduler/orderedscheduler/sequencing/Tally;)V"), (0, .methodref 8 17), (0, .nameAndType 18 19), (0, u "add"), (0, u "(Lcom/example/ordered_scheduler/orderedscheduler/sequencing/Place;)V"), (0, .methodref 21 22), (0, .class_ 23), (0, .nameAndType 24 25), (0, u "com/example/ordered_scheduler/orderedscheduler/sequencing/BacklogPollPinLaw"), (0, u "state"), (0, u "(Lcom/example/ordered_scheduler/orderedscheduler/sequencing/Backlog;Lcom/example/ordered_scheduler/orderedscheduler/sequencing/Place;Lcom/example/ordered_scheduler/orderedscheduler/sequencing/Place;)Z"), (0, .methodref 21 27), (0, .nameAndType 28 29), (0, u "step"), (0, u "(Lcom/example/ordered_scheduler/orderedscheduler/sequencing/Backlog;[Lcom/example/ordered_scheduler/orderedscheduler/sequencing/Place;II)Z"), (0, .methodref 31 32), (0, .class_ 33), (0, .nameAndType 34 35), (0, u "java/lang/Math"), (0, u "min"), (0, u "(II)I"), (0, .methodref 8 37), (0, .nameAndType 38 39), (0, u "poll"), (0, u "()Lcom/example/ordered_scheduler/orderedscheduler/sequencing/Place;"), (0, .fieldref 11 41), (0, .nameAndType 42 43), (0, u "in"), (0, u "Lcom/example/ordered_scheduler/orderedscheduler/sequencing/Backlog;"), (0, .fieldref 11 45), (0, .nameAndType 46 47), (0, u "before"), (0, u "Lcom/example/ordered_scheduler/orderedscheduler/sequencing/Place;"), (0, .fieldref 11 49), (0, .nameAndType 50 47), (0, u "after"), (0, .methodref 8 52), (0, .nameAndType 53 39), (0, u "first"), (0, .methodref 8 55), (0, .nameAndType 56 39), (0, u "last"), (0, .methodref 8 58), (0, .nameAndType 59 60), (0, u "isEmpty"), (0, u "()Z"), (2, u "law"), (0, u "(II)Z")] 5

def k1m0 : Method := { name := "<init>", desc := "()V", sig := { parameters := [], returnType := none }, accessFlags := 1, code := none }
def k1c1 : Code := { maxStack := 6, maxLocals := 17, code := code, exceptionTable := #[], attributes := #[] }
def k1m1 : Method := { name := "law", desc := "(II)Z", sig := { parameters := [.int, .int], returnType := some .boolean }, accessFlags := 9, code := some k1c1 }
def k1c2 : Code := { maxStack := 3, maxLocals := 8, code := method_3_code, exceptionTable := #[], attributes := #[] }
def k1m2 : Method := { name := "step", desc := "(Lcom/example/ordered_scheduler/orderedscheduler/sequencing/Backlog;[Lcom/example/ordered_scheduler/orderedscheduler/sequencing/Place;II)Z", sig := { parameters := [(.object "com/example/ordered_scheduler/orderedscheduler/sequencing/Backlog"), (.array (.object "com/example/ordered_scheduler/orderedscheduler/sequencing/Place")), .int, .int], returnType := some .boolean }, accessFlags := 10, code := some k1c2 }
def k1c3 : Code := { maxStack := 2, maxLocals := 4, code := method_4_code, exceptionTable := #[], attributes := #[] }
def k1m3 : Method := { name := "state", desc := "(Lcom/example/ordered_scheduler/orderedscheduler/sequencing/Backlog;Lcom/example/ordered_scheduler/orderedscheduler/sequencing/Place;Lcom/example/ordered_scheduler/orderedscheduler/sequencing/Place;)Z", sig := { parameters := [(.object "com/example/ordered_scheduler/orderedscheduler/sequencing/Backlog"), (.object "com/example/ordered_scheduler/orderedscheduler/sequencing/Place"), (.object "com/example/ordered_scheduler/orderedscheduler/sequencing/Place")], returnType := some .boolean }, accessFlags := 10, code := some k1c3 }
/-- com/example/ordered_scheduler/orderedscheduler/sequencing/BacklogPollPinLaw -/
def k1 : Class := { plain "com/example/ordered_scheduler/orderedscheduler/sequencing/BacklogPollPinLaw" (some 0) with
  accessFlags := 49
  interfaces := #[]
  cf := some (fileOf pool1 21 #[] #[{ accessFlags := 1, nameIndex := 5, descriptorIndex := 6, attributes := #[] }, { accessFlags := 9, nameIndex := 63, descriptorIndex := 64, attributes := #[] }, { accessFlags := 10, nameIndex := 28, descriptorIndex := 29, attributes := #[] }, { accessFlags := 10, nameIndex := 24, descriptorIndex := 25, attributes := #[] }] 49 2 #[] #[])
  fields := #[]
  methods := #[k1m0, k1m1, k1m2, k1m3]
  instanceTypes := #[]
  staticTypes := #[]
  resolved := Array.replicate 70 none
  statics := none }

def pool2 : Array CpInfo := pool [(1, .methodref 2 3), (0, .class_ 4), (0, .nameAndType 5 6), (0, u "java/lang/Object"), (0, u "<init>"), (0, u "()V"), (0, .fieldref 8 9), (0, .class_ 10), (0, .nameAndType 11 12), (0, u "com/example/ordered_scheduler/orderedscheduler/sequencing/Backlog"), (0, u "first"), (0, u "Lcom/example/ordered_scheduler/orderedscheduler/sequencing/Place;"), (0, .fieldref 8 14), (0, .nameAndType 15 12), (0, u "last"), (0, .fieldref 17 18), (0, .class_ 19), (0, .nameAndType 20 21), (0, u "com/example/ordered_scheduler/orderedscheduler/sequencing/Place"), (0, u "in"), (0, u "Lcom/example/ordered_scheduler/orderedscheduler/sequencing/Backlog;"), (0, .fieldref 17 23), (0, .nameAndType 24 12), (0, u "before"), (0, .fieldref 17 26), (0, .nameAndType 27 12), (0, u "after"), (0, .methodref 8 29), (0, .nameAndType 30 31), (0, u "unlink"), (0, u "(Lcom/example/ordered_scheduler/orderedscheduler/sequencing/Place;)V"), (11, u "add"), (3, u "isEmpty"), (0, u "()Z"), (1, u "()Lcom/example/ordered_scheduler/orderedscheduler/sequencing/Place;"), (0, u "poll")] 8

def k2c0 : Code := { maxStack := 1, maxLocals := 1, code := prog_10_method_1_code, exceptionTable := #[], attributes := #[] }
def k2m0 : Method := { name := "<init>", desc := "()V", sig := { parameters := [], returnType := none }, accessFlags := 0, code := some k2c0 }
def k2c1 : Code := { maxStack := 1, maxLocals := 1, code := prog_10_method_2_code, exceptionTable := #[], attributes := #[] }
def k2m1 : Method := { name := "isEmpty", desc := "()Z", sig := { parameters := [], returnType := some .boolean }, accessFlags := 0, code := some k2c1 }
def k2c2 : Code := { maxStack := 1, maxLocals := 1, code := prog_10_method_3_code, exceptionTable := #[], attributes := #[] }
def k2m2 : Method := { name := "first", desc := "()Lcom/example/ordered_scheduler/orderedscheduler/sequencing/Place;", sig := { parameters := [], returnType := some (.object "com/example/ordered_scheduler/orderedscheduler/sequencing/Place") }, accessFlags := 0, code := some k2c2 }
def k2c3 : Code := { maxStack := 1, maxLocals := 1, code := prog_10_method_4_code, exceptionTable := #[], attributes := #[] }
def k2m3 : Method := { name := "last", desc := "()Lcom/example/ordered_scheduler/orderedscheduler/sequencing/Place;", sig := { parameters := [], returnType := some (.object "com/example/ordered_scheduler/orderedscheduler/sequencing/Place") }, accessFlags := 0, code := some k2c3 }
def k2c4 : Code := { maxStack := 2, maxLocals := 2, code := prog_10_method_5_code, exceptionTable := #[], attributes := #[] }
def k2m4 : Method := { name := "add", desc := "(Lcom/example/ordered_scheduler/orderedscheduler/sequencing/Place;)V", sig := { parameters := [(.object "com/example/ordered_scheduler/orderedscheduler/sequencing/Place")], returnType := none }, accessFlags := 0, code := some k2c4 }
def k2c5 : Code := { maxStack := 2, maxLocals := 2, code := prog_10_method_6_code, exceptionTable := #[], attributes := #[] }
def k2m5 : Method := { name := "poll", desc := "()Lcom/example/ordered_scheduler/orderedscheduler/sequencing/Place;", sig := { parameters := [], returnType := some (.object "com/example/ordered_scheduler/orderedscheduler/sequencing/Place") }, accessFlags := 0, code := some k2c5 }
def k2c6 : Code := { maxStack := 2, maxLocals := 2, code := prog_10_method_9_code, exceptionTable := #[], attributes := #[] }
def k2m6 : Method := { name := "unlink", desc := "(Lcom/example/ordered_scheduler/orderedscheduler/sequencing/Place;)V", sig := { parameters := [(.object "com/example/ordered_scheduler/orderedscheduler/sequencing/Place")], returnType := none }, accessFlags := 2, code := some k2c6 }
/-- com/example/ordered_scheduler/orderedscheduler/sequencing/Backlog -/
def k2 : Class := { plain "com/example/ordered_scheduler/orderedscheduler/sequencing/Backlog" (some 0) with
  accessFlags := 48
  interfaces := #[]
  cf := some (fileOf pool2 8 #[] #[{ accessFlags := 0, nameIndex := 5, descriptorIndex := 6, attributes := #[] }, { accessFlags := 0, nameIndex := 47, descriptorIndex := 48, attributes := #[] }, { accessFlags := 0, nameIndex := 11, descriptorIndex := 50, attributes := #[] }, { accessFlags := 0, nameIndex := 15, descriptorIndex := 50, attributes := #[] }, { accessFlags := 0, nameIndex := 43, descriptorIndex := 31, attributes := #[] }, { accessFlags := 0, nameIndex := 51, descriptorIndex := 50, attributes := #[] }, { accessFlags := 2, nameIndex := 30, descriptorIndex := 31, attributes := #[] }] 48 2 #[] #[{ accessFlags := 2, nameIndex := 11, descriptorIndex := 12, attributes := #[] }, { accessFlags := 2, nameIndex := 15, descriptorIndex := 12, attributes := #[] }])
  fields := #[{ name := "first", type := (.object "com/example/ordered_scheduler/orderedscheduler/sequencing/Place"), accessFlags := 2, slot := 0, constantValue := 0 }, { name := "last", type := (.object "com/example/ordered_scheduler/orderedscheduler/sequencing/Place"), accessFlags := 2, slot := 1, constantValue := 0 }]
  methods := #[k2m0, k2m1, k2m2, k2m3, k2m4, k2m5, k2m6]
  instanceTypes := #[(.object "com/example/ordered_scheduler/orderedscheduler/sequencing/Place"), (.object "com/example/ordered_scheduler/orderedscheduler/sequencing/Place")]
  staticTypes := #[]
  resolved := Array.replicate 60 none
  statics := none }

def pool3 : Array CpInfo := pool [(1, .methodref 2 3), (0, .class_ 4), (0, .nameAndType 5 6), (0, u "java/lang/Object"), (0, u "<init>"), (0, u "()V"), (0, .fieldref 8 9), (0, .class_ 10), (0, .nameAndType 11 12), (0, u "com/example/ordered_scheduler/orderedscheduler/sequencing/Place"), (0, u "sequencer"), (0, u "Lcom/example/ordered_scheduler/orderedscheduler/sequencing/Sequencer;"), (0, .fieldref 8 14), (0, .nameAndType 15 16), (0, u "key"), (0, u "Ljava/lang/Object;"), (0, .fieldref 8 18), (0, .nameAndType 19 20), (0, u "task"), (0, u "Ljava/lang/Runnable;"), (0, .fieldref 8 22), (0, .nameAndType 23 24), (0, u "tally"), (0, u "Lcom/example/ordered_scheduler/orderedscheduler/sequencing/Tally;"), (8, u "state"), (0, u "I"), (2, u "STATE"), (0, u "Ljava/lang/invoke/VarHandle;"), (40, u "QUEUED"), (2, u "STARTED"), (1, u "TAKEN_OUT"), (1, u "alarm"), (0, u "Lcom/example/ordered_scheduler/orderedscheduler/timing/Alarm;"), (0, u "queue"), (0, u "Lcom/example/ordered_scheduler/orderedscheduler/sequencing/Sequencer$KeyQueue;"), (0, u "in"), (0, u "Lcom/example/ordered_scheduler/orderedscheduler/sequencing/Backlog;"), (0, u "before"), (0, u "Lcom/example/ordered_scheduler/orderedscheduler/sequencing/Place;"), (0, u "after"), (0, u "(Lcom/example/ordered_scheduler/orderedscheduler/sequencing/Sequencer;Ljava/lang/Object;Ljava/lang/Runnable;Lcom/example/ordered_scheduler/orderedscheduler/sequencing/Tally;)V")] 17

def k3c0 : Code := { maxStack := 2, maxLocals := 5, code := prog_13_method_1_code, exceptionTable := #[], attributes := #[] }
def k3m0 : Method := { name := "<init>", desc := "(Lcom/example/ordered_scheduler/orderedscheduler/sequencing/Sequencer;Ljava/lang/Object;Ljava/lang/Runnable;Lcom/example/ordered_scheduler/orderedscheduler/sequencing/Tally;)V", sig := { parameters := [(.object "com/example/ordered_scheduler/orderedscheduler/sequencing/Sequencer"), (.object "java/lang/Object"), (.object "java/lang/Runnable"), (.object "com/example/ordered_scheduler/orderedscheduler/sequencing/Tally")], returnType := none }, accessFlags := 0, code := some k3c0 }
/-- com/example/ordered_scheduler/orderedscheduler/sequencing/Place -/
def k3 : Class := { plain "com/example/ordered_scheduler/orderedscheduler/sequencing/Place" (some 0) with
  accessFlags := 49
  interfaces := #[]
  cf := some (fileOf pool3 8 #[] #[{ accessFlags := 0, nameIndex := 5, descriptorIndex := 95, attributes := #[] }] 49 2 #[] #[{ accessFlags := 24, nameIndex := 79, descriptorIndex := 34, attributes := #[] }, { accessFlags := 24, nameIndex := 82, descriptorIndex := 34, attributes := #[] }, { accessFlags := 24, nameIndex := 84, descriptorIndex := 34, attributes := #[] }, { accessFlags := 26, nameIndex := 37, descriptorIndex := 38, attributes := #[] }, { accessFlags := 18, nameIndex := 11, descriptorIndex := 12, attributes := #[] }, { accessFlags := 16, nameIndex := 15, descriptorIndex := 16, attributes := #[] }, { accessFlags := 0, nameIndex := 19, descriptorIndex := 20, attributes := #[] }, { accessFlags := 16, nameIndex := 23, descriptorIndex := 24, attributes := #[] }, { accessFlags := 0, nameIndex := 86, descriptorIndex := 87, attributes := #[] }, { accessFlags := 0, nameIndex := 88, descriptorIndex := 89, attributes := #[] }, { accessFlags := 0, nameIndex := 90, descriptorIndex := 91, attributes := #[] }, { accessFlags := 0, nameIndex := 92, descriptorIndex := 93, attributes := #[] }, { accessFlags := 0, nameIndex := 94, descriptorIndex := 93, attributes := #[] }, { accessFlags := 66, nameIndex := 33, descriptorIndex := 34, attributes := #[] }])
  fields := #[{ name := "QUEUED", type := .int, accessFlags := 24, slot := 0, constantValue := 0 }, { name := "STARTED", type := .int, accessFlags := 24, slot := 1, constantValue := 0 }, { name := "TAKEN_OUT", type := .int, accessFlags := 24, slot := 2, constantValue := 0 }, { name := "STATE", type := (.object "java/lang/invoke/VarHandle"), accessFlags := 26, slot := 3, constantValue := 0 }, { name := "sequencer", type := (.object "com/example/ordered_scheduler/orderedscheduler/sequencing/Sequencer"), accessFlags := 18, slot := 0, constantValue := 0 }, { name := "key", type := (.object "java/lang/Object"), accessFlags := 16, slot := 1, constantValue := 0 }, { name := "task", type := (.object "java/lang/Runnable"), accessFlags := 0, slot := 2, constantValue := 0 }, { name := "tally", type := (.object "com/example/ordered_scheduler/orderedscheduler/sequencing/Tally"), accessFlags := 16, slot := 3, constantValue := 0 }, { name := "alarm", type := (.object "com/example/ordered_scheduler/orderedscheduler/timing/Alarm"), accessFlags := 0, slot := 4, constantValue := 0 }, { name := "queue", type := (.object "com/example/ordered_scheduler/orderedscheduler/sequencing/Sequencer$KeyQueue"), accessFlags := 0, slot := 5, constantValue := 0 }, { name := "in", type := (.object "com/example/ordered_scheduler/orderedscheduler/sequencing/Backlog"), accessFlags := 0, slot := 6, constantValue := 0 }, { name := "before", type := (.object "com/example/ordered_scheduler/orderedscheduler/sequencing/Place"), accessFlags := 0, slot := 7, constantValue := 0 }, { name := "after", type := (.object "com/example/ordered_scheduler/orderedscheduler/sequencing/Place"), accessFlags := 0, slot := 8, constantValue := 0 }, { name := "state", type := .int, accessFlags := 66, slot := 9, constantValue := 0 }]
  methods := #[k3m0]
  instanceTypes := #[(.object "com/example/ordered_scheduler/orderedscheduler/sequencing/Sequencer"), (.object "java/lang/Object"), (.object "java/lang/Runnable"), (.object "com/example/ordered_scheduler/orderedscheduler/sequencing/Tally"), (.object "com/example/ordered_scheduler/orderedscheduler/timing/Alarm"), (.object "com/example/ordered_scheduler/orderedscheduler/sequencing/Sequencer$KeyQueue"), (.object "com/example/ordered_scheduler/orderedscheduler/sequencing/Backlog"), (.object "com/example/ordered_scheduler/orderedscheduler/sequencing/Place"), (.object "com/example/ordered_scheduler/orderedscheduler/sequencing/Place"), .int]
  staticTypes := #[.int, .int, .int, (.object "java/lang/invoke/VarHandle")]
  resolved := Array.replicate 113 none
  statics := none }

def pool4 : Array CpInfo := pool [(1, .class_ 2), (0, u "java/lang/Math"), (1, .class_ 6), (1, u "java/lang/Object"), (0, u "<init>"), (0, u "()V"), (89, .class_ 100), (1, u "java/lang/Math$RandomNumberGeneratorHolder"), (71, u "negativeZeroFloatBits"), (0, u "J"), (2, u "negativeZeroDoubleBits"), (24, u "min"), (43, u "$assertionsDisabled"), (0, u "Z"), (88, u "(II)I"), (2, u "twoToTheDoubleScaleDown"), (0, u "D"), (4, u "twoToTheDoubleScaleUp"), (9, u "E"), (3, u "PI"), (2, u "TAU"), (2, u "DEGREES_TO_RADIANS"), (0, u "RADIANS_TO_DEGREES")] 94

def k4m0 : Method := { name := "<init>", desc := "()V", sig := { parameters := [], returnType := none }, accessFlags := 2, code := none }
def k4c1 : Code := { maxStack := 2, maxLocals := 2, code := jdk_29_method_69_code, exceptionTable := #[], attributes := #[] }
def k4m1 : Method := { name := "min", desc := "(II)I", sig := { parameters := [.int, .int], returnType := some .int }, accessFlags := 9, code := some k4c1 }
/-- java/lang/Math -/
def k4 : Class := { plain "java/lang/Math" (some 0) with
  accessFlags := 49
  interfaces := #[]
  cf := some (fileOf pool4 1 #[.nestMembers #[98]] #[{ accessFlags := 2, nameIndex := 7, descriptorIndex := 8, attributes := #[] }, { accessFlags := 9, nameIndex := 201, descriptorIndex := 335, attributes := #[] }] 49 4 #[] #[{ accessFlags := 25, nameIndex := 354, descriptorIndex := 339, attributes := #[] }, { accessFlags := 25, nameIndex := 358, descriptorIndex := 339, attributes := #[] }, { accessFlags := 25, nameIndex := 361, descriptorIndex := 339, attributes := #[] }, { accessFlags := 26, nameIndex := 364, descriptorIndex := 339, attributes := #[] }, { accessFlags := 26, nameIndex := 365, descriptorIndex := 339, attributes := #[] }, { accessFlags := 26, nameIndex := 172, descriptorIndex := 173, attributes := #[] }, { accessFlags := 26, nameIndex := 176, descriptorIndex := 173, attributes := #[] }, { accessFlags := 8, nameIndex := 344, descriptorIndex := 339, attributes := #[] }, { accessFlags := 8, nameIndex := 338, descriptorIndex := 339, attributes := #[] }, { accessFlags := 4120, nameIndex := 245, descriptorIndex := 246, attributes := #[] }])
  fields := #[{ name := "E", type := .double, accessFlags := 25, slot := 0, constantValue := 0 }, { name := "PI", type := .double, accessFlags := 25, slot := 1, constantValue := 0 }, { name := "TAU", type := .double, accessFlags := 25, slot := 2, constantValue := 0 }, { name := "DEGREES_TO_RADIANS", type := .double, accessFlags := 26, slot := 3, constantValue := 0 }, { name := "RADIANS_TO_DEGREES", type := .double, accessFlags := 26, slot := 4, constantValue := 0 }, { name := "negativeZeroFloatBits", type := .long, accessFlags := 26, slot := 5, constantValue := 0 }, { name := "negativeZeroDoubleBits", type := .long, accessFlags := 26, slot := 6, constantValue := 0 }, { name := "twoToTheDoubleScaleUp", type := .double, accessFlags := 8, slot := 7, constantValue := 0 }, { name := "twoToTheDoubleScaleDown", type := .double, accessFlags := 8, slot := 8, constantValue := 0 }, { name := "$assertionsDisabled", type := .boolean, accessFlags := 4120, slot := 9, constantValue := 0 }]
  methods := #[k4m0, k4m1]
  instanceTypes := #[]
  staticTypes := #[.double, .double, .double, .double, .double, .long, .long, .double, .double, .boolean]
  resolved := Array.replicate 460 none
  statics := none }

def pool5 : Array CpInfo := pool [(1, u "java/lang/Cloneable"), (0, .class_ 1), (0, u "java/lang/Object"), (0, .class_ 3)] 3

/-- java/lang/Cloneable -/
def k5 : Class := { plain "java/lang/Cloneable" (some 0) with
  accessFlags := 1537
  interfaces := #[]
  cf := some (fileOf pool5 2 #[] #[] 1537 4 #[] #[])
  fields := #[]
  methods := #[]
  instanceTypes := #[]
  staticTypes := #[]
  resolved := Array.replicate 8 none
  statics := none }

def pool6 : Array CpInfo := pool [(1, u "java/io/Serializable"), (0, .class_ 1), (0, u "java/lang/Object"), (0, .class_ 3)] 3

/-- java/io/Serializable -/
def k6 : Class := { plain "java/io/Serializable" (some 0) with
  accessFlags := 1537
  interfaces := #[]
  cf := some (fileOf pool6 2 #[] #[] 1537 4 #[] #[])
  fields := #[]
  methods := #[]
  instanceTypes := #[]
  staticTypes := #[]
  resolved := Array.replicate 8 none
  statics := none }

/-- the primitive byte -/
def k7 : Class := { plain "byte" none with kind := .primitive 'B', accessFlags := 0x411 }
/-- [B -/
def k8 : Class := { plain "[B" (some 0) with kind := .array 7 .byte, interfaces := #[5, 6], accessFlags := 1041 }

/-- the primitive int -/
def k9 : Class := { plain "int" none with kind := .primitive 'I', accessFlags := 0x411 }
/-- [I -/
def k10 : Class := { plain "[I" (some 0) with kind := .array 9 .int, interfaces := #[5, 6], accessFlags := 1041 }

/-- [Lcom/example/ordered_scheduler/orderedscheduler/sequencing/Place; -/
def k11 : Class := { plain "[Lcom/example/ordered_scheduler/orderedscheduler/sequencing/Place;" (some 0) with kind := .array 3 (.object "com/example/ordered_scheduler/orderedscheduler/sequencing/Place"), interfaces := #[5, 6], accessFlags := 1041 }

def heap : Heap := #[]
def classes : Array Class := #[k0, k1, k2, k3, k4, k5, k6, k7, k8, k9, k10, k11]
def interned : List (Array UInt16 × Addr) := []
def slotsUsed : Nat := 0
def theMethod : MethodId := ⟨1, 1⟩
def args0 : Array Value := #[.int 5, .int 6]
def aboutOver (below : List Frame) : State where
  vm := { classes := classes, interned := interned.toArray }
  heap := heap
  slotsUsed := slotsUsed
  threads := #[{ frames := .invoking theMethod args0 :: below }]
def below0 : List Frame := [.native { method := ⟨0, 0⟩, args := #[] }]
def about1 : State := aboutOver below0
def p0 : Program := .bare "" "" ""
def e0 : Env := launch0.env 0 0 0
theorem w_frames : about1.frames = Frame.invoking theMethod args0 :: below0 := rfl
set_option maxRecDepth 65536 in
theorem w_args : argsFit about1.vm theMethod args0 = true := by decide +kernel
set_option maxRecDepth 65536 in
theorem w_heap : heapFits about1 = true := by decide +kernel
set_option maxRecDepth 65536 in
theorem w_runnable : about1.curStatus? = some .runnable := by decide +kernel
set_option maxRecDepth 65536 in
theorem w_alone : about1.alone = true := by decide +kernel
set_option maxRecDepth 65536 in
theorem w_named : about1.methodNamed? x = some theMethod := by decide +kernel
set_option maxRecDepth 65536 in
theorem w_hears : about1.hears theMethod below0 = true := by decide +kernel
set_option maxRecDepth 65536 in
theorem w_ripe : about1.ripe theMethod args0 below0 = true := by decide +kernel
theorem w_running : about1.status = .running := rfl
set_option maxRecDepth 65536 in
theorem w_room : about1.hasRoom e0.platform room_1 = true :=
  launch0.hasRoom_least _ room_1 (by decide +kernel) (by decide +kernel) (by decide +kernel) (by decide +kernel) (by decide +kernel) (by decide +kernel)
theorem allAtoms_all (ts : List Jvm.Cond) (a : Array Jvm.Value) (st : Jvm.State) : (allAtoms ts).before a st = ts.all (fun c => c.before a st) := by
  induction ts with
  | nil => rfl
  | cons c t ih =>
    show (Jvm.Cond.and c (allAtoms t)).before a st = _
    rw [Jvm.Cond.before_and, ih, List.all_cons]
def words1 : List Jvm.Cond := Jvm.Cond.code x code maxLocals ret :: tables_1
/-- a 'code' word, met by the world's own term for the bytes: nothing is compared byte by byte -/
theorem code_word {y : MethodName} {bytes : ByteArray} {mx : Nat} {rt : Option FieldType} {a : Array Value} {s : State} {m : MethodId} {meth : Method} {c : Code} (h1 : s.methodNamed? y = some m) (h2 : s.vm.method? m = some meth) (h3 : meth.code = some c) (h4 : c.code = bytes)
    (h5 : (c.maxLocals == mx && c.exceptionTable.isEmpty && decide (c.maxStack ≤ mostOperands) && decide (meth.sig.returnType = rt) && !meth.locks && decide (parseMethodDescriptor y.desc = some meth.sig)) = true) : (Jvm.Cond.code y bytes mx rt).before a s = true := by
  simp only [Bool.and_eq_true, beq_iff_eq, Bool.not_eq_true', decide_eq_true_eq] at h5
  obtain ⟨⟨⟨⟨⟨g1, g2⟩, g3⟩, g4⟩, g5⟩, g6⟩ := h5
  simp [Cond.before, Cond.holds, Cond.value, h1, h2, h3, h4, g1, g2, g3, g4, g5, g6]
def isCode : Jvm.Cond → Bool
  | .code _ _ _ _ => true
  | _ => false
theorem all_split {L : List Jvm.Cond} {P : Jvm.Cond → Bool} (h1 : L.all (fun c => isCode c || P c) = true) (h2 : ∀ c ∈ L.filter isCode, P c = true) : L.all P = true := by
  refine List.all_eq_true.mpr fun c hc => ?_
  have h := List.all_eq_true.mp h1 c hc
  rcases Bool.eq_false_or_eq_true (isCode c) with hi | hi
  · exact h2 c (List.mem_filter.mpr ⟨hc, hi⟩)
  · simpa [hi] using h
set_option maxRecDepth 65536 in
theorem w_c0 : (Jvm.Cond.code x code maxLocals ret).before args0 about1 = true := code_word (m := ⟨1, 1⟩) (meth := k1m1) (c := k1c1) (by decide +kernel) rfl rfl rfl (by decide +kernel)
set_option maxRecDepth 65536 in
theorem w_c1 : (Jvm.Cond.code ({ cls := "com/example/ordered_scheduler/orderedscheduler/sequencing/Backlog", name := "<init>", desc := "()V" } : Jvm.MethodName) prog_10_method_1_code (1 : Nat) (Option.none : Option Jvm.ClassFile.FieldType)).before args0 about1 = true := code_word (m := ⟨2, 0⟩) (meth := k2m0) (c := k2c0) (by decide +kernel) rfl rfl rfl (by decide +kernel)
set_option maxRecDepth 65536 in
theorem w_c2 : (Jvm.Cond.code ({ cls := "java/lang/Object", name := "<init>", desc := "()V" } : Jvm.MethodName) object_method_1_code (1 : Nat) (Option.none : Option Jvm.ClassFile.FieldType)).before args0 about1 = true := code_word (m := ⟨0, 0⟩) (meth := k0m0) (c := k0c0) (by decide +kernel) rfl rfl rfl (by decide +kernel)
set_option maxRecDepth 65536 in
theorem w_c3 : (Jvm.Cond.code ({ cls := "com/example/ordered_scheduler/orderedscheduler/sequencing/Place", name := "<init>", desc := "(Lcom/example/ordered_scheduler/orderedscheduler/sequencing/Sequencer;Ljava/lang/Object;Ljava/lang/Runnable;Lcom/example/ordered_scheduler/orderedscheduler/sequencing/Tally;)V" } : Jvm.MethodName) prog_13_method_1_code (5 : Nat) (Option.none : Option Jvm.ClassFile.FieldType)).before args0 about1 = true := code_word (m := ⟨3, 0⟩) (meth := k3m0) (c := k3c0) (by decide +kernel) rfl rfl rfl (by decide +kernel)
set_option maxRecDepth 65536 in
theorem w_c4 : (Jvm.Cond.code ({ cls := "com/example/ordered_scheduler/orderedscheduler/sequencing/BacklogPollPinLaw", name := "state", desc := "(Lcom/example/ordered_scheduler/orderedscheduler/sequencing/Backlog;Lcom/example/ordered_scheduler/orderedscheduler/sequencing/Place;Lcom/example/ordered_scheduler/orderedscheduler/sequencing/Place;)Z" } : Jvm.MethodName) method_4_code (4 : Nat) (Option.some Jvm.ClassFile.FieldType.boolean)).before args0 about1 = true := code_word (m := ⟨1, 3⟩) (meth := k1m3) (c := k1c3) (by decide +kernel) rfl rfl rfl (by decide +kernel)
set_option maxRecDepth 65536 in
theorem w_c5 : (Jvm.Cond.code ({ cls := "com/example/ordered_scheduler/orderedscheduler/sequencing/Backlog", name := "first", desc := "()Lcom/example/ordered_scheduler/orderedscheduler/sequencing/Place;" } : Jvm.MethodName) prog_10_method_3_code (1 : Nat) (Option.some (Jvm.ClassFile.FieldType.object "com/example/ordered_scheduler/orderedscheduler/sequencing/Place"))).before args0 about1 = true := code_word (m := ⟨2, 2⟩) (meth := k2m2) (c := k2c2) (by decide +kernel) rfl rfl rfl (by decide +kernel)
set_option maxRecDepth 65536 in
theorem w_c6 : (Jvm.Cond.code ({ cls := "com/example/ordered_scheduler/orderedscheduler/sequencing/Backlog", name := "last", desc := "()Lcom/example/ordered_scheduler/orderedscheduler/sequencing/Place;" } : Jvm.MethodName) prog_10_method_4_code (1 : Nat) (Option.some (Jvm.ClassFile.FieldType.object "com/example/ordered_scheduler/orderedscheduler/sequencing/Place"))).before args0 about1 = true := code_word (m := ⟨2, 3⟩) (meth := k2m3) (c := k2c3) (by decide +kernel) rfl rfl rfl (by decide +kernel)
set_option maxRecDepth 65536 in
theorem w_c7 : (Jvm.Cond.code ({ cls := "com/example/ordered_scheduler/orderedscheduler/sequencing/Backlog", name := "isEmpty", desc := "()Z" } : Jvm.MethodName) prog_10_method_2_code (1 : Nat) (Option.some Jvm.ClassFile.FieldType.boolean)).before args0 about1 = true := code_word (m := ⟨2, 1⟩) (meth := k2m1) (c := k2c1) (by decide +kernel) rfl rfl rfl (by decide +kernel)
set_option maxRecDepth 65536 in
theorem w_c8 : (Jvm.Cond.code ({ cls := "com/example/ordered_scheduler/orderedscheduler/sequencing/BacklogPollPinLaw", name := "step", desc := "(Lcom/example/ordered_scheduler/orderedscheduler/sequencing/Backlog;[Lcom/example/ordered_scheduler/orderedscheduler/sequencing/Place;II)Z" } : Jvm.MethodName) method_3_code (8 : Nat) (Option.some Jvm.ClassFile.FieldType.boolean)).before args0 about1 = true := code_word (m := ⟨1, 2⟩) (meth := k1m2) (c := k1c2) (by decide +kernel) rfl rfl rfl (by decide +kernel)
set_option maxRecDepth 65536 in
theorem w_c9 : (Jvm.Cond.code ({ cls := "com/example/ordered_scheduler/orderedscheduler/sequencing/Backlog", name := "poll", desc := "()Lcom/example/ordered_scheduler/orderedscheduler/sequencing/Place;" } : Jvm.MethodName) prog_10_method_6_code (2 : Nat) (Option.some (Jvm.ClassFile.FieldType.object "com/example/ordered_scheduler/orderedscheduler/sequencing/Place"))).before args0 about1 = true := code_word (m := ⟨2, 5⟩) (meth := k2m5) (c := k2c5) (by decide +kernel) rfl rfl rfl (by decide +kernel)
set_option maxRecDepth 65536 in
theorem w_c10 : (Jvm.Cond.code ({ cls := "java/lang/Math", name := "min", desc := "(II)I" } : Jvm.MethodName) jdk_29_method_69_code (2 : Nat) (Option.some Jvm.ClassFile.FieldType.int)).before args0 about1 = true := code_word (m := ⟨4, 1⟩) (meth := k4m1) (c := k4c1) (by decide +kernel) rfl rfl rfl (by decide +kernel)
set_option maxRecDepth 65536 in
theorem w_c11 : (Jvm.Cond.code ({ cls := "com/example/ordered_scheduler/orderedscheduler/sequencing/Backlog", name := "add", desc := "(Lcom/example/ordered_scheduler/orderedscheduler/sequencing/Place;)V" } : Jvm.MethodName) prog_10_method_5_code (2 : Nat) (Option.none : Option Jvm.ClassFile.FieldType)).before args0 about1 = true := code_word (m := ⟨2, 4⟩) (meth := k2m4) (c := k2c4) (by decide +kernel) rfl rfl rfl (by decide +kernel)
set_option maxRecDepth 65536 in
theorem w_c12 : (Jvm.Cond.code ({ cls := "com/example/ordered_scheduler/orderedscheduler/sequencing/Backlog", name := "unlink", desc := "(Lcom/example/ordered_scheduler/orderedscheduler/sequencing/Place;)V" } : Jvm.MethodName) prog_10_method_9_code (2 : Nat) (Option.none : Option Jvm.ClassFile.FieldType)).before args0 about1 = true := code_word (m := ⟨2, 6⟩) (meth := k2m6) (c := k2c6) (by decide +kernel) rfl rfl rfl (by decide +kernel)
def codes1 : List Jvm.Cond := [Jvm.Cond.code x code maxLocals ret, Jvm.Cond.code ({ cls := "com/example/ordered_scheduler/orderedscheduler/sequencing/Backlog", name := "<init>", desc := "()V" } : Jvm.MethodName) prog_10_method_1_code (1 : Nat) (Option.none : Option Jvm.ClassFile.FieldType), Jvm.Cond.code ({ cls := "java/lang/Object", name := "<init>", desc := "()V" } : Jvm.MethodName) object_method_1_code (1 : Nat) (Option.none : Option Jvm.ClassFile.FieldType), Jvm.Cond.code ({ cls := "com/example/ordered_scheduler/orderedscheduler/sequencing/Place", name := "<init>", desc := "(Lcom/example/ordered_scheduler/orderedscheduler/sequencing/Sequencer;Ljava/lang/Object;Ljava/lang/Runnable;Lcom/example/ordered_scheduler/orderedscheduler/sequencing/Tally;)V" } : Jvm.MethodName) prog_13_method_1_code (5 : Nat) (Option.none : Option Jvm.ClassFile.FieldType), Jvm.Cond.code ({ cls := "com/example/ordered_scheduler/orderedscheduler/sequencing/BacklogPollPinLaw", name := "state", desc := "(Lcom/example/ordered_scheduler/orderedscheduler/sequencing/Backlog;Lcom/example/ordered_scheduler/orderedscheduler/sequencing/Place;Lcom/example/ordered_scheduler/orderedscheduler/sequencing/Place;)Z" } : Jvm.MethodName) method_4_code (4 : Nat) (Option.some Jvm.ClassFile.FieldType.boolean), Jvm.Cond.code ({ cls := "com/example/ordered_scheduler/orderedscheduler/sequencing/Backlog", name := "first", desc := "()Lcom/example/ordered_scheduler/orderedscheduler/sequencing/Place;" } : Jvm.MethodName) prog_10_method_3_code (1 : Nat) (Option.some (Jvm.ClassFile.FieldType.object "com/example/ordered_scheduler/orderedscheduler/sequencing/Place")), Jvm.Cond.code ({ cls := "com/example/ordered_scheduler/orderedscheduler/sequencing/Backlog", name := "last", desc := "()Lcom/example/ordered_scheduler/orderedscheduler/sequencing/Place;" } : Jvm.MethodName) prog_10_method_4_code (1 : Nat) (Option.some (Jvm.ClassFile.FieldType.object "com/example/ordered_scheduler/orderedscheduler/sequencing/Place")), Jvm.Cond.code ({ cls := "com/example/ordered_scheduler/orderedscheduler/sequencing/Backlog", name := "isEmpty", desc := "()Z" } : Jvm.MethodName) prog_10_method_2_code (1 : Nat) (Option.some Jvm.ClassFile.FieldType.boolean), Jvm.Cond.code ({ cls := "com/example/ordered_scheduler/orderedscheduler/sequencing/BacklogPollPinLaw", name := "step", desc := "(Lcom/example/ordered_scheduler/orderedscheduler/sequencing/Backlog;[Lcom/example/ordered_scheduler/orderedscheduler/sequencing/Place;II)Z" } : Jvm.MethodName) method_3_code (8 : Nat) (Option.some Jvm.ClassFile.FieldType.boolean), Jvm.Cond.code ({ cls := "com/example/ordered_scheduler/orderedscheduler/sequencing/Backlog", name := "poll", desc := "()Lcom/example/ordered_scheduler/orderedscheduler/sequencing/Place;" } : Jvm.MethodName) prog_10_method_6_code (2 : Nat) (Option.some (Jvm.ClassFile.FieldType.object "com/example/ordered_scheduler/orderedscheduler/sequencing/Place")), Jvm.Cond.code ({ cls := "java/lang/Math", name := "min", desc := "(II)I" } : Jvm.MethodName) jdk_29_method_69_code (2 : Nat) (Option.some Jvm.ClassFile.FieldType.int), Jvm.Cond.code ({ cls := "com/example/ordered_scheduler/orderedscheduler/sequencing/Backlog", name := "add", desc := "(Lcom/example/ordered_scheduler/orderedscheduler/sequencing/Place;)V" } : Jvm.MethodName) prog_10_method_5_code (2 : Nat) (Option.none : Option Jvm.ClassFile.FieldType), Jvm.Cond.code ({ cls := "com/example/ordered_scheduler/orderedscheduler/sequencing/Backlog", name := "unlink", desc := "(Lcom/example/ordered_scheduler/orderedscheduler/sequencing/Place;)V" } : Jvm.MethodName) prog_10_method_9_code (2 : Nat) (Option.none : Option Jvm.ClassFile.FieldType)]
set_option maxRecDepth 65536 in
theorem codes_eq : words1.filter isCode = codes1 := rfl
theorem w_codes : ∀ c ∈ words1.filter isCode, c.before args0 about1 = true := by
  rw [codes_eq]
  intro c hc
  simp only [codes1, List.mem_cons, List.not_mem_nil, or_false] at hc
  rcases hc with rfl | rfl | rfl | rfl | rfl | rfl | rfl | rfl | rfl | rfl | rfl | rfl | rfl
  · exact w_c0
  · exact w_c1
  · exact w_c2
  · exact w_c3
  · exact w_c4
  · exact w_c5
  · exact w_c6
  · exact w_c7
  · exact w_c8
  · exact w_c9
  · exact w_c10
  · exact w_c11
  · exact w_c12
set_option maxRecDepth 65536 in
theorem w_t1 : (words1.take 24).all (fun c => isCode c || c.before args0 about1) = true := by decide +kernel
set_option maxRecDepth 65536 in
theorem w_t2 : ((words1.drop 24).take 24).all (fun c => isCode c || c.before args0 about1) = true := by decide +kernel
set_option maxRecDepth 65536 in
theorem w_t3 : (((words1.drop 24).drop 24).take 24).all (fun c => isCode c || c.before args0 about1) = true := by decide +kernel
set_option maxRecDepth 65536 in
theorem w_t4 : (((words1.drop 24).drop 24).drop 24).all (fun c => isCode c || c.before args0 about1) = true := by decide +kernel
theorem w_tables : (allAtoms (Jvm.Cond.code x code maxLocals ret :: tables_1)).before args0 about1 = true := by
  rw [allAtoms_all]
  show words1.all (fun c => c.before args0 about1) = true
  refine all_split ?_ w_codes
  rw [← List.take_append_drop 24 words1, List.all_append, w_t1, ← List.take_append_drop 24 (words1.drop 24), List.all_append, w_t2, ← List.take_append_drop 24 ((words1.drop 24).drop 24), List.all_append, w_t3, w_t4]
  rfl
set_option maxRecDepth 65536 in
theorem w_case : (Jvm.Cond.and given_1 narrow_1).before args0 about1 = true := by decide +kernel
theorem w_applies : (headSpec (Jvm.Cond.code x code maxLocals ret :: tables_1) room_1).applies x e0.platform about1 = true :=
  (Spec.applies_iff w_frames).mpr ⟨w_running, w_runnable, w_alone, w_named, w_hears, w_ripe, w_room, w_tables⟩
theorem atStart : AtStart classFile x code maxLocals ret World_1 tables_1 room_1 Calls_1 rest_1 Pre_1 launch0 p0 e0 about1 theMethod args0 below0 :=
  ⟨lists_1, trivial, launch0.admits_env _ _ _, launch0.least_env, fairChoices_fair.cas, fairChoices_fair.clock, w_frames, w_args, w_heap, w_applies, trivial, trivial, w_case⟩
end start1
theorem witness_1 : WitnessClaimed_1 := ⟨start1.p0, start1.e0, start1.about1, start1.theMethod, start1.args0, start1.below0, start1.atStart⟩
end Jvm.Pilot.@@N@@
